import PyProof.Rows.All
import Wide.All
import OpenK.AllK
import Wide.FinOn
import PySem.Challenge.RW_nb0259_01
set_option Elab.async false
section
open PySem PySem.W PyProof.Rows
set_option Elab.async false
set_option maxRecDepth 100000
set_option maxHeartbeats 8000000
lay_quick PySem.W.openEnds PySem.W.xlAt PySem.W.recOk
namespace Mine
/-- the text without its three rows that set __name__ -/
noncomputable def view : Program := { PySem.Challenge.rw_nb0259_01.row.toRowW.1 with main := { PySem.Challenge.rw_nb0259_01.row.toRowW.1.main with body := [0, 2, 3, 4, 6, 7, 8, 9, 10, 12, 13, 14, 15, 16, 17].filterMap fun i => PySem.Challenge.rw_nb0259_01.row.toRowW.1.main.body[i]? } }
local macro_rules | `(tactic| o_head $H) => `(tactic| (
  refine holds_open (q := Mine.view) (loose := [PySem.Str.ofString "_NodeInfo"]) (Xt := fun s => xlAt Mine.view [] s && recOk (RowW.records PySem.Challenge.rw_nb0259_01.row.toRowW) s) (XP := XL Mine.view []) (Yf := Hook.obs $H) (Ya := Hook.val $H) (YP := Hook.says $H) (N := 3080)
    ?hl (Hook.of $H) (Hook.keeps $H) (fun s e => xl_of s (Bool.and_eq_true_iff.mp e).1) XL.keeps (by rfl) (by rfl) (by rfl) (fun s e => recFacts_of (Bool.and_eq_true_iff.mp e).2) (by rfl) (by first | assumption | decide +kernel) (by decide +kernel) ⟨rfl, rfl, rfl, rfl, rfl, by decide +kernel⟩ ?hw ?hc
  (case hl => intro w; rw [PySem.W.Fast.te15552708684749139287, PySem.W.Fast.te14364793385576792824, PySem.W.Fast.te4187177175401517315]; kernel_rfl)))
local macro_rules | `(tactic| o_law) => `(tactic| refine holds_law (by rw [PySem.W.Fast.te9446332074065402090]; kernel_rfl) fun said => ?_)
open_top hd for PySem.Challenge.rw_nb0259_01
end Mine
end
section
open PySem PySem.W PyProof.Rows
set_option maxRecDepth 100000
set_option maxHeartbeats 8000000
noncomputable abbrev KK (w : World) : Frag := Mine.hd.heap_1 w.params
noncomputable abbrev PP : Program := PySem.Challenge.rw_nb0259_01.row.prog
noncomputable abbrev VW : Program := Mine.view
noncomputable abbrev LS : List Str := looseW Mine.view [Str.ofString "_NodeInfo"]
end
section
open PySem PySem.W PyProof.Rows
namespace Mine
/-- name the two ends of a goal, so that they are written out once -/
theorem wp_hide {α : Type} {M : Model} {A : Around} {run : Sem α} {Q : α → Shared → Prop} {E : Value → Shared → Prop} {s : Shared}
    (h : ∀ (Q' : α → Shared → Prop) (E' : Value → Shared → Prop), (∀ v s', Q v s' → Q' v s') → (∀ v s', E v s' → E' v s') → wpAny M A run Q' E' s) : wpAny M A run Q E s :=
  h Q E (fun _ _ x => x) fun _ _ x => x
end Mine
end
section
open PySem PySem.W PyProof.Rows
set_option maxRecDepth 100000
namespace Mine

/-- everything outside X is kept -/
def Sub (X : List Addr) (h h' : Heap) : Prop := ∀ b o, b ∉ X → h.get? b = some o → h'.get? b = some o
/-- everything is kept -/
abbrev Ext (h h' : Heap) : Prop := ∀ b o, h.get? b = some o → h'.get? b = some o
theorem Sub.refl (X : List Addr) (h : Heap) : Sub X h h := fun _ _ _ e => e
theorem Sub.trans {X : List Addr} {a b c : Heap} (p : Sub X a b) (q : Sub X b c) : Sub X a c := fun x o hx e => q x o hx (p x o hx e)
theorem Sub.of_ext {X : List Addr} {a b : Heap} (p : Ext a b) : Sub X a b := fun x o _ e => p x o e
theorem Sub.mono {X Y : List Addr} {a b : Heap} (p : Sub X a b) (h : ∀ x ∈ X, x ∈ Y) : Sub Y a b := fun x o hx e => p x o (fun hx' => hx (h x hx')) e

/-- how the target of a comprehension is stored -/
structure Tgt (prog : Program) (w : World) (A : Around) (target : Expr) (cenv : Env) (mu : List Addr) (Inv : Heap → Prop) (Has : Value → Heap → Prop) : Prop where
  asg : ∀ v (s : Shared) (Q : Unit → Shared → Prop) (E : Value → Shared → Prop), Inv s.heap → (∀ h' tk, Has v h' → Sub mu s.heap h' → Q () { s with heap := h', toks := tk }) → wpAny (model prog w) A (assign target cenv v) Q E s
  frame : ∀ h h', Inv h → (∀ b ∈ mu, ∀ o, h.get? b = some o → h'.get? b = some o) → Inv h'
  has : ∀ v h, Has v h → Inv h
  ex : ∀ h, Inv h → ∀ b ∈ mu, ∃ o, h.get? b = some o

abbrev testsOf (ifs : List Expr) (cenv : Env) : Sem Bool := forIn ifs true fun c r => if r = true then do let ok ← isTrue c cenv (eval c cenv); pure (ForInStep.yield ok) else pure (ForInStep.yield r)

/-- one turn of a comprehension: its tests, its element; it keeps all -/
def TurnOk (prog : Program) (w : World) (A : Around) (ifs : List Expr) (elt : Expr) (cenv : Env) (s : Shared) (G : Heap → Option Value → Prop) (E' : Value → Shared → Prop) (h : Heap) (tk : Nat) : Prop :=
  wpAny (model prog w) A (testsOf ifs cenv) (fun ok s₃ => if ok = true then
      wpAny (model prog w) A (eval elt cenv) (fun y s₄ => ∃ h' tk', s₄ = { s with heap := h', toks := tk' } ∧ G h' (some y) ∧ Ext h h') E' s₃
    else ∃ h' tk', s₃ = { s with heap := h', toks := tk' } ∧ G h' none ∧ Ext h h') E' { s with heap := h, toks := tk }

theorem own_loop {prog : Program} {w : World} {A : Around} {I : Addr} {fp wr : List Addr} {n : Nat} {P : Nat → Value → Prop} {St : Nat → Heap → Prop} (W : Walks prog w A I fp wr n P St)
    {elt target iter : Expr} {ifs : List Expr} {scope : Scope} {pos : Pos} {D : Addr} {cenv : Env} {R : Result → Shared → Prop} {s : Shared} {mu : List Addr} {Inv : Heap → Prop} {Has : Value → Heap → Prop}
    (T : Tgt prog w A target cenv mu Inv Has) (F : Nat → Heap → Value → Option Value → Prop)
    (hDm : D ∉ mu) (hDf : D ∉ fp) (hmf : ∀ b ∈ mu, b ∉ fp) (hwr : ∀ i h, St i h → ∀ b ∈ wr, ∃ o, h.get? b = some o)
    (hmono : ∀ i h h' v y, F i h v y → Sub (D :: (mu ++ wr)) h h' → F i h' v y)
    (hst : St 0 s.heap) (hacc : s.heap.PlainList D #[]) (hInv : Inv s.heap)
    (hturn : ∀ i v h tk E', i < n → P i v → Has v h → Sub (D :: (mu ++ wr)) s.heap h → (∀ b ∈ D :: (mu ++ wr), ∃ o, h.get? b = some o) → TurnOk prog w A ifs elt cenv s (fun h' y => F i h' v y) E' h tk)
    (hR : ∀ h' tk (vs : List Value) (os : List (Option Value)), vs.length = n → os.length = n → (∀ j v, vs[j]? = some v → P j v) → (∀ j v o, vs[j]? = some v → os[j]? = some o → F j h' v o) →
      h'.PlainList D (os.filterMap id).toArray → Inv h' → Sub (D :: (mu ++ wr)) s.heap h' → R (.ok .next) { s with heap := h', toks := tk })
    (hsz : n ≤ sizeLine) (ht : ∀ v, letOwnedTupleGo target (.ref I) v = pure () := by intro _; rfl) :
    codeAny (model prog w) A (.compLoop (.ListComp elt [⟨target, iter, ifs, 0⟩] scope pos) 0 (.ref I) (.ref D) cenv) R s := by
  refine codeAny_compLoop_tests (ht := ht)
    (fun k s' => ∃ h' tk, ∃ vs : List Value, ∃ os : List (Option Value), s' = { s with heap := h', toks := tk } ∧ St vs.length h' ∧ h'.PlainList D (os.filterMap id).toArray ∧ Inv h' ∧ (∀ j v, vs[j]? = some v → P j v) ∧
      os.length = vs.length ∧ (∀ j v o, vs[j]? = some v → os[j]? = some o → F j h' v o) ∧ vs.length ≤ n ∧ k = n + 1 - vs.length ∧ Sub (D :: (mu ++ wr)) s.heap h') ?_ (n + 1)
    ⟨s.heap, s.toks, [], [], rfl, hst, hacc, hInv, by simp, rfl, by simp, Nat.zero_le _, rfl, Sub.refl _ _⟩
  rintro k s' ⟨H, tk, vs, os, rfl, hst', hacc', hI', hP, hlen, hF, hle, rfl, hk⟩
  have hDw : D ∉ wr := fun h => hDf (W.sub _ h)
  have hmw : ∀ b ∈ mu, b ∉ wr := fun b hb h => hmf b hb (W.sub _ h)
  by_cases hlt : vs.length < n
  · refine W.item vs.length _ _ _ hlt hst' fun v h₁ tk₁ hPv hst₁ hk₁ => ?_
    have hI₁ : Inv h₁ := T.frame _ _ hI' fun b hb o e => hk₁ b o (hmw b hb) e
    refine T.asg v _ _ _ hI₁ fun h₂ tk₂ hHas hs₂ => ?_
    have hst₂ : St (vs.length + 1) h₂ := W.frame _ _ _ hst₁ fun b hb o e => hs₂ b o (fun hm => hmf b hm hb) e
    have up₂ : Sub (D :: (mu ++ wr)) H h₂ := fun b o hb e => hs₂ b o (fun hm => hb (by simp [hm])) (hk₁ b o (fun hm => hb (by simp [hm])) e)
    have hacc₂ : h₂.PlainList D (os.filterMap id).toArray := by
      obtain ⟨ep, e⟩ := hacc'
      exact ⟨ep, hs₂ _ _ hDm (hk₁ _ _ hDw e)⟩
    have hX : ∀ b ∈ D :: (mu ++ wr), ∃ o, h₂.get? b = some o := by
      intro b hb
      rcases List.mem_cons.mp hb with rfl | hb
      · obtain ⟨ep, e⟩ := hacc₂; exact ⟨_, e⟩
      · rcases List.mem_append.mp hb with hb | hb
        · exact T.ex _ (T.has _ _ hHas) b hb
        · exact hwr _ _ hst₂ b hb
    have tn := hturn vs.length v h₂ tk₂ (notedBy (model prog w) A cenv fun e s' => R (.error e) s') hlt hPv hHas (hk.trans up₂) hX
    have hP' : ∀ j u, (vs ++ [v])[j]? = some u → P j u := fun j u hj => by
      rcases Nat.lt_trichotomy j vs.length with h | h | h
      · exact hP j u (by rwa [List.getElem?_append_left h] at hj)
      · subst h; simp at hj; subst hj; exact hPv
      · have hnone : (vs ++ [v])[j]? = none := List.getElem?_eq_none (by rw [List.length_append, List.length_singleton]; omega)
        rw [hnone] at hj; cases hj
    have hF' : ∀ (h' : Heap) (y : Option Value), Sub (D :: (mu ++ wr)) H h' → F vs.length h' v y → ∀ j u o, (vs ++ [v])[j]? = some u → (os ++ [y])[j]? = some o → F j h' u o := by
      intro h' y hs' hy j u o hj ho
      rcases Nat.lt_trichotomy j vs.length with h | h | h
      · rw [List.getElem?_append_left h] at hj
        rw [List.getElem?_append_left (by omega)] at ho
        exact hmono _ _ _ _ _ (hF j u o hj ho) hs'
      · subst h
        have e1 : u = v := by simpa using hj.symm
        have e2 : o = y := by
          rw [← hlen] at ho
          simpa using ho.symm
        subst e1; subst e2; exact hy
      · have hnone : (vs ++ [v])[j]? = none := List.getElem?_eq_none (by rw [List.length_append, List.length_singleton]; omega)
        rw [hnone] at hj; cases hj
    refine wpAny_mono tn (fun ok s₃ h₃ => ?_) fun _ _ e => e
    cases ok with
    | false =>
      simp only [Bool.false_eq_true, if_false] at h₃ ⊢
      obtain ⟨h₄, tk₄, rfl, hG, hext⟩ := h₃
      have up₄ : Sub (D :: (mu ++ wr)) H h₄ := up₂.trans (Sub.of_ext hext)
      refine ⟨n + 1 - (vs.length + 1), by omega, h₄, tk₄, vs ++ [v], os ++ [none], rfl, ?_, ?_, ?_, hP', by simp [hlen], hF' h₄ none up₄ hG, by simp; omega, by simp, hk.trans up₄⟩
      · have := W.frame _ _ h₄ hst₂ fun b _ o e => hext b o e
        simpa using this
      · obtain ⟨ep, e⟩ := hacc₂
        exact ⟨ep, by have := hext _ _ e; simpa using this⟩
      · exact T.frame _ _ (T.has _ _ hHas) fun b _ o e => hext b o e
    | true =>
      simp only [if_true] at h₃ ⊢
      refine wpAny_mono h₃ (fun y s₄ h₄ => ?_) fun _ _ e => e
      obtain ⟨h₄, tk₄, rfl, hG, hext⟩ := h₄
      have up₄ : Sub (D :: (mu ++ wr)) H h₄ := up₂.trans (Sub.of_ext hext)
      have hacc₄ : h₄.PlainList D (os.filterMap id).toArray := by obtain ⟨ep, e⟩ := hacc₂; exact ⟨ep, hext _ _ e⟩
      have hos : (os.filterMap id).toArray.size ≤ sizeLine := by
        have e1 : (os.filterMap id).length ≤ os.length := List.length_filterMap_le _ _
        rw [List.size_toArray]; omega
      refine wpAny_list_append_plain (hsz := hos) hacc₄ fun h₅ hl₅ hs₅ => ?_
      have up₅ : Sub (D :: (mu ++ wr)) h₄ h₅ := fun b o hb e => hs₅.extBut b o (fun hm => hb (by simp [hm])) e
      refine ⟨n + 1 - (vs.length + 1), by omega, h₅, tk₄, vs ++ [v], os ++ [some y], rfl, ?_, ?_, ?_, hP', by simp [hlen], hF' h₅ (some y) (up₄.trans up₅) (hmono _ _ _ _ _ hG up₅), by simp; omega, by simp, (hk.trans up₄).trans up₅⟩
      · have := W.frame _ _ h₅ hst₂ fun b hb o e => hs₅.extBut b o (fun hm => hDf (hm ▸ hb)) (hext b o e)
        simpa using this
      · simpa using hl₅
      · exact T.frame _ _ (T.has _ _ hHas) fun b hb o e => hs₅.extBut b o (fun hm => hDm (hm ▸ hb)) (hext b o e)
  · have hin : vs.length = n := by omega
    refine W.done _ _ _ (hin ▸ hst') fun h₁ tk₁ hk₁ => ?_
    have up₁ : Sub (D :: (mu ++ wr)) H h₁ := fun b o hb e => hk₁ b o (fun hm => hb (by simp [hm])) e
    refine hR h₁ tk₁ vs os hin (by omega) hP (fun j v o hj ho => hmono _ _ _ _ _ (hF j v o hj ho) up₁) ?_ ?_ (hk.trans up₁)
    · obtain ⟨ep, e⟩ := hacc'; exact ⟨ep, hk₁ _ _ hDw e⟩
    · exact T.frame _ _ hI' fun b hb o e => hk₁ b o (hmw b hb) e

/-- a target that is a plain local of the block -/
theorem tgt_local {prog : Program} {w : World} {A : Around} {x : Str} {px : Pos} {cenv : Env} (hx : cenv.kindOf x = some .local) (hk : cenv.scope.kind = .function) :
    Tgt prog w A (.Name x px) cenv [cenv.locals] (fun h => ∃ m, h.Ns cenv.locals m) (fun v h => ∃ m, h.Ns cenv.locals m ∧ m x = some v) where
  asg := fun v s Q E hI hQ => by
    obtain ⟨m, hn⟩ := hI
    refine wpAny_assign_Name (wpAny_storeName_local hx hn (fun h' hn' hs' => ?_) (by rw [hk]; rfl))
    exact hQ h' _ ⟨_, hn', by simp⟩ fun b o hb e => hs'.extBut b o (fun hm => hb (by simp [hm])) e
  frame := fun h h' ⟨m, hn⟩ hf => ⟨m, hn.at' fun o e => hf _ (by simp) o e⟩
  has := fun v h ⟨m, hn, _⟩ => ⟨m, hn⟩
  ex := fun h ⟨m, hn⟩ b hb => by
    obtain ⟨o, _, _, ho, _⟩ := hn
    rw [List.mem_singleton.mp hb]; exact ⟨o, ho⟩
/-- a target that a nested block captures -/
theorem tgt_cell {prog : Program} {w : World} {A : Around} {x : Str} {px : Pos} {cenv : Env} {c : Addr} (hx : cenv.kindOf x = some .cell) (hk : cenv.scope.kind = .function) (hc : cenv.cells.lookup x = some c) (hne : c ≠ cenv.locals) :
    Tgt prog w A (.Name x px) cenv [cenv.locals, c] (fun h => (∃ m, h.Ns cenv.locals m) ∧ ∃ v, h.IsCell c v) (fun v h => (∃ m, h.Ns cenv.locals m) ∧ h.IsCell c (some v)) where
  asg := fun v s Q E hI hQ => by
    obtain ⟨⟨m, hn⟩, u, hcl⟩ := hI
    refine wpAny_assign_Name (wpAny_storeName_cell hk hx hc hcl fun h' hc' hs' => ?_)
    exact hQ h' _ ⟨⟨m, hn.at' fun o e => hs'.extBut _ o (Ne.symm hne) e⟩, hc'⟩ fun b o hb e => hs'.extBut b o (fun hm => hb (by simp [hm])) e
  frame := fun h h' ⟨⟨m, hn⟩, u, hcl⟩ hf => ⟨⟨m, hn.at' fun o e => hf _ (by simp) o e⟩, u, let ⟨o, ho, hd⟩ := hcl; ⟨o, hf _ (by simp) o ho, hd⟩⟩
  has := fun v h ⟨hn, hc⟩ => ⟨hn, _, hc⟩
  ex := fun h ⟨⟨m, hn⟩, u, o', ho', _⟩ b hb => by
    obtain ⟨o, _, _, ho, _⟩ := hn
    rcases List.mem_cons.mp hb with rfl | hb
    · exact ⟨o, ho⟩
    · rw [List.mem_singleton.mp hb]; exact ⟨o', ho'⟩
end Mine
end
section
open PySem PySem.W PyProof.Rows
set_option maxRecDepth 100000
namespace Mine

theorem newEnv_around {M : Model} {A : Around} {E : Value → Shared → Prop} {s : Shared} {scope : Scope} {globals : Addr} {cl : List (Str × Addr)} {qual : Str} {env : Env} {Q : Env → Shared → Prop}
    (h : Q { scope, locals := s.heap.objs.size, globals, cells := cellsFrom (s.heap.objs.size + 1) scope.names cl, qual, func := none, code := env.code, frame := env.frame, builtins := env.builtins }
      { s with heap := pushCells (s.heap.push { cls := .type "dict", data := .dict #[] }) scope.names }) :
    wpAny M A (newFunctionEnv scope globals cl [] qual none .none (some env)) Q E s := by
  simp only [newFunctionEnv, Option.isSome_some, if_true]
  refine wpAny_bind (wpAny_alloc ?_)
  refine wpAny_bind (wpAny_layCells _ (fun name kind cells => by cases hkc : kind == NameKind.cell <;> simp [hkc]) _ _ _ _ ?_)
  refine wpAny_bind ?_
  rw [List.forIn_nil]
  refine wpAny_pure (wpAny_pure ?_)
  have : ({ s with heap := s.heap.push { cls := .type "dict", data := .dict #[] } } : Shared).heap.objs.size = s.heap.objs.size + 1 := Heap.size_push ..
  rw [this]
  exact h

/-- the post of a comprehension's loop, both ways of use -/
abbrev XX (N : Addr) (wr : List Addr) : List Addr := N :: ([N + 1] ++ wr)
abbrev XC (N : Addr) (wr : List Addr) : List Addr := N :: ([N + 1, N + 2] ++ wr)

/-- what a comprehension has made: a list of what its turns gave -/
structure Made (n : Nat) (P : Nat → Value → Prop) (F : Nat → Heap → Value → Option Value → Prop) (D : Addr) (h' : Heap) (vs : List Value) (os : List (Option Value)) : Prop where
  lv : vs.length = n
  lo : os.length = n
  src : ∀ j v, vs[j]? = some v → P j v
  out : ∀ j v o, vs[j]? = some v → os[j]? = some o → F j h' v o
  at_ : h'.PlainList D (os.filterMap id).toArray
theorem Made.sub {n : Nat} {P : Nat → Value → Prop} {F : Nat → Heap → Value → Option Value → Prop} {D : Addr} {h' h'' : Heap} {vs : List Value} {os : List (Option Value)} (x : Made n P F D h' vs os)
    {X : List Addr} (hm : ∀ i h h' v y, F i h v y → Sub X h h' → F i h' v y) (hs : Sub X h' h'') (hD : ∀ o, h'.get? D = some o → h''.get? D = some o) : Made n P F D h'' vs os :=
  ⟨x.lv, x.lo, x.src, fun j v o a b => hm _ _ _ _ _ (x.out j v o a b) hs, let ⟨ep, e⟩ := x.at_; ⟨ep, hD _ e⟩⟩

section
variable {prog : Program} {w : World} {A : Around} {E : Value → Shared → Prop} {env : Env}

theorem block_local {elt iter : Expr} {x : Str} {px : Pos} {ifs : List Expr} {scope : Scope} {cl : List (Str × Addr)} {pos : Pos} {s : Shared} {h₂ : Heap} {t₂ : Nat} {I : Addr} {fp wr : List Addr} {n : Nat} {P : Nat → Value → Prop} {St : Nat → Heap → Prop}
    (W : Walks prog w A I fp wr n P St) (F : Nat → Heap → Value → Option Value → Prop) {RR : Value → Addr → Result → Shared → Prop}
    (hsz : n ≤ sizeLine) (hcell : ∀ y ∈ scope.names, y.2 ≠ .cell) (hkind : scope.kind = .function) (hx : scope.names.lookup x = some .local) (hst : St 0 h₂) (hfp : ∀ b ∈ fp, b < h₂.objs.size)
    (hwr : ∀ i h, St i h → ∀ b ∈ wr, ∃ o, h.get? b = some o) (hws : ∀ b ∈ wr, s.heap.get? b = none) (hext : Ext s.heap h₂) (hle : s.heap.objs.size ≤ h₂.objs.size)
    (hmono : ∀ i h h' v y, F i h v y → Sub (XX h₂.objs.size wr) h h' → F i h' v y)
    (hturn : ∀ i v h tk m E', i < n → P i v → Fr s.heap (h₂.objs.size + 1) h m → m x = some v → (∀ b ∈ XX h₂.objs.size wr, ∃ o, h.get? b = some o) →
      TurnOk prog w A ifs elt (compEnvC scope cl (h₂.objs.size + 1) env) s (fun h' y => F i h' v y) E' h tk)
    (hRR : ∀ h' tk m' vs os, Made n P F h₂.objs.size h' vs os → h'.Ns (h₂.objs.size + 1) m' → Ext s.heap h' → RR (.ref h₂.objs.size) (h₂.objs.size + 1) (.ok .next) { s with heap := h', toks := tk }) :
    wpAny (model prog w) A (newList []) (fun acc s₃ => wpAny (model prog w) A (newFunctionEnv scope env.globals cl [] env.qual none .none (some env)) (fun cenv s₄ =>
      codeAny (model prog w) A (.compStart (.ListComp elt [⟨.Name x px, iter, ifs, 0⟩] scope pos) 0 (.ref I) acc { cenv with scope := relabel scope env }) (RR acc cenv.locals) s₄) E s₃) E { s with heap := h₂, toks := t₂ } := by
  refine wpAny_newObj_type (wpAny_newFunctionEnv hcell (by intro y hy; simp at hy) (fun h₁ hns₁ hsb₁ => ?_) hkind)
  dsimp only at hns₁ hsb₁ ⊢
  generalize hH2 : h₂.push { cls := .type "list", dict := none, data := .seq ([] : List Value).toArray } = H2 at hns₁ hsb₁ ⊢
  have hC : H2.objs.size = h₂.objs.size + 1 := by rw [← hH2, Heap.size_push]
  rw [hC] at hns₁ hsb₁ ⊢
  have old : ∀ b o, h₂.get? b = some o → h₁.get? b = some o := fun b o e => hsb₁.extBut b o (Nat.ne_of_lt (Nat.lt_succ_of_lt (Heap.lt_size e))) (Heap.get?_push_of_some _ (hH2 ▸ Heap.get?_push_of_some _ e))
  have hacc : h₁.PlainList h₂.objs.size #[] := ⟨_, hsb₁.extBut _ _ (Nat.ne_of_lt (Nat.lt_succ_self _)) (Heap.get?_push_of_some _ (hH2 ▸ Heap.get?_push_size _ rfl))⟩
  have hst₁ : St 0 h₁ := W.frame _ _ _ hst fun b _ o e => old b o e
  have nw : ∀ b o, s.heap.get? b = some o → b ∉ XX h₂.objs.size wr := fun b o e hb => by
    have hlt : (b : Nat) < s.heap.objs.size := Heap.lt_size e
    rcases List.mem_cons.mp hb with hb | hb
    · exact absurd (hb ▸ hlt) (Nat.not_lt.mpr hle)
    · rcases List.mem_append.mp hb with hb | hb
      · rw [List.mem_singleton.mp hb] at hlt
        exact absurd hlt (Nat.not_lt.mpr (Nat.le_succ_of_le hle))
      · rw [hws b hb] at e; cases e
  have loop : ∀ s₃ : Shared, s₃ = { s with heap := h₁, toks := t₂ + ([] : List (Str × Value)).length } →
      codeAny (model prog w) A (.compLoop (.ListComp elt [⟨.Name x px, iter, ifs, 0⟩] scope pos) 0 (.ref I) (.ref h₂.objs.size) (compEnvC scope cl (h₂.objs.size + 1) env))
        (RR (.ref h₂.objs.size) (h₂.objs.size + 1)) s₃ := by
    rintro s₃ rfl
    refine own_loop W (tgt_local (cenv := compEnvC scope cl (h₂.objs.size + 1) env) (lookup_relabel_local hx) (by simp [compEnvC, relabel, hkind])) F ?_ ?_ ?_ hwr hmono hst₁ hacc ⟨_, hns₁⟩ ?_ ?_ hsz
    · show h₂.objs.size ∉ [h₂.objs.size + 1]
      simp
    · exact fun hm => Nat.lt_irrefl _ (hfp _ hm)
    · intro b hb hm
      have e2 := hfp _ hm
      rw [List.mem_singleton.mp hb] at e2
      exact absurd e2 (Nat.not_lt.mpr (Nat.le_succ _))
    · rintro i v h tk E' hi hP ⟨m, hn, hm⟩ hsub hX
      refine hturn i v h tk m E' hi hP ⟨hn, fun b o e => ?_, Nat.le_succ_of_le hle⟩ hm hX
      exact hsub b o (nw b o e) (old b o (hext b o e))
    · rintro h' tk vs os hlv hlo hP hF hpl ⟨m', hn⟩ hsub
      exact hRR h' tk m' vs os ⟨hlv, hlo, hP, hF, hpl⟩ hn fun b o e => hsub b o (nw b o e) (old b o (hext b o e))
  exact codeAny_compStart_list (loop _ rfl) (W.self 0 _ _ _ hst₁ (loop _ rfl))

/-- a comprehension whose variable is a plain local; it keeps all that stood -/
theorem LC_local {s : Shared} {elt iter : Expr} {x : Str} {px : Pos} {ifs : List Expr} {scope : Scope} {cl : List (Str × Addr)} {pos : Pos} {Q : Value → Shared → Prop}
    (hclos : closureFor scope env = pure cl) (hcell : ∀ y ∈ scope.names, y.2 ≠ .cell) (hkind : scope.kind = .function)
    (hnames : ∀ y ∈ scope.names, y.2 = .local → scope.names.lookup y.1 = some .local) (hx : scope.names.lookup x = some .local)
    (h : wpAny (model prog w) A (eval iter env) (fun xv s₁ => wpAny (model prog w) A (pyIter xv) (fun it s₂ => ∃ I fp wr n P St h₂ t₂ F, it = .ref I ∧ s₂ = { s with heap := h₂, toks := t₂ } ∧ Walks prog w A I fp wr n P St ∧ n ≤ sizeLine ∧ St 0 h₂ ∧ (∀ b ∈ fp, b < h₂.objs.size) ∧
      (∀ i h, St i h → ∀ b ∈ wr, ∃ o, h.get? b = some o) ∧ (∀ b ∈ wr, s.heap.get? b = none) ∧ Ext s.heap h₂ ∧ s.heap.objs.size ≤ h₂.objs.size ∧
      (∀ i h h' v y, F i h v y → Sub (XX h₂.objs.size wr) h h' → F i h' v y) ∧
      (∀ i v h tk m E', i < n → P i v → Fr s.heap (h₂.objs.size + 1) h m → m x = some v → (∀ b ∈ XX h₂.objs.size wr, ∃ o, h.get? b = some o) →
        TurnOk prog w A ifs elt (compEnvC scope cl (h₂.objs.size + 1) env) s (fun h' y => F i h' v y) E' h tk) ∧
      (∀ h' tk vs os, Made n P F h₂.objs.size h' vs os → Ext s.heap h' → s.heap.get? h₂.objs.size = none → Q (.ref h₂.objs.size) { s with heap := h', toks := tk })) E s₁) E s)
    (hs : ∀ x, foldedSetIterable iter env x = pure x := by intro _; rfl) :
    wpAny (model prog w) A (eval (.ListComp elt [⟨.Name x px, iter, ifs, 0⟩] scope pos) env) Q E s := by
  rw [eval_ListComp]
  refine wpAny_comprehension_free (use := none) rfl hs hclos hkind hnames (wpAny_mono h (fun xv s₁ h₁ => wpAny_mono h₁ (fun it s₂ h₂' => ?_) fun _ _ e => e) fun _ _ e => e)
  obtain ⟨I, fp, wr, n, P, St, h₂, t₂, F, rfl, rfl, W, hsz, hst, hfp, hwr, hws, hext, hle, hmono, hturn, hfin⟩ := h₂'
  refine block_local (RR := fun acc C => compPost (model prog w) A E none Q acc C) W F hsz hcell hkind hx hst hfp hwr hws hext hle hmono hturn ?_
  intro h' tk m' vs os hM hn hx'
  refine ⟨m', hn, fun h'' hs'' => ?_⟩
  have hnone : ∀ k, s.heap.get? (h₂.objs.size + k) = none := fun k => by
    cases e : s.heap.get? (h₂.objs.size + k) with
    | none => rfl
    | some o => exact absurd (Heap.lt_size e) (Nat.not_lt.mpr (Nat.le_trans hle (Nat.le_add_right _ _)))
  refine hfin h'' tk vs os (hM.sub hmono (fun b o hb e => hs''.extBut b o (fun hm => hb (by simp [hm])) e) fun o e => hs''.extBut _ o (Nat.ne_of_lt (Nat.lt_succ_self _)) e) (fun b o e => hs''.extBut b o (fun hm => ?_) (hx' b o e)) (hnone 0)
  have := hnone 1
  rw [← hm, e] at this; cases this

/-- the same as the one value of an assignment to a local (the exchanged stores) -/
theorem LC_local_to {s : Shared} {elt iter : Expr} {x y : Str} {px py : Pos} {ifs : List Expr} {scope : Scope} {cl : List (Str × Addr)} {pos spos : Pos} {Q : Flow → Shared → Prop} {h₀ : Heap} {m₀ : Str → Option Value}
    (hsw : swapsWith (.ListComp elt [⟨.Name x px, iter, ifs, 0⟩] scope pos) (some (.Name y py)) spos.line env = pure true)
    (hclos : closureFor scope env = pure cl) (hcell : ∀ z ∈ scope.names, z.2 ≠ .cell) (hkind : scope.kind = .function)
    (hnames : ∀ z ∈ scope.names, z.2 = .local → scope.names.lookup z.1 = some .local) (hx : scope.names.lookup x = some .local)
    (hy : env.kindOf y = some .local) (hp : (env.scope.kind == .class || (env.scope.kind == .module && env.locals != env.globals)) = false)
    (F₀ : Fr h₀ env.locals s.heap m₀)
    (h : wpAny (model prog w) A (eval iter env) (fun xv s₁ => wpAny (model prog w) A (pyIter xv) (fun it s₂ => ∃ I fp wr n P St h₂ t₂ F, it = .ref I ∧ s₂ = { s with heap := h₂, toks := t₂ } ∧ Walks prog w A I fp wr n P St ∧ n ≤ sizeLine ∧ St 0 h₂ ∧ (∀ b ∈ fp, b < h₂.objs.size) ∧
      (∀ i h, St i h → ∀ b ∈ wr, ∃ o, h.get? b = some o) ∧ (∀ b ∈ wr, s.heap.get? b = none) ∧ Ext s.heap h₂ ∧ s.heap.objs.size ≤ h₂.objs.size ∧
      (∀ i h h' v y, F i h v y → Sub (env.locals :: XX h₂.objs.size wr) h h' → F i h' v y) ∧
      (∀ i v h tk m E', i < n → P i v → Fr s.heap (h₂.objs.size + 1) h m → m x = some v → (∀ b ∈ XX h₂.objs.size wr, ∃ o, h.get? b = some o) →
        TurnOk prog w A ifs elt (compEnvC scope cl (h₂.objs.size + 1) env) s (fun h' y => F i h' v y) E' h tk) ∧
      (∀ h' tk vs os, Made n P F h₂.objs.size h' vs os → Fr h₀ env.locals h' (fun z => if z = y then some (.ref h₂.objs.size) else m₀ z) → Sub [env.locals] s.heap h' → s.heap.get? h₂.objs.size = none → Q .next { s with heap := h', toks := tk })) E s₁) E s)
    (hs : ∀ x, foldedSetIterable iter env x = pure x := by intro _; rfl) :
    wpAny (model prog w) A (exec (.Assign [.Name y py] (.ListComp elt [⟨.Name x px, iter, ifs, 0⟩] scope pos) spos) env) Q E s := by
  rw [exec_Assign_Name_used _ _ _ _ hsw]
  refine wpAny_bind (wpAny_standAt (wpAny_bind ?_))
  show wpAny _ A (do let _ ← comprehension (.ListComp elt [⟨.Name x px, iter, ifs, 0⟩] scope pos) scope env _ (newList []) false (eval iter env) (some (assign (.Name y py) env))) _ _ s
  refine wpAny_bind (wpAny_mono (wpAny_comprehension_free (use := some (assign (.Name y py) env)) (Q := fun _ s' => Q .next s') rfl hs hclos hkind hnames
    (wpAny_mono h (fun xv s₁ h₁ => wpAny_mono h₁ (fun it s₂ h₂' => ?_) fun _ _ e => e) fun _ _ e => e)) (fun _ s' hq => wpAny_pure (wpAny_pure hq)) fun _ _ e => e)
  obtain ⟨I, fp, wr, n, P, St, h₂, t₂, F, rfl, rfl, W, hsz, hst, hfp, hwr, hws, hext, hle, hmono, hturn, hfin⟩ := h₂'
  have hnone : ∀ k, s.heap.get? (h₂.objs.size + k) = none := fun k => by
    cases e : s.heap.get? (h₂.objs.size + k) with
    | none => rfl
    | some o => exact absurd (Heap.lt_size e) (Nat.not_lt.mpr (Nat.le_trans hle (Nat.le_add_right _ _)))
  obtain ⟨oL, _, _, hoL, _⟩ := id F₀.ns
  have hL1 : env.locals ≠ h₂.objs.size + 1 := fun e => by have := hnone 1; rw [← e, hoL] at this; cases this
  have hL0 : env.locals ≠ h₂.objs.size := fun e => by have := hnone 0; rw [Nat.add_zero, ← e, hoL] at this; cases this
  refine block_local (RR := fun acc C => compPost (model prog w) A E (some (assign (.Name y py) env)) (fun _ s' => Q .next s') acc C) W F hsz hcell hkind hx hst hfp hwr hws hext hle (fun i h h' v z a b => hmono i h h' v z a (b.mono fun _ q => .tail _ q)) hturn ?_
  intro h' tk m' vs os hM hn hx'
  show wpAny _ A (assign (.Name y py) env (.ref h₂.objs.size)) _ _ _
  refine wpAny_assign_Name (wpAny_storeName_local hy (F₀.ns.at' fun o e => hx' _ o e) (fun h₃ hn₃ hs₃ => ?_) hp)
  refine ⟨m', hn.sameBut hs₃ (Ne.symm hL1), fun h₄ hs₄ => ?_⟩
  refine hfin h₄ _ vs os ?_ ⟨hn₃.sameBut hs₄ hL1, fun b o e => ?_, F₀.above⟩ (fun b o hb e => ?_) (hnone 0)
  · refine hM.sub hmono (fun b o hb e => hs₄.extBut b o (fun hm => hb (by simp [hm])) (hs₃.extBut b o (fun hm => hb (by simp [hm])) e)) fun o e => hs₄.extBut _ o (Nat.ne_of_lt (Nat.lt_succ_self _)) (hs₃.extBut _ o (Ne.symm hL0) e)
  · have e1 := F₀.keep b o e
    refine hs₄.extBut b o (fun hm => ?_) (hs₃.extBut b o (fun hm => ?_) (hx' b o e1))
    · have := hnone 1; rw [← hm, e1] at this; cases this
    · rw [hm] at e; exact absurd (Heap.lt_size e) (Nat.not_lt.mpr F₀.above)
  · refine hs₄.extBut b o (fun hm => ?_) (hs₃.extBut b o (fun hm => hb (by simp [hm])) (hx' b o e))
    have := hnone 1; rw [← hm, e] at this; cases this
end
end Mine
end
section
open PySem PySem.W PyProof.Rows
set_option maxRecDepth 100000
namespace Mine
theorem lookup_relabel_cell {env : Env} : ∀ {names : List (Str × NameKind)} {x : Str}, names.lookup x = some .cell →
    (names.map fun (n, k) => if (k == NameKind.free && env.scope.kind == .function && env.kindOf n == some .cell) then (n, NameKind.cell) else (n, k)).lookup x = some .cell
  | [], _, h => by simp at h
  | (n, k) :: r, x, h => by
    have ih := @lookup_relabel_cell env r x
    show List.lookup x ((if (k == NameKind.free && env.scope.kind == .function && env.kindOf n == some .cell) = true then (n, NameKind.cell) else (n, k)) :: _) = _
    cases hx : x == n with
    | true =>
      simp only [List.lookup_cons, hx] at h
      cases h
      simp [List.lookup_cons, hx]
    | false =>
      simp only [List.lookup_cons, hx] at h
      by_cases hc : (k == NameKind.free && env.scope.kind == .function && env.kindOf n == some .cell) = true
      · rw [if_pos hc]; simp only [List.lookup_cons, hx]; exact ih h
      · rw [if_neg hc]; simp only [List.lookup_cons, hx]; exact ih h
section
variable {prog : Program} {w : World} {A : Around} {E : Value → Shared → Prop} {env : Env}

theorem block_cell {elt iter : Expr} {x : Str} {px : Pos} {ifs : List Expr} {scope : Scope} {cl : List (Str × Addr)} {pos : Pos} {s : Shared} {h₂ : Heap} {t₂ : Nat} {I : Addr} {fp wr : List Addr} {n : Nat} {P : Nat → Value → Prop} {St : Nat → Heap → Prop}
    (W : Walks prog w A I fp wr n P St) (F : Nat → Heap → Value → Option Value → Prop) {RR : Value → Addr → Result → Shared → Prop}
    (hsz : n ≤ sizeLine) (hcf : ∀ k, cellsFrom k scope.names cl = (x, k) :: cl) (hpc : ∀ h, pushCells h scope.names = h.push { cls := .type "cell", data := .cell none }) (hkind : scope.kind = .function) (hx : scope.names.lookup x = some .cell) (hst : St 0 h₂) (hfp : ∀ b ∈ fp, b < h₂.objs.size)
    (hwr : ∀ i h, St i h → ∀ b ∈ wr, ∃ o, h.get? b = some o) (hws : ∀ b ∈ wr, s.heap.get? b = none) (hext : Ext s.heap h₂) (hle : s.heap.objs.size ≤ h₂.objs.size)
    (hmono : ∀ i h h' v y, F i h v y → Sub (XC h₂.objs.size wr) h h' → F i h' v y)
    (hturn : ∀ i v h tk m E', i < n → P i v → Fr s.heap (h₂.objs.size + 1) h m → h.IsCell (h₂.objs.size + 2) (some v) → (∀ b ∈ XC h₂.objs.size wr, ∃ o, h.get? b = some o) →
      TurnOk prog w A ifs elt (compEnvC scope ((x, h₂.objs.size + 2) :: cl) (h₂.objs.size + 1) env) s (fun h' y => F i h' v y) E' h tk)
    (hRR : ∀ h' tk m' vs os, Made n P F h₂.objs.size h' vs os → h'.Ns (h₂.objs.size + 1) m' → Ext s.heap h' → RR (.ref h₂.objs.size) (h₂.objs.size + 1) (.ok .next) { s with heap := h', toks := tk }) :
    wpAny (model prog w) A (newList []) (fun acc s₃ => wpAny (model prog w) A (newFunctionEnv scope env.globals cl [] env.qual none .none (some env)) (fun cenv s₄ =>
      codeAny (model prog w) A (.compStart (.ListComp elt [⟨.Name x px, iter, ifs, 0⟩] scope pos) 0 (.ref I) acc { cenv with scope := relabel scope env }) (RR acc cenv.locals) s₄) E s₃) E { s with heap := h₂, toks := t₂ } := by
  refine wpAny_newObj_type (newEnv_around ?_)
  dsimp only
  generalize hH2 : h₂.push { cls := .type "list", dict := none, data := .seq ([] : List Value).toArray } = H2
  have hC : H2.objs.size = h₂.objs.size + 1 := by rw [← hH2, Heap.size_push]
  rw [hC, hcf, hpc]
  generalize hH1 : (H2.push { cls := .type "dict", data := .dict #[] }).push { cls := .type "cell", data := .cell none } = h₁
  have hC2 : (H2.push { cls := .type "dict", data := .dict #[] }).objs.size = h₂.objs.size + 2 := by rw [Heap.size_push, hC]
  have old : ∀ b o, h₂.get? b = some o → h₁.get? b = some o := fun b o e => hH1 ▸ Heap.get?_push_of_some _ (Heap.get?_push_of_some _ (hH2 ▸ Heap.get?_push_of_some _ e))
  have hacc : h₁.PlainList h₂.objs.size #[] := ⟨_, hH1 ▸ Heap.get?_push_of_some _ (Heap.get?_push_of_some _ (hH2 ▸ Heap.get?_push_size _ rfl))⟩
  have hns₁ : h₁.Ns (h₂.objs.size + 1) (fun _ => none) := hH1 ▸ (hC ▸ (Heap.Ns.new H2 (.type "dict"))).keeps fun b o e => Heap.get?_push_of_some _ e
  have hcl₁ : h₁.IsCell (h₂.objs.size + 2) none := ⟨_, hH1 ▸ hC2 ▸ Heap.get?_push_size _ rfl, rfl⟩
  have hst₁ : St 0 h₁ := W.frame _ _ _ hst fun b _ o e => old b o e
  have nw : ∀ b o, s.heap.get? b = some o → b ∉ XC h₂.objs.size wr := fun b o e hb => by
    have hlt : (b : Nat) < s.heap.objs.size := Heap.lt_size e
    rcases List.mem_cons.mp hb with hb | hb
    · exact absurd (hb ▸ hlt) (Nat.not_lt.mpr hle)
    · rcases List.mem_append.mp hb with hb | hb
      · rcases List.mem_cons.mp hb with hb | hb
        · rw [hb] at hlt
          exact absurd hlt (Nat.not_lt.mpr (Nat.le_succ_of_le hle))
        · rw [List.mem_singleton.mp hb] at hlt
          exact absurd hlt (Nat.not_lt.mpr (Nat.le_succ_of_le (Nat.le_succ_of_le hle)))
      · rw [hws b hb] at e; cases e
  have loop : ∀ s₃ : Shared, s₃ = { s with heap := h₁, toks := t₂ } →
      codeAny (model prog w) A (.compLoop (.ListComp elt [⟨.Name x px, iter, ifs, 0⟩] scope pos) 0 (.ref I) (.ref h₂.objs.size) (compEnvC scope ((x, h₂.objs.size + 2) :: cl) (h₂.objs.size + 1) env))
        (RR (.ref h₂.objs.size) (h₂.objs.size + 1)) s₃ := by
    rintro s₃ rfl
    refine own_loop W (tgt_cell (c := h₂.objs.size + 2) (cenv := compEnvC scope ((x, h₂.objs.size + 2) :: cl) (h₂.objs.size + 1) env) (lookup_relabel_cell hx) (by simp [compEnvC, relabel, hkind]) (by simp [compEnvC]) (by simp [compEnvC])) F ?_ ?_ ?_ hwr hmono hst₁ hacc ⟨⟨_, hns₁⟩, _, hcl₁⟩ ?_ ?_ hsz
    · show h₂.objs.size ∉ [h₂.objs.size + 1, h₂.objs.size + 2]
      simp
    · exact fun hm => Nat.lt_irrefl _ (hfp _ hm)
    · intro b hb hm
      have e2 := hfp _ hm
      rcases List.mem_cons.mp hb with hb | hb
      · rw [hb] at e2; exact absurd e2 (Nat.not_lt.mpr (Nat.le_succ _))
      · rw [List.mem_singleton.mp hb] at e2; exact absurd e2 (Nat.not_lt.mpr (Nat.le_succ_of_le (Nat.le_succ _)))
    · rintro i v h tk E' hi hP ⟨⟨m, hn⟩, hm⟩ hsub hX
      refine hturn i v h tk m E' hi hP ⟨hn, fun b o e => ?_, Nat.le_succ_of_le hle⟩ hm hX
      exact hsub b o (nw b o e) (old b o (hext b o e))
    · rintro h' tk vs os hlv hlo hP hF hpl ⟨⟨m', hn⟩, _⟩ hsub
      exact hRR h' tk m' vs os ⟨hlv, hlo, hP, hF, hpl⟩ hn fun b o e => hsub b o (nw b o e) (old b o (hext b o e))
  exact codeAny_compStart_list (loop _ rfl) (W.self 0 _ _ _ hst₁ (loop _ rfl))

/-- a comprehension whose variable is a plain local; it keeps all that stood -/
theorem LC_cell {s : Shared} {elt iter : Expr} {x : Str} {px : Pos} {ifs : List Expr} {scope : Scope} {cl : List (Str × Addr)} {pos : Pos} {Q : Value → Shared → Prop}
    (hclos : closureFor scope env = pure cl) (hcf : ∀ k, cellsFrom k scope.names cl = (x, k) :: cl) (hpc : ∀ h, pushCells h scope.names = h.push { cls := .type "cell", data := .cell none }) (hkind : scope.kind = .function)
    (hnames : ∀ y ∈ scope.names, y.2 = .local → scope.names.lookup y.1 = some .local) (hx : scope.names.lookup x = some .cell)
    (h : wpAny (model prog w) A (eval iter env) (fun xv s₁ => wpAny (model prog w) A (pyIter xv) (fun it s₂ => ∃ I fp wr n P St h₂ t₂ F, it = .ref I ∧ s₂ = { s with heap := h₂, toks := t₂ } ∧ Walks prog w A I fp wr n P St ∧ n ≤ sizeLine ∧ St 0 h₂ ∧ (∀ b ∈ fp, b < h₂.objs.size) ∧
      (∀ i h, St i h → ∀ b ∈ wr, ∃ o, h.get? b = some o) ∧ (∀ b ∈ wr, s.heap.get? b = none) ∧ Ext s.heap h₂ ∧ s.heap.objs.size ≤ h₂.objs.size ∧
      (∀ i h h' v y, F i h v y → Sub (XC h₂.objs.size wr) h h' → F i h' v y) ∧
      (∀ i v h tk m E', i < n → P i v → Fr s.heap (h₂.objs.size + 1) h m → h.IsCell (h₂.objs.size + 2) (some v) → (∀ b ∈ XC h₂.objs.size wr, ∃ o, h.get? b = some o) →
        TurnOk prog w A ifs elt (compEnvC scope ((x, h₂.objs.size + 2) :: cl) (h₂.objs.size + 1) env) s (fun h' y => F i h' v y) E' h tk) ∧
      (∀ h' tk vs os, Made n P F h₂.objs.size h' vs os → Ext s.heap h' → s.heap.get? h₂.objs.size = none → Q (.ref h₂.objs.size) { s with heap := h', toks := tk })) E s₁) E s)
    (hs : ∀ x, foldedSetIterable iter env x = pure x := by intro _; rfl) :
    wpAny (model prog w) A (eval (.ListComp elt [⟨.Name x px, iter, ifs, 0⟩] scope pos) env) Q E s := by
  rw [eval_ListComp]
  refine wpAny_comprehension_free (use := none) rfl hs hclos hkind hnames (wpAny_mono h (fun xv s₁ h₁ => wpAny_mono h₁ (fun it s₂ h₂' => ?_) fun _ _ e => e) fun _ _ e => e)
  obtain ⟨I, fp, wr, n, P, St, h₂, t₂, F, rfl, rfl, W, hsz, hst, hfp, hwr, hws, hext, hle, hmono, hturn, hfin⟩ := h₂'
  refine block_cell (RR := fun acc C => compPost (model prog w) A E none Q acc C) W F hsz hcf hpc hkind hx hst hfp hwr hws hext hle hmono hturn ?_
  intro h' tk m' vs os hM hn hx'
  refine ⟨m', hn, fun h'' hs'' => ?_⟩
  have hnone : ∀ k, s.heap.get? (h₂.objs.size + k) = none := fun k => by
    cases e : s.heap.get? (h₂.objs.size + k) with
    | none => rfl
    | some o => exact absurd (Heap.lt_size e) (Nat.not_lt.mpr (Nat.le_trans hle (Nat.le_add_right _ _)))
  refine hfin h'' tk vs os (hM.sub hmono (fun b o hb e => hs''.extBut b o (fun hm => hb (by simp [hm])) e) fun o e => hs''.extBut _ o (Nat.ne_of_lt (Nat.lt_succ_self _)) e) (fun b o e => hs''.extBut b o (fun hm => ?_) (hx' b o e)) (hnone 0)
  have := hnone 1
  rw [← hm, e] at this; cases this

/-- the same as the one value of an assignment to a local (the exchanged stores) -/
theorem LC_cell_to {s : Shared} {elt iter : Expr} {x y : Str} {px py : Pos} {ifs : List Expr} {scope : Scope} {cl : List (Str × Addr)} {pos spos : Pos} {Q : Flow → Shared → Prop} {h₀ : Heap} {m₀ : Str → Option Value}
    (hsw : swapsWith (.ListComp elt [⟨.Name x px, iter, ifs, 0⟩] scope pos) (some (.Name y py)) spos.line env = pure true)
    (hclos : closureFor scope env = pure cl) (hcf : ∀ k, cellsFrom k scope.names cl = (x, k) :: cl) (hpc : ∀ h, pushCells h scope.names = h.push { cls := .type "cell", data := .cell none }) (hkind : scope.kind = .function)
    (hnames : ∀ z ∈ scope.names, z.2 = .local → scope.names.lookup z.1 = some .local) (hx : scope.names.lookup x = some .cell)
    (hy : env.kindOf y = some .local) (hp : (env.scope.kind == .class || (env.scope.kind == .module && env.locals != env.globals)) = false)
    (F₀ : Fr h₀ env.locals s.heap m₀)
    (h : wpAny (model prog w) A (eval iter env) (fun xv s₁ => wpAny (model prog w) A (pyIter xv) (fun it s₂ => ∃ I fp wr n P St h₂ t₂ F, it = .ref I ∧ s₂ = { s with heap := h₂, toks := t₂ } ∧ Walks prog w A I fp wr n P St ∧ n ≤ sizeLine ∧ St 0 h₂ ∧ (∀ b ∈ fp, b < h₂.objs.size) ∧
      (∀ i h, St i h → ∀ b ∈ wr, ∃ o, h.get? b = some o) ∧ (∀ b ∈ wr, s.heap.get? b = none) ∧ Ext s.heap h₂ ∧ s.heap.objs.size ≤ h₂.objs.size ∧
      (∀ i h h' v y, F i h v y → Sub (env.locals :: XC h₂.objs.size wr) h h' → F i h' v y) ∧
      (∀ i v h tk m E', i < n → P i v → Fr s.heap (h₂.objs.size + 1) h m → h.IsCell (h₂.objs.size + 2) (some v) → (∀ b ∈ XC h₂.objs.size wr, ∃ o, h.get? b = some o) →
        TurnOk prog w A ifs elt (compEnvC scope ((x, h₂.objs.size + 2) :: cl) (h₂.objs.size + 1) env) s (fun h' y => F i h' v y) E' h tk) ∧
      (∀ h' tk vs os, Made n P F h₂.objs.size h' vs os → Fr h₀ env.locals h' (fun z => if z = y then some (.ref h₂.objs.size) else m₀ z) → Sub [env.locals] s.heap h' → s.heap.get? h₂.objs.size = none → Q .next { s with heap := h', toks := tk })) E s₁) E s)
    (hs : ∀ x, foldedSetIterable iter env x = pure x := by intro _; rfl) :
    wpAny (model prog w) A (exec (.Assign [.Name y py] (.ListComp elt [⟨.Name x px, iter, ifs, 0⟩] scope pos) spos) env) Q E s := by
  rw [exec_Assign_Name_used _ _ _ _ hsw]
  refine wpAny_bind (wpAny_standAt (wpAny_bind ?_))
  show wpAny _ A (do let _ ← comprehension (.ListComp elt [⟨.Name x px, iter, ifs, 0⟩] scope pos) scope env _ (newList []) false (eval iter env) (some (assign (.Name y py) env))) _ _ s
  refine wpAny_bind (wpAny_mono (wpAny_comprehension_free (use := some (assign (.Name y py) env)) (Q := fun _ s' => Q .next s') rfl hs hclos hkind hnames
    (wpAny_mono h (fun xv s₁ h₁ => wpAny_mono h₁ (fun it s₂ h₂' => ?_) fun _ _ e => e) fun _ _ e => e)) (fun _ s' hq => wpAny_pure (wpAny_pure hq)) fun _ _ e => e)
  obtain ⟨I, fp, wr, n, P, St, h₂, t₂, F, rfl, rfl, W, hsz, hst, hfp, hwr, hws, hext, hle, hmono, hturn, hfin⟩ := h₂'
  have hnone : ∀ k, s.heap.get? (h₂.objs.size + k) = none := fun k => by
    cases e : s.heap.get? (h₂.objs.size + k) with
    | none => rfl
    | some o => exact absurd (Heap.lt_size e) (Nat.not_lt.mpr (Nat.le_trans hle (Nat.le_add_right _ _)))
  obtain ⟨oL, _, _, hoL, _⟩ := id F₀.ns
  have hL1 : env.locals ≠ h₂.objs.size + 1 := fun e => by have := hnone 1; rw [← e, hoL] at this; cases this
  have hL0 : env.locals ≠ h₂.objs.size := fun e => by have := hnone 0; rw [Nat.add_zero, ← e, hoL] at this; cases this
  refine block_cell (RR := fun acc C => compPost (model prog w) A E (some (assign (.Name y py) env)) (fun _ s' => Q .next s') acc C) W F hsz hcf hpc hkind hx hst hfp hwr hws hext hle (fun i h h' v z a b => hmono i h h' v z a (b.mono fun _ q => .tail _ q)) hturn ?_
  intro h' tk m' vs os hM hn hx'
  show wpAny _ A (assign (.Name y py) env (.ref h₂.objs.size)) _ _ _
  refine wpAny_assign_Name (wpAny_storeName_local hy (F₀.ns.at' fun o e => hx' _ o e) (fun h₃ hn₃ hs₃ => ?_) hp)
  refine ⟨m', hn.sameBut hs₃ (Ne.symm hL1), fun h₄ hs₄ => ?_⟩
  refine hfin h₄ _ vs os ?_ ⟨hn₃.sameBut hs₄ hL1, fun b o e => ?_, F₀.above⟩ (fun b o hb e => ?_) (hnone 0)
  · refine hM.sub hmono (fun b o hb e => hs₄.extBut b o (fun hm => hb (by simp [hm])) (hs₃.extBut b o (fun hm => hb (by simp [hm])) e)) fun o e => hs₄.extBut _ o (Nat.ne_of_lt (Nat.lt_succ_self _)) (hs₃.extBut _ o (Ne.symm hL0) e)
  · have e1 := F₀.keep b o e
    refine hs₄.extBut b o (fun hm => ?_) (hs₃.extBut b o (fun hm => ?_) (hx' b o e1))
    · have := hnone 1; rw [← hm, e1] at this; cases this
    · rw [hm] at e; exact absurd (Heap.lt_size e) (Nat.not_lt.mpr F₀.above)
  · refine hs₄.extBut b o (fun hm => ?_) (hs₃.extBut b o (fun hm => hb (by simp [hm])) (hx' b o e))
    have := hnone 1; rw [← hm, e] at this; cases this
end
end Mine
end
section
open PySem PySem.W PyProof.Rows
set_option maxRecDepth 100000
namespace Mine
section
variable {K : Frag} {w : World} {prog : Program} {A : Around} {p : Program} {loose : List Str} {mean : ExcName → Option Value} {mg mb : Str → Option Value} {s : Shared} {R : Result → Shared → Prop}
  {name qual : Str} {params : Arguments} {body : List Stmt} {scope : Scope} {dV kV doc pm cdv ct oc : Value} {an od : Option Addr} {osl : Array (Option Value)} {f : Addr} {args : Args} {binds : List (Str × Value)}

/-- a call of a def of the text's, its ground the heap as it stands -/
theorem code_base (X : K.In s.heap) (T : Top p loose mean mg mb s.heap)
    (ho : K.lookup f = some ⟨oc, od, .func (fnOf name qual params body scope dV kV doc pm an cdv ct), osl⟩) (hcd : codeIn K cdv qual = true) (hroom : A.depth < recursionLimit)
    (hbind : BindsTo s (fnOf name qual params body scope dV kV doc pm an cdv ct) args binds) (hloc : ∀ y ∈ binds, scope.names.lookup y.1 = some .local)
    (h : ∀ L' h₁ tk, Fr s.heap L' h₁ (fun y => binds.reverse.lookup y) → News s.heap L' h₁ [] →
      wpAny (model prog w) (A.deeper (envOf qual scope L' f cdv)) (execs body (envOf qual scope L' f cdv))
        (fun fl s' => R (.ok (.ret (match fl with | .ret v => v | _ => .none))) s')
        (fun e s' => wpAny (model prog w) (A.deeper (envOf qual scope L' f cdv)) (leaving (envOf qual scope L' f cdv) e) (fun _ s'' => R (.error e) s'') (fun e' s'' => R (.error e') s'') s')
        { s with heap := h₁, toks := tk })
    (hco : scope.isCoroutine = false) (hgen : scope.isGenerator = false) (hk : scope.kind = .function)
    (hcell : ∀ x ∈ scope.names, x.2 ≠ .cell) : codeAny (model prog w) A (.call (.ref f) args) R s := by
  refine codeAny_call_def (fd := fnOf name qual params body scope dV kV doc pm an cdv ct) (body := body) (binds := binds) hroom (X _ _ ho) rfl T.nolimit (codeRec_of X hcd) rfl hbind hcell hloc (fun h₁ hns hk₁ => ?_) hco hgen hk
  exact h s.heap.objs.size h₁ _ ⟨hns, fun b o e => hk₁ b o e, Nat.le_refl _⟩ News.nil

/-- the same for a def whose variables a block captures -/
theorem code_baseC (X : K.In s.heap) (T : Top p loose mean mg mb s.heap)
    (ho : K.lookup f = some ⟨oc, od, .func (fnOf name qual params body scope dV kV doc pm an cdv ct), osl⟩) (hcd : codeIn K cdv qual = true) (hroom : A.depth < recursionLimit)
    (hbind : BindsTo s (fnOf name qual params body scope dV kV doc pm an cdv ct) args binds) (hkind : (binds.all fun y => scope.names.lookup y.1 == some .local || scope.names.lookup y.1 == some .cell) = true)
    (hnd : ((cellsFrom 0 scope.names []).map (·.1)).Nodup)
    (h : ∀ L' h₁ tk cells, Fr s.heap L' h₁ (bindL (envOfC qual scope L' f cdv).kindOf binds fun _ => none) → News s.heap L' h₁ cells →
      CellsAre (bindC (envOfC qual scope L' f cdv).kindOf binds fun _ => none) (cellsFrom (L' + 1) scope.names []) cells →
      wpAny (model prog w) (A.deeper (envOfC qual scope L' f cdv)) (execs body (envOfC qual scope L' f cdv))
        (fun fl s' => R (.ok (.ret (match fl with | .ret v => v | _ => .none))) s')
        (fun e s' => wpAny (model prog w) (A.deeper (envOfC qual scope L' f cdv)) (leaving (envOfC qual scope L' f cdv) e) (fun _ s'' => R (.error e) s'') (fun e' s'' => R (.error e') s'') s')
        { s with heap := h₁, toks := tk })
    (hco : scope.isCoroutine = false) (hgen : scope.isGenerator = false) (hk : scope.kind = .function) : codeAny (model prog w) A (.call (.ref f) args) R s := by
  refine codeAny_call_function hroom (X _ _ ho) rfl hco hgen rfl (codeRec_of X hcd) (hbind _ _ _ _ ?_)
  refine wpAny_newFunctionEnv_cells hk (kindsX hkind _) fun env' he s' x => ?_
  subst he
  refine ⟨T.nolimit.keeps x.toInCall.keep, codeAny_func ?_⟩
  obtain ⟨h₁, tk, rfl, _⟩ := x.done
  have hk₁ := x.toInCall.keep
  obtain ⟨cells, NC, Y⟩ := Cl.news (h₀ := s.heap) (Nat.le_refl _) fun n c hm => ⟨x.cell n c (lookup_of_mem_nodup (cellsFrom_names scope.names 0 (s.heap.objs.size + 1) [] [] rfl ▸ hnd) hm), x.above n c hm⟩
  exact h s.heap.objs.size h₁ tk cells ⟨x.toInCall.ns, hk₁, Nat.le_refl _⟩ NC Y
end
end Mine
end
section
open PySem PySem.W PyProof.Rows
set_option maxRecDepth 100000
namespace Mine
theorem IsCell.keep {h h' : Heap} {c : Addr} {v : Option Value} (x : h.IsCell c v) (k : Ext h h') : h'.IsCell c v := let ⟨o, ho, hd⟩ := x; ⟨o, k _ _ ho, hd⟩
section
variable {M : Model} {A : Around} {E : Value → Shared → Prop} {s : Shared} {env : Env} {h₀ : Heap} {L : Addr} {m : Str → Option Value} {K : Frag} {p : Program} {loose : List Str} {mg mb : Str → Option Value} {x : Str} {pos : Pos} {v : Value} {Q : Value → Shared → Prop}
theorem nm_local (F : Fr h₀ env.locals s.heap m) (hv : m x = some v) (h : Q v s) (hk : env.scope.kind = .function) (hl : env.kindOf x = some .local) (hd : (x == ("__debug__" : Str)) = false) :
    wpAny M A (eval (.Name x pos) env) Q E s := wpAny_Name (wpAny_loadName_local hk hl F.ns hv h) hd
theorem nm_cell {c : Addr} (hc : s.heap.IsCell c (some v)) (h : Q v s) (hk : env.scope.kind = .function) (hl : env.kindOf x = some .cell) (hcl : env.cells.lookup x = some c) (hd : (x == ("__debug__" : Str)) = false) :
    wpAny M A (eval (.Name x pos) env) Q E s := wpAny_Name (wpAny_loadName_cell hk hl hcl hc h) hd
theorem nm_built (F : Fr h₀ L s.heap m) (X : K.In h₀) (T : TopRead p loose mg mb h₀) (e : nsIn K mainGlobals x = some none) (hb : bootBuiltins x = some v) (hn : x ≠ "__name__") (h : Q v s)
    (hg : env.globals = mainGlobals) (hbn : env.builtins = builtinsNs) (hk : env.scope.kind = .function) (hx : env.kindOf x = some .globalImplicit) (hd : (x == ("__debug__" : Str)) = false) :
    wpAny M A (eval (.Name x pos) env) Q E s :=
  Calls.Name_function_global hk hx (Calls.loadGlobal_builtin (env := env) (by rw [hg]; exact T.g.keeps F.keep) (mg_none_of X T.g e) (by rw [hbn]; exact T.b.keeps F.keep) ((T.builtins x hn).trans hb) h) hd
end
section
variable {prog : Program} {w : World} {A : Around} {ifs : List Expr} {elt c : Expr} {cenv : Env} {s : Shared} {G : Heap → Option Value → Prop} {E' : Value → Shared → Prop} {h : Heap} {tk : Nat}
theorem turn_nil (x : wpAny (model prog w) A (eval elt cenv) (fun y s₄ => ∃ h' tk', s₄ = { s with heap := h', toks := tk' } ∧ G h' (some y) ∧ Ext h h') E' { s with heap := h, toks := tk }) :
    TurnOk prog w A [] elt cenv s G E' h tk := by
  unfold TurnOk testsOf
  rw [List.forIn_nil]
  exact wpAny_pure (by simpa using x)
theorem turn_one (x : wpAny (model prog w) A (isTrue c cenv (eval c cenv)) (fun ok s₃ => if ok = true then
      wpAny (model prog w) A (eval elt cenv) (fun y s₄ => ∃ h' tk', s₄ = { s with heap := h', toks := tk' } ∧ G h' (some y) ∧ Ext h h') E' s₃
    else ∃ h' tk', s₃ = { s with heap := h', toks := tk' } ∧ G h' none ∧ Ext h h') E' { s with heap := h, toks := tk }) :
    TurnOk prog w A [c] elt cenv s G E' h tk := by
  unfold TurnOk testsOf
  rw [List.forIn_cons]
  simp only [if_true]
  refine wpAny_bind (wpAny_bind (wpAny_mono x (fun ok s₃ h₃ => wpAny_pure ?_) fun _ _ e => e))
  dsimp only
  rw [List.forIn_nil]
  exact wpAny_pure h₃
end

theorem ints_at {vs : List Value} {ns : List Int} (hI : IntsAre vs ns) {i : Nat} {v : Value} (h : vs.toArray[i]? = some v) : ∃ n t, ns[i]? = some n ∧ v = .int n t := by
  have hlt : i < ns.length := by
    have h' : vs[i]? = some v := by simpa using h
    have := (List.getElem?_eq_some_iff.mp h').1
    rw [hI.length] at this; exact this
  obtain ⟨t, ht⟩ := hI.get i ns[i] (by simp [hlt])
  have h' : vs[i]? = some v := by simpa using h
  rw [ht] at h'
  exact ⟨ns[i], t, by simp [hlt], (Option.some.inj h').symm⟩

/-- what a filter over ints leaves -/
theorem filter_made {p : Int → Bool} : ∀ {vs : List Value} {os : List (Option Value)} {ns : List Int}, os.length = vs.length → ns.length = vs.length →
    (∀ (j : Nat) (v : Value) (o : Option Value), vs[j]? = some v → os[j]? = some o → ∃ n, ns[j]? = some n ∧ ((p n = true ∧ ∃ t, o = some (.int n t)) ∨ (p n = false ∧ o = none))) → IntsAre (os.filterMap id) (ns.filter p)
  | [], os, ns, h1, h2, _ => by
    cases os with
    | nil => cases ns with
      | nil => exact IntsAre.nil
      | cons => simp at h2
    | cons => simp at h1
  | v :: vs, os, ns, h1, h2, h3 => by
    cases os with
    | nil => simp at h1
    | cons o os => cases ns with
      | nil => simp at h2
      | cons n ns =>
        have ih := filter_made (p := p) (vs := vs) (os := os) (ns := ns) (by simpa using h1) (by simpa using h2) fun j u q a b => by
          have := h3 (j + 1) u q (by simpa using a) (by simpa using b)
          simpa using this
        obtain ⟨n', e1, e2⟩ := h3 0 v o rfl rfl
        have : n' = n := by simpa using e1.symm
        subst this
        rcases e2 with ⟨hp, t, rfl⟩ | ⟨hp, rfl⟩
        · rw [List.filter_cons_of_pos hp]; simpa using IntsAre.cons n' t ih
        · rw [List.filter_cons_of_neg (by simp [hp])]; simpa using ih

section
variable {prog : Program} {w : World} {A : Around} {E : Value → Shared → Prop} {env : Env}
/-- [x for x in l if c], l a list of ints, x a plain local -/
theorem LC_filter {s : Shared} {iter c : Expr} {x : Str} {px pe : Pos} {scope : Scope} {cl : List (Str × Addr)} {pos : Pos} {Q : Value → Shared → Prop} {l : Addr} {vs : List Value} {ns : List Int} (p : Int → Bool)
    (hh : A.handled = none) (hclos : closureFor scope env = pure cl) (hcell : ∀ y ∈ scope.names, y.2 ≠ .cell) (hkind : scope.kind = .function)
    (hnames : ∀ y ∈ scope.names, y.2 = .local → scope.names.lookup y.1 = some .local) (hx : scope.names.lookup x = some .local) (hd : (x == ("__debug__" : Str)) = false)
    (hl : s.heap.IsList l vs.toArray) (hI : IntsAre vs ns) (hsz : ns.length ≤ sizeLine)
    (hit : ∀ Q' : Value → Shared → Prop, Q' (.ref l) s → wpAny (model prog w) A (eval iter env) Q' E s)
    (htest : ∀ n t h tk m E' C, n ∈ ns → Fr s.heap C h m → m x = some (.int n t) →
      wpAny (model prog w) A (isTrue c (compEnvC scope cl C env) (eval c (compEnvC scope cl C env))) (fun ok s₃ => ∃ h' tk', s₃ = { s with heap := h', toks := tk' } ∧ ok = p n ∧ Ext h h') E' { s with heap := h, toks := tk })
    (hQ : ∀ D h' tk us, h'.PlainList D us.toArray → IntsAre us (ns.filter p) → Ext s.heap h' → s.heap.get? D = none → Q (.ref D) { s with heap := h', toks := tk })
    (hs : ∀ x, foldedSetIterable iter env x = pure x := by intro _; rfl) :
    wpAny (model prog w) A (eval (.ListComp (.Name x pe) [⟨.Name x px, iter, [c], 0⟩] scope pos) env) Q E s := by
  refine LC_local hclos hcell hkind hnames hx (hit _ ?_) hs
  have hne : l ≠ s.heap.objs.size := by
    obtain ⟨o, ho, _⟩ := hl; exact Nat.ne_of_lt (Heap.lt_size ho)
  refine wpAny_pyIter_list hl ?_
  refine ⟨s.heap.objs.size, [s.heap.objs.size, l], [s.heap.objs.size], vs.toArray.size, _, _, _, _, fun i _ _ o => ∃ n, ns[i]? = some n ∧ ((p n = true ∧ ∃ t, o = some (.int n t)) ∨ (p n = false ∧ o = none)), rfl, rfl,
    Walks.list hh _ l hne vs.toArray, by rw [List.size_toArray, hI.length]; exact hsz, ⟨⟨_, Heap.get?_push_size _ rfl, rfl, rfl⟩, hl.at fun o e => Heap.get?_push_of_some _ e⟩, ?_, ?_, ?_, fun b o e => Heap.get?_push_of_some _ e, by simp [Heap.size_push], ?_, ?_, ?_⟩
  · intro b hb
    rw [Heap.size_push]
    rcases List.mem_cons.mp hb with rfl | hb
    · exact Nat.lt_succ_self _
    · rw [List.mem_singleton.mp hb]; obtain ⟨o, ho, _⟩ := hl; exact Nat.lt_succ_of_lt (Heap.lt_size ho)
  · rintro i h ⟨⟨o, ho, _⟩, _⟩ b hb
    rw [List.mem_singleton.mp hb]; exact ⟨o, ho⟩
  · intro b hb
    rw [List.mem_singleton.mp hb]
    cases e : s.heap.get? s.heap.objs.size with
    | none => rfl
    | some o => exact absurd (Heap.lt_size e) (Nat.lt_irrefl _)
  · intro i h h' v y a _; exact a
  · intro i v h tk m E' hi hP F hm hX
    obtain ⟨n, t, hn, rfl⟩ := ints_at hI hP
    refine turn_one (wpAny_mono (htest n t h tk m E' _ (List.mem_of_getElem? hn) F hm) (fun ok s₃ h₃ => ?_) fun _ _ e => e)
    obtain ⟨h', tk', rfl, rfl, hext⟩ := h₃
    cases hp : p n with
    | true =>
      simp only [if_true]
      refine nm_local (h₀ := s.heap) (m := m) ⟨F.ns.keeps hext, fun b o e => hext b o (F.keep b o e), F.above⟩ hm ⟨h', tk', rfl, ⟨n, hn, .inl ⟨hp, t, rfl⟩⟩, hext⟩ (by simp [compEnvC, relabel, hkind]) (lookup_relabel_local hx) hd
    | false =>
      simp only [Bool.false_eq_true, if_false]
      exact ⟨h', tk', rfl, ⟨n, hn, .inr ⟨hp, by simp⟩⟩, hext⟩
  · intro h' tk us os hM hext hnone
    have hus : us.length = ns.length := by rw [hM.lv, List.size_toArray, hI.length]
    refine hQ _ h' tk _ hM.at_ (filter_made (vs := us) (by rw [hM.lo, hM.lv]) hus.symm fun j v o a b => hM.out j v o a b) hext hnone
/-- [x for x in l if c], l a list of ints, x captured by a block within -/
theorem LC_filterC {s : Shared} {iter c : Expr} {x : Str} {px pe : Pos} {scope : Scope} {cl : List (Str × Addr)} {pos : Pos} {Q : Value → Shared → Prop} {l : Addr} {vs : List Value} {ns : List Int} (p : Int → Bool)
    (hh : A.handled = none) (hclos : closureFor scope env = pure cl) (hcf : ∀ k, cellsFrom k scope.names cl = (x, k) :: cl) (hpc : ∀ h, pushCells h scope.names = h.push { cls := .type "cell", data := .cell none }) (hkind : scope.kind = .function)
    (hnames : ∀ y ∈ scope.names, y.2 = .local → scope.names.lookup y.1 = some .local) (hx : scope.names.lookup x = some .cell) (hd : (x == ("__debug__" : Str)) = false)
    (hl : s.heap.IsList l vs.toArray) (hI : IntsAre vs ns) (hsz : ns.length ≤ sizeLine)
    (hit : ∀ Q' : Value → Shared → Prop, Q' (.ref l) s → wpAny (model prog w) A (eval iter env) Q' E s)
    (htest : ∀ n t h tk m E' C cc, n ∈ ns → Fr s.heap C h m → h.IsCell cc (some (.int n t)) →
      wpAny (model prog w) A (isTrue c (compEnvC scope ((x, cc) :: cl) C env) (eval c (compEnvC scope ((x, cc) :: cl) C env))) (fun ok s₃ => ∃ h' tk', s₃ = { s with heap := h', toks := tk' } ∧ ok = p n ∧ Ext h h') E' { s with heap := h, toks := tk })
    (hQ : ∀ D h' tk us, h'.PlainList D us.toArray → IntsAre us (ns.filter p) → Ext s.heap h' → s.heap.get? D = none → Q (.ref D) { s with heap := h', toks := tk })
    (hs : ∀ x, foldedSetIterable iter env x = pure x := by intro _; rfl) :
    wpAny (model prog w) A (eval (.ListComp (.Name x pe) [⟨.Name x px, iter, [c], 0⟩] scope pos) env) Q E s := by
  refine LC_cell hclos hcf hpc hkind hnames hx (hit _ ?_) hs
  have hne : l ≠ s.heap.objs.size := by
    obtain ⟨o, ho, _⟩ := hl; exact Nat.ne_of_lt (Heap.lt_size ho)
  refine wpAny_pyIter_list hl ?_
  refine ⟨s.heap.objs.size, [s.heap.objs.size, l], [s.heap.objs.size], vs.toArray.size, _, _, _, _, fun i _ _ o => ∃ n, ns[i]? = some n ∧ ((p n = true ∧ ∃ t, o = some (.int n t)) ∨ (p n = false ∧ o = none)), rfl, rfl,
    Walks.list hh _ l hne vs.toArray, by rw [List.size_toArray, hI.length]; exact hsz, ⟨⟨_, Heap.get?_push_size _ rfl, rfl, rfl⟩, hl.at fun o e => Heap.get?_push_of_some _ e⟩, ?_, ?_, ?_, fun b o e => Heap.get?_push_of_some _ e, by simp [Heap.size_push], ?_, ?_, ?_⟩
  · intro b hb
    rw [Heap.size_push]
    rcases List.mem_cons.mp hb with rfl | hb
    · exact Nat.lt_succ_self _
    · rw [List.mem_singleton.mp hb]; obtain ⟨o, ho, _⟩ := hl; exact Nat.lt_succ_of_lt (Heap.lt_size ho)
  · rintro i h ⟨⟨o, ho, _⟩, _⟩ b hb
    rw [List.mem_singleton.mp hb]; exact ⟨o, ho⟩
  · intro b hb
    rw [List.mem_singleton.mp hb]
    cases e : s.heap.get? s.heap.objs.size with
    | none => rfl
    | some o => exact absurd (Heap.lt_size e) (Nat.lt_irrefl _)
  · intro i h h' v y a _; exact a
  · intro i v h tk m E' hi hP F hm hX
    obtain ⟨n, t, hn, rfl⟩ := ints_at hI hP
    refine turn_one (wpAny_mono (htest n t h tk m E' _ _ (List.mem_of_getElem? hn) F hm) (fun ok s₃ h₃ => ?_) fun _ _ e => e)
    obtain ⟨h', tk', rfl, rfl, hext⟩ := h₃
    cases hp : p n with
    | true =>
      simp only [if_true]
      exact nm_cell (IsCell.keep hm hext) ⟨h', tk', rfl, ⟨n, hn, .inl ⟨hp, t, rfl⟩⟩, hext⟩ (by simp [compEnvC, relabel, hkind]) (lookup_relabel_cell hx) (by simp [compEnvC]) hd
    | false =>
      simp only [Bool.false_eq_true, if_false]
      exact ⟨h', tk', rfl, ⟨n, hn, .inr ⟨hp, by simp⟩⟩, hext⟩
  · intro h' tk us os hM hext hnone
    have hus : us.length = ns.length := by rw [hM.lv, List.size_toArray, hI.length]
    refine hQ _ h' tk _ hM.at_ (filter_made (vs := us) (by rw [hM.lo, hM.lv]) hus.symm fun j v o a b => hM.out j v o a b) hext hnone
end
end Mine
end
section
open PySem PySem.W PyProof.Rows
set_option Elab.async false
set_option maxRecDepth 100000
set_option maxHeartbeats 8000000
namespace Mine
def srt (ns : List Int) : List Int := ns.mergeSort fun a b => decide (a ≤ b)
theorem srt_perm (ns : List Int) : (srt ns).Perm ns := List.mergeSort_perm _ _
theorem srt_sorted (ns : List Int) : (srt ns).Pairwise (· ≤ ·) := by
  have := List.pairwise_mergeSort (le := fun a b : Int => decide (a ≤ b)) (fun a b c h1 h2 => by simp at *; omega) (fun a b => by simp; omega) ns
  exact this.imp fun h => by simpa using h
theorem srt_unique {a ns : List Int} (hp : a.Perm ns) (hs : a.Pairwise (· ≤ ·)) : a = srt ns :=
  ksm_same (hp.trans (srt_perm ns).symm) hs (srt_sorted ns)
def medLow (ns : List Int) : Int := (srt ns).getD ((ns.length - 1) / 2) 0
def medHigh (ns : List Int) : Int := (srt ns).getD (ns.length / 2) 0

theorem fdiv2 (n : Nat) : (Int.fdiv (n : Int) 2).toNat = n / 2 := by
  rw [Int.fdiv_eq_ediv_of_nonneg _ (by decide)]; omega
theorem fdiv2m (n : Nat) : (Int.fdiv (n : Int) 2 - 1).toNat = n / 2 - 1 := by
  rw [Int.fdiv_eq_ediv_of_nonneg _ (by decide)]; omega
theorem fmod2 (n : Nat) : Int.fmod (n : Int) 2 = ((n % 2 : Nat) : Int) := by
  rw [Int.fmod_eq_emod_of_nonneg _ (by decide)]; omega
theorem low_odd {a ns : List Int} (hp : a.Perm ns) (hs : a.Pairwise (· ≤ ·)) (h : Int.fmod (a.length : Int) 2 = 1) : a.getD (Int.fdiv (a.length : Int) 2).toNat 0 = medLow ns := by
  have e := srt_unique hp hs
  have hl := hp.length_eq
  rw [fmod2] at h
  rw [fdiv2, medLow, e, ← e, hl]
  congr 1; omega
theorem low_even {a ns : List Int} (hp : a.Perm ns) (hs : a.Pairwise (· ≤ ·)) (h : Int.fmod (a.length : Int) 2 ≠ 1) : a.getD (Int.fdiv (a.length : Int) 2 - 1).toNat 0 = medLow ns := by
  have e := srt_unique hp hs
  have hl := hp.length_eq
  rw [fmod2] at h
  rw [fdiv2m, medLow, e, ← e, hl]
  congr 1; omega
theorem high_is {a ns : List Int} (hp : a.Perm ns) (hs : a.Pairwise (· ≤ ·)) : a.getD (Int.fdiv (a.length : Int) 2).toNat 0 = medHigh ns := by
  have e := srt_unique hp hs
  have hl := hp.length_eq
  rw [fdiv2, medHigh, e, ← e, hl]

theorem median_low_c {w : World} {env : Env} {mean : ExcName → Option Value} {mg mb : Str → Option Value} {s : Shared}
    {Q : Value → Shared → Prop} {E : Value → Shared → Prop} {l : Addr} {vs : List Value} {ns : List Int}
    (X : (hd.heap_1 w.params).In s.heap) (T : Top Mine.view (looseW Mine.view [Str.ofString "_NodeInfo"]) mean mg mb s.heap)
    (hl : s.heap.IsList l vs.toArray) (hI : IntsAre vs ns) (h1 : 1 ≤ ns.length) (h2 : ns.length ≤ 8)
    (h : ∀ t h' tk, Ext s.heap h' → Q (.int (medLow ns) t) { s with heap := h', toks := tk }) :
    wpAny (model PySem.Challenge.rw_nb0259_01.row.prog w) (callerA.deeper env) (call (.ref 41) [.ref l]) Q E s := by
  revert X; k_fill; intro X
  refine wpAny_call ?_
  (refine' code_base ?k3 ?k5 ?k6 ?k7 ?k8 ?k9 ?kB ?_ ?c2 ?c3 ?c4 ?c5; (case k3 => k_asm); (case k5 => k_asm); (case k6 => k_is); (case k7 => k_is); (case k8 => k_room); (case k9 => exact BindsTo.of_eq rfl); (case c5 => decide); (case kB => exact locs rfl); (case c2 => exact rfl); (case c3 => exact rfl); (case c4 => exact rfl); k_whole; intro L' h' tk' F' N'; (try dsimp only))
  k_steps
  · exfalso; omega
  · rename List.Perm _ ns => hp
    rename List.Pairwise _ _ => hs
    rename Int.fmod _ _ = _ => hm
    rw [low_odd hp hs hm]
    exact h _ _ _ (Fr.keep (by assumption))
  · rename List.Perm _ ns => hp
    rename List.Pairwise _ _ => hs
    rename Int.fmod _ _ ≠ _ => hm
    rw [low_even hp hs hm]
    exact h _ _ _ (Fr.keep (by assumption))

theorem median_high_c {w : World} {env : Env} {mean : ExcName → Option Value} {mg mb : Str → Option Value} {s : Shared}
    {Q : Value → Shared → Prop} {E : Value → Shared → Prop} {l : Addr} {vs : List Value} {ns : List Int}
    (X : (hd.heap_1 w.params).In s.heap) (T : Top Mine.view (looseW Mine.view [Str.ofString "_NodeInfo"]) mean mg mb s.heap)
    (hl : s.heap.IsList l vs.toArray) (hI : IntsAre vs ns) (h1 : 1 ≤ ns.length) (h2 : ns.length ≤ 8)
    (h : ∀ t h' tk, Ext s.heap h' → Q (.int (medHigh ns) t) { s with heap := h', toks := tk }) :
    wpAny (model PySem.Challenge.rw_nb0259_01.row.prog w) (callerA.deeper env) (call (.ref 48) [.ref l]) Q E s := by
  revert X; k_fill; intro X
  refine wpAny_call ?_
  (refine' code_base ?k3 ?k5 ?k6 ?k7 ?k8 ?k9 ?kB ?_ ?c2 ?c3 ?c4 ?c5; (case k3 => k_asm); (case k5 => k_asm); (case k6 => k_is); (case k7 => k_is); (case k8 => k_room); (case k9 => exact BindsTo.of_eq rfl); (case c5 => decide); (case kB => exact locs rfl); (case c2 => exact rfl); (case c3 => exact rfl); (case c4 => exact rfl); k_whole; intro L' h' tk' F' N'; (try dsimp only))
  k_steps
  · exfalso; omega
  · rename List.Perm _ ns => hp
    rename List.Pairwise _ _ => hs
    rw [high_is hp hs]
    exact h _ _ _ (Fr.keep (by assumption))
end Mine
end
section
open PySem PySem.W PyProof.Rows
set_option Elab.async false
set_option maxRecDepth 100000
set_option maxHeartbeats 8000000
namespace Mine
local macro_rules | `(tactic| walk_at "nm") => `(tactic| first
  | (with_unfolding_all refine nm_local (by assumption) (by assumption) ?_ rfl rfl (by decide))
  | (with_unfolding_all refine nm_cell (by assumption) ?_ rfl rfl rfl (by decide))
  | (with_unfolding_all refine nm_cell (IsCell.keep (by assumption) (Fr.keep (by assumption))) ?_ rfl rfl rfl (by decide))
  | (refine nm_built (by assumption) (by k_asm) (by k_asm) (by k_is) (by boot_by_name) (by decide) ?_ rfl rfl rfl rfl (by decide)))

/-- those of a row that so many do not pass -/
def passed (ns : List Int) (n : Int) : Nat := (ns.filter fun k => decide (k ≤ n)).length
def enoughs (ns : List Int) (e : Int) : List Int := ns.filter fun n => decide (e ≤ 2 * (passed ns n : Int))

theorem exists_top : ∀ {ns : List Int}, 1 ≤ ns.length → ∃ n ∈ ns, ∀ k ∈ ns, k ≤ n
  | [a], _ => ⟨a, by simp, by simp⟩
  | a :: b :: r, _ => by
    obtain ⟨n, hn, hm⟩ := exists_top (ns := b :: r) (by simp)
    by_cases h : a ≤ n
    · refine ⟨n, List.mem_cons_of_mem _ hn, fun k hk => ?_⟩
      rcases List.mem_cons.mp hk with rfl | hk
      · exact h
      · exact hm k hk
    · refine ⟨a, by simp, fun k hk => ?_⟩
      rcases List.mem_cons.mp hk with rfl | hk
      · exact Int.le_refl _
      · have := hm k hk; omega
theorem enoughs_some {ns : List Int} {e : Int} (h1 : 1 ≤ ns.length) (he : e ≤ 2 * (ns.length : Int)) : 0 < (enoughs ns e).length := by
  obtain ⟨n, hn, hm⟩ := exists_top h1
  have : n ∈ enoughs ns e := by
    refine List.mem_filter.mpr ⟨hn, ?_⟩
    have e1 : passed ns n = ns.length := by
      unfold passed
      rw [List.filter_eq_self.mpr fun k hk => by simpa using hm k hk]
    rw [e1]; simpa using he
  exact List.length_pos_of_mem this

theorem least_c {w : World} {env : Env} {mean : ExcName → Option Value} {mg mb : Str → Option Value} {s : Shared}
    {Q : Value → Shared → Prop} {E : Value → Shared → Prop} {l : Addr} {vs : List Value} {ns : List Int} {e : Int} {te : Tok}
    (X : (hd.heap_1 w.params).In s.heap) (T : Top Mine.view (looseW Mine.view [Str.ofString "_NodeInfo"]) mean mg mb s.heap)
    (hl : s.heap.IsList l vs.toArray) (hI : IntsAre vs ns) (h1 : 1 ≤ ns.length) (h2 : ns.length ≤ 8) (he : e ≤ 2 * (ns.length : Int))
    (h : ∀ M t h' tk, M ∈ enoughs ns e → (∀ a ∈ enoughs ns e, M ≤ a) → Ext s.heap h' → Q (.int M t) { s with heap := h', toks := tk }) :
    wpAny (model PySem.Challenge.rw_nb0259_01.row.prog w) (callerA.deeper env) (call (.ref 197) [.ref l, .int e te]) Q E s := by
  revert X; k_fill; intro X
  refine wpAny_call ?_
  (refine' code_baseC ?k3 ?k5 ?k6 ?k7 ?k8 ?k9 ?kB ?kD ?_ ?c2 ?c3 ?c4; (case k3 => k_asm); (case k5 => k_asm); (case k6 => k_is); (case k7 => k_is); (case k8 => k_room); (case k9 => first | exact BindsTo.of_eq rfl | exact binds_K (by k_in) rfl (by k_is) rfl rfl rfl | fail "k_enter: no rule for these arguments"); (case kB => exact rfl); (case kD => decide +kernel); (case c2 => exact rfl); (case c3 => exact rfl); (case c4 => exact rfl); k_whole; intro L' h' tk' cells' F' N' Y'; k_cells Y'; (try simp only [List.cons_append, List.nil_append] at N'); (try dsimp only); (try k_fold))
  rename_i oe or_ de dr
  have hcr : h'.IsCell (L' + 1) (some (.ref l)) := ⟨or_, (N' _ (.tail _ (.head _))).1, dr⟩
  have hce : h'.IsCell (L' + 2) (some (.int e te)) := ⟨oe, (N' _ (.head _)).1, de⟩
  walk1
  walk1
  walk1
  walk1
  walk1
  walk1
  have X' := X.keeps F'.keep
  have T' := T.keeps F'.keep
  have hl' : h'.IsList l vs.toArray := hl.at fun o e => F'.keep l o e
  refine LC_filterC (cl := [(Str.ofString "row", L' + 1), (Str.ofString "enough", L' + 2)]) (p := fun n => decide (e ≤ 2 * (passed ns n : Int)))
    rfl (by with_unfolding_all rfl) (fun _ => by with_unfolding_all rfl) (fun _ => by with_unfolding_all rfl) rfl (by decide) (by decide) (by decide) hl' hI (by rw [sizeLine_eq]; omega) ?hit ?htest ?hQ
  case hit => intro Q' q; walk_at "nm"; exact q
  case htest =>
    intro n t h tk m E' C cc hn F hc
    clear F' N'
    have hl2 : h.IsList l vs.toArray := hl'.at fun o e => F.keep l o e
    walk1
    walk1
    walk1
    walk1
    walk_at "nm"
    walk1
    walk1
    refine LC_filter (cl := [(Str.ofString "one", cc)]) (p := fun k => decide (k ≤ n)) rfl (by with_unfolding_all rfl) (by decide) rfl (by decide) (by decide) (by decide) hl2 hI (by rw [sizeLine_eq]; omega) ?hit2 ?htest2 ?hQ2
    case hit2 => intro Q' q; walk_at "nm"; exact q
    case htest2 =>
      intro k t2 h2 tk2 m2 E2 C2 hk F2 hm2
      walk1
      walk_at "nm"
      walk_at "nm"
      walk1
      walk1
      exact ⟨_, _, rfl, rfl, fun _ _ e => e⟩
    case hQ2 =>
      intro D h3 tk3 us hD hus hx3 hn3
      have F3 := Fr.grownK F hx3
      have hD' := hD.isList
      have hce3 : h3.IsCell (L' + 2) (some (.int e te)) := IsCell.keep hce F3.keep
      have hle : (ns.filter fun k => decide (k ≤ n)).length ≤ ns.length := List.length_filter_le _ _
      clear F
      walk1
      refine PyProof.Rows.len_list hD' (by rw [List.size_toArray, hus.length]; omega) ?_
      rw [List.size_toArray, hus.length]
      walk1
      walk_at "nm"
      walk1
      walk1
      exact ⟨_, _, rfl, by first | rfl | exact decide_eq_decide.mpr Iff.rfl, hx3⟩
  case hQ =>
    intro D h3 tk3 us hD hus hx3 hn3
    have F3 := Fr.grownK F' hx3
    have hD' := hD.isList
    clear F'
    walk1
    refine kso_min F3 (News.nil) hD' hus (enoughs_some h1 he) rfl ?_
    intro h4 M t4 tk4 F4 _ hM hMin
    exact h M t4 h4 tk4 hM hMin F4.keep
end Mine
end
section
open PySem PySem.W PyProof.Rows
namespace Mine
theorem passed_eq (ns : List Int) (n : Int) : passed ns n = ns.countP fun o => decide (o ≤ n) := by
  unfold passed; first | rfl | rw [List.countP_eq_length_filter]
theorem passed_perm {a b : List Int} (h : a.Perm b) (n : Int) : passed a n = passed b n := by rw [passed_eq, passed_eq]; exact h.countP_eq _
/-- in a sorted list, the value at k has k + 1 or more that do not pass it -/
theorem passed_ge {s : List Int} (hs : s.Pairwise (· ≤ ·)) {k : Nat} (hk : k < s.length) : k + 1 ≤ passed s s[k] := by
  rw [passed_eq]
  have e : s = s.take (k + 1) ++ s.drop (k + 1) := (List.take_append_drop _ _).symm
  have h1 : (s.take (k + 1)).countP (fun o => decide (o ≤ s[k])) = (s.take (k + 1)).length := by
    rw [List.countP_eq_length]
    intro a ha
    obtain ⟨i, hi, rfl⟩ := List.mem_iff_getElem.mp ha
    rw [List.length_take] at hi
    rw [List.getElem_take]
    refine decide_eq_true ?_
    rcases Nat.lt_or_eq_of_le (show i ≤ k by omega) with h | h
    · exact (List.pairwise_iff_getElem.mp hs) i k (by omega) hk h
    · subst h; exact Int.le_refl _
  have h2 : s.countP (fun o => decide (o ≤ s[k])) = (s.take (k + 1)).countP (fun o => decide (o ≤ s[k])) + (s.drop (k + 1)).countP (fun o => decide (o ≤ s[k])) := by
    rw [← List.countP_append, List.take_append_drop]
  rw [h2, h1, List.length_take]
  omega
/-- what lies below the value at k is passed by k or fewer -/
theorem passed_lt {s : List Int} (hs : s.Pairwise (· ≤ ·)) {k : Nat} (hk : k < s.length) {v : Int} (hv : v < s[k]) : passed s v ≤ k := by
  rw [passed_eq]
  have h2 : s.countP (fun o => decide (o ≤ v)) = (s.take k).countP (fun o => decide (o ≤ v)) + (s.drop k).countP (fun o => decide (o ≤ v)) := by
    rw [← List.countP_append, List.take_append_drop]
  have h0 : (s.drop k).countP (fun o => decide (o ≤ v)) = 0 := by
    rw [List.countP_eq_zero]
    intro a ha
    obtain ⟨i, hi, rfl⟩ := List.mem_iff_getElem.mp ha
    rw [List.length_drop] at hi
    rw [List.getElem_drop]
    have : s[k] ≤ s[k + i]'(by omega) := by
      rcases Nat.eq_zero_or_pos i with h | h
      · subst h; exact Int.le_refl _
      · exact (List.pairwise_iff_getElem.mp hs) k (k + i) hk (by omega) (by omega)
    simp only [decide_eq_true_eq]; omega
  have := List.countP_le_length (p := fun o => decide (o ≤ v)) (l := s.take k)
  rw [List.length_take] at this
  omega
/-- the value at k of the sorted row is the least that has enough -/
theorem at_least {ns : List Int} {k : Nat} {e : Int} (hk : k < ns.length) (h1 : (2 * k : Nat) < e) (h2 : e ≤ (2 * k + 2 : Nat)) :
    (srt ns).getD k 0 ∈ enoughs ns e ∧ ∀ v ∈ enoughs ns e, (srt ns).getD k 0 ≤ v := by
  have hk' : k < (srt ns).length := by rw [(srt_perm ns).length_eq]; exact hk
  have eg : (srt ns).getD k 0 = (srt ns)[k] := by rw [List.getD_eq_getElem?_getD, List.getElem?_eq_getElem hk']; rfl
  rw [eg]
  constructor
  · unfold enoughs
    rw [List.mem_filter]
    refine ⟨(srt_perm ns).mem_iff.mp (List.getElem_mem hk'), decide_eq_true ?_⟩
    have := passed_ge (srt_sorted ns) hk'
    rw [passed_perm (srt_perm ns)] at this
    omega
  · intro v hv
    unfold enoughs at hv
    rw [List.mem_filter] at hv
    have h3 := of_decide_eq_true hv.2
    rcases Int.lt_or_le v (srt ns)[k] with h | h
    · have := passed_lt (srt_sorted ns) hk' h
      rw [passed_perm (srt_perm ns)] at this
      omega
    · exact h
theorem low_least {ns : List Int} (h : 0 < ns.length) : medLow ns ∈ enoughs ns ns.length ∧ ∀ v ∈ enoughs ns ns.length, medLow ns ≤ v := at_least (by omega) (by omega) (by omega)
theorem high_least {ns : List Int} (h : 0 < ns.length) : medHigh ns ∈ enoughs ns (ns.length + 1) ∧ ∀ v ∈ enoughs ns (ns.length + 1), medHigh ns ≤ v := at_least (by omega) (by omega) (by omega)
end Mine
end
section
open PySem PySem.W PyProof.Rows
set_option maxRecDepth 100000
namespace Mine
/-- the ints of range(k) -/
def upto (k : Nat) : List Int := (List.range k).map Int.ofNat
theorem upto_get (k i : Nat) (h : i < k) : (upto k)[i]? = some (i : Int) := by simp [upto, h]
theorem upto_len (k : Nat) : (upto k).length = k := by simp [upto]
theorem mem_upto {k : Nat} {n : Int} : n ∈ upto k ↔ 0 ≤ n ∧ n < k := by
  simp only [upto, List.mem_map, List.mem_range]
  constructor
  · rintro ⟨i, hi, rfl⟩; simp only [Int.ofNat_eq_natCast]; omega
  · rintro ⟨h1, h2⟩; exact ⟨n.toNat, by omega, by simp only [Int.ofNat_eq_natCast]; omega⟩

section
variable {prog : Program} {w : World} {A : Around} {E : Value → Shared → Prop} {env : Env} {s : Shared}
abbrev rgObj (k : Int) (a b c : Tok) : Obj := { cls := .type "range", data := .fields #[.int 0 a, .int k b, .int 1 c] }
abbrev riObj (k : Nat) : Obj := { cls := .type "range_iterator", data := .fields #[rawInt 0, rawInt k, rawInt 1] }
theorem src_range {k : Nat} {e : Expr} {rp rpos : Pos} {Q : Value → Shared → Prop} (hk : k ≤ 1000000)
    (hname : ∀ Q' : Value → Shared → Prop, Q' (.type "range") s → wpAny (model prog w) A (eval (.Name "range" rp) env) Q' E s)
    (he : ∀ Q' : Value → Shared → Prop, (∀ t tk, Q' (.int (k : Int) t) { s with toks := tk }) → wpAny (model prog w) A (eval e env) Q' E s)
    (hse : backTo rpos (starEach [e] env) = [(false, eval e env)])
    (h : ∀ a b c tk, Q (.ref (s.heap.objs.size + 1)) { s with heap := (s.heap.push (rgObj k a b c)).push (riObj k), toks := tk }) :
    wpAny (model prog w) A (eval (.Call (.Name "range" rp) [e] [] rpos) env) (fun xv s₁ => wpAny (model prog w) A (pyIter xv) Q E s₁) E s := by
  refine wpAny_Call_NameR (hname _ ?_)
  rw [hse]
  refine PySem.callWith_type rfl (Calls.evalArgs_plain (Calls.spliced_cons (he _ fun t tk => Calls.spliced_nil ?_)))
  refine call_range_1 ?_
  have hsm : Builtin.Range.small 0 (k : Int) 1 = true := small_one (by decide) (by decide) (by omega) (by omega)
  refine wpAny_pyIter_range (IsRange.new ..) hsm ?_
  have e1 : Builtin.Range.rangeSize 0 (k : Int) 1 = (k : Int) := by rw [rangeSize_one]; split <;> omega
  rw [e1]
  simp only [Heap.size_push]
  exact h _ _ _ _
theorem rg_ok {k : Nat} {a b c : Tok} {h : Heap} : ((h.push (rgObj k a b c)).push (riObj k)).objs.size = h.objs.size + 2 ∧ Ext h ((h.push (rgObj k a b c)).push (riObj k)) ∧
    IsRangeIter ((h.push (rgObj k a b c)).push (riObj k)) (h.objs.size + 1) (0 + (0 : Nat) * 1) ((k : Int) - (0 : Nat)) 1 := by
  refine ⟨by simp [Heap.size_push], fun _ _ e => Heap.get?_push_of_some _ (Heap.get?_push_of_some _ e), ?_⟩
  have := Heap.get?_push_size (h.push (rgObj k a b c)) (o := riObj k) rfl
  rw [Heap.size_push] at this
  simpa using this

/-- y = [x for x in range(k) if c], x a plain local, y a local of the function's -/
theorem LC_filterR_to {k : Nat} {e c : Expr} {x y : Str} {px pe py rp rpos : Pos} {scope : Scope} {cl : List (Str × Addr)} {pos spos : Pos} {Q : Flow → Shared → Prop} {h₀ : Heap} {m₀ : Str → Option Value} (p : Int → Bool)
    (hh : A.handled = none)
    (hsw : swapsWith (.ListComp (.Name x pe) [⟨.Name x px, .Call (.Name "range" rp) [e] [] rpos, [c], 0⟩] scope pos) (some (.Name y py)) spos.line env = pure true)
    (hclos : closureFor scope env = pure cl) (hcell : ∀ z ∈ scope.names, z.2 ≠ .cell) (hkind : scope.kind = .function)
    (hnames : ∀ z ∈ scope.names, z.2 = .local → scope.names.lookup z.1 = some .local) (hx : scope.names.lookup x = some .local) (hd : (x == ("__debug__" : Str)) = false)
    (hy : env.kindOf y = some .local) (hp : (env.scope.kind == .class || (env.scope.kind == .module && env.locals != env.globals)) = false)
    (F₀ : Fr h₀ env.locals s.heap m₀) (hk : k ≤ 1000000)
    (hname : ∀ Q' : Value → Shared → Prop, Q' (.type "range") s → wpAny (model prog w) A (eval (.Name "range" rp) env) Q' E s)
    (he : ∀ Q' : Value → Shared → Prop, (∀ t tk, Q' (.int (k : Int) t) { s with toks := tk }) → wpAny (model prog w) A (eval e env) Q' E s)
    (hse : backTo rpos (starEach [e] env) = [(false, eval e env)])
    (htest : ∀ n t h tk m E' C, n ∈ upto k → Fr s.heap C h m → m x = some (.int n t) →
      wpAny (model prog w) A (isTrue c (compEnvC scope cl C env) (eval c (compEnvC scope cl C env))) (fun ok s₃ => ∃ h' tk', s₃ = { s with heap := h', toks := tk' } ∧ ok = p n ∧ Ext h h') E' { s with heap := h, toks := tk })
    (hQ : ∀ D h' tk us, h'.PlainList D us.toArray → IntsAre us ((upto k).filter p) → Fr h₀ env.locals h' (fun z => if z = y then some (.ref D) else m₀ z) → Sub [env.locals] s.heap h' → s.heap.get? D = none → Q .next { s with heap := h', toks := tk })
    (hs : ∀ x, foldedSetIterable (.Call (.Name "range" rp) [e] [] rpos) env x = pure x := by intro _; rfl) :
    wpAny (model prog w) A (exec (.Assign [.Name y py] (.ListComp (.Name x pe) [⟨.Name x px, .Call (.Name "range" rp) [e] [] rpos, [c], 0⟩] scope pos) spos) env) Q E s := by
  refine LC_local_to hsw hclos hcell hkind hnames hx hy hp F₀ (src_range hk hname he hse fun a b cc tk => ?_) hs
  obtain ⟨e1, e2, e3⟩ := rg_ok (k := k) (a := a) (b := b) (c := cc) (h := s.heap)
  refine ⟨_, [s.heap.objs.size + 1], [s.heap.objs.size + 1], k, _, _, _, _, fun i _ _ o => (p (i : Int) = true ∧ ∃ t, o = some (.int (i : Int) t)) ∨ (p (i : Int) = false ∧ o = none), rfl, rfl,
    Walks.range hh _ 0 1 k, by rw [sizeLine_eq]; omega, e3, ?_, ?_, ?_, e2, by rw [e1]; exact Nat.le_add_right _ _, fun _ _ _ _ _ q _ => q, ?_, ?_⟩
  · intro q hq; rw [List.mem_singleton.mp hq, e1]; exact Nat.lt_succ_self _
  · intro i h st q hq; rw [List.mem_singleton.mp hq]; exact ⟨_, st⟩
  · intro q hq
    rw [List.mem_singleton.mp hq]
    cases e' : s.heap.get? (s.heap.objs.size + 1) with
    | none => rfl
    | some o => exact absurd (Heap.lt_size e') (Nat.not_lt.mpr (Nat.le_succ _))
  · rintro i v h tk m E' hi ⟨t, rfl⟩ F hm hX
    have ei : (0 + (i : Int) * 1) = (i : Int) := by omega
    rw [ei] at hm ⊢
    refine turn_one (wpAny_mono (htest i t h tk m E' _ (mem_upto.mpr ⟨by omega, by omega⟩) F hm) (fun ok s₃ h₃ => ?_) fun _ _ e => e)
    obtain ⟨h', tk', rfl, rfl, hext⟩ := h₃
    cases hpp : p (i : Int) with
    | true =>
      simp only [if_true]
      refine nm_local (h₀ := s.heap) (m := m) (Fr.grownK F hext) hm ⟨h', tk', rfl, .inl ⟨hpp, t, rfl⟩, hext⟩ (by simp [compEnvC, relabel, hkind]) (lookup_relabel_local hx) hd
    | false =>
      simp only [Bool.false_eq_true, if_false]
      exact ⟨h', tk', rfl, .inr ⟨hpp, by simp⟩, hext⟩
  · intro h' tk us os hM F' hsub hnone
    refine hQ _ h' tk _ hM.at_ (filter_made (vs := us) (by rw [hM.lo, hM.lv]) (by rw [upto_len, hM.lv]) fun j v o a b => ?_) F' hsub hnone
    have hj : j < k := by have := (List.getElem?_eq_some_iff.mp a).1; rw [hM.lv] at this; exact this
    exact ⟨(j : Int), upto_get k j hj, hM.out j v o a b⟩
end
end Mine
end
section
open PySem PySem.W PyProof.Rows
set_option Elab.async false
set_option maxRecDepth 100000
set_option maxHeartbeats 8000000
namespace Mine
/-- the needs as the law's lists lay them -/
structure NeedsAt (h : Heap) (l : Addr) (G : Nat → List Int) : Prop where
  at_ : ∃ as : List Addr, as.length = 5 ∧ h.IsList l (as.map Value.ref).toArray ∧ ∀ i a, as[i]? = some a → ∃ vs : List Value, h.IsList a vs.toArray ∧ IntsAre vs (G i)
  len : ∀ i, (G i).length ≤ 16
theorem NeedsAt.keep {h h' : Heap} {l : Addr} {G : Nat → List Int} (x : NeedsAt h l G) (k : Ext h h') : NeedsAt h' l G := by
  obtain ⟨as, hl, ha, hi⟩ := x.at_
  refine ⟨⟨as, hl, ha.at fun o e => k _ o e, fun i a e => ?_⟩, x.len⟩
  obtain ⟨vs, h1, h2⟩ := hi i a e
  exact ⟨vs, h1.at fun o e => k _ o e, h2⟩
theorem NeedsAt.item {h : Heap} {l : Addr} {G : Nat → List Int} (x : NeedsAt h l G) {n : Nat} (hn : n < 5) : ∃ (items : Array Value) (a : Addr) (vs : List Value), h.IsList l items ∧ items[n]? = some (.ref a) ∧ h.IsList a vs.toArray ∧ IntsAre vs (G n) := by
  obtain ⟨as, hl, ha, hi⟩ := x.at_
  have hlt : n < as.length := by omega
  obtain ⟨vs, h1, h2⟩ := hi n as[n] (by simp [hlt])
  exact ⟨_, as[n], vs, ha, by simp [hlt], h1, h2⟩

def isFree (G : Nat → List Int) (run : List Int) (n : Int) : Bool := !(run.any (· == n)) && ((G n.toNat).filter fun o => !(run.any (· == o))).isEmpty
def frees (G : Nat → List Int) (run : List Int) : List Int := (upto 5).filter (isFree G run)
def pickOf (f : List Int) (pick : Int) : Int := f.getD (Int.fmod pick f.length).toNat 0
def plainGo (G : Nat → List Int) : Nat → List Int → Int → List Int
  | 0, run, _ => run
  | k + 1, run, pick => if frees G run = [] then run else plainGo G k (run ++ [pickOf (frees G run) pick]) (Int.fdiv pick (frees G run).length)
def plainRun (G : Nat → List Int) (pick : Int) : List Int := plainGo G 5 [] pick
/-- names, each once -/
structure Names (run : List Int) : Prop where
  nd : run.Nodup
  lo : ∀ x ∈ run, 0 ≤ x ∧ x < 5
theorem Names.nil : Names [] := ⟨List.nodup_nil, by simp⟩
theorem Names.le {run : List Int} (h : Names run) : run.length ≤ 5 := by
  have : run.length ≤ (upto 5).length := h.nd.length_le_of_subset fun x hx => mem_upto.mpr ⟨(h.lo x hx).1, (h.lo x hx).2⟩
  simpa [upto_len] using this
theorem any_eq (l : List Int) (n : Int) : l.any (· == n) = decide (n ∈ l) := by
  induction l with
  | nil => simp
  | cons a r ih =>
    simp only [List.any_cons, ih, List.mem_cons]
    by_cases h : a = n
    · simp [h]
    · have h' : ¬ n = a := fun e => h e.symm
      have h2 : (a == n) = false := beq_eq_false_iff_ne.mpr h
      simp [h', h2]
theorem mem_frees {G : Nat → List Int} {run : List Int} {n : Int} : n ∈ frees G run ↔ (0 ≤ n ∧ n < 5) ∧ n ∉ run ∧ ∀ o ∈ G n.toNat, o ∈ run := by
  unfold frees isFree
  rw [List.mem_filter, mem_upto]
  simp [any_eq, List.isEmpty_iff, List.filter_eq_nil_iff]
theorem pickOf_mem {f : List Int} {pick : Int} (hf : f ≠ []) (hp : 0 ≤ pick) : pickOf f pick ∈ f := by
  unfold pickOf
  have hl : 0 < f.length := List.length_pos_iff.mpr hf
  have h1 : (Int.fmod pick f.length).toNat < f.length := by
    rw [Int.fmod_eq_emod_of_nonneg _ (by omega)]
    have := Int.emod_lt_of_pos pick (b := f.length) (by omega)
    have := Int.emod_nonneg pick (b := f.length) (by omega)
    omega
  rw [List.getD_eq_getElem?_getD, List.getElem?_eq_getElem h1]
  exact List.getElem_mem h1
theorem Names.snoc {G : Nat → List Int} {run : List Int} {n : Int} (h : Names run) (hn : n ∈ frees G run) : Names (run ++ [n]) := by
  obtain ⟨hb, hnr, _⟩ := mem_frees.mp hn
  refine ⟨?_, fun x hx => ?_⟩
  · rw [List.nodup_append]
    exact ⟨h.nd, by simp, fun a ha b hb' => by simp at hb'; subst hb'; exact fun e => hnr (e ▸ ha)⟩
  · rcases List.mem_append.mp hx with hx | hx
    · exact h.lo x hx
    · simp at hx; subst hx; exact hb
theorem plainGo_stop {G : Nat → List Int} {run : List Int} {pick : Int} (h : frees G run = []) : ∀ k, plainGo G k run pick = run
  | 0 => rfl
  | k + 1 => by simp [plainGo, h]
theorem plainGo_go {G : Nat → List Int} {run : List Int} {pick : Int} (hn : Names run) (h : frees G run ≠ []) (hp : 0 ≤ pick) :
    run.length < 5 ∧ plainGo G (5 - run.length) run pick = plainGo G (5 - (run ++ [pickOf (frees G run) pick]).length) (run ++ [pickOf (frees G run) pick]) (Int.fdiv pick (frees G run).length) := by
  have h1 := (hn.snoc (pickOf_mem h hp)).le
  rw [List.length_append, List.length_singleton] at h1
  refine ⟨by omega, ?_⟩
  have e : 5 - run.length = (5 - (run.length + 1)) + 1 := by omega
  rw [e, plainGo, if_neg h, List.length_append, List.length_singleton]
theorem fdiv_nonneg' {a : Int} {n : Nat} (h : 0 ≤ a) : 0 ≤ Int.fdiv a (n : Int) := by
  rw [Int.fdiv_eq_ediv_of_nonneg _ (by omega)]; exact Int.ediv_nonneg h (by omega)
theorem pick_item {us : List Value} {f : List Int} {pick : Int} (hI : IntsAre us f) (hf : f ≠ []) (hp : 0 ≤ pick) :
    0 ≤ Int.fmod pick f.length ∧ Int.fmod pick f.length < f.length ∧ ∃ t, us.toArray[(Int.fmod pick f.length).toNat]? = some (.int (pickOf f pick) t) := by
  have hl : 0 < f.length := List.length_pos_iff.mpr hf
  have e := Int.fmod_eq_emod_of_nonneg pick (b := (f.length : Int)) (by omega)
  have h1 := Int.emod_lt_of_pos pick (b := f.length) (by omega)
  have h2 := Int.emod_nonneg pick (b := f.length) (by omega)
  rw [← e] at h1 h2
  refine ⟨h2, h1, ?_⟩
  have hi : (Int.fmod pick f.length).toNat < f.length := by omega
  obtain ⟨t, ht⟩ := hI.get (Int.fmod pick f.length).toNat (f[(Int.fmod pick f.length).toNat]) (by simp [hi])
  refine ⟨t, ?_⟩
  unfold pickOf
  rw [List.getD_eq_getElem?_getD, List.getElem?_eq_getElem hi]
  simpa using ht
end Mine
end
section
open PySem PySem.W PyProof.Rows
namespace Mine
/-- a row that lies below another, run by run, has the lesser least -/
theorem least_lt {α : Type} {L : List α} {f g : α → Int} (hfg : ∀ r ∈ L, f r < g r) {e u v : Int} (he : 0 < e) (hu : ∀ a ∈ enoughs (L.map f) e, u ≤ a) (hv : v ∈ enoughs (L.map g) e) : u < v := by
  unfold enoughs at hv
  rw [List.mem_filter] at hv
  have hen := of_decide_eq_true hv.2
  have hp : passed (L.map g) v = (L.filter fun r => decide (g r ≤ v)).length := by
    unfold passed; rw [List.filter_map, List.length_map]; rfl
  rw [hp] at hen
  obtain ⟨t, ht, htop⟩ := exists_top (ns := (L.filter fun r => decide (g r ≤ v)).map f) (by rw [List.length_map]; omega)
  obtain ⟨r, hr, rfl⟩ := List.mem_map.mp ht
  obtain ⟨hrL, hrv⟩ := List.mem_filter.mp hr
  have h1 : f r < v := Int.lt_of_lt_of_le (hfg r hrL) (of_decide_eq_true hrv)
  refine Int.lt_of_le_of_lt (hu (f r) ?_) h1
  unfold enoughs
  rw [List.mem_filter]
  refine ⟨List.mem_map_of_mem hrL, decide_eq_true ?_⟩
  have hq : passed (L.map f) (f r) = (L.filter fun q => decide (f q ≤ f r)).length := by
    unfold passed; rw [List.filter_map, List.length_map]; rfl
  rw [hq]
  have hle : (L.filter fun r => decide (g r ≤ v)).length ≤ (L.filter fun q => decide (f q ≤ f r)).length := by
    rw [← List.countP_eq_length_filter, ← List.countP_eq_length_filter]
    refine List.countP_mono_left fun q hq hgv => decide_eq_true ?_
    exact htop (f q) (List.mem_map_of_mem (List.mem_filter.mpr ⟨hq, hgv⟩))
  omega
/-- a run: every name in it was free when it was done -/
inductive Goes (G : Nat → List Int) : List Int → Prop
  | nil : Goes G []
  | snoc {run : List Int} {n : Int} : Goes G run → n ∈ frees G run → Goes G (run ++ [n])
theorem Goes.names {G : Nat → List Int} {run : List Int} (h : Goes G run) : Names run := by
  induction h with
  | nil => exact Names.nil
  | snoc _ hn ih => exact ih.snoc hn
/-- what a name of a run needs lies in the run, and ahead of it -/
theorem Goes.split {G : Nat → List Int} {run : List Int} (h : Goes G run) : ∀ n ∈ run, ∃ a b, run = a ++ n :: b ∧ n ∈ frees G a := by
  induction h with
  | nil => simp
  | snoc hg hn ih =>
    rename_i run m
    intro n hm
    rcases List.mem_append.mp hm with q | q
    · obtain ⟨a, b, e, hf⟩ := ih n q
      exact ⟨a, b ++ [m], by rw [e]; simp, hf⟩
    · rw [List.mem_singleton.mp q]
      exact ⟨run, [], by simp, hn⟩
/-- a run to its end does all that any run does -/
theorem Goes.all {G : Nat → List Int} {a b : List Int} (ha : Goes G a) (hend : frees G b = []) : ∀ n ∈ a, n ∈ b := by
  induction ha with
  | nil => simp
  | snoc hg hn ih =>
    rename_i run m
    intro n hm
    rcases List.mem_append.mp hm with q | q
    · exact ih n q
    · rw [List.mem_singleton.mp q]
      by_cases hb : m ∈ b
      · exact hb
      · obtain ⟨h1, h2, h3⟩ := mem_frees.mp hn
        have : m ∈ frees G b := mem_frees.mpr ⟨h1, hb, fun o ho => ih o (h3 o ho)⟩
        rw [hend] at this; cases this
end Mine
end
section
open PySem PySem.W PyProof.Rows
namespace Mine
/-- the order of key and name -/
def Ahead (key : Int → Int) (a b : Int) : Prop := key a < key b ∨ key a = key b ∧ a < b
/-- the least of the waiting ones, by key and name -/
def Chosen (key : Int → Int) (f : List Int) (n : Int) : Prop := n ∈ f ∧ ∀ m ∈ f, m ≠ n → Ahead key n m
theorem Goes.needs {G : Nat → List Int} {run : List Int} (h : Goes G run) : ∀ n ∈ run, (0 ≤ n ∧ n < 5) ∧ ∀ o ∈ G n.toNat, o ∈ run := by
  intro n hn
  obtain ⟨a, b, e, hf⟩ := h.split n hn
  obtain ⟨h1, _, h3⟩ := mem_frees.mp hf
  exact ⟨h1, fun o ho => by rw [e]; exact List.mem_append_left _ (h3 o ho)⟩
/-- always the least waiting one: the names in the order of key and name -/
theorem greedy {G : Nat → List Int} {key : Int → Int} {b due : List Int} (hb : Goes G b) (hend : frees G b = []) (hkey : ∀ y ∈ b, ∀ x ∈ G y.toNat, key x < key y)
    (hmem : ∀ n, n ∈ due ↔ n ∈ b) (hord : due.Pairwise (Ahead key)) :
    (∀ p n q, due = p ++ n :: q → Chosen key (frees G p) n) ∧ frees G due = [] := by
  have irr : ∀ a, ¬ Ahead key a a := fun a h => by rcases h with h | h <;> omega
  constructor
  · rintro p n q rfl
    have hp : ∀ m ∈ p, m ∈ b := fun m hm => (hmem m).mp (by simp [hm])
    have hnb : n ∈ b := (hmem n).mp (by simp)
    obtain ⟨h1, h2, h3⟩ := List.pairwise_append.mp hord
    obtain ⟨h4, h5⟩ := List.pairwise_cons.mp h2
    obtain ⟨n1, n2⟩ := hb.needs n hnb
    refine ⟨mem_frees.mpr ⟨n1, fun hn => irr n (h3 n hn n (by simp)), fun o ho => ?_⟩, fun m hm hne => ?_⟩
    · have ko := hkey n hnb o ho
      have : o ∈ p ++ n :: q := (hmem o).mpr (n2 o ho)
      rcases List.mem_append.mp this with z | z
      · exact z
      · rcases List.mem_cons.mp z with z | z
        · rw [z] at ko; omega
        · rcases h4 o z with w | w <;> omega
    · obtain ⟨m1, m2, m3⟩ := mem_frees.mp hm
      have hmb : m ∈ b := by
        by_cases z : m ∈ b
        · exact z
        · have : m ∈ frees G b := mem_frees.mpr ⟨m1, z, fun o ho => hp o (m3 o ho)⟩
          rw [hend] at this; cases this
      rcases List.mem_append.mp ((hmem m).mpr hmb) with z | z
      · exact absurd z m2
      · rcases List.mem_cons.mp z with z | z
        · exact absurd z hne
        · exact h4 m z
  · cases e : frees G due with
    | nil => rfl
    | cons m r =>
      have hm : m ∈ frees G due := by rw [e]; simp
      obtain ⟨m1, m2, m3⟩ := mem_frees.mp hm
      have : m ∈ frees G b := mem_frees.mpr ⟨m1, fun z => m2 ((hmem m).mpr z), fun o ho => (hmem o).mp (m3 o ho)⟩
      rw [hend] at this; cases this
/-- the plain run goes to its end -/
theorem plainGo_end {G : Nat → List Int} : ∀ (k : Nat) (run : List Int) (pick : Int), Goes G run → 0 ≤ pick → k = 5 - run.length → Goes G (plainGo G k run pick) ∧ frees G (plainGo G k run pick) = []
  | k, run, pick, hg, hp, hk => by
    by_cases hf : frees G run = []
    · rw [plainGo_stop hf]; exact ⟨hg, hf⟩
    · have hn := hg.names
      have hs := hn.snoc (pickOf_mem hf hp)
      have hl := hs.le
      rw [List.length_append, List.length_singleton] at hl
      obtain ⟨j, rfl⟩ : ∃ j, k = j + 1 := ⟨k - 1, by omega⟩
      have e : plainGo G (j + 1) run pick = plainGo G j (run ++ [pickOf (frees G run) pick]) (Int.fdiv pick (frees G run).length) := by
        rw [plainGo, if_neg hf]
      rw [e]
      exact plainGo_end j _ _ (hg.snoc (pickOf_mem hf hp)) (fdiv_nonneg' hp) (by rw [List.length_append, List.length_singleton]; omega)
theorem plainRun_end {G : Nat → List Int} {pick : Int} (hp : 0 ≤ pick) : Goes G (plainRun G pick) ∧ frees G (plainRun G pick) = [] := plainGo_end 5 [] pick .nil hp rfl
end Mine
end
section
open PySem PySem.W PyProof.Rows
namespace Mine
/-- a name's place in a run, 5 where it is never done -/
def place (run : List Int) (n : Int) : Int := if n ∈ run then (run.idxOf n : Int) else 5
theorem place_lt {G : Nat → List Int} {run : List Int} (h : Goes G run) {x y : Int} (hy : y ∈ run) (hx : x ∈ G y.toNat) : place run x < place run y := by
  obtain ⟨a, b, e, hf⟩ := h.split y hy
  obtain ⟨_, h2, h3⟩ := mem_frees.mp hf
  have hxa := h3 x hx
  have hxr : x ∈ run := by rw [e]; exact List.mem_append_left _ hxa
  unfold place
  rw [if_pos hxr, if_pos hy, e, List.idxOf_append, List.idxOf_append, if_pos hxa, if_neg h2]
  have := List.idxOf_lt_length_iff.mpr hxa
  omega
def rowOf (runs : List (List Int)) (n : Int) : List Int := runs.map fun r => place r n
/-- what a done name needs has the lesser median -/
theorem low_lt {G : Nat → List Int} {runs : List (List Int)} (h0 : 0 < runs.length) (hg : ∀ r ∈ runs, Goes G r ∧ frees G r = []) {x y : Int} {r₀ : List Int} (hr : r₀ ∈ runs) (hy : y ∈ r₀) (hx : x ∈ G y.toNat) : medLow (rowOf runs x) < medLow (rowOf runs y) := by
  have hl : ∀ n, 0 < (rowOf runs n).length := fun n => by unfold rowOf; rw [List.length_map]; exact h0
  have hlen : (rowOf runs x).length = (rowOf runs y).length := by unfold rowOf; rw [List.length_map, List.length_map]
  have h1 := (low_least (hl x)).2
  have h2 := (low_least (hl y)).1
  rw [hlen] at h1
  exact least_lt (L := runs) (f := fun r => place r x) (g := fun r => place r y) (fun r hr' => place_lt (hg r hr').1 ((hg r₀ hr).1.all (hg r hr').2 y hy) hx) (by have := hl y; omega) h1 h2
theorem high_lt {G : Nat → List Int} {runs : List (List Int)} (h0 : 0 < runs.length) (hg : ∀ r ∈ runs, Goes G r ∧ frees G r = []) {x y : Int} {r₀ : List Int} (hr : r₀ ∈ runs) (hy : y ∈ r₀) (hx : x ∈ G y.toNat) : medHigh (rowOf runs x) < medHigh (rowOf runs y) := by
  have hl : ∀ n, 0 < (rowOf runs n).length := fun n => by unfold rowOf; rw [List.length_map]; exact h0
  have hlen : (rowOf runs x).length = (rowOf runs y).length := by unfold rowOf; rw [List.length_map, List.length_map]
  have h1 := (high_least (hl x)).2
  have h2 := (high_least (hl y)).1
  rw [hlen] at h1
  exact least_lt (L := runs) (f := fun r => place r x) (g := fun r => place r y) (fun r hr' => place_lt (hg r hr').1 ((hg r₀ hr).1.all (hg r hr').2 y hy) hx) (by have := hl y; omega) h1 h2
end Mine
end
section
open PySem PySem.W PyProof.Rows
namespace Mine
/-- a set in which each name needs one of the set: no run does any of it -/
theorem no_ring {G : Nat → List Int} {S : Int → Prop} (hS : ∀ y, S y → ∃ x ∈ G y.toNat, S x) {run : List Int} (h : Goes G run) : ∀ n ∈ run, ¬ S n := by
  induction h with
  | nil => simp
  | snoc hg hn ih =>
    rename_i run m
    intro n hm
    rcases List.mem_append.mp hm with q | q
    · exact ih n q
    · rw [List.mem_singleton.mp q]
      intro hs
      obtain ⟨x, hx, hsx⟩ := hS m hs
      exact ih x ((mem_frees.mp hn).2.2 x hx) hsx
theorem ring_short {G : Nat → List Int} {S : Int → Prop} (hS : ∀ y, S y → ∃ x ∈ G y.toNat, S x) {s : Int} (hs : S s) (hs0 : 0 ≤ s ∧ s < 5) {run : List Int} (h : Goes G run) : run.length < 5 := by
  have hn : s ∉ run := fun q => no_ring hS h s q hs
  have hN := h.names
  have : Names (run ++ [s]) := ⟨by
    rw [List.nodup_append]
    exact ⟨hN.nd, by simp, fun a ha b hb q => hn (by rw [List.mem_singleton.mp hb] at q; exact q ▸ ha)⟩, fun x hx => by
    rcases List.mem_append.mp hx with q | q
    · exact hN.lo x q
    · rw [List.mem_singleton.mp q]; exact hs0⟩
  have := this.le
  rw [List.length_append, List.length_singleton] at this
  omega
/-- an order of finishing, read backwards, is a run -/
theorem goes_of_fin {G : Nat → List Int} {fin : List Int} (hnd : fin.Nodup) (hlo : ∀ x ∈ fin, 0 ≤ x ∧ x < 5) (hneeds : ∀ x ∈ fin, ∀ o ∈ G x.toNat, o ∈ fin)
    (hs : ∀ p u q, fin = p ++ u :: q → ∀ y ∈ fin, u ∈ G y.toNat → y ∈ p) : Goes G fin.reverse := by
  have key : ∀ q p, fin = p ++ q → Goes G q.reverse := by
    intro q
    induction q with
    | nil => intro p _; exact .nil
    | cons u q ih =>
      intro p e
      rw [List.reverse_cons]
      refine .snoc (ih (p ++ [u]) (by rw [e]; simp)) ?_
      have hu : u ∈ fin := by rw [e]; simp
      have hnd' := hnd
      rw [e, List.nodup_append] at hnd'
      obtain ⟨_, n2, n3⟩ := hnd'
      have hup : u ∉ p := fun z => n3 u z u (by simp) rfl
      refine mem_frees.mpr ⟨hlo u hu, by rw [List.mem_reverse]; exact (List.nodup_cons.mp n2).1, fun o ho => ?_⟩
      rw [List.mem_reverse]
      have hof := hneeds u hu o ho
      rw [e] at hof
      rcases List.mem_append.mp hof with z | z
      · obtain ⟨p1, p2, ep⟩ := List.append_of_mem z
        have := hs p1 o (p2 ++ u :: q) (by rw [e, ep]; simp) u hu ho
        exact absurd (by rw [ep]; exact List.mem_append_left _ this) hup
      · rcases List.mem_cons.mp z with z | z
        · subst z
          exact absurd (hs p o q e o hu ho) hup
        · exact z
  exact key fin [] rfl
theorem full_long {G : Nat → List Int} {ord run : List Int} (ho : Goes G ord) (hl : ord.length = 5) (h : Goes G run) (hend : frees G run = []) : run.length = 5 := by
  have hsub := ho.all hend
  have h1 : ord.length ≤ run.length := ho.names.nd.length_le_of_subset hsub
  have := h.names.le
  omega
end Mine
end
section
open PySem PySem.W PyProof.Rows
set_option Elab.async false
set_option maxRecDepth 100000
set_option maxHeartbeats 8000000
namespace Mine
theorem Fr.weaken {g h₀ h : Heap} {L : Addr} {m : Str → Option Value} (F : Fr h₀ L h m) (hg : Ext g h₀) (hs : g.objs.size ≤ L) : Fr g L h m := ⟨F.ns, fun b o e => F.keep b o (hg b o e), hs⟩
theorem hide_ext (h : Heap) (mu : List Addr) : Ext (hideAll h mu) h := fun _ _ e => of_hideAll mu e
theorem hide_sub {h h' : Heap} {mu : List Addr} {L : Addr} {m : Str → Option Value} (F : Fr (hideAll h mu) L h' m) : Sub mu h h' := fun b o hb e => F.keep b o (hideAll_get mu e hb)
theorem hide_base {hb h : Heap} {mu : List Addr} (k : Ext hb h) (hmu : ∀ a ∈ mu, hb.get? a = none) : Ext hb (hideAll h mu) := fun b o e => hideAll_get mu (k b o e) fun hm => by rw [hmu b hm] at e; cases e

/-- all that the call has made, as a ledger -/
def allN (h₀ : Heap) (L : Addr) (h : Heap) : List (Addr × Obj) := (List.range h.objs.size).filterMap fun a => if a = L ∨ (h₀.get? a).isSome = true then none else (h.get? a).map fun o => (a, o)
theorem mem_allN {h₀ h : Heap} {L a : Addr} {o : Obj} : (a, o) ∈ allN h₀ L h ↔ a ≠ L ∧ h₀.get? a = none ∧ h.get? a = some o := by
  unfold allN
  rw [List.mem_filterMap]
  constructor
  · rintro ⟨b, hb, e⟩
    split at e
    · cases e
    · rename_i hc
      obtain ⟨o', ho', e'⟩ := Option.map_eq_some_iff.mp e
      cases e'
      refine ⟨fun q => hc (.inl q), ?_, ho'⟩
      cases q : h₀.get? a with
      | none => rfl
      | some _ => exact absurd (.inr (by rw [q]; rfl)) hc
  · rintro ⟨h1, h2, h3⟩
    refine ⟨a, List.mem_range.mpr (Heap.lt_size h3), ?_⟩
    rw [if_neg (by rintro (q | q); exact h1 q; rw [h2] at q; cases q), h3]; rfl
theorem allN_nodup (h₀ : Heap) (L : Addr) (h : Heap) : ((allN h₀ L h).map (·.1)).Nodup := by
  unfold allN
  have key : ∀ l : List Nat, l.Nodup → ((l.filterMap fun a => if a = L ∨ (h₀.get? a).isSome = true then none else (h.get? a).map fun o => (a, o)).map (·.1)).Nodup ∧
      ∀ x ∈ (l.filterMap fun a => if a = L ∨ (h₀.get? a).isSome = true then none else (h.get? a).map fun o => (a, o)).map (·.1), x ∈ l := by
    intro l
    induction l with
    | nil => intro _; exact ⟨by simp, by simp⟩
    | cons a r ih =>
      intro hn
      obtain ⟨h1, h2⟩ := ih (List.nodup_cons.mp hn).2
      rw [List.filterMap_cons]
      split
      · exact ⟨h1, fun x hx => List.mem_cons_of_mem _ (h2 x hx)⟩
      · rename_i p hp
        have hpa : p.1 = a := by
          split at hp
          · cases hp
          · obtain ⟨o, _, e⟩ := Option.map_eq_some_iff.mp hp; rw [← e]
        rw [List.map_cons, hpa]
        refine ⟨List.nodup_cons.mpr ⟨fun q => (List.nodup_cons.mp hn).1 (h2 a q), h1⟩, fun x hx => ?_⟩
        rcases List.mem_cons.mp hx with rfl | hx
        · simp
        · exact List.mem_cons_of_mem _ (h2 x hx)
  exact (key _ List.nodup_range).1
theorem all_news {h₀ h : Heap} {L x : Addr} {ox : Obj} (hx : h.get? x = some ox) (hxL : x ≠ L) (hx0 : h₀.get? x = none) :
    ∃ pre post, News h₀ L h (pre ++ (x, ox) :: post) ∧ (∀ p ∈ pre, p.1 ≠ x) ∧ (∀ p ∈ post, p.1 ≠ x) ∧ ∀ b o, b ≠ x → b ≠ L → h₀.get? b = none → h.get? b = some o → (b, o) ∈ pre ++ post := by
  obtain ⟨pre, post, e⟩ := List.append_of_mem (mem_allN.mpr ⟨hxL, hx0, hx⟩)
  have hn := allN_nodup h₀ L h
  rw [e, List.map_append, List.map_cons] at hn
  have hd := List.nodup_append.mp hn
  refine ⟨pre, post, ?_, ?_, ?_, ?_⟩
  · rw [← e]; intro p hp; have := mem_allN.mp (show (p.1, p.2) ∈ _ from hp); exact ⟨this.2.2, this.1, this.2.1⟩
  · intro p hp q; exact hd.2.2 p.1 (List.mem_map_of_mem hp) x (by simp) q
  · intro p hp q
    have h1 : p.1 ∈ post.map (·.1) := List.mem_map_of_mem hp
    rw [q] at h1
    exact (List.nodup_cons.mp hd.2.1).1 h1
  · intro b o hbx hbL hb0 hbo
    have := mem_allN.mpr ⟨hbL, hb0, hbo⟩
    rw [e] at this
    rcases List.mem_append.mp this with q | q
    · exact List.mem_append_left _ q
    · rcases List.mem_cons.mp q with q | q
      · exact absurd (congrArg Prod.fst q) hbx
      · exact List.mem_append_right _ q
/-- from the ledger's word back to «all else is kept» -/
theorem sub_of_news {h₀ h h' : Heap} {L x : Addr} {m : Str → Option Value} {ox' : Obj} {pre post : List (Addr × Obj)} (F' : Fr h₀ L h' m) (N' : News h₀ L h' (pre ++ (x, ox') :: post)) (F : Fr h₀ L h m)
    (hall : ∀ b o, b ≠ x → b ≠ L → h₀.get? b = none → h.get? b = some o → (b, o) ∈ pre ++ post) : h'.get? x = some ox' ∧ Sub [x, L] h h' := by
  refine ⟨(N' (x, ox') (by simp)).1, fun b o hb e => ?_⟩
  have hbx : b ≠ x := fun q => hb (by simp [q])
  have hbL : b ≠ L := fun q => hb (by simp [q])
  cases q : h₀.get? b with
  | some o' =>
    have := F.keep b o' q
    rw [e] at this; cases this
    exact F'.keep b o q
  | none =>
    have := hall b o hbx hbL q e
    refine (N' (b, o) ?_).1
    rcases List.mem_append.mp this with r | r
    · exact List.mem_append_left _ r
    · exact List.mem_append_right _ (List.mem_cons_of_mem _ r)

abbrev nodeObj (i p : Int) (sl dx : Addr) (t1 t2 : Tok) : Obj := { cls := .ref 67, dict := some dx, data := .plain, slots := #[some (.int i t1), some (.int p t2), some (.ref sl)] }
abbrev attrObj (a : Nat → Int) (t : Nat → Tok) (v1 v2 v3 v4 : Value) (n : Nat) : Obj :=
  dictOf [⟨a 0, .str (Str.ofString "_node2info") (t 0), v1⟩, ⟨a 1, .str (Str.ofString "_ready_nodes") (t 1), v2⟩, ⟨a 2, .str (Str.ofString "_npassedout") (t 2), v3⟩, ⟨a 3, .str (Str.ofString "_nfinished") (t 3), v4⟩] n
noncomputable abbrev KK' (w : World) : Frag := hd.heap_1 w.params

section
variable {w : World} {A : Around} {E : Value → Shared → Prop} {s : Shared} {Q : Value → Shared → Prop} {x D : Addr} {a : Nat → Int} {t : Nat → Tok} {v1 v2 v3 v4 : Value} {n : Nat} {b : Bool}
theorem inst_at {h : Heap} (hi : h.get? x = some (instObj 164 D)) {o : Obj} (hD : h.get? D = some o) : InstAt h x (instObj 164 D) 164 (some o) := ⟨hi, rfl, rfl, hD⟩
theorem node_at {h : Heap} {i p : Int} {sl dx : Addr} {t1 t2 : Tok} (hi : h.get? x = some (nodeObj i p sl dx t1 t2)) (he : h.get? dx = some emptyDict) : InstAt h x (nodeObj i p sl dx t1 t2) 67 (some emptyDict) := ⟨hi, rfl, rfl, he⟩
theorem gaTS : findIn (KK' w) (.ref 164) "__getattribute__" = some (some (.builtin "object.__getattribute__")) := by kernel_rfl
theorem gaND : findIn (KK' w) (.ref 67) "__getattribute__" = some (some (.builtin "object.__getattribute__")) := by kernel_rfl
theorem fo1 : findObj (KK' w) 164 (some (attrObj a t v1 v2 v3 v4 n)) (Str.ofString "_node2info") = some (.value v1) := by kernel_rfl
theorem fo2 : findObj (KK' w) 164 (some (attrObj a t v1 v2 v3 v4 n)) (Str.ofString "_ready_nodes") = some (.value v2) := by kernel_rfl
theorem fo3 : findObj (KK' w) 164 (some (attrObj a t v1 v2 v3 v4 n)) (Str.ofString "_npassedout") = some (.value v3) := by kernel_rfl
theorem fo4 : findObj (KK' w) 164 (some (attrObj a t v1 v2 v3 v4 n)) (Str.ofString "_nfinished") = some (.value v4) := by kernel_rfl
end
end Mine
end
section
open PySem PySem.W PyProof.Rows
set_option Elab.async false
set_option maxRecDepth 100000
set_option maxHeartbeats 8000000
namespace Mine
section
variable {prog : Program} {w : World} {A : Around} {E : Value → Shared → Prop} {s : Shared} {Q : Value → Shared → Prop} {x D : Addr} {a : Nat → Int} {t : Nat → Tok} {v1 v2 v3 v4 : Value} {n : Nat} {b : Bool}
  {i p : Int} {sl dx : Addr} {t1 t2 : Tok} {h₀ : Heap} {L : Addr} {m : Str → Option Value}
-- the sorter's own four
theorem ts_get1 (X : (KK' w).In s.heap) (hi : s.heap.get? x = some (instObj 164 D)) (hD : s.heap.get? D = some (attrObj a t v1 v2 v3 v4 n)) (hh : handedIn v1 = true) (h : Q v1 { s with toks := s.toks + 1 }) :
    wpAny (model prog w) A (getAttr (.ref x) (Str.ofString "_node2info") b) Q E s := get_value X (inst_at hi hD) gaTS fo1 hh h
theorem ts_get2 (X : (KK' w).In s.heap) (hi : s.heap.get? x = some (instObj 164 D)) (hD : s.heap.get? D = some (attrObj a t v1 v2 v3 v4 n)) (hh : handedIn v2 = true) (h : Q v2 { s with toks := s.toks + 1 }) :
    wpAny (model prog w) A (getAttr (.ref x) (Str.ofString "_ready_nodes") b) Q E s := get_value X (inst_at hi hD) gaTS fo2 hh h
theorem ts_get3 (X : (KK' w).In s.heap) (hi : s.heap.get? x = some (instObj 164 D)) (hD : s.heap.get? D = some (attrObj a t v1 v2 v3 v4 n)) (hh : handedIn v3 = true) (h : Q v3 { s with toks := s.toks + 1 }) :
    wpAny (model prog w) A (getAttr (.ref x) (Str.ofString "_npassedout") b) Q E s := get_value X (inst_at hi hD) gaTS fo3 hh h
theorem ts_get4 (X : (KK' w).In s.heap) (hi : s.heap.get? x = some (instObj 164 D)) (hD : s.heap.get? D = some (attrObj a t v1 v2 v3 v4 n)) (hh : handedIn v4 = true) (h : Q v4 { s with toks := s.toks + 1 }) :
    wpAny (model prog w) A (getAttr (.ref x) (Str.ofString "_nfinished") b) Q E s := get_value X (inst_at hi hD) gaTS fo4 hh h
theorem saTS : findIn (KK' w) (.ref 164) "__setattr__" = some (some (.builtin "object.__setattr__")) := by kernel_rfl
theorem saND : findIn (KK' w) (.ref 67) "__setattr__" = some (some (.builtin "object.__setattr__")) := by kernel_rfl
theorem poTS : plainOver (KK' w) 164 = true := by kernel_rfl
theorem poND : plainOver (KK' w) 67 = true := by kernel_rfl
theorem hdTS : (clsIn (KK' w) 164).any (·.hasDict) = true := by kernel_rfl
theorem ta2 : takerIn (KK' w) 164 (Str.ofString "_ready_nodes") = some none := by kernel_rfl
theorem ta3 : takerIn (KK' w) 164 (Str.ofString "_npassedout") = some none := by kernel_rfl
theorem ta4 : takerIn (KK' w) 164 (Str.ofString "_nfinished") = some none := by kernel_rfl
/-- a store into the sorter's dict: all else is kept -/
theorem ts_set {Q : Unit → Shared → Prop} {name : Str} {v : Value} {od' : Obj} {es : List DictEntry} {k : Nat} (F : Fr h₀ L s.heap m) (X : (KK' w).In s.heap) (hi : s.heap.get? x = some (instObj 164 D)) (hD : s.heap.get? D = some (attrObj a t v1 v2 v3 v4 n)) (hDL : D ≠ L) (hD0 : h₀.get? D = none)
    (ht : takerIn (KK' w) 164 name = some none) (hl : (lookIn name (attrObj a t v1 v2 v3 v4 n)).isSome = true)
    (e : ∀ tk, Obj.putName name (PyData.keyHash w.params name) (.str name tk) v (attrObj a t v1 v2 v3 v4 n) = od') (e' : od'.data = .dict es.toArray k) (hz : es.length ≤ 1000)
    (h : ∀ h' tk, Fr h₀ L h' m → h'.get? D = some od' → Sub [D, L] s.heap h' → Q () { s with heap := h', toks := tk }) :
    wpAny (model prog w) A (setAttr (.ref x) name v) Q E s := by
  refine set_plain X (inst_at hi hD) saTS ?_
  obtain ⟨pre, post, N, h1, h2, hall⟩ := all_news (h₀ := h₀) (L := L) hD hDL hD0
  refine osa_dict (s := { s with toks := s.toks + 1 }) F N X (inst_at hi hD) rfl poTS ht hdTS hl h1 h2 (e _) e' hz fun h' F' N' => ?_
  obtain ⟨q1, q2⟩ := sub_of_news F' N' F hall
  exact h h' _ F' q1 q2
-- a node's three
theorem g2ND : findIn (KK' w) (.ref 67) "__getattr__" = some none := by kernel_rfl
theorem sl0 : findObj (KK' w) 67 (some emptyDict) (Str.ofString "node") = some (.bind (.builtin "member_descriptor.__get__") (.ref 68)) := by kernel_rfl
theorem sl1 : findObj (KK' w) 67 (some emptyDict) (Str.ofString "npredecessors") = some (.bind (.builtin "member_descriptor.__get__") (.ref 69)) := by kernel_rfl
theorem sl2 : findObj (KK' w) 67 (some emptyDict) (Str.ofString "successors") = some (.bind (.builtin "member_descriptor.__get__") (.ref 70)) := by kernel_rfl
theorem si0 : slotIn (KK' w) 68 67 = some 0 := by kernel_rfl
theorem si1 : slotIn (KK' w) 69 67 = some 1 := by kernel_rfl
theorem si2 : slotIn (KK' w) 70 67 = some 2 := by kernel_rfl
theorem nd_get0 (X : (KK' w).In s.heap) (hx : s.heap.get? x = some (nodeObj i p sl dx t1 t2)) (he : s.heap.get? dx = some emptyDict) (h : Q (.int i t1) { s with toks := s.toks + 1 }) : wpAny (model prog w) A (getAttr (.ref x) (Str.ofString "node") b) Q E s :=
  get_bind X (node_at hx he) gaND sl0 g2ND (wpAny_call (slot_get (s := { s with toks := s.toks + 1 }) X (node_at hx he) si0 rfl (handed_on rfl h)))
theorem nd_get1 (X : (KK' w).In s.heap) (hx : s.heap.get? x = some (nodeObj i p sl dx t1 t2)) (he : s.heap.get? dx = some emptyDict) (h : Q (.int p t2) { s with toks := s.toks + 1 }) : wpAny (model prog w) A (getAttr (.ref x) (Str.ofString "npredecessors") b) Q E s :=
  get_bind X (node_at hx he) gaND sl1 g2ND (wpAny_call (slot_get (s := { s with toks := s.toks + 1 }) X (node_at hx he) si1 rfl (handed_on rfl h)))
theorem nd_get2 (X : (KK' w).In s.heap) (hx : s.heap.get? x = some (nodeObj i p sl dx t1 t2)) (he : s.heap.get? dx = some emptyDict) (h : Q (.ref sl) { s with toks := s.toks + 1 }) : wpAny (model prog w) A (getAttr (.ref x) (Str.ofString "successors") b) Q E s :=
  get_bind X (node_at hx he) gaND sl2 g2ND (wpAny_call (slot_get (s := { s with toks := s.toks + 1 }) X (node_at hx he) si2 rfl (handed_on rfl h)))
theorem st1 : takerIn (KK' w) 67 (Str.ofString "npredecessors") = some (some (.ref 69)) := by kernel_rfl
theorem ty1 : typeIn (KK' w) (.ref 69) = some (.type "member_descriptor") := by kernel_rfl
theorem nd_set1 {Q : Unit → Shared → Prop} {q : Int} {tq : Tok} (F : Fr h₀ L s.heap m) (X : (KK' w).In s.heap) (hx : s.heap.get? x = some (nodeObj i p sl dx t1 t2)) (he : s.heap.get? dx = some emptyDict) (hxL : x ≠ L) (hx0 : h₀.get? x = none)
    (h : ∀ h' tk, Fr h₀ L h' m → h'.get? x = some (nodeObj i q sl dx t1 tq) → Sub [x, L] s.heap h' → Q () { s with heap := h', toks := tk }) :
    wpAny (model prog w) A (setAttr (.ref x) (Str.ofString "npredecessors") (.int q tq)) Q E s := by
  refine set_plain X (node_at hx he) saND ?_
  obtain ⟨pre, post, N, h1, h2, hall⟩ := all_news (h₀ := h₀) (L := L) hx hxL hx0
  refine osa_descr (s := { s with toks := s.toks + 1 }) KF.slot_mset X (node_at hx he) poND st1 ty1 (slot_set F N X (node_at hx he) si1 (by decide) h1 h2 (ox' := nodeObj i q sl dx t1 tq) rfl rfl fun h' F' N' => ?_)
  obtain ⟨q1, q2⟩ := sub_of_news F' N' F hall
  exact h h' _ F' q1 q2
end
end Mine
end
section
open PySem PySem.W PyProof.Rows
set_option Elab.async false
set_option maxRecDepth 100000
set_option maxHeartbeats 8000000
namespace Mine
theorem meets_bool_list (l : Addr) (its : Array Value) (hfit : (its.size : Int) < 2 ^ 63) :
    Meets (Builtin.«bool.__new__» ⟨[.type "bool", .ref l], []⟩) (fun _ R s => s.heap.IsList l its ∧ R (.ok (.ret (.bool (!its.isEmpty)))) { s with toks := s.toks + 1 + 1 }) :=
  Meets.of_wp fun prog w A R s hs => by
    obtain ⟨hp, g, d, tk, os⟩ := s
    obtain ⟨hl, hs⟩ := hs
    have f1 := F.conv_sub_bool
    repeat (any_goals (first | assumption | (with_reducible refine wpAny_truthy_list hl hfit ?_) | wp_step))
    all_goals first | exact ⟨_, rfl, hs⟩ | exact hs | skip
theorem call_bool_list {prog : Program} {w : World} {A : Around} {E : Value → Shared → Prop} {s : Shared} {l : Addr} {its : Array Value} {Q : Value → Shared → Prop} (hl : s.heap.IsList l its) (hfit : (its.size : Int) < 2 ^ 63)
    (h : Q (.bool (!its.isEmpty)) { s with toks := s.toks + 1 + 1 }) : wpAny (model prog w) A (call (.type "bool") [.ref l]) Q E s :=
  call_bool_1 (meets_bool_list l its hfit) ⟨hl, rfl, h⟩
theorem ints_empty {vs : List Value} {ns : List Int} (h : IntsAre vs ns) : (!vs.toArray.isEmpty) = decide (ns ≠ []) := by
  cases h with
  | nil => rfl
  | cons => simp
/-- where a sorter's parts lie -/
structure Book where
  S : Addr
  D : Addr
  N2 : Addr
  RD : Addr
  nd : Int → Addr
  sl : Int → Addr
  dd : Int → Addr
/-- what a sorter holds -/
structure SSt where
  dom : List Int
  np : Int → Int
  succ : Int → List Int
  ready : List Int
  pass : Int
  fin : Int
def Book.addrs (b : Book) (dom : List Int) : List Addr := b.S :: b.D :: b.N2 :: b.RD :: dom.flatMap fun i => [b.nd i, b.sl i, b.dd i]
theorem Book.nd_mem {b : Book} {dom : List Int} {i : Int} (h : i ∈ dom) : b.nd i ∈ b.addrs dom := by
  unfold Book.addrs
  refine List.mem_cons_of_mem _ (List.mem_cons_of_mem _ (List.mem_cons_of_mem _ (List.mem_cons_of_mem _ (List.mem_flatMap.mpr ⟨i, h, by simp⟩))))
theorem Book.sl_mem {b : Book} {dom : List Int} {i : Int} (h : i ∈ dom) : b.sl i ∈ b.addrs dom := by
  unfold Book.addrs
  refine List.mem_cons_of_mem _ (List.mem_cons_of_mem _ (List.mem_cons_of_mem _ (List.mem_cons_of_mem _ (List.mem_flatMap.mpr ⟨i, h, by simp⟩))))
theorem Book.dd_mem {b : Book} {dom : List Int} {i : Int} (h : i ∈ dom) : b.dd i ∈ b.addrs dom := by
  unfold Book.addrs
  refine List.mem_cons_of_mem _ (List.mem_cons_of_mem _ (List.mem_cons_of_mem _ (List.mem_cons_of_mem _ (List.mem_flatMap.mpr ⟨i, h, by simp⟩))))
structure Apart (b : Book) (dom : List Int) : Prop where
  SD : b.S ≠ b.D
  SN : b.S ≠ b.N2
  SR : b.S ≠ b.RD
  DN : b.D ≠ b.N2
  DR : b.D ≠ b.RD
  NR : b.N2 ≠ b.RD
  nd : ∀ i ∈ dom, b.nd i ≠ b.S ∧ b.nd i ≠ b.D ∧ b.nd i ≠ b.N2 ∧ b.nd i ≠ b.RD
  sl : ∀ i ∈ dom, b.sl i ≠ b.S ∧ b.sl i ≠ b.D ∧ b.sl i ≠ b.N2 ∧ b.sl i ≠ b.RD
  nn : ∀ i ∈ dom, ∀ j ∈ dom, b.nd i = b.nd j → i = j
  ss : ∀ i ∈ dom, ∀ j ∈ dom, b.sl i = b.sl j → i = j
  ns : ∀ i ∈ dom, ∀ j ∈ dom, b.nd i ≠ b.sl j
  dd : ∀ i ∈ dom, b.dd i ≠ b.S ∧ b.dd i ≠ b.D ∧ b.dd i ≠ b.N2 ∧ b.dd i ≠ b.RD
  nx : ∀ i ∈ dom, ∀ j ∈ dom, b.dd i ≠ b.nd j
  sx : ∀ i ∈ dom, ∀ j ∈ dom, b.dd i ≠ b.sl j
structure Sorter (prog : Program) (w : World) (h : Heap) (b : Book) (X : SSt) : Prop where
  inst : h.get? b.S = some (instObj 164 b.D)
  attrs : ∃ a t n t3 t4, h.get? b.D = some (attrObj a t (.ref b.N2) (.ref b.RD) (.int X.pass t3) (.int X.fin t4) n)
  n2i : h.DictOf (intKind prog w) b.N2 (X.dom.map fun i => (i, .ref (b.nd i)))
  node : ∀ i ∈ X.dom, ∃ t1 t2, h.get? (b.nd i) = some (nodeObj i (X.np i) (b.sl i) (b.dd i) t1 t2)
  emp : ∀ i ∈ X.dom, h.get? (b.dd i) = some emptyDict
  lst : ∀ i ∈ X.dom, ∃ vs : List Value, h.PlainList (b.sl i) vs.toArray ∧ IntsAre vs (X.succ i)
  rdy : ∃ vs : List Value, h.PlainList b.RD vs.toArray ∧ IntsAre vs X.ready
  apart : Apart b X.dom
  small : X.ready.length ≤ 1000
theorem PlainList.keep {h h' : Heap} {a : Addr} {its : Array Value} (x : h.PlainList a its) (k : ∀ o, h.get? a = some o → h'.get? a = some o) : h'.PlainList a its := let ⟨e, q⟩ := x; ⟨e, k _ q⟩
/-- all of a sorter's parts kept -/
theorem Sorter.keep {prog : Program} {w : World} {h h' : Heap} {b : Book} {X : SSt} (x : Sorter prog w h b X) (k : ∀ a ∈ b.addrs X.dom, ∀ o, h.get? a = some o → h'.get? a = some o) : Sorter prog w h' b X where
  inst := k _ (by simp [Book.addrs]) _ x.inst
  attrs := let ⟨a, t, n, t3, t4, e⟩ := x.attrs; ⟨a, t, n, t3, t4, k _ (by simp [Book.addrs]) _ e⟩
  n2i := let ⟨o, es, ep, e, r⟩ := x.n2i; ⟨o, es, ep, k _ (by simp [Book.addrs]) _ e, r⟩
  node := fun i hi => let ⟨t1, t2, e⟩ := x.node i hi; ⟨t1, t2, k _ (Book.nd_mem hi) _ e⟩
  emp := fun i hi => k _ (Book.dd_mem hi) _ (x.emp i hi)
  lst := fun i hi => let ⟨vs, e, r⟩ := x.lst i hi; ⟨vs, PlainList.keep e (k _ (Book.sl_mem hi)), r⟩
  rdy := let ⟨vs, e, r⟩ := x.rdy; ⟨vs, PlainList.keep e (k _ (by simp [Book.addrs])), r⟩
  apart := x.apart
  small := x.small

local macro_rules | `(tactic| walk_at "ga") => `(tactic| first
  | (((with_reducible show wpAny _ _ (getAttr (Value.ref _) (Str.ofString "_node2info") _) _ _ _); refine ts_get1 (by assumption) (by assumption) (by assumption) rfl ?_))
  | (((with_reducible show wpAny _ _ (getAttr (Value.ref _) (Str.ofString "_ready_nodes") _) _ _ _); refine ts_get2 (by assumption) (by assumption) (by assumption) rfl ?_))
  | (((with_reducible show wpAny _ _ (getAttr (Value.ref _) (Str.ofString "_npassedout") _) _ _ _); refine ts_get3 (by assumption) (by assumption) (by assumption) rfl ?_))
  | (((with_reducible show wpAny _ _ (getAttr (Value.ref _) (Str.ofString "_nfinished") _) _ _ _); refine ts_get4 (by assumption) (by assumption) (by assumption) rfl ?_))
  | (((with_reducible show wpAny _ _ (getAttr (Value.ref _) (Str.ofString "node") _) _ _ _); refine nd_get0 (by assumption) (by assumption) (by assumption) ?_))
  | (((with_reducible show wpAny _ _ (getAttr (Value.ref _) (Str.ofString "npredecessors") _) _ _ _); refine nd_get1 (by assumption) (by assumption) (by assumption) ?_))
  | (((with_reducible show wpAny _ _ (getAttr (Value.ref _) (Str.ofString "successors") _) _ _ _); refine nd_get2 (by assumption) (by assumption) (by assumption) ?_)))
local macro_rules | `(tactic| walk_at "w") => `(tactic| first | walk_at "ga" | (with_reducible refine Attribute_name ?_) | walk1)

theorem is_active_c {w : World} {A : Around} {mean : ExcName → Option Value} {mg mb : Str → Option Value} {s : Shared} {Q : Value → Shared → Prop} {E : Value → Shared → Prop} {b : Book} {Z : SSt}
    (X : (hd.heap_1 w.params).In s.heap) (T : Top Mine.view (looseW Mine.view [Str.ofString "_NodeInfo"]) mean mg mb s.heap) (hroom : A.depth < recursionLimit)
    (hS : Sorter PySem.Challenge.rw_nb0259_01.row.prog w s.heap b Z)
    (hQ : ∀ h' tk, Ext s.heap h' → Q (.bool (decide (Z.fin < Z.pass) || decide (Z.ready ≠ []))) { s with heap := h', toks := tk }) :
    wpAny (model PySem.Challenge.rw_nb0259_01.row.prog w) A (call (.ref 133) [.ref b.S]) Q E s := by
  revert X; k_fill; intro X
  refine wpAny_call ?_
  (refine' code_base ?k3 ?k5 ?k6 ?k7 ?k8 ?k9 ?kB ?_ ?c2 ?c3 ?c4 ?c5; (case k3 => k_asm); (case k5 => k_asm); (case k6 => k_is); (case k7 => k_is); (case k8 => exact hroom); (case k9 => exact BindsTo.of_eq rfl); (case c5 => decide); (case kB => exact locs rfl); (case c2 => exact rfl); (case c3 => exact rfl); (case c4 => exact rfl); k_whole; intro L' h' tk' F' N'; (try dsimp only))
  have hS' := hS.keep fun a _ o e => F'.keep a o e
  have X' := X.keeps F'.keep
  have hi := hS'.inst
  obtain ⟨a, t, n, t3, t4, hD⟩ := hS'.attrs
  obtain ⟨vs, hR, hvs⟩ := hS'.rdy
  have hfit : (vs.toArray.size : Int) < 2 ^ 63 := by rw [List.size_toArray, hvs.length]; have := hS.small; omega
  iterate 12 walk_at "w"
  dsimp only
  iterate 12 walk_at "w"
  by_cases hlt : Z.fin < Z.pass
  · rw [if_pos (decide_eq_true hlt)]
    have := fun tk => hQ h' tk F'.keep
    simp only [hlt, decide_true, Bool.true_or] at this ⊢
    exact this _
  · rw [if_neg (fun e => hlt (of_decide_eq_true e))]
    iterate 9 walk_at "w"
    refine call_bool_list hR.isList hfit ?_
    rw [ints_empty hvs]
    have := fun tk => hQ h' tk F'.keep
    simp only [hlt, decide_false, Bool.false_or] at this
    exact this _
end Mine
end
section
open PySem PySem.W PyProof.Rows
set_option maxRecDepth 100000
namespace Mine
section
variable {prog : Program} {w : World} {A : Around} {E : Value → Shared → Prop} {env : Env} {s : Shared}
/-- a for by its own invariant over an iterator's walk -/
theorem for_own {R : Result → Shared → Prop} {I : Addr} {fp wr : List Addr} {n : Nat} {P : Nat → Value → Prop} {St : Nat → Heap → Prop} {target : Expr} {body : List Stmt} (W : Walks prog w A I fp wr n P St) (J : Nat → Shared → Prop)
    (hst : St 0 s.heap) (hJ : J 0 s)
    (turn : ∀ i v s₁ h₁ tk₁ E', i < n → P i v → J i s₁ → St (i + 1) h₁ → Sub wr s₁.heap h₁ → wpAny (model prog w) A (assign target env v) (fun _ s₂ => wpAny (model prog w) A (execs body env) (fun f s₃ => match f with
        | .next | .cont => J (i + 1) s₃ ∧ St (i + 1) s₃.heap
        | .brk => R (.ok .next) s₃
        | .ret v => R (.ok (.ret v)) s₃) E' s₂) E' { s₁ with heap := h₁, toks := tk₁ })
    (fin : ∀ s₁ h₁ tk₁, J n s₁ → Sub wr s₁.heap h₁ → R (.ok .next) { s₁ with heap := h₁, toks := tk₁ })
    (ht : ∀ v, letOwnedTupleGo target (.ref I) v = pure () := by intro _; rfl) :
    codeAny (model prog w) A (.forLoop target (.ref I) body [] env) R s := by
  refine codeAny_forLoop_any (fun k s' => ∃ i, i ≤ n ∧ k = n + 1 - i ∧ J i s' ∧ St i s'.heap) ?_ (n + 1) ⟨0, Nat.zero_le _, rfl, hJ, hst⟩
  rintro k s' ⟨i, hi, rfl, hJ', hst'⟩
  by_cases hlt : i < n
  · refine W.item i _ _ _ hlt hst' fun v h₁ tk₁ hP hst₁ hk => ?_
    dsimp only
    rw [ht v]
    refine wpAny_pure ?_
    refine wpAny_mono (turn i v s' h₁ tk₁ _ hlt hP hJ' hst₁ fun b o hb e => hk b o hb e) (fun _ s₂ h₂ => wpAny_mono h₂ (fun f s₃ h₃ => ?_) fun _ _ e => e) fun _ _ e => e
    cases f with
    | next => exact ⟨n + 1 - (i + 1), by omega, i + 1, by omega, rfl, h₃.1, h₃.2⟩
    | cont => exact ⟨n + 1 - (i + 1), by omega, i + 1, by omega, rfl, h₃.1, h₃.2⟩
    | brk => exact h₃
    | ret v => exact h₃
  · have e : i = n := by omega
    subst e
    refine W.done _ _ _ hst' fun h₁ tk₁ hk => ?_
    exact wpAny_execs_nil (fin s' h₁ tk₁ hJ' fun b o hb e => hk b o hb e)
end
end Mine
end
section
open PySem PySem.W PyProof.Rows
set_option Elab.async false
set_option maxRecDepth 100000
set_option maxHeartbeats 8000000
namespace Mine
abbrev upd (m : Str → Option Value) (x : Str) (v : Value) : Str → Option Value := fun z => if z = x then some v else m z
section
variable {prog : Program} {w : World} {A : Around} {E : Value → Shared → Prop} {s : Shared} {g : Heap} {env : Env} {m : Str → Option Value} {x : Str} {px : Pos} {v : Value}
theorem asg_local {Q : Unit → Shared → Prop} (hx : env.kindOf x = some .local) (hk : env.scope.kind = .function) (F : Fr g env.locals s.heap m)
    (h : ∀ h', Fr g env.locals h' (upd m x v) → Sub [env.locals] s.heap h' → Q () { s with heap := h', toks := s.toks + 1 }) : wpAny (model prog w) A (assign (.Name x px) env v) Q E s := by
  refine wpAny_assign_Name (wpAny_storeName_local hx F.ns (fun h' hn' hs' => ?_) (by rw [hk]; rfl))
  refine h h' ⟨hn', fun b o e => hs'.extBut b o (fun hm => ?_) (F.keep b o e), F.above⟩ fun b o hb e => hs'.extBut b o (fun hm => hb (by simp [hm])) e
  rw [hm] at e
  exact absurd (Heap.lt_size e) (Nat.not_lt.mpr F.above)
theorem sto_local {Q : Unit → Shared → Prop} (hx : env.kindOf x = some .local) (hk : env.scope.kind = .function) (F : Fr g env.locals s.heap m)
    (h : ∀ h', Fr g env.locals h' (upd m x v) → Sub [env.locals] s.heap h' → Q () { s with heap := h', toks := s.toks + 1 }) : wpAny (model prog w) A (storeName env x v) Q E s := by
  refine wpAny_storeName_local hx F.ns (fun h' hn' hs' => ?_) (by rw [hk]; rfl)
  refine h h' ⟨hn', fun b o e => hs'.extBut b o (fun hm => ?_) (F.keep b o e), F.above⟩ fun b o hb e => hs'.extBut b o (fun hm => hb (by simp [hm])) e
  rw [hm] at e
  exact absurd (Heap.lt_size e) (Nat.not_lt.mpr F.above)
/-- a for over ints, by its own invariant -/
theorem for_ints {R : Result → Shared → Prop} {I ax : Addr} {vs : List Value} {ns : List Int} {St : Nat → Heap → Prop} {body : List Stmt} (W : Walks prog w A I [I, ax] [I] vs.toArray.size (fun i v => vs.toArray[i]? = some v) St)
    (hvs : IntsAre vs ns) (hx : env.kindOf x = some .local) (hk : env.scope.kind = .function) (hI : env.locals ≠ I) (hax : env.locals ≠ ax) (hg : g.get? I = none) (J : Nat → Heap → (Str → Option Value) → Prop)
    (hst : St 0 s.heap) (F : Fr g env.locals s.heap m) (hJ : J 0 s.heap m)
    (stab : ∀ i h m h' v, J i h m → Sub [I, env.locals] h h' → J i h' (upd m x v))
    (turn : ∀ i k t h m tk E', ns[i]? = some k → Fr g env.locals h m → m x = some (.int k t) → J i h m → St (i + 1) h → wpAny (model prog w) A (execs body env) (fun f s₃ => match f with
        | .next | .cont => ∃ h' m' tk', s₃ = { s with heap := h', toks := tk' } ∧ Fr g env.locals h' m' ∧ J (i + 1) h' m' ∧ ∀ b o, b = I ∨ b = ax → h.get? b = some o → h'.get? b = some o
        | .brk => R (.ok .next) s₃
        | .ret v => R (.ok (.ret v)) s₃) E' { s with heap := h, toks := tk })
    (fin : ∀ h h' m tk, Fr g env.locals h' m → J ns.length h m → Sub [I] h h' → R (.ok .next) { s with heap := h', toks := tk }) :
    codeAny (model prog w) A (.forLoop (.Name x px) (.ref I) body [] env) R s := by
  have hn : vs.toArray.size = ns.length := by rw [List.size_toArray, hvs.length]
  refine for_own W (fun i s' => ∃ h m tk, s' = { s with heap := h, toks := tk } ∧ Fr g env.locals h m ∧ J i h m) hst ⟨_, _, _, rfl, F, hJ⟩ ?_ ?_
  · rintro i v s₁ h₁ tk₁ E' hi hv ⟨h, m, tk, rfl, F₁, hJ₁⟩ hst₁ hs₁
    obtain ⟨k, t, hk', rfl⟩ := ints_at hvs hv
    have F₁' : Fr g env.locals h₁ m := ⟨F₁.ns.at' fun o e => hs₁ _ o (by simpa using hI) e, fun b o e => hs₁ b o (by rintro hb; rw [List.mem_singleton.mp hb, hg] at e; cases e) (F₁.keep b o e), F₁.above⟩
    refine asg_local (s := { s with heap := h₁, toks := tk₁ }) hx hk F₁' fun h₂ F₂ hs₂ => ?_
    have hJ₂ := stab i h m h₂ (.int k t) hJ₁ fun b o hb e => hs₂ b o (fun q => hb (by simp at q; simp [q])) (hs₁ b o (fun q => hb (by simp at q; simp [q])) e)
    have hst₂ : St (i + 1) h₂ := W.frame _ _ _ hst₁ fun b hb o e => hs₂ b o (fun q => by
      simp at q hb; rcases hb with rfl | rfl
      · exact hI q.symm
      · exact hax q.symm) e
    refine wpAny_mono (turn i k t h₂ _ (tk₁ + 1) E' hk' F₂ (by simp) hJ₂ hst₂) (fun f s₃ h₃ => ?_) fun _ _ e => e
    cases f with
    | next =>
      obtain ⟨h', m', tk', rfl, F', hJ', kp⟩ := h₃
      exact ⟨⟨_, _, _, rfl, F', hJ'⟩, W.frame _ _ _ hst₂ fun b hb o e => kp b o (by simpa using hb) e⟩
    | cont =>
      obtain ⟨h', m', tk', rfl, F', hJ', kp⟩ := h₃
      exact ⟨⟨_, _, _, rfl, F', hJ'⟩, W.frame _ _ _ hst₂ fun b hb o e => kp b o (by simpa using hb) e⟩
    | brk => exact h₃
    | ret v => exact h₃
  · rintro s₁ h₁ tk₁ ⟨h, m, tk, rfl, F₁, hJ₁⟩ hs₁
    rw [hn] at hJ₁
    refine fin h h₁ m tk₁ ⟨F₁.ns.at' fun o e => hs₁ _ o (by simpa using hI) e, fun b o e => hs₁ b o (by rintro hb; rw [List.mem_singleton.mp hb, hg] at e; cases e) (F₁.keep b o e), F₁.above⟩ hJ₁ hs₁
theorem item_pairs {d : Addr} {kvs : List (Int × Value)} {k : Int} {t : Tok} {value slice : Expr} {Q : Value → Shared → Prop} (hm : s.heap.DictOf (intKind prog w) d kvs) (hv : valueAt kvs k = some v) (h : Q v { s with toks := s.toks + 1 })
    (hs : subscripted slice false (.ref d) (.int k t) = operate [.ref d, .int k t] (getItem (.ref d) (.int k t)) := by with_unfolding_all rfl) (hg : ∀ r, letTemporaryGo value (.ref d) r = pure () := by intro _; with_unfolding_all rfl) :
    wpAny (model prog w) A (subscriptTail value slice (.ref d) (.int k t)) Q E s :=
  subscriptTail_builtin hm.typeIs slot_dict_getitem.lookup (wpAny_getItem_of (intKind_is prog w k t) hm.mapOf hv h) hs hg
theorem get_pairs {d : Addr} {kvs : List (Int × Value)} {k : Int} {t : Tok} {Q : Value → Shared → Prop} (lo : (d == sysModules) = false) (hm : s.heap.DictOf (intKind prog w) d kvs) (h : Q ((valueAt kvs k).getD .none) { s with toks := s.toks + 1 }) :
    wpAny (model prog w) A (call (.builtin "dict.get") [.ref d, .int k t]) Q E s :=
  call_meetsIn PySem.F.slot_dict_get hm.typeIs PySem.F.entry_dict_get (PySem.F.args_dict_get_2 _ _) (meets_dict_get (intKind prog w) d (intKind_is prog w k t) lo) ⟨_, hm.mapOf, h⟩
theorem clear_list {l : Addr} {its : Array Value} {n : Nat} {Q : Value → Shared → Prop} (hl : s.heap.get? l = some (listOf its n)) (hz : its.size ≤ sizeLine) (h : ∀ h', h'.PlainList l #[] → Sub [l] s.heap h' → Fr g env.locals h' m → Q .none { s with heap := h' })
    (F : Fr g env.locals s.heap m) (hlL : l ≠ env.locals) (hg : g.get? l = none) : wpAny (model prog w) A (call (.builtin "list.clear") [.ref l]) Q E s := by
  refine call_meets PySem.F.slot_list_clear ⟨_, hl, rfl⟩ PySem.F.entry_list_clear (PySem.F.args_list_clear_1 _) (PySem.AutoSeq1.list_clear_list_0 l its n hz) ⟨hl, ?_⟩
  have hsb : Heap.SameBut l s.heap (s.heap.update l (Obj.mapSeq fun _ => #[])) := Heap.SameBut.update _ _ _
  refine h _ ⟨_, Heap.get?_update_self _ hl rfl⟩ (fun b o hb e => hsb.extBut b o (fun q => hb (by simp [q])) e) ?_
  exact ⟨F.ns.sameBut hsb (Ne.symm hlL), fun b o e => hsb.extBut b o (fun q => by rw [q, hg] at e; cases e) (F.keep b o e), F.above⟩
end
theorem Sorter.alive {prog : Program} {w : World} {h : Heap} {b : Book} {Z : SSt} (x : Sorter prog w h b Z) : ∀ a ∈ b.addrs Z.dom, ∃ o, h.get? a = some o := by
  intro a ha
  unfold Book.addrs at ha
  simp only [List.mem_cons, List.mem_flatMap, List.not_mem_nil, or_false] at ha
  rcases ha with rfl | rfl | rfl | rfl | ⟨i, hi, rfl | rfl | rfl⟩
  · exact ⟨_, x.inst⟩
  · obtain ⟨_, _, _, _, _, e⟩ := x.attrs; exact ⟨_, e⟩
  · obtain ⟨o, _, _, e, _⟩ := x.n2i; exact ⟨o, e⟩
  · obtain ⟨vs, ⟨_, e⟩, _⟩ := x.rdy; exact ⟨_, e⟩
  · obtain ⟨_, _, e⟩ := x.node i hi; exact ⟨_, e⟩
  · obtain ⟨vs, ⟨_, e⟩, _⟩ := x.lst i hi; exact ⟨_, e⟩
  · exact ⟨_, x.emp i hi⟩
/-- the ground of a method that writes into a sorter -/
structure Ground (w : World) (p : Program) (loose : List Str) (mean : ExcName → Option Value) (mg mb : Str → Option Value) (mu : List Addr) (h₀ : Heap) (L : Addr) (g : Heap) : Prop where
  X : (hd.heap_1 w.params).In g
  T : Top p loose mean mg mb g
  hL : ∀ a ∈ mu, a ≠ L
  hg : ∀ a ∈ mu, g.get? a = none
  ext : Ext g h₀
  sub : ∀ h m, Fr g L h m → Sub mu h₀ h
  back : ∀ a, a ∉ mu → g.get? a = none → h₀.get? a = none
theorem ground {w : World} {p : Program} {loose : List Str} {mean : ExcName → Option Value} {mg mb : Str → Option Value} {mu : List Addr} {hb h₀ h : Heap} {L : Addr} {m : Str → Option Value} (X : (hd.heap_1 w.params).In hb) (T : Top p loose mean mg mb hb) (kb : Ext hb h₀)
    (hmu : ∀ a ∈ mu, hb.get? a = none) (hal : ∀ a ∈ mu, ∃ o, h₀.get? a = some o) (F : Fr h₀ L h m) : ∃ g, Ground w p loose mean mg mb mu h₀ L g ∧ Fr g L h m := by
  refine ⟨hideAll h₀ mu, ⟨X.keeps (hide_base kb hmu), T.keeps (hide_base kb hmu), fun a ha q => ?_, fun a ha => hideAll_none _ ha, hide_ext _ _, fun h m F => hide_sub F, fun a ha e => ?_⟩, Mine.Fr.weaken F (hide_ext _ _) (Nat.le_trans (Nat.le_of_eq (hideAll_size _ _)) F.above)⟩
  · obtain ⟨o, ho⟩ := hal a ha
    exact absurd (Heap.lt_size ho) (Nat.not_lt.mpr (q ▸ F.above))
  · cases q : h₀.get? a with
    | none => rfl
    | some o => rw [hideAll_get mu q ha] at e; cases e
theorem valueAt_dom {f : Int → Value} : ∀ {dom : List Int} {k : Int}, k ∈ dom → valueAt (dom.map fun i => (i, f i)) k = some (f k)
  | a :: r, k, h => by
    unfold valueAt
    rw [List.map_cons, List.find?_cons]
    by_cases q : a = k
    · subst q; simp
    · have h' : k ∈ r := by rcases List.mem_cons.mp h with e | e; exact absurd e.symm q; exact e
      have := valueAt_dom (f := f) h'
      unfold valueAt at this
      rw [← this]; simp [q]
theorem valueAt_none {f : Int → Value} : ∀ {dom : List Int} {k : Int}, k ∉ dom → valueAt (dom.map fun i => (i, f i)) k = none
  | [], k, _ => rfl
  | a :: r, k, h => by
    unfold valueAt
    rw [List.map_cons, List.find?_cons]
    have q : a ≠ k := fun q => h (by simp [q])
    have h' : k ∉ r := fun q => h (by simp [q])
    have := valueAt_none (f := f) h'
    unfold valueAt at this
    rw [← this]; simp [q]
section
variable {prog : Program} {w : World} {h h' : Heap} {b : Book} {Z : SSt} {L : Addr}
theorem Sorter.set_np {k q : Int} {t1 tq : Tok} (x : Sorter prog w h b Z) (hk : k ∈ Z.dom) (hL : ∀ a ∈ b.addrs Z.dom, a ≠ L) (hn : h'.get? (b.nd k) = some (nodeObj k q (b.sl k) (b.dd k) t1 tq)) (s : Sub [b.nd k, L] h h') :
    Sorter prog w h' b { Z with np := fun i => if i = k then q else Z.np i } := by
  have hs : ∀ a ∈ b.addrs Z.dom, a ≠ b.nd k → ∀ o, h.get? a = some o → h'.get? a = some o := fun a ha hne o e => s a o (by simp [hne, hL a ha]) e
  have z := x.apart.nd k hk
  refine ⟨hs _ (by simp [Book.addrs]) (Ne.symm z.1) _ x.inst, ?_, ?_, ?_, fun i hi => hs _ (Book.dd_mem hi) (x.apart.nx i hi k hk) _ (x.emp i hi), ?_, ?_, x.apart, x.small⟩
  · obtain ⟨a, t, n, t3, t4, e⟩ := x.attrs; exact ⟨a, t, n, t3, t4, hs _ (by simp [Book.addrs]) (Ne.symm z.2.1) _ e⟩
  · obtain ⟨o, es, ep, e, r⟩ := x.n2i; exact ⟨o, es, ep, hs _ (by simp [Book.addrs]) (Ne.symm z.2.2.1) _ e, r⟩
  · intro i hi
    by_cases q' : i = k
    · subst q'; exact ⟨_, _, by simpa using hn⟩
    · obtain ⟨t1, t2, e⟩ := x.node i hi
      exact ⟨t1, t2, by simpa [q'] using hs _ (Book.nd_mem hi) (fun e => q' (x.apart.nn i hi k hk e)) _ e⟩
  · intro i hi
    obtain ⟨vs, e, r⟩ := x.lst i hi
    exact ⟨vs, PlainList.keep e (hs _ (Book.sl_mem hi) (Ne.symm (x.apart.ns k hk i hi))), r⟩
  · obtain ⟨vs, e, r⟩ := x.rdy; exact ⟨vs, PlainList.keep e (hs _ (by simp [Book.addrs]) (Ne.symm z.2.2.2)), r⟩
theorem Sorter.set_ready {vs : List Value} {r : List Int} (x : Sorter prog w h b Z) (hL : ∀ a ∈ b.addrs Z.dom, a ≠ L) (hn : h'.PlainList b.RD vs.toArray) (hr : IntsAre vs r) (hz : r.length ≤ 1000) (s : Sub [b.RD, L] h h') :
    Sorter prog w h' b { Z with ready := r } := by
  have hs : ∀ a ∈ b.addrs Z.dom, a ≠ b.RD → ∀ o, h.get? a = some o → h'.get? a = some o := fun a ha hne o e => s a o (by simp [hne, hL a ha]) e
  refine ⟨hs _ (by simp [Book.addrs]) x.apart.SR _ x.inst, ?_, ?_, ?_, fun i hi => hs _ (Book.dd_mem hi) (x.apart.dd i hi).2.2.2 _ (x.emp i hi), ?_, ⟨vs, hn, hr⟩, x.apart, hz⟩
  · obtain ⟨a, t, n, t3, t4, e⟩ := x.attrs; exact ⟨a, t, n, t3, t4, hs _ (by simp [Book.addrs]) x.apart.DR _ e⟩
  · obtain ⟨o, es, ep, e, r⟩ := x.n2i; exact ⟨o, es, ep, hs _ (by simp [Book.addrs]) x.apart.NR _ e, r⟩
  · intro i hi
    obtain ⟨t1, t2, e⟩ := x.node i hi
    exact ⟨t1, t2, hs _ (Book.nd_mem hi) (x.apart.nd i hi).2.2.2 _ e⟩
  · intro i hi
    obtain ⟨vs, e, r⟩ := x.lst i hi
    exact ⟨vs, PlainList.keep e (hs _ (Book.sl_mem hi) (x.apart.sl i hi).2.2.2), r⟩
theorem Sorter.set_attr {a : Nat → Int} {t : Nat → Tok} {p f : Int} {t3 t4 : Tok} {n : Nat} (x : Sorter prog w h b Z) (hL : ∀ a ∈ b.addrs Z.dom, a ≠ L) (hn : h'.get? b.D = some (attrObj a t (.ref b.N2) (.ref b.RD) (.int p t3) (.int f t4) n)) (s : Sub [b.D, L] h h') :
    Sorter prog w h' b { Z with pass := p, fin := f } := by
  have hs : ∀ a ∈ b.addrs Z.dom, a ≠ b.D → ∀ o, h.get? a = some o → h'.get? a = some o := fun a ha hne o e => s a o (by simp [hne, hL a ha]) e
  refine ⟨hs _ (by simp [Book.addrs]) x.apart.SD _ x.inst, ⟨a, t, n, t3, t4, hn⟩, ?_, ?_, fun i hi => hs _ (Book.dd_mem hi) (x.apart.dd i hi).2.1 _ (x.emp i hi), ?_, ?_, x.apart, x.small⟩
  · obtain ⟨o, es, ep, e, r⟩ := x.n2i; exact ⟨o, es, ep, hs _ (by simp [Book.addrs]) (Ne.symm x.apart.DN) _ e, r⟩
  · intro i hi
    obtain ⟨t1, t2, e⟩ := x.node i hi
    exact ⟨t1, t2, hs _ (Book.nd_mem hi) (x.apart.nd i hi).2.1 _ e⟩
  · intro i hi
    obtain ⟨vs, e, r⟩ := x.lst i hi
    exact ⟨vs, PlainList.keep e (hs _ (Book.sl_mem hi) (x.apart.sl i hi).2.1), r⟩
  · obtain ⟨vs, e, r⟩ := x.rdy; exact ⟨vs, PlainList.keep e (hs _ (by simp [Book.addrs]) (Ne.symm x.apart.DR)), r⟩
end
theorem meth_list {M : Model} {A : Around} {E : Value → Shared → Prop} {s : Shared} {l : Addr} {its : Array Value} {name : Str} {id : String} {pl : Sem Bool} {Q : Value × List Value → Shared → Prop} (slot : Slot "list" name id) (hty : typeOf (.builtin id) = pure (.type "method_descriptor"))
    (hl : s.heap.PlainList l its) (h : Q (.builtin id, [.ref l]) s) : wpAny M A (getMethod (.ref l) name pl) Q E s := by
  obtain ⟨n, e⟩ := hl
  exact getMethod_builtin ⟨_, e, rfl⟩ PySem.F.plainAttrs_list slot hty (fun a q => by cases q; exact ⟨_, e, rfl⟩) h
section
variable {prog : Program} {w : World} {A : Around} {E : Value → Shared → Prop} {s : Shared} {x D : Addr} {a : Nat → Int} {t : Nat → Tok} {v1 v2 v3 v4 : Value} {n : Nat} {h₀ : Heap} {L : Addr} {m : Str → Option Value}
theorem ts_set2 {Q : Unit → Shared → Prop} {v : Value} (F : Fr h₀ L s.heap m) (X : (KK' w).In s.heap) (hi : s.heap.get? x = some (instObj 164 D)) (hD : s.heap.get? D = some (attrObj a t v1 v2 v3 v4 n)) (hDL : D ≠ L) (hD0 : h₀.get? D = none)
    (h : ∀ h' tk, Fr h₀ L h' m → h'.get? D = some (attrObj a t v1 v v3 v4 n) → Sub [D, L] s.heap h' → Q () { s with heap := h', toks := tk }) :
    wpAny (model prog w) A (setAttr (.ref x) (Str.ofString "_ready_nodes") v) Q E s :=
  ts_set (od' := attrObj a t v1 v v3 v4 n) (es := [⟨a 0, .str (Str.ofString "_node2info") (t 0), v1⟩, ⟨a 1, .str (Str.ofString "_ready_nodes") (t 1), v⟩, ⟨a 2, .str (Str.ofString "_npassedout") (t 2), v3⟩, ⟨a 3, .str (Str.ofString "_nfinished") (t 3), v4⟩]) (k := n) F X hi hD hDL hD0 ta2 (by kernel_rfl) (fun _ => by kernel_rfl) rfl (by simp) h
theorem ts_set3 {Q : Unit → Shared → Prop} {v : Value} (F : Fr h₀ L s.heap m) (X : (KK' w).In s.heap) (hi : s.heap.get? x = some (instObj 164 D)) (hD : s.heap.get? D = some (attrObj a t v1 v2 v3 v4 n)) (hDL : D ≠ L) (hD0 : h₀.get? D = none)
    (h : ∀ h' tk, Fr h₀ L h' m → h'.get? D = some (attrObj a t v1 v2 v v4 n) → Sub [D, L] s.heap h' → Q () { s with heap := h', toks := tk }) :
    wpAny (model prog w) A (setAttr (.ref x) (Str.ofString "_npassedout") v) Q E s :=
  ts_set (od' := attrObj a t v1 v2 v v4 n) (es := [⟨a 0, .str (Str.ofString "_node2info") (t 0), v1⟩, ⟨a 1, .str (Str.ofString "_ready_nodes") (t 1), v2⟩, ⟨a 2, .str (Str.ofString "_npassedout") (t 2), v⟩, ⟨a 3, .str (Str.ofString "_nfinished") (t 3), v4⟩]) (k := n) F X hi hD hDL hD0 ta3 (by kernel_rfl) (fun _ => by kernel_rfl) rfl (by simp) h
theorem ts_set4 {Q : Unit → Shared → Prop} {v : Value} (F : Fr h₀ L s.heap m) (X : (KK' w).In s.heap) (hi : s.heap.get? x = some (instObj 164 D)) (hD : s.heap.get? D = some (attrObj a t v1 v2 v3 v4 n)) (hDL : D ≠ L) (hD0 : h₀.get? D = none)
    (h : ∀ h' tk, Fr h₀ L h' m → h'.get? D = some (attrObj a t v1 v2 v3 v n) → Sub [D, L] s.heap h' → Q () { s with heap := h', toks := tk }) :
    wpAny (model prog w) A (setAttr (.ref x) (Str.ofString "_nfinished") v) Q E s :=
  ts_set (od' := attrObj a t v1 v2 v3 v n) (es := [⟨a 0, .str (Str.ofString "_node2info") (t 0), v1⟩, ⟨a 1, .str (Str.ofString "_ready_nodes") (t 1), v2⟩, ⟨a 2, .str (Str.ofString "_npassedout") (t 2), v3⟩, ⟨a 3, .str (Str.ofString "_nfinished") (t 3), v⟩]) (k := n) F X hi hD hDL hD0 ta4 (by kernel_rfl) (fun _ => by kernel_rfl) rfl (by simp) h
end
end Mine
end
section
open PySem PySem.W PyProof.Rows
set_option Elab.async false
set_option maxRecDepth 100000
set_option maxHeartbeats 8000000
namespace Mine
theorem peek1_here {α : Type} {K : Frag} {M : Model} {A : Around} {E : Value → Shared → Prop} {Q : α → Shared → Prop} {s : Shared} {o : Obj} {r : Addr → α} (X : K.In s.heap)
    (q : Q (r s.heap.objs.size) { s with heap := s.heap.push o }) : ∀ (t : Sem α) (g : Addr → Option α), peek1 K ⟨M.prog, M.w.params⟩ t = some (o, g) → (∀ D, g D = some (r D)) → wpAny M A t Q E s := by
  intro t
  induction t with
  | rule _ k ih => intro g e hg Γ p hΓ; exact ih () g e hg Γ p hΓ
  | point _ k ih => intro g e hg Γ p hΓ; exact ih () g e hg Γ p hΓ
  | ask k ih => intro g e hg Γ p hΓ; exact ih _ g e hg Γ p hΓ
  | load a _ k ih =>
    intro g e hg Γ p hΓ
    simp only [peek1] at e
    split at e
    · rename_i ob ho; exact ⟨ob, X _ _ ho, ih ob g e hg Γ p hΓ⟩
    · cases e
  | alloc ob k _ =>
    intro g e hg
    obtain ⟨e1, e2⟩ := Prod.mk.inj (Option.some.inj (show some (ob, fun D => peek K ⟨M.prog, M.w.params⟩ (k D)) = some (o, g) from e))
    subst e1; subst e2
    show wpAny M A (alloc ob >>= k) Q E s
    exact wpAny_bind (wpAny_alloc ((Looks.of_peek (M := M) (h := s.heap.push ob) (X.keeps fun b x hb => Heap.get?_push_of_some _ hb) (hg s.heap.objs.size)).here (s := { s with heap := s.heap.push ob }) q))
  | _ => intro g e; cases e
section
variable {K : Frag} {w : World} {prog : Program} {A : Around} {p : Program} {loose : List Str} {mean : ExcName → Option Value} {mg mb : Str → Option Value} {s : Shared} {R : Result → Shared → Prop}
  {name qual : Str} {params : Arguments} {body : List Stmt} {scope : Scope} {dV kV doc pm cdv ct oc : Value} {an od : Option Addr} {osl : Array (Option Value)} {f : Addr} {args : Args}
/-- a call of a def with a starred parameter -/
theorem code_rest {vs : List Value} {g₁ : Addr → Option (List (Str × Value))} {binds : Addr → List (Str × Value)} (X : K.In s.heap) (T : Top p loose mean mg mb s.heap)
    (ho : K.lookup f = some ⟨oc, od, .func (fnOf name qual params body scope dV kV doc pm an cdv ct), osl⟩) (hcd : codeIn K cdv qual = true) (hroom : A.depth < recursionLimit)
    (hp : peek1 K ⟨prog, w.params⟩ (bindArgs (fnOf name qual params body scope dV kV doc pm an cdv ct) args) = some (({ cls := .type "tuple", data := .seq vs.toArray } : Obj), g₁))
    (hg : ∀ D, g₁ D = some (binds D)) (hloc : ∀ D, ∀ y ∈ binds D, scope.names.lookup y.1 = some .local)
    (h : ∀ D L' h₁ tk, s.heap.get? D = none → D ≠ L' → h₁.get? D = some { cls := .type "tuple", data := .seq vs.toArray } → Fr s.heap L' h₁ (fun y => (binds D).reverse.lookup y) →
      wpAny (model prog w) (A.deeper (envOf qual scope L' f cdv)) (execs body (envOf qual scope L' f cdv))
        (fun fl s' => R (.ok (.ret (match fl with | .ret v => v | _ => .none))) s')
        (fun e s' => wpAny (model prog w) (A.deeper (envOf qual scope L' f cdv)) (leaving (envOf qual scope L' f cdv) e) (fun _ s'' => R (.error e) s'') (fun e' s'' => R (.error e') s'') s')
        { s with heap := h₁, toks := tk })
    (hco : scope.isCoroutine = false) (hgen : scope.isGenerator = false) (hk : scope.kind = .function)
    (hcell : ∀ x ∈ scope.names, x.2 ≠ .cell) : codeAny (model prog w) A (.call (.ref f) args) R s := by
  refine codeAny_call_function (fd := fnOf name qual params body scope dV kV doc pm an cdv ct) (body := body) hroom (X _ _ ho) rfl hco hgen rfl (codeRec_of X hcd) ?_
  refine peek1_here (o := ({ cls := .type "tuple", data := .seq vs.toArray } : Obj)) X (r := binds) ?_ _ g₁ hp hg
  refine wpAny_newFunctionEnv (s := { s with heap := s.heap.push { cls := .type "tuple", data := .seq vs.toArray } }) hcell (hloc _) (fun h₁ hns hsb => ⟨?_, codeAny_func ?_⟩) hk
  · exact (T.nolimit.keeps fun b o e => Heap.get?_push_of_some _ e).fresh _ hsb
  have hk₁ : ∀ b o, (s.heap.push ({ cls := .type "tuple", data := .seq vs.toArray } : Obj)).get? b = some o → h₁.get? b = some o := fun b o e => hsb.extBut b o (Nat.ne_of_lt (Heap.lt_size e)) (Heap.get?_push_of_some _ e)
  have hlt : s.heap.objs.size < (s.heap.push ({ cls := .type "tuple", data := .seq vs.toArray } : Obj)).objs.size := Heap.lt_size (Heap.get?_push_size _ rfl)
  refine h s.heap.objs.size _ h₁ _ ?_ (Nat.ne_of_lt hlt) (hk₁ _ _ (Heap.get?_push_size _ rfl)) ⟨hns, fun b o e => hk₁ b o (Heap.get?_push_of_some _ e), Nat.le_of_lt hlt⟩
  cases e : s.heap.get? s.heap.objs.size with
  | none => rfl
  | some o => exact absurd (Heap.lt_size e) (Nat.lt_irrefl _)
end
theorem meth_dict {prog : Program} {w : World} {A : Around} {E : Value → Shared → Prop} {s : Shared} {d : Addr} {kvs : List (Int × Value)} {name : Str} {id : String} {pl : Sem Bool} {Q : Value × List Value → Shared → Prop} (slot : Slot "dict" name id) (hty : typeOf (.builtin id) = pure (.type "method_descriptor"))
    (hm : s.heap.DictOf (intKind prog w) d kvs) (h : Q (.builtin id, [.ref d]) s) : wpAny (model prog w) A (getMethod (.ref d) name pl) Q E s :=
  getMethod_builtin hm.typeIs PySem.F.plainAttrs_dict slot hty hm.mapOf.noDict h
end Mine
end
section
open PySem PySem.W PyProof.Rows
set_option Elab.async false
set_option maxRecDepth 100000
set_option maxHeartbeats 8000000
namespace Mine
theorem init_c {w : World} {A : Around} {mean : ExcName → Option Value} {mg mb : Str → Option Value} {s : Shared} {R : Result → Shared → Prop} {x dx : Addr} {hb : Heap}
    (X : (hd.heap_1 w.params).In hb) (T : Top Mine.view (looseW Mine.view [Str.ofString "_NodeInfo"]) mean mg mb hb) (kb : Ext hb s.heap) (hx0 : hb.get? x = none) (hd0 : hb.get? dx = none) (hroom : A.depth < recursionLimit)
    (hx : s.heap.get? x = some (instObj 164 dx)) (hdx : s.heap.get? dx = some emptyDict) (hne : x ≠ dx)
    (hQ : ∀ h' tk N2, h'.get? x = some (instObj 164 dx) → (∃ a t n t3 t4, h'.get? dx = some (attrObj a t (.ref N2) .none (.int 0 t3) (.int 0 t4) n)) → h'.DictOf (intKind PySem.Challenge.rw_nb0259_01.row.prog w) N2 [] → (N2 == sysModules) = false → s.heap.get? N2 = none → N2 ≠ x → N2 ≠ dx → Sub [x, dx] s.heap h' → R (.ok (.ret .none)) { s with heap := h', toks := tk }) :
    codeAny (model PySem.Challenge.rw_nb0259_01.row.prog w) A (.call (.ref 100) ⟨[.ref x], []⟩) R s := by
  have Xs := X.keeps kb
  have Ts := T.keeps kb
  revert Xs; k_fill; intro Xs
  (refine' code_base (K := hd.heap_1 w.params) ?k3 ?k5 ?k6 ?k7 ?k8 ?k9 ?kB ?_ ?c2 ?c3 ?c4 ?c5; (case k3 => exact Xs); (case k5 => exact Ts); (case k6 => k_is); (case k7 => k_is); (case k8 => exact hroom); (case k9 => exact kp_binds Xs fun _ => rfl); (case c5 => decide); (case kB => exact locs rfl); (case c2 => exact rfl); (case c3 => exact rfl); (case c4 => exact rfl); k_whole; intro L' h' tk' F' N'; (try dsimp only))
  clear N'
  obtain ⟨g, G, Fg⟩ := ground (mu := [x, dx]) X T kb (fun a ha => by simp at ha; rcases ha with rfl | rfl; exact hx0; exact hd0) (fun a ha => by simp at ha; rcases ha with rfl | rfl; exact ⟨_, hx⟩; exact ⟨_, hdx⟩) F'
  have N' : News g L' h' [(x, instObj 164 dx), (dx, dictOf [] 0)] := fun p hp => by
    simp at hp
    rcases hp with rfl | rfl
    · exact ⟨F'.keep _ _ hx, G.hL _ (by simp), G.hg _ (by simp)⟩
    · exact ⟨F'.keep _ _ hdx, G.hL _ (by simp), G.hg _ (by simp)⟩
  have kF : Ext s.heap h' := F'.keep
  clear F' Xs Ts
  have Xg := G.X
  have Tg := G.T
  iterate 28 walk1
  iterate 2 walk1
  dsimp only
  walk1
  rename_i d' _ o' lo' _ _ hi' _ l1 _ _ _ h9 F9 N9
  have n1 := N9 _ (.head _)
  have n2 := N9 _ (.tail _ (.head _))
  have n3 := N9 _ (.tail _ (.tail _ (.head _)))
  have e1 : d' ≠ x := Nat.ne_of_gt l1.1
  have e2 : d' ≠ dx := Nat.ne_of_gt l1.2
  refine hQ h9 _ d' n2.1 ⟨fun i => match i with | 0 => _ | 1 => _ | 2 => _ | _ => _, fun i => match i with | 0 => _ | 1 => _ | 2 => _ | _ => _, _, _, _, n3.1⟩ (Heap.dictOf_iff.mpr ⟨_, n1.1, hi'⟩) lo' (G.back _ (by simp [e1, e2]) n1.2.2) e1 e2 (G.sub _ _ F9)
theorem st0 {w : World} : takerIn (KK' w) 67 (Str.ofString "node") = some (some (.ref 68)) := by kernel_rfl
theorem st2 {w : World} : takerIn (KK' w) 67 (Str.ofString "successors") = some (some (.ref 70)) := by kernel_rfl
theorem ty0 {w : World} : typeIn (KK' w) (.ref 68) = some (.type "member_descriptor") := by kernel_rfl
theorem ty2 {w : World} : typeIn (KK' w) (.ref 70) = some (.type "member_descriptor") := by kernel_rfl
abbrev slotObj (dx : Addr) (sl : Array (Option Value)) : Obj := { cls := .ref 67, dict := some dx, data := .plain, slots := sl }
theorem nd_slot {prog : Program} {w : World} {A : Around} {E : Value → Shared → Prop} {s : Shared} {x dx pd : Addr} {h₀ : Heap} {L : Addr} {m : Str → Option Value} {Q : Unit → Shared → Prop} {name : Str} {i : Nat} {v : Value} {sl sl' : Array (Option Value)} (F : Fr h₀ L s.heap m) (X : (KK' w).In s.heap)
    (st : takerIn (KK' w) 67 name = some (some (.ref pd))) (ty : typeIn (KK' w) (.ref pd) = some (.type "member_descriptor")) (si : slotIn (KK' w) pd 67 = some i)
    (hx : s.heap.get? x = some (slotObj dx sl)) (he : s.heap.get? dx = some emptyDict) (hxL : x ≠ L) (hx0 : h₀.get? x = none) (hi : i < 1000)
    (e : slotObj dx ((sl ++ Array.replicate (i + 1 - sl.size) none).setIfInBounds i (some v)) = slotObj dx sl')
    (h : ∀ h' tk, Fr h₀ L h' m → h'.get? x = some (slotObj dx sl') → Sub [x, L] s.heap h' → Q () { s with heap := h', toks := tk }) :
    wpAny (model prog w) A (setAttr (.ref x) name v) Q E s := by
  have I : InstAt s.heap x (slotObj dx sl) 67 (some emptyDict) := ⟨hx, rfl, rfl, he⟩
  refine set_plain X I saND ?_
  obtain ⟨pre, post, N, h1, h2, hall⟩ := all_news (h₀ := h₀) (L := L) hx hxL hx0
  refine osa_descr (s := { s with toks := s.toks + 1 }) KF.slot_mset X I poND st ty (slot_set F N X I si hi h1 h2 (ox' := slotObj dx sl') e rfl fun h' F' N' => ?_)
  obtain ⟨q1, q2⟩ := sub_of_news F' N' F hall
  exact h h' _ F' q1 q2
theorem node_init_c {w : World} {A : Around} {mean : ExcName → Option Value} {mg mb : Str → Option Value} {s : Shared} {R : Result → Shared → Prop} {x dx : Addr} {hb : Heap} {i : Int} {ti : Tok}
    (X : (hd.heap_1 w.params).In hb) (T : Top Mine.view (looseW Mine.view [Str.ofString "_NodeInfo"]) mean mg mb hb) (kb : Ext hb s.heap) (hx0 : hb.get? x = none) (hd0 : hb.get? dx = none) (hroom : A.depth < recursionLimit)
    (hx : s.heap.get? x = some (instObj 67 dx)) (hdx : s.heap.get? dx = some emptyDict) (hne : x ≠ dx)
    (hQ : ∀ h' tk sl t2, h'.get? x = some (nodeObj i 0 sl dx ti t2) → h'.get? dx = some emptyDict → h'.PlainList sl #[] → s.heap.get? sl = none → sl ≠ x → sl ≠ dx → Sub [x, dx] s.heap h' → R (.ok (.ret .none)) { s with heap := h', toks := tk }) :
    codeAny (model PySem.Challenge.rw_nb0259_01.row.prog w) A (.call (.ref 63) ⟨[.ref x, .int i ti], []⟩) R s := by
  have Xs := X.keeps kb
  have Ts := T.keeps kb
  revert Xs; k_fill; intro Xs
  (refine' code_base (K := hd.heap_1 w.params) ?k3 ?k5 ?k6 ?k7 ?k8 ?k9 ?kB ?_ ?c2 ?c3 ?c4 ?c5; (case k3 => exact Xs); (case k5 => exact Ts); (case k6 => k_is); (case k7 => k_is); (case k8 => exact hroom); (case k9 => exact BindsTo.of_eq rfl); (case c5 => decide); (case kB => exact locs rfl); (case c2 => exact rfl); (case c3 => exact rfl); (case c4 => exact rfl); k_whole; intro L' h' tk' F' N'; (try dsimp only))
  clear N'
  obtain ⟨g, G, Fg⟩ := ground (mu := [x, dx]) X T kb (fun a ha => by simp at ha; rcases ha with rfl | rfl; exact hx0; exact hd0) (fun a ha => by simp at ha; rcases ha with rfl | rfl; exact ⟨_, hx⟩; exact ⟨_, hdx⟩) F'
  have N' : News g L' h' [(x, instObj 67 dx), (dx, dictOf [] 0)] := fun p hp => by
    simp at hp
    rcases hp with rfl | rfl
    · exact ⟨F'.keep _ _ hx, G.hL _ (by simp), G.hg _ (by simp)⟩
    · exact ⟨F'.keep _ _ hdx, G.hL _ (by simp), G.hg _ (by simp)⟩
  have kF : Ext s.heap h' := F'.keep
  clear F' Xs Ts
  have Xg := G.X
  have Tg := G.T
  have hx1 : h'.get? x = some (slotObj dx #[]) := kF _ _ hx
  have he1 := kF _ _ hdx
  have X1 := Xg.keeps Fg.keep
  clear N'
  iterate 4 walk1
  refine nd_slot Fg X1 st0 ty0 si0 hx1 he1 (G.hL _ (by simp)) (G.hg _ (by simp)) (by decide) (sl' := #[some (.int i ti)]) rfl fun h2 tk2 F2 hx2 k2 => ?_
  have he2 := k2 _ _ (by simp [hne.symm, G.hL dx (by simp)]) he1
  have X2 := Xg.keeps F2.keep
  clear Fg X1 he1 hx1
  iterate 4 walk1
  refine nd_slot F2 X2 st1 ty1 si1 hx2 he2 (G.hL _ (by simp)) (G.hg _ (by simp)) (by decide) (sl' := #[some (.int i ti), some (.int 0 _)]) rfl fun h3 tk3 F3 hx3 k3 => ?_
  have he3 := k3 _ _ (by simp [hne.symm, G.hL dx (by simp)]) he2
  have X3 := Xg.keeps F3.keep
  clear F2 X2 he2 hx2
  iterate 4 walk1
  refine wpAny_newList ?_
  have hIs : ∀ a o, h3.get? a = some o → a ≠ h3.objs.size := fun a o e q => absurd (Heap.lt_size e) (by rw [q]; exact Nat.lt_irrefl _)
  have F4 := Fr.push F3 { cls := .type "list", data := .seq ([] : List Value).toArray }
  have k4 : Ext h3 (h3.push { cls := .type "list", data := .seq ([] : List Value).toArray }) := fun b o e => Heap.get?_push_of_some _ e
  have hl4 : (h3.push { cls := .type "list", data := .seq ([] : List Value).toArray }).PlainList h3.objs.size #[] := ⟨_, Heap.get?_push_size _ rfl⟩
  have hsx := hIs _ _ hx3
  have hsd := hIs _ _ he3
  have hsL : L' ≠ h3.objs.size := Nat.ne_of_lt F3.ns.lt
  have hss : s.heap.get? h3.objs.size = none := by
    cases e : s.heap.get? h3.objs.size with
    | none => rfl
    | some o => exact absurd rfl (hIs _ _ (G.sub _ _ F3 _ _ (by simp [hsx.symm, hsd.symm]) e))
  generalize h3.push { cls := .type "list", data := .seq ([] : List Value).toArray } = h4 at F4 k4 hl4 ⊢
  generalize h3.objs.size = sl at *
  have hx4 := k4 _ _ hx3
  have he4 := k4 _ _ he3
  have X4 := Xg.keeps F4.keep
  clear F3 X3
  walk1
  refine nd_slot F4 X4 st2 ty2 si2 hx4 he4 (G.hL _ (by simp)) (G.hg _ (by simp)) (by decide) (sl' := #[some (.int i ti), some (.int 0 _), some (.ref sl)]) rfl fun h5 tk5 F5 hx5 k5 => ?_
  have he5 := k5 _ _ (by simp [hne.symm, G.hL dx (by simp)]) he4
  have hl5 := PlainList.keep hl4 fun o e => k5 _ o (by simp [hsx.symm, hsL.symm]) e
  walk1
  exact hQ h5 _ sl _ hx5 he5 hl5 hss hsx.symm hsd.symm (G.sub _ _ F5)
end Mine
end
section
open PySem PySem.W PyProof.Rows
set_option Elab.async false
set_option maxRecDepth 100000
set_option maxHeartbeats 8000000
namespace Mine
local macro_rules | `(tactic| walk_at "ga") => `(tactic| first
  | (((with_reducible show wpAny _ _ (getAttr (Value.ref _) (Str.ofString "_node2info") _) _ _ _); refine ts_get1 (by assumption) (by assumption) (by assumption) rfl ?_))
  | (((with_reducible show wpAny _ _ (getAttr (Value.ref _) (Str.ofString "_ready_nodes") _) _ _ _); refine ts_get2 (by assumption) (by assumption) (by assumption) rfl ?_))
  | (((with_reducible show wpAny _ _ (getAttr (Value.ref _) (Str.ofString "_npassedout") _) _ _ _); refine ts_get3 (by assumption) (by assumption) (by assumption) rfl ?_))
  | (((with_reducible show wpAny _ _ (getAttr (Value.ref _) (Str.ofString "_nfinished") _) _ _ _); refine ts_get4 (by assumption) (by assumption) (by assumption) rfl ?_))
  | (((with_reducible show wpAny _ _ (getAttr (Value.ref _) (Str.ofString "node") _) _ _ _); refine nd_get0 (by assumption) (by assumption) (by assumption) ?_))
  | (((with_reducible show wpAny _ _ (getAttr (Value.ref _) (Str.ofString "npredecessors") _) _ _ _); refine nd_get1 (by assumption) (by assumption) (by assumption) ?_))
  | (((with_reducible show wpAny _ _ (getAttr (Value.ref _) (Str.ofString "successors") _) _ _ _); refine nd_get2 (by assumption) (by assumption) (by assumption) ?_)))
local macro_rules | `(tactic| walk_at "nm") => `(tactic| (with_reducible show wpAny _ _ (eval (Expr.Name _ _) _) _ _ _);
  (with_unfolding_all refine nm_local (by assumption) (by assumption) ?_ rfl rfl (by decide)))
local macro_rules | `(tactic| walk_at "w") => `(tactic| first | walk_at "ga" | walk_at "nm" | (with_reducible refine Attribute_name ?_) | walk1)

def Book.addrs0 (b : Book) (dom : List Int) : List Addr := b.S :: b.D :: b.N2 :: dom.flatMap fun i => [b.nd i, b.sl i, b.dd i]
theorem Book.nd_mem0 {b : Book} {dom : List Int} {i : Int} (h : i ∈ dom) : b.nd i ∈ b.addrs0 dom := by
  unfold Book.addrs0
  exact List.mem_cons_of_mem _ (List.mem_cons_of_mem _ (List.mem_cons_of_mem _ (List.mem_flatMap.mpr ⟨i, h, by simp⟩)))
theorem Book.sl_mem0 {b : Book} {dom : List Int} {i : Int} (h : i ∈ dom) : b.sl i ∈ b.addrs0 dom := by
  unfold Book.addrs0
  exact List.mem_cons_of_mem _ (List.mem_cons_of_mem _ (List.mem_cons_of_mem _ (List.mem_flatMap.mpr ⟨i, h, by simp⟩)))
theorem Book.dd_mem0 {b : Book} {dom : List Int} {i : Int} (h : i ∈ dom) : b.dd i ∈ b.addrs0 dom := by
  unfold Book.addrs0
  exact List.mem_cons_of_mem _ (List.mem_cons_of_mem _ (List.mem_cons_of_mem _ (List.mem_flatMap.mpr ⟨i, h, by simp⟩)))
structure Apart0 (b : Book) (dom : List Int) : Prop where
  SD : b.S ≠ b.D
  SN : b.S ≠ b.N2
  DN : b.D ≠ b.N2
  nd : ∀ i ∈ dom, b.nd i ≠ b.S ∧ b.nd i ≠ b.D ∧ b.nd i ≠ b.N2
  sl : ∀ i ∈ dom, b.sl i ≠ b.S ∧ b.sl i ≠ b.D ∧ b.sl i ≠ b.N2
  dd : ∀ i ∈ dom, b.dd i ≠ b.S ∧ b.dd i ≠ b.D ∧ b.dd i ≠ b.N2
  nn : ∀ i ∈ dom, ∀ j ∈ dom, b.nd i = b.nd j → i = j
  ss : ∀ i ∈ dom, ∀ j ∈ dom, b.sl i = b.sl j → i = j
  ns : ∀ i ∈ dom, ∀ j ∈ dom, b.nd i ≠ b.sl j
  nx : ∀ i ∈ dom, ∀ j ∈ dom, b.dd i ≠ b.nd j
  sx : ∀ i ∈ dom, ∀ j ∈ dom, b.dd i ≠ b.sl j
/-- a sorter before prepare -/
structure Pre (prog : Program) (w : World) (h : Heap) (b : Book) (X : SSt) : Prop where
  inst : h.get? b.S = some (instObj 164 b.D)
  attrs : ∃ a t n t3 t4, h.get? b.D = some (attrObj a t (.ref b.N2) .none (.int 0 t3) (.int 0 t4) n)
  n2i : h.DictOf (intKind prog w) b.N2 (X.dom.map fun i => (i, .ref (b.nd i)))
  node : ∀ i ∈ X.dom, ∃ t1 t2, h.get? (b.nd i) = some (nodeObj i (X.np i) (b.sl i) (b.dd i) t1 t2)
  emp : ∀ i ∈ X.dom, h.get? (b.dd i) = some emptyDict
  lst : ∀ i ∈ X.dom, ∃ vs : List Value, h.PlainList (b.sl i) vs.toArray ∧ IntsAre vs (X.succ i)
  apart : Apart0 b X.dom
  sys : (b.N2 == sysModules) = false
section
variable {prog : Program} {w : World} {h h' : Heap} {b : Book} {X Z : SSt} {L : Addr}
theorem Pre.keep (x : Pre prog w h b X) (k : ∀ a ∈ b.addrs0 X.dom, ∀ o, h.get? a = some o → h'.get? a = some o) : Pre prog w h' b X where
  inst := k _ (by simp [Book.addrs0]) _ x.inst
  attrs := let ⟨a, t, n, t3, t4, e⟩ := x.attrs; ⟨a, t, n, t3, t4, k _ (by simp [Book.addrs0]) _ e⟩
  n2i := let ⟨o, es, ep, e, r⟩ := x.n2i; ⟨o, es, ep, k _ (by simp [Book.addrs0]) _ e, r⟩
  node := fun i hi => let ⟨t1, t2, e⟩ := x.node i hi; ⟨t1, t2, k _ (Book.nd_mem0 hi) _ e⟩
  emp := fun i hi => k _ (Book.dd_mem0 hi) _ (x.emp i hi)
  lst := fun i hi => let ⟨vs, e, r⟩ := x.lst i hi; ⟨vs, PlainList.keep e (k _ (Book.sl_mem0 hi)), r⟩
  apart := x.apart
  sys := x.sys
theorem Pre.alive (x : Pre prog w h b Z) : ∀ a ∈ b.addrs0 Z.dom, ∃ o, h.get? a = some o := by
  intro a ha
  unfold Book.addrs0 at ha
  simp only [List.mem_cons, List.mem_flatMap, List.not_mem_nil, or_false] at ha
  rcases ha with rfl | rfl | rfl | ⟨i, hi, rfl | rfl | rfl⟩
  · exact ⟨_, x.inst⟩
  · obtain ⟨_, _, _, _, _, e⟩ := x.attrs; exact ⟨_, e⟩
  · obtain ⟨o, _, _, e, _⟩ := x.n2i; exact ⟨o, e⟩
  · obtain ⟨_, _, e⟩ := x.node i hi; exact ⟨_, e⟩
  · obtain ⟨vs, ⟨_, e⟩, _⟩ := x.lst i hi; exact ⟨_, e⟩
  · exact ⟨_, x.emp i hi⟩
theorem Pre.set_np {k q : Int} {t1 tq : Tok} (x : Pre prog w h b Z) (hk : k ∈ Z.dom) (hL : ∀ a ∈ b.addrs0 Z.dom, a ≠ L) (hn : h'.get? (b.nd k) = some (nodeObj k q (b.sl k) (b.dd k) t1 tq)) (s : Sub [b.nd k, L] h h') :
    Pre prog w h' b { Z with np := fun i => if i = k then q else Z.np i } := by
  have hs : ∀ a ∈ b.addrs0 Z.dom, a ≠ b.nd k → ∀ o, h.get? a = some o → h'.get? a = some o := fun a ha hne o e => s a o (by simp [hne, hL a ha]) e
  have z := x.apart.nd k hk
  refine ⟨hs _ (by simp [Book.addrs0]) (Ne.symm z.1) _ x.inst, ?_, ?_, ?_, fun i hi => hs _ (Book.dd_mem0 hi) (x.apart.nx i hi k hk) _ (x.emp i hi), ?_, x.apart, x.sys⟩
  · obtain ⟨a, t, n, t3, t4, e⟩ := x.attrs; exact ⟨a, t, n, t3, t4, hs _ (by simp [Book.addrs0]) (Ne.symm z.2.1) _ e⟩
  · obtain ⟨o, es, ep, e, r⟩ := x.n2i; exact ⟨o, es, ep, hs _ (by simp [Book.addrs0]) (Ne.symm z.2.2) _ e, r⟩
  · intro i hi
    by_cases q' : i = k
    · subst q'; exact ⟨_, _, by simpa using hn⟩
    · obtain ⟨t1, t2, e⟩ := x.node i hi
      exact ⟨t1, t2, by simpa [q'] using hs _ (Book.nd_mem0 hi) (fun e => q' (x.apart.nn i hi k hk e)) _ e⟩
  · intro i hi
    obtain ⟨vs, e, r⟩ := x.lst i hi
    exact ⟨vs, PlainList.keep e (hs _ (Book.sl_mem0 hi) (Ne.symm (x.apart.ns k hk i hi))), r⟩
theorem Pre.set_succ {k : Int} {vs : List Value} {r : List Int} (x : Pre prog w h b Z) (hk : k ∈ Z.dom) (hL : ∀ a ∈ b.addrs0 Z.dom, a ≠ L) (hn : h'.PlainList (b.sl k) vs.toArray) (hr : IntsAre vs r) (s : Sub [b.sl k, L] h h') :
    Pre prog w h' b { Z with succ := fun i => if i = k then r else Z.succ i } := by
  have hs : ∀ a ∈ b.addrs0 Z.dom, a ≠ b.sl k → ∀ o, h.get? a = some o → h'.get? a = some o := fun a ha hne o e => s a o (by simp [hne, hL a ha]) e
  have z := x.apart.sl k hk
  refine ⟨hs _ (by simp [Book.addrs0]) (Ne.symm z.1) _ x.inst, ?_, ?_, ?_, fun i hi => hs _ (Book.dd_mem0 hi) (x.apart.sx i hi k hk) _ (x.emp i hi), ?_, x.apart, x.sys⟩
  · obtain ⟨a, t, n, t3, t4, e⟩ := x.attrs; exact ⟨a, t, n, t3, t4, hs _ (by simp [Book.addrs0]) (Ne.symm z.2.1) _ e⟩
  · obtain ⟨o, es, ep, e, r⟩ := x.n2i; exact ⟨o, es, ep, hs _ (by simp [Book.addrs0]) (Ne.symm z.2.2) _ e, r⟩
  · intro i hi
    obtain ⟨t1, t2, e⟩ := x.node i hi
    exact ⟨t1, t2, hs _ (Book.nd_mem0 hi) (x.apart.ns i hi k hk) _ e⟩
  · intro i hi
    by_cases q' : i = k
    · subst q'; exact ⟨vs, hn, by simpa using hr⟩
    · obtain ⟨vs, e, r⟩ := x.lst i hi
      exact ⟨vs, PlainList.keep e (hs _ (Book.sl_mem0 hi) fun e => q' (x.apart.ss i hi k hk e)), by simpa [q'] using r⟩
end
/-- an object of a class of the text -/
theorem make_own {prog : Program} {w : World} {A : Around} {K : Frag} {C fI : Addr} {s : Shared} {R : Result → Shared → Prop} {rest : List Value} {kw : List (Str × Value)} (X : K.In s.heap) (hm : makesIn K C = true)
    (hi : findIn K (.ref C) "__init__" = some (some (.ref fI))) (hf : typeIn K (.ref fI) = some (.type "function"))
    (h : ∀ x dx h', Ext s.heap h' → s.heap.get? x = none → s.heap.get? dx = none → x ≠ dx → h'.get? x = some (instObj C dx) → h'.get? dx = some emptyDict →
      codeAny (model prog w) (A.under (.builtin "type.__call__" ⟨.ref C :: rest, kw⟩)) (.call (.ref fI) ⟨.ref x :: rest, kw⟩) (InitBack x R) { s with heap := h' }) :
    codeAny (model prog w) A (.call (.ref C) ⟨rest, kw⟩) R s := by
  obtain ⟨hh, g, d, t, os⟩ := s
  have n0 : ∀ n, hh.objs.size ≤ n → hh.get? n = none := fun n hn => by
    cases e : hh.get? n with
    | none => rfl
    | some o => exact absurd (Heap.lt_size e) (Nat.not_lt.mpr hn)
  refine make_core (makes_of X hm) (looks_findIn X hi) (fun self => bind_fn X self hf) (.inl rfl) (h _ hh.objs.size _ (fun b o e => Heap.get?_push_of_some _ (Heap.get?_push_of_some _ e)) (n0 _ (Nat.le_succ _)) (n0 _ (Nat.le_refl _)) (Nat.ne_of_gt (Nat.lt_succ_self _)) (by heap_get) (Heap.get?_push_of_some _ (Heap.get?_push_size _ rfl)))
/-- a name's node, made where it is lacking -/
def ensure (Z : SSt) (k : Int) : SSt := if k ∈ Z.dom then Z else { Z with dom := Z.dom ++ [k], np := fun i => if i = k then 0 else Z.np i, succ := fun i => if i = k then [] else Z.succ i }
def Book.more (b : Book) (k : Int) (n s d : Addr) : Book := { b with nd := fun i => if i = k then n else b.nd i, sl := fun i => if i = k then s else b.sl i, dd := fun i => if i = k then d else b.dd i }
theorem stored_new {f : Int → Value} {dom : List Int} {k : Int} {v : Value} (h : k ∉ dom) : stored (dom.map fun i => (i, f i)) k v = dom.map (fun i => (i, f i)) ++ [(k, v)] := by
  unfold stored
  rw [if_neg]
  simp only [List.any_map, List.any_eq_true, Function.comp, decide_eq_true_eq, not_exists, not_and]
  exact fun x hx q => h (q ▸ hx)
theorem Pre.grow {prog : Program} {w : World} {h h' : Heap} {b : Book} {Z : SSt} {k : Int} {n s d : Addr} {t1 t2 : Tok} (x : Pre prog w h b Z) (hk : k ∉ Z.dom)
    (fn : ∀ a ∈ b.addrs0 Z.dom, a ≠ n) (fs : ∀ a ∈ b.addrs0 Z.dom, a ≠ s) (fd : ∀ a ∈ b.addrs0 Z.dom, a ≠ d) (ns : n ≠ s) (nd : n ≠ d) (sd : s ≠ d)
    (hn : h'.get? n = some (nodeObj k 0 s d t1 t2)) (hs : h'.PlainList s #[]) (hd : h'.get? d = some emptyDict) (hm : h'.DictOf (intKind prog w) b.N2 (stored (Z.dom.map fun i => (i, .ref (b.nd i))) k (.ref n)))
    (kp : ∀ a ∈ b.addrs0 Z.dom, a ≠ b.N2 → ∀ o, h.get? a = some o → h'.get? a = some o) : Pre prog w h' (b.more k n s d) (ensure Z k) := by
  have ne : ∀ i ∈ Z.dom, i ≠ k := fun i hi q => hk (q ▸ hi)
  have e : ensure Z k = { Z with dom := Z.dom ++ [k], np := fun i => if i = k then 0 else Z.np i, succ := fun i => if i = k then [] else Z.succ i } := if_neg hk
  have enk : (b.more k n s d).nd k = n := if_pos rfl
  have esk : (b.more k n s d).sl k = s := if_pos rfl
  have edk : (b.more k n s d).dd k = d := if_pos rfl
  have en : ∀ i ∈ Z.dom, (b.more k n s d).nd i = b.nd i := fun i hi => if_neg (ne i hi)
  have es : ∀ i ∈ Z.dom, (b.more k n s d).sl i = b.sl i := fun i hi => if_neg (ne i hi)
  have ed : ∀ i ∈ Z.dom, (b.more k n s d).dd i = b.dd i := fun i hi => if_neg (ne i hi)
  have cs : ∀ {P : Int → Prop}, (∀ i ∈ Z.dom, P i) → P k → ∀ i ∈ Z.dom ++ [k], P i := fun h1 h2 i hi => by
    rcases List.mem_append.mp hi with q | q
    · exact h1 i q
    · rw [List.mem_singleton.mp q]; exact h2
  have bS : b.S ∈ b.addrs0 Z.dom := by simp [Book.addrs0]
  have bD : b.D ∈ b.addrs0 Z.dom := by simp [Book.addrs0]
  have bN : b.N2 ∈ b.addrs0 Z.dom := by simp [Book.addrs0]
  have ap := x.apart
  rw [e]
  refine ⟨kp _ bS ap.SN _ x.inst, ?_, ?_, ?_, ?_, ?_, ?_, x.sys⟩
  · obtain ⟨a, t, n, t3, t4, e⟩ := x.attrs; exact ⟨a, t, n, t3, t4, kp _ bD ap.DN _ e⟩
  · rw [stored_new hk] at hm
    have : (Z.dom ++ [k]).map (fun i => (i, Value.ref ((b.more k n s d).nd i))) = Z.dom.map (fun i => (i, Value.ref (b.nd i))) ++ [(k, .ref n)] := by
      rw [List.map_append]
      congr 1
      · exact List.map_congr_left fun i hi => by rw [en i hi]
      · simp [enk]
    show h'.DictOf (intKind prog w) b.N2 ((Z.dom ++ [k]).map fun i => (i, Value.ref ((b.more k n s d).nd i)))
    rw [this]; exact hm
  · refine cs (fun i hi => ?_) ?_
    · obtain ⟨t1, t2, e⟩ := x.node i hi
      refine ⟨t1, t2, ?_⟩
      rw [en i hi, es i hi, ed i hi]
      simp only [ne i hi, if_false]
      exact kp _ (Book.nd_mem0 hi) (ap.nd i hi).2.2 _ e
    · refine ⟨t1, t2, ?_⟩
      rw [enk, esk, edk]; simpa using hn
  · refine cs (fun i hi => ?_) ?_
    · rw [ed i hi]; exact kp _ (Book.dd_mem0 hi) (ap.dd i hi).2.2 _ (x.emp i hi)
    · rw [edk]; exact hd
  · refine cs (fun i hi => ?_) ?_
    · obtain ⟨vs, e, r⟩ := x.lst i hi
      rw [es i hi]
      exact ⟨vs, PlainList.keep e (kp _ (Book.sl_mem0 hi) (ap.sl i hi).2.2), by simpa [ne i hi] using r⟩
    · rw [esk]; exact ⟨[], hs, by simpa using IntsAre.nil⟩
  · refine ⟨ap.SD, ap.SN, ap.DN, ?_, ?_, ?_, ?_, ?_, ?_, ?_, ?_⟩
    · exact cs (fun i hi => by rw [en i hi]; exact ap.nd i hi) (by rw [enk]; exact ⟨(fn _ bS).symm, (fn _ bD).symm, (fn _ bN).symm⟩)
    · exact cs (fun i hi => by rw [es i hi]; exact ap.sl i hi) (by rw [esk]; exact ⟨(fs _ bS).symm, (fs _ bD).symm, (fs _ bN).symm⟩)
    · exact cs (fun i hi => by rw [ed i hi]; exact ap.dd i hi) (by rw [edk]; exact ⟨(fd _ bS).symm, (fd _ bD).symm, (fd _ bN).symm⟩)
    · refine cs (fun i hi => cs (fun j hj => by rw [en i hi, en j hj]; exact ap.nn i hi j hj) (by rw [en i hi, enk]; exact fun q => absurd q (fn _ (Book.nd_mem0 hi)))) (cs (fun j hj => by rw [en j hj, enk]; exact fun q => absurd q.symm (fn _ (Book.nd_mem0 hj))) (fun _ => rfl))
    · refine cs (fun i hi => cs (fun j hj => by rw [es i hi, es j hj]; exact ap.ss i hi j hj) (by rw [es i hi, esk]; exact fun q => absurd q (fs _ (Book.sl_mem0 hi)))) (cs (fun j hj => by rw [es j hj, esk]; exact fun q => absurd q.symm (fs _ (Book.sl_mem0 hj))) (fun _ => rfl))
    · refine cs (fun i hi => cs (fun j hj => by rw [en i hi, es j hj]; exact ap.ns i hi j hj) (by rw [en i hi, esk]; exact fs _ (Book.nd_mem0 hi))) (cs (fun j hj => by rw [es j hj, enk]; exact (fn _ (Book.sl_mem0 hj)).symm) (by rw [enk, esk]; exact ns))
    · refine cs (fun i hi => cs (fun j hj => by rw [ed i hi, en j hj]; exact ap.nx i hi j hj) (by rw [ed i hi, enk]; exact fn _ (Book.dd_mem0 hi))) (cs (fun j hj => by rw [en j hj, edk]; exact (fd _ (Book.nd_mem0 hj)).symm) (by rw [enk, edk]; exact nd.symm))
    · refine cs (fun i hi => cs (fun j hj => by rw [ed i hi, es j hj]; exact ap.sx i hi j hj) (by rw [ed i hi, esk]; exact fs _ (Book.dd_mem0 hi))) (cs (fun j hj => by rw [es j hj, edk]; exact (fd _ (Book.sl_mem0 hj)).symm) (by rw [esk, edk]; exact sd.symm))
end Mine
end
section
open PySem PySem.W PyProof.Rows
set_option Elab.async false
set_option maxRecDepth 100000
set_option maxHeartbeats 8000000
namespace Mine
local macro_rules | `(tactic| walk_at "ga") => `(tactic| first
  | (((with_reducible show wpAny _ _ (getAttr (Value.ref _) (Str.ofString "_node2info") _) _ _ _); refine ts_get1 (by assumption) (by assumption) (by assumption) rfl ?_))
  | (((with_reducible show wpAny _ _ (getAttr (Value.ref _) (Str.ofString "_ready_nodes") _) _ _ _); refine ts_get2 (by assumption) (by assumption) (by assumption) rfl ?_))
  | (((with_reducible show wpAny _ _ (getAttr (Value.ref _) (Str.ofString "_npassedout") _) _ _ _); refine ts_get3 (by assumption) (by assumption) (by assumption) rfl ?_))
  | (((with_reducible show wpAny _ _ (getAttr (Value.ref _) (Str.ofString "_nfinished") _) _ _ _); refine ts_get4 (by assumption) (by assumption) (by assumption) rfl ?_))
  | (((with_reducible show wpAny _ _ (getAttr (Value.ref _) (Str.ofString "node") _) _ _ _); refine nd_get0 (by assumption) (by assumption) (by assumption) ?_))
  | (((with_reducible show wpAny _ _ (getAttr (Value.ref _) (Str.ofString "npredecessors") _) _ _ _); refine nd_get1 (by assumption) (by assumption) (by assumption) ?_))
  | (((with_reducible show wpAny _ _ (getAttr (Value.ref _) (Str.ofString "successors") _) _ _ _); refine nd_get2 (by assumption) (by assumption) (by assumption) ?_)))
local macro_rules | `(tactic| walk_at "nm") => `(tactic| (with_reducible show wpAny _ _ (eval (Expr.Name _ _) _) _ _ _);
  (with_unfolding_all refine nm_local (by assumption) (by assumption) ?_ rfl rfl (by decide)))
local macro_rules | `(tactic| walk_at "w") => `(tactic| first | walk_at "ga" | walk_at "nm" | (with_reducible refine Attribute_name ?_) | walk1)

theorem Fr_sub {g h h' : Heap} {L : Addr} {m : Str → Option Value} {mu : List Addr} (F : Fr g L h m) (k : Sub mu h h') (hL : L ∉ mu) (hg : ∀ a ∈ mu, g.get? a = none) : Fr g L h' m :=
  ⟨F.ns.at' fun o e => k _ o hL e, fun b o e => k b o (fun q => by rw [hg b q] at e; cases e) (F.keep b o e), F.above⟩
theorem mkND {w : World} : makesIn (KK' w) 67 = true := by kernel_rfl
theorem inND {w : World} : findIn (KK' w) (.ref 67) "__init__" = some (some (.ref 63)) := by kernel_rfl
theorem fnND {w : World} : typeIn (KK' w) (.ref 63) = some (.type "function") := by kernel_rfl
theorem get_nodeinfo_c {w : World} {A : Around} {mean : ExcName → Option Value} {mg mb : Str → Option Value} {s : Shared} {Q : Value → Shared → Prop} {E : Value → Shared → Prop} {b : Book} {Z : SSt} {hb : Heap} {k : Int} {tk0 : Tok}
    (X : (hd.heap_1 w.params).In hb) (T : Top Mine.view (looseW Mine.view [Str.ofString "_NodeInfo"]) mean mg mb hb) (kb : Ext hb s.heap) (hmu : ∀ a ∈ b.addrs0 Z.dom, hb.get? a = none) (hroom : A.depth + 4 < recursionLimit)
    (hS : Pre PySem.Challenge.rw_nb0259_01.row.prog w s.heap b Z) (hlen : Z.dom.length ≤ 1000)
    (hQ : ∀ h' tk b', Pre PySem.Challenge.rw_nb0259_01.row.prog w h' b' (ensure Z k) → b'.S = b.S → (∀ a ∈ b'.addrs0 (ensure Z k).dom, a ∈ b.addrs0 Z.dom ∨ s.heap.get? a = none) → Sub (b.addrs0 Z.dom) s.heap h' → Q (.ref (b'.nd k)) { s with heap := h', toks := tk }) :
    wpAny (model PySem.Challenge.rw_nb0259_01.row.prog w) A (call (.ref 107) [.ref b.S, .int k tk0]) Q E s := by
  have Xs := X.keeps kb
  have Ts := T.keeps kb
  revert Xs; k_fill; intro Xs
  refine wpAny_call ?_
  (refine' code_base (K := hd.heap_1 w.params) ?k3 ?k5 ?k6 ?k7 ?k8 ?k9 ?kB ?_ ?c2 ?c3 ?c4 ?c5; (case k3 => exact Xs); (case k5 => exact Ts); (case k6 => k_is); (case k7 => k_is); (case k8 => exact Nat.lt_of_le_of_lt (Nat.le_add_right _ _) hroom); (case k9 => exact BindsTo.of_eq rfl); (case c5 => decide); (case kB => exact locs rfl); (case c2 => exact rfl); (case c3 => exact rfl); (case c4 => exact rfl); k_whole; intro L' h' tk' F' N'; (try dsimp only))
  clear N'
  obtain ⟨g, G, Fg⟩ := ground X T kb hmu hS.alive F'
  have kF : Ext s.heap h' := F'.keep
  have S1 := hS.keep fun a _ o e => kF a o e
  clear F' Xs Ts
  have Xg := G.X
  have Tg := G.T
  have X1 := Xg.keeps Fg.keep
  have hi := S1.inst
  obtain ⟨a, t, n, t3, t4, hD⟩ := S1.attrs
  have hcons : ∀ {m : Str → Option Value} {v : Value} {x y : Str} {u : Value}, m x = some u → x ≠ y → upd m y v x = some u := fun e hx => (if_neg hx).trans e
  iterate 8 walk_at "w"
  refine meth_dict PySem.F.slot_dict_get PySem.F.type_dict_get S1.n2i ?_
  iterate 4 walk_at "w"
  refine get_pairs S1.sys S1.n2i ?_
  by_cases hk : k ∈ Z.dom
  · rw [valueAt_dom hk]
    refine asg_local rfl rfl Fg fun h2 F2 k2 => ?_
    replace F2 : Fr g L' h2 _ := F2
    replace k2 : Sub [L'] h' h2 := k2
    have S2 := S1.keep fun a ha o e => k2 a o (by simpa using G.hL a ha) e
    clear Fg X1 S1 hi hD
    dsimp only [Option.getD]
    iterate 3 walk_at "w"
    simp only [Bool.false_eq_true, if_false]
    iterate 5 walk_at "w"
    have e : ensure Z k = Z := if_pos hk
    exact hQ h2 _ b (by rw [e]; exact S2) rfl (by rw [e]; exact fun a ha => .inl ha) (G.sub _ _ F2)
  · rw [valueAt_none hk]
    refine asg_local rfl rfl Fg fun h2 F2 k2 => ?_
    replace F2 : Fr g L' h2 _ := F2
    replace k2 : Sub [L'] h' h2 := k2
    have S2 := S1.keep fun a ha o e => k2 a o (by simpa using G.hL a ha) e
    clear Fg X1 S1 hi hD
    dsimp only [Option.getD]
    iterate 3 walk_at "w"
    simp only [if_true]
    iterate 9 walk_at "w"
    have X2 := Xg.keeps F2.keep
    refine ⟨X2, wpAny_call ?_⟩
    refine make_own (K := KK' w) X2 mkND inND fnND fun x dx h3 k3 nx ndx hne hx3 hd3 => ?_
    replace k3 : Ext h2 h3 := k3
    have gn : ∀ {a}, h2.get? a = none → g.get? a = none := fun {a} e => by
      cases q : g.get? a with
      | none => rfl
      | some o => rw [F2.keep a o q] at e; cases e
    have F3 := Fr.grownK F2 k3
    have S3 := S2.keep fun a _ o e => k3 a o e
    refine node_init_c (hb := g) (s := ⟨h3, _, _, _, _⟩) Xg Tg F3.keep (gn nx) (gn ndx) ?room hx3 hd3 hne fun h4 tk4 sl t2 hx4 hd4 hl4 nsl esx esd k4 => ⟨rfl, ?_⟩
    case room =>
      refine Nat.lt_of_le_of_lt ?_ hroom
      show A.depth + 1 + Code.weight (.builtin "type.__call__" ⟨[Value.ref 67, Value.int k tk0], []⟩) ≤ A.depth + 4
      have : Code.weight (.builtin "type.__call__" ⟨[Value.ref 67, Value.int k tk0], []⟩) ≤ 3 := Nat.le_of_ble_eq_true rfl
      omega
    have hLx : L' ≠ x := fun q => by obtain ⟨o, _, _, ho, _⟩ := F2.ns; rw [q, nx] at ho; cases ho
    have hLd : L' ≠ dx := fun q => by obtain ⟨o, _, _, ho, _⟩ := F2.ns; rw [q, ndx] at ho; cases ho
    have F4 := Fr_sub F3 k4 (by simp [hLx, hLd]) (by intro a ha; simp at ha; rcases ha with rfl | rfl; exact gn nx; exact gn ndx)
    have al : ∀ {a}, h2.get? a = none → ∀ c ∈ b.addrs0 Z.dom, c ≠ a := fun {a} e c hc q => by
      obtain ⟨o, ho⟩ := S2.alive c hc
      rw [q, e] at ho; cases ho
    have nsl2 : h2.get? sl = none := by
      cases q : h2.get? sl with
      | none => rfl
      | some o => exact absurd (k3 _ _ q) (by rw [show h3.get? sl = none from nsl]; simp)
    have S4 := S3.keep fun a ha o e => k4 a o (by simp [al nx a ha, al ndx a ha]) e
    have X4 := Xg.keeps F4.keep
    clear F3 S3 X2
    have hi := S4.inst
    obtain ⟨a, t, n, t3, t4, hD⟩ := S4.attrs
    dsimp only
    iterate 5 walk_at "w"
    refine wpAny_setItem_pairs (intKind_is _ _ k _) S4.n2i (fun h5 hm5 hs5 => ?_) (by rw [List.length_map, sizeLine_eq]; exact Nat.le_trans hlen (by decide))
    have bN : b.N2 ∈ b.addrs0 Z.dom := by simp [Book.addrs0]
    have k5 : Sub [b.N2] h4 h5 := fun a o ha e => hs5.extBut a o (fun q => ha (by simp [q])) e
    have F5 := Fr_sub F4 k5 (by simpa using (G.hL _ bN).symm) (by intro a ha; rw [List.mem_singleton.mp ha]; exact G.hg _ bN)
    have S5 := S4.grow (h' := h5) (n := x) (s := sl) (d := dx) hk (al nx) (al nsl2) (al ndx) esx.symm hne esd (k5 _ _ (by simpa using (al nx _ bN).symm) hx4) (PlainList.keep hl4 fun o e => k5 _ o (by simpa using (al nsl2 _ bN).symm) e) (k5 _ _ (by simpa using (al ndx _ bN).symm) hd4) hm5 (fun a ha hne o e => k5 a o (by simpa using hne) e)
    clear F4 S4 X4 hi hD
    dsimp only
    iterate 1 walk_at "w"
    refine sto_local rfl rfl F5 fun h6 F6 k6 => ?_
    replace F6 : Fr g L' h6 _ := F6
    replace k6 : Sub [L'] h5 h6 := k6
    have nn : ∀ {a}, h2.get? a = none → ∀ o, s.heap.get? a ≠ some o := fun {a} e o q => by
      have := k2 a o (fun z => ?_) (kF a o q)
      · rw [e] at this; cases this
      · rw [List.mem_singleton.mp z] at e
        obtain ⟨o, _, _, ho, _⟩ := F2.ns; rw [e] at ho; cases ho
    have ns : ∀ {a}, h2.get? a = none → s.heap.get? a = none := fun {a} e => by
      cases q : s.heap.get? a with
      | none => rfl
      | some o => exact absurd q (nn e o)
    have ee : (ensure Z k).dom = Z.dom ++ [k] := by unfold ensure; rw [if_neg hk]
    have hmem : ∀ a ∈ (b.more k x sl dx).addrs0 (ensure Z k).dom, a ∈ b.addrs0 Z.dom ∨ h2.get? a = none := by
      intro a ha
      rw [ee] at ha
      unfold Book.addrs0 at ha ⊢
      simp only [List.mem_cons, List.mem_flatMap, List.mem_append, List.not_mem_nil, or_false] at ha ⊢
      rcases ha with h | h | h | ⟨i, hi, h⟩
      · exact .inl (.inl h)
      · exact .inl (.inr (.inl h))
      · exact .inl (.inr (.inr (.inl h)))
      · by_cases q : i = k
        · subst q
          right
          simp only [Book.more, if_true] at h
          rcases h with rfl | rfl | rfl
          · exact nx
          · exact nsl2
          · exact ndx
        · left; right; right; right
          refine ⟨i, hi.resolve_right q, ?_⟩
          simpa only [Book.more, q, if_false] using h
    have hLm : ∀ a ∈ (b.more k x sl dx).addrs0 (ensure Z k).dom, a ≠ L' := fun a ha => by
      rcases hmem a ha with q | q
      · exact G.hL _ q
      · intro z; rw [z] at q; obtain ⟨o, _, _, ho, _⟩ := F2.ns; rw [q] at ho; cases ho
    have S6 := S5.keep fun a ha o e => k6 a o (by simpa using hLm a ha) e
    clear F5 S5
    dsimp only
    iterate 4 walk_at "w"
    have enk : (b.more k x sl dx).nd k = x := if_pos rfl
    have fin := fun tk => hQ h6 tk (b.more k x sl dx) S6 rfl (fun a ha => (hmem a ha).imp_right ns) (G.sub _ _ F6)
    rw [enk] at fin
    exact fin _
end Mine
end
section
open PySem PySem.W PyProof.Rows
set_option Elab.async false
set_option maxRecDepth 100000
set_option maxHeartbeats 8000000
namespace Mine
local macro_rules | `(tactic| walk_at "ga") => `(tactic| first
  | (((with_reducible show wpAny _ _ (getAttr (Value.ref _) (Str.ofString "_node2info") _) _ _ _); refine ts_get1 (by assumption) (by assumption) (by assumption) rfl ?_))
  | (((with_reducible show wpAny _ _ (getAttr (Value.ref _) (Str.ofString "_ready_nodes") _) _ _ _); refine ts_get2 (by assumption) (by assumption) (by assumption) rfl ?_))
  | (((with_reducible show wpAny _ _ (getAttr (Value.ref _) (Str.ofString "_npassedout") _) _ _ _); refine ts_get3 (by assumption) (by assumption) (by assumption) rfl ?_))
  | (((with_reducible show wpAny _ _ (getAttr (Value.ref _) (Str.ofString "_nfinished") _) _ _ _); refine ts_get4 (by assumption) (by assumption) (by assumption) rfl ?_))
  | (((with_reducible show wpAny _ _ (getAttr (Value.ref _) (Str.ofString "node") _) _ _ _); refine nd_get0 (by assumption) (by assumption) (by assumption) ?_))
  | (((with_reducible show wpAny _ _ (getAttr (Value.ref _) (Str.ofString "npredecessors") _) _ _ _); refine nd_get1 (by assumption) (by assumption) (by assumption) ?_))
  | (((with_reducible show wpAny _ _ (getAttr (Value.ref _) (Str.ofString "successors") _) _ _ _); refine nd_get2 (by assumption) (by assumption) (by assumption) ?_)))
local macro_rules | `(tactic| walk_at "nm") => `(tactic| (with_reducible show wpAny _ _ (eval (Expr.Name _ _) _) _ _ _);
  (with_unfolding_all refine nm_local (by assumption) (by assumption) ?_ rfl rfl (by decide)))
local macro_rules | `(tactic| walk_at "w") => `(tactic| first | walk_at "ga" | walk_at "nm" | (with_reducible refine Attribute_name ?_) | walk1)

theorem g2TS {w : World} : findIn (KK' w) (.ref 164) "__getattr__" = some none := by kernel_rfl
section
variable {prog : Program} {w : World} {A : Around} {E : Value → Shared → Prop} {s : Shared} {x D : Addr} {a : Nat → Int} {t : Nat → Tok} {v1 v2 v3 v4 : Value} {n : Nat} {pl : Sem Bool} {Q : Value × List Value → Shared → Prop}
theorem ts_m107 (X : (KK' w).In s.heap) (hi : s.heap.get? x = some (instObj 164 D)) (hD : s.heap.get? D = some (attrObj a t v1 v2 v3 v4 n)) (h : Q (.ref 107, [.ref x]) s) : wpAny (model prog w) A (getMethod (.ref x) (Str.ofString "_get_nodeinfo") pl) Q E s :=
  method_fn X (inst_at hi hD) gaTS g2TS (by kernel_rfl) (by kernel_rfl) (by kernel_rfl) h
theorem ts_m114 (X : (KK' w).In s.heap) (hi : s.heap.get? x = some (instObj 164 D)) (hD : s.heap.get? D = some (attrObj a t v1 v2 v3 v4 n)) (h : Q (.ref 114, [.ref x]) s) : wpAny (model prog w) A (getMethod (.ref x) (Str.ofString "add") pl) Q E s :=
  method_fn X (inst_at hi hD) gaTS g2TS (by kernel_rfl) (by kernel_rfl) (by kernel_rfl) h
theorem ts_m119 (X : (KK' w).In s.heap) (hi : s.heap.get? x = some (instObj 164 D)) (hD : s.heap.get? D = some (attrObj a t v1 v2 v3 v4 n)) (h : Q (.ref 119, [.ref x]) s) : wpAny (model prog w) A (getMethod (.ref x) (Str.ofString "prepare") pl) Q E s :=
  method_fn X (inst_at hi hD) gaTS g2TS (by kernel_rfl) (by kernel_rfl) (by kernel_rfl) h
theorem ts_m126 (X : (KK' w).In s.heap) (hi : s.heap.get? x = some (instObj 164 D)) (hD : s.heap.get? D = some (attrObj a t v1 v2 v3 v4 n)) (h : Q (.ref 126, [.ref x]) s) : wpAny (model prog w) A (getMethod (.ref x) (Str.ofString "get_ready") pl) Q E s :=
  method_fn X (inst_at hi hD) gaTS g2TS (by kernel_rfl) (by kernel_rfl) (by kernel_rfl) h
theorem ts_m133 (X : (KK' w).In s.heap) (hi : s.heap.get? x = some (instObj 164 D)) (hD : s.heap.get? D = some (attrObj a t v1 v2 v3 v4 n)) (h : Q (.ref 133, [.ref x]) s) : wpAny (model prog w) A (getMethod (.ref x) (Str.ofString "is_active") pl) Q E s :=
  method_fn X (inst_at hi hD) gaTS g2TS (by kernel_rfl) (by kernel_rfl) (by kernel_rfl) h
theorem ts_m147 (X : (KK' w).In s.heap) (hi : s.heap.get? x = some (instObj 164 D)) (hD : s.heap.get? D = some (attrObj a t v1 v2 v3 v4 n)) (h : Q (.ref 147, [.ref x]) s) : wpAny (model prog w) A (getMethod (.ref x) (Str.ofString "done") pl) Q E s :=
  method_fn X (inst_at hi hD) gaTS g2TS (by kernel_rfl) (by kernel_rfl) (by kernel_rfl) h
theorem ts_m154 (X : (KK' w).In s.heap) (hi : s.heap.get? x = some (instObj 164 D)) (hD : s.heap.get? D = some (attrObj a t v1 v2 v3 v4 n)) (h : Q (.ref 154, [.ref x]) s) : wpAny (model prog w) A (getMethod (.ref x) (Str.ofString "_find_cycle") pl) Q E s :=
  method_fn X (inst_at hi hD) gaTS g2TS (by kernel_rfl) (by kernel_rfl) (by kernel_rfl) h
end
def FreshIn (g : Heap) (al A0 : List Addr) (h₀ : Heap) (a : Addr) : Prop := (∀ c ∈ al, a ≠ c) ∧ g.get? a = none ∧ (a ∈ A0 ∨ h₀.get? a = none)
theorem fresh_step {g h h₀ : Heap} {al A0 old new : List Addr} (ho : ∀ a ∈ old, FreshIn g al A0 h₀ a) (hn : ∀ a ∈ new, a ∈ old ∨ h.get? a = none) (hal : ∀ c ∈ al, ∃ o, h.get? c = some o) (hg : Ext g h) (hs : Sub A0 h₀ h) : ∀ a ∈ new, FreshIn g al A0 h₀ a := by
  intro a ha
  rcases hn a ha with q | q
  · exact ho a q
  · refine ⟨fun c hc e => ?_, ?_, ?_⟩
    · obtain ⟨o, z⟩ := hal c hc; rw [← e, q] at z; cases z
    · cases e : g.get? a with
      | none => rfl
      | some o => rw [hg a o e] at q; cases q
    · by_cases hm : a ∈ A0
      · exact .inl hm
      · right
        cases e : h₀.get? a with
        | none => rfl
        | some o => rw [hs a o hm e] at q; cases q
theorem fr_alive {g h : Heap} {L : Addr} {m : Str → Option Value} (F : Fr g L h m) : ∃ o, h.get? L = some o := let ⟨o, _, _, ho, _⟩ := F.ns; ⟨o, ho⟩
def addStep (node : Int) (Z : SSt) (p : Int) : SSt := { ensure Z p with succ := fun i => if i = p then (ensure Z p).succ p ++ [node] else (ensure Z p).succ i }
def add1 (Z : SSt) (node : Int) (n : Nat) : SSt := { ensure Z node with np := fun i => if i = node then (ensure Z node).np node + n else (ensure Z node).np i }
def addSt (Z : SSt) (node : Int) (ps : List Int) : SSt := ps.foldl (addStep node) (add1 Z node ps.length)
theorem add_c {w : World} {A : Around} {mean : ExcName → Option Value} {mg mb : Str → Option Value} {s : Shared} {R : Result → Shared → Prop} {b : Book} {Z : SSt} {hb : Heap} {k : Int} {tk0 : Tok} {vs : List Value} {ps : List Int}
    (X : (hd.heap_1 w.params).In hb) (T : Top Mine.view (looseW Mine.view [Str.ofString "_NodeInfo"]) mean mg mb hb) (kb : Ext hb s.heap) (hmu : ∀ a ∈ b.addrs0 Z.dom, hb.get? a = none) (hroom : A.depth + 8 < recursionLimit) (hh : A.handled = none)
    (hS : Pre PySem.Challenge.rw_nb0259_01.row.prog w s.heap b Z) (hvs : IntsAre vs ps) (hvl : vs.length ≤ 10) (hlen : Z.dom.length + ps.length + 1 ≤ 1000) (hsz : ∀ i ∈ Z.dom, (Z.succ i).length + ps.length ≤ 1000)
    (hQ : ∀ h' tk b', Pre PySem.Challenge.rw_nb0259_01.row.prog w h' b' (addSt Z k ps) → b'.S = b.S → (∀ a ∈ b'.addrs0 (addSt Z k ps).dom, a ∈ b.addrs0 Z.dom ∨ s.heap.get? a = none) → Sub (b.addrs0 Z.dom) s.heap h' → R (.ok (.ret .none)) { s with heap := h', toks := tk }) :
    codeAny (model PySem.Challenge.rw_nb0259_01.row.prog w) A (.call (.ref 114) ⟨.ref b.S :: .int k tk0 :: vs, []⟩) R s := by
  have Xs := X.keeps kb
  have Ts := T.keeps kb
  revert Xs; k_fill; intro Xs
  (refine' code_rest (K := hd.heap_1 w.params) (vs := vs) (g₁ := fun D => some [(Str.ofString "self", .ref b.S), (Str.ofString "node", .int k tk0), (Str.ofString "predecessors", .ref D)]) (binds := fun D => [(Str.ofString "self", .ref b.S), (Str.ofString "node", .int k tk0), (Str.ofString "predecessors", .ref D)]) ?k3 ?k5 ?k6 ?k7 ?k8 ?kP ?kG ?kB ?_ ?c2 ?c3 ?c4 ?c5; (case k3 => exact Xs); (case k5 => exact Ts); (case k6 => k_is); (case k7 => k_is); (case k8 => exact Nat.lt_of_le_of_lt (Nat.le_add_right _ _) hroom); (case kP => clear hQ hvs hsz hlen; (rcases vs with _ | ⟨v0, vs⟩; · exact rfl); (rcases vs with _ | ⟨v1, vs⟩; · exact rfl); (rcases vs with _ | ⟨v2, vs⟩; · exact rfl); (rcases vs with _ | ⟨v3, vs⟩; · exact rfl); (rcases vs with _ | ⟨v4, vs⟩; · exact rfl); (rcases vs with _ | ⟨v5, vs⟩; · exact rfl); (rcases vs with _ | ⟨v6, vs⟩; · exact rfl); (rcases vs with _ | ⟨v7, vs⟩; · exact rfl); (rcases vs with _ | ⟨v8, vs⟩; · exact rfl); (rcases vs with _ | ⟨v9, vs⟩; · exact rfl); (rcases vs with _ | ⟨v10, vs⟩; · exact rfl); exact absurd hvl (by simp only [List.length_cons]; omega)); (case kG => exact fun _ => rfl); (case c5 => decide); (case kB => exact fun _ => locs rfl); (case c2 => exact rfl); (case c3 => exact rfl); (case c4 => exact rfl); k_whole; intro t' L' h' tk' hts htL ht1 F'; (try dsimp only))
  obtain ⟨g, G, Fg⟩ := ground X T kb hmu hS.alive F'
  have kF : Ext s.heap h' := F'.keep
  have S1 := hS.keep fun a _ o e => kF a o e
  clear F' Xs Ts
  have Xg := G.X
  have Tg := G.T
  have X1 := Xg.keeps Fg.keep
  have hi := S1.inst
  obtain ⟨a, t, n, t3, t4, hD⟩ := S1.attrs
  have hcons : ∀ {m : Str → Option Value} {v : Value} {x y : Str} {u : Value}, m x = some u → x ≠ y → upd m y v x = some u := fun e hx => (if_neg hx).trans e
  refine wp_hide fun QF EF hqF _ => ?_
  iterate 9 walk_at "w"
  simp only [Bool.false_eq_true, if_false]
  iterate 6 walk_at "w"
  refine ts_m107 X1 hi hD ?_
  iterate 4 walk_at "w"
  refine ⟨X1, get_nodeinfo_c (hb := g) Xg Tg Fg.keep G.hg (show A.depth + 1 + 4 < recursionLimit by omega) S1 (by omega) fun h2 tk2 b2 S2 eS2 fr2 k2 => ?_⟩
  replace k2 : Sub (b.addrs0 Z.dom) h' h2 := k2
  have F2 := Fr_sub Fg k2 (fun q => G.hL _ q rfl) G.hg
  have hkd : k ∈ (ensure Z k).dom := by unfold ensure; split; assumption; simp
  have hts0 : ∀ a ∈ b.addrs0 Z.dom, a ≠ t' := fun a ha q => by
    obtain ⟨o, ho⟩ := hS.alive a ha
    rw [q, hts] at ho; cases ho
  have fr0 : ∀ a ∈ b.addrs0 Z.dom, FreshIn g [L', t'] (b.addrs0 Z.dom) s.heap a := fun a ha => ⟨by simp only [List.mem_cons, List.not_mem_nil, or_false]; rintro c (rfl | rfl); exact G.hL _ ha; exact hts0 _ ha, G.hg _ ha, .inl ha⟩
  have f2 := fresh_step fr0 fr2 (by simp only [List.mem_cons, List.not_mem_nil, or_false]; rintro c (rfl | rfl); exact fr_alive Fg; exact ⟨_, ht1⟩) Fg.keep (G.sub _ _ Fg)
  have ht2 := k2 _ _ (fun q => hts0 _ q rfl) ht1
  have hS2L := eS2
  clear S1 X1 hi hD
  have hlen2 : (ensure Z k).dom.length ≤ Z.dom.length + 1 := by unfold ensure; split <;> simp
  have hsz2 : ∀ i ∈ (ensure Z k).dom, ((ensure Z k).succ i).length + ps.length ≤ 1000 := by
    unfold ensure
    split
    · exact hsz
    · intro i hi
      simp only [List.mem_append, List.mem_singleton] at hi
      by_cases q : i = k
      · simp [q]; omega
      · simp only [q, if_false]; exact hsz i (hi.resolve_right q)
  refine sto_local rfl rfl F2 fun h3 F3 k3 => ?_
  replace F3 : Fr g L' h3 _ := F3
  replace k3 : Sub [L'] h2 h3 := k3
  have S3 := S2.keep fun a ha o e => k3 a o (by simpa using (f2 a ha).1 L' (by simp)) e
  have ht3 := k3 _ _ (by simpa using htL) ht2
  have X3 := Xg.keeps F3.keep
  obtain ⟨t1, t2, hn⟩ := S3.node k hkd
  have he := S3.emp k hkd
  clear F2 S2 ht2
  dsimp only
  walk1
  refine wpAny_AugAssign_AttributeAny ?_
  iterate 8 walk_at "w"
  refine P.len_tuple (n := 0) ht3 (by rw [List.size_toArray]; omega) ?_
  iterate 1 walk_at "w"
  refine nd_set1 F3 X3 hn he ((f2 _ (Book.nd_mem0 hkd)).1 _ (by simp)) (f2 _ (Book.nd_mem0 hkd)).2.1 fun h4 tk4 F4 hn4 k4 => ?_
  have S4 := S3.set_np hkd (fun a ha => (f2 a ha).1 L' (by simp)) hn4 k4
  have ht4 := k4 _ _ (by simp only [List.mem_cons, List.not_mem_nil, or_false]; rintro (q | q); exact (f2 _ (Book.nd_mem0 hkd)).1 t' (by simp) q.symm; exact htL q) ht3
  have e4 : { ensure Z k with np := fun i => if i = k then (ensure Z k).np k + (vs.toArray.size : Int) else (ensure Z k).np i } = add1 Z k ps.length := by unfold add1; rw [List.size_toArray, hvs.length]
  rw [e4] at S4
  clear F3 S3 X3 hn he ht3
  replace f2 : ∀ a ∈ b2.addrs0 (add1 Z k ps.length).dom, FreshIn g [L', t'] (b.addrs0 Z.dom) s.heap a := f2
  dsimp only
  walk1
  refine wpAny_For ?_
  walk1
  have hI4 : ∀ a o, h4.get? a = some o → a ≠ h4.objs.size := fun a o e q => absurd (Heap.lt_size e) (by rw [q]; exact Nat.lt_irrefl _)
  have htI := hI4 _ _ ht4
  have hLI : L' ≠ h4.objs.size := Nat.ne_of_lt F4.ns.lt
  have hAI : ∀ a ∈ b2.addrs0 (add1 Z k ps.length).dom, a ≠ h4.objs.size := fun a ha => let ⟨o, e⟩ := S4.alive a ha; hI4 a o e
  have hgI : g.get? h4.objs.size = none := by
    cases e : g.get? h4.objs.size with
    | none => rfl
    | some o => exact absurd rfl (hI4 _ _ (F4.keep _ _ e))
  refine wpAny_pyIter_tuple ⟨_, ht4, rfl, _, rfl⟩ ?_
  have F5 := Fr.push F4 { cls := .type "tuple_iterator", data := .fields #[.ref t', .int 0 0] }
  have hit5 : (h4.push { cls := .type "tuple_iterator", data := .fields #[.ref t', .int 0 0] }).IsTupleIter h4.objs.size t' 0 := ⟨_, Heap.get?_push_size _ rfl, rfl, rfl⟩
  have k5 : Ext h4 (h4.push { cls := .type "tuple_iterator", data := .fields #[.ref t', .int 0 0] }) := fun b o e => Heap.get?_push_of_some _ e
  generalize hH5 : h4.push { cls := .type "tuple_iterator", data := .fields #[.ref t', .int 0 0] } = h5 at F5 hit5 k5 ⊢
  have S5 := S4.keep fun a _ o e => k5 a o e
  have ht5 := k5 _ _ ht4
  have f5 : ∀ a ∈ b2.addrs0 (add1 Z k ps.length).dom, FreshIn g [L', t', h4.objs.size] (b.addrs0 Z.dom) s.heap a := fun a ha => ⟨fun c hc => by
    simp only [List.mem_cons, List.not_mem_nil, or_false] at hc
    rcases hc with rfl | rfl | rfl
    · exact (f2 a ha).1 _ (by simp)
    · exact (f2 a ha).1 _ (by simp)
    · exact hAI a ha, (f2 a ha).2⟩
  dsimp only
  generalize h4.objs.size = I at *
  refine for_ints (g := g) (s := ⟨h5, _, _, _, _⟩) (Walks.tuple (A := A.deeper _) hh I t' htI vs.toArray) hvs rfl rfl hLI (Ne.symm htL) hgI
    (fun i h m => ∃ b', (let Y := (ps.take i).foldl (addStep k) (add1 Z k ps.length); Pre PySem.Challenge.rw_nb0259_01.row.prog w h b' Y ∧ (∀ a ∈ b'.addrs0 Y.dom, FreshIn g [L', t', I] (b.addrs0 Z.dom) s.heap a) ∧ Y.dom.length ≤ Z.dom.length + 1 + i ∧ (∀ j ∈ Y.dom, (Y.succ j).length + ps.length ≤ 1000 + i)) ∧
      b'.S = b.S ∧ m (Str.ofString "self") = some (.ref b.S) ∧ ∃ tn, m (Str.ofString "node") = some (.int k tn)) ⟨hit5, ⟨_, ht5, rfl, _, rfl⟩⟩ F5 ⟨b2, ⟨S5, f5, hlen2, hsz2⟩, eS2, rfl, tk0, rfl⟩ ?stab ?turn ?fin
  case stab =>
    rintro i h m h' v ⟨b', ⟨q1, q2, q3, q4⟩, q5, q6, tn, q7⟩ kk
    exact ⟨b', ⟨q1.keep fun a ha o e => kk a o (by simp only [List.mem_cons, List.not_mem_nil, or_false]; rintro (q | q); exact (q2 a ha).1 I (by simp) q; exact (q2 a ha).1 L' (by simp) q) e, q2, q3, q4⟩, q5, hcons q6 (by decide), tn, hcons q7 (by decide)⟩
  case fin =>
    rintro h h' m tk F ⟨b', ⟨q1, q2, q3, q4⟩, q5, q6, tn, q7⟩ kk
    rw [List.take_length] at q1 q2
    have S6 := q1.keep fun a ha o e => kk a o (by simpa using (q2 a ha).1 I (by simp)) e
    dsimp only
    walk1
    refine hqF _ _ ?_
    exact hQ _ _ b' S6 q5 (fun a ha => (q2 a ha).2.2) (G.sub _ _ F)
  case turn =>
    rintro i p tp h m tk E' hp F hx ⟨b', ⟨q1, q2, q3, q4⟩, q5, q6, tn, q7⟩ hst
    clear F4 F5 S4 S5 hit5 k5 ht5 ht4 hH5
    have hil : i < ps.length := (List.getElem?_eq_some_iff.mp hp).1
    generalize hY : (ps.take i).foldl (addStep k) (add1 Z k ps.length) = Y at q1 q2 q3 q4
    have hY' : (ps.take (i + 1)).foldl (addStep k) (add1 Z k ps.length) = addStep k Y p := by
      rw [List.take_add_one, hp, List.foldl_append, hY]; rfl
    rw [hY']
    have Xh := Xg.keeps F.keep
    have hi := q1.inst
    rw [q5] at hi
    obtain ⟨a, t, n, t3, t4, hD⟩ := q1.attrs
    dsimp only
    refine wp_hide fun QT ET hqT _ => ?_
    iterate 4 walk_at "w"
    refine ts_m107 Xh hi hD ?_
    iterate 4 walk_at "w"
    rw [← q5]
    refine ⟨Xh, get_nodeinfo_c (hb := g) Xg Tg F.keep (fun a ha => (q2 a ha).2.1) (show A.depth + 1 + 4 < recursionLimit by omega) q1 (by omega) fun h6 tk6 b6 S6 eS6 fr6 k6 => ?_⟩
    replace k6 : Sub (b'.addrs0 Y.dom) h h6 := k6
    have F6 := Fr_sub F k6 (fun q => (q2 _ q).1 L' (by simp) rfl) (fun a ha => (q2 a ha).2.1)
    have f6 := fresh_step q2 fr6 (by
      simp only [List.mem_cons, List.not_mem_nil, or_false]; rintro c (rfl | rfl | rfl)
      · exact fr_alive F
      · obtain ⟨_, o, ho, _⟩ := hst; exact ⟨o, ho⟩
      · obtain ⟨⟨o, ho, _⟩, _⟩ := hst; exact ⟨o, ho⟩) F.keep (G.sub _ _ F)
    have kI6 : ∀ a o, a = I ∨ a = t' → h.get? a = some o → h6.get? a = some o := fun a o ha e => k6 a o (fun q => by
      rcases ha with rfl | rfl
      · exact (q2 _ q).1 _ (by simp) rfl
      · exact (q2 _ q).1 _ (by simp) rfl) e
    have hpd : p ∈ (ensure Y p).dom := by unfold ensure; split; assumption; simp
    have hlen6 : (ensure Y p).dom.length ≤ Y.dom.length + 1 := by unfold ensure; split <;> simp
    have hsz6 : ∀ j ∈ (ensure Y p).dom, ((ensure Y p).succ j).length + ps.length ≤ 1000 + i := by
      unfold ensure
      split
      · exact q4
      · intro j hj
        simp only [List.mem_append, List.mem_singleton] at hj
        by_cases q : j = p
        · simp [q]; omega
        · simp only [q, if_false]; exact q4 j (hj.resolve_right q)
    refine sto_local rfl rfl F6 fun h7 F7 k7 => ?_
    replace k7 : Sub [L'] h6 h7 := k7
    replace F7 : Fr g L' h7 (upd m (Str.ofString "pred_info") (.ref (b6.nd p))) := F7
    have S7 := S6.keep fun a ha o e => k7 a o (by simpa using (f6 a ha).1 L' (by simp)) e
    have kI7 : ∀ a o, a = I ∨ a = t' → h.get? a = some o → h7.get? a = some o := fun a o ha e => k7 a o (by rcases ha with rfl | rfl; simpa using hLI.symm; simpa using htL) (kI6 a o ha e)
    have r6 := hcons (v := .ref (b6.nd p)) (y := Str.ofString "pred_info") q6 (by decide)
    have r7 := hcons (v := .ref (b6.nd p)) (y := Str.ofString "pred_info") q7 (by decide)
    have r8 : upd m (Str.ofString "pred_info") (.ref (b6.nd p)) (Str.ofString "pred_info") = some (.ref (b6.nd p)) := if_pos rfl
    generalize upd m (Str.ofString "pred_info") (.ref (b6.nd p)) = m7 at F7 r6 r7 r8
    clear F F6 S6 q1 q6 q7 hx Xh hi hD
    have X7 := Xg.keeps F7.keep
    obtain ⟨t1, t2, hn⟩ := S7.node p hpd
    have he := S7.emp p hpd
    obtain ⟨us, hl, hus⟩ := S7.lst p hpd
    have hul := hsz6 p hpd
    dsimp only
    iterate 6 walk_at "w"
    refine meth_list PySem.F.slot_list_append PySem.F.type_list_append hl ?_
    iterate 4 walk_at "w"
    refine wpAny_list_append_plain hl (fun h8 hl8 hs8 => ?_) (by rw [List.size_toArray, hus.length, sizeLine_eq]; omega)
    have hslL := (f6 _ (Book.sl_mem0 hpd))
    have k8 : Sub [b6.sl p] h7 h8 := fun a o ha e => hs8.extBut a o (fun q => ha (by simp [q])) e
    have F8 := Fr_sub F7 k8 (by simpa using (hslL.1 L' (by simp)).symm) (by intro a ha; rw [List.mem_singleton.mp ha]; exact hslL.2.1)
    have S8 := S7.set_succ (L := L') (vs := us ++ [.int k tn]) (r := (ensure Y p).succ p ++ [k]) hpd (fun a ha => (f6 a ha).1 L' (by simp)) (by simpa using hl8) (IntsAre.append hus (IntsAre.cons _ _ IntsAre.nil)) (k8.mono fun x hx => by simp at hx; simp [hx])
    walk1
    refine hqT _ _ ?_
    refine ⟨h8, m7, _, rfl, F8, ⟨b6, ⟨S8, f6, by show (ensure Y p).dom.length ≤ _; omega, fun j hj => ?_⟩, eS6.trans q5, by first | exact r6 | (rw [q5]; exact r6) | (rw [← q5]; exact r6), tn, r7⟩, fun a o ha e => k8 a o ?_ (kI7 a o ha e)⟩
    · show (List.length (if j = p then (ensure Y p).succ p ++ [k] else (ensure Y p).succ j)) + _ ≤ _
      have := hsz6 j hj
      split
      · rename_i q; rw [q] at this; rw [List.length_append, List.length_singleton]; omega
      · omega
    · rcases ha with rfl | rfl
      · simpa using (hslL.1 _ (by simp)).symm
      · simpa using (hslL.1 _ (by simp)).symm
end Mine
end
section
open PySem PySem.W PyProof.Rows
namespace Mine
def npD (Z : SSt) (i : Int) : Int := if i ∈ Z.dom then Z.np i else 0
def sucD (Z : SSt) (i : Int) : List Int := if i ∈ Z.dom then Z.succ i else []
theorem ensure_dom (Z : SSt) (p i : Int) : i ∈ (ensure Z p).dom ↔ i ∈ Z.dom ∨ i = p := by
  unfold ensure; split
  · rename_i h; exact ⟨.inl, fun q => q.elim id fun e => e ▸ h⟩
  · simp
theorem ensure_nodup {Z : SSt} (h : Z.dom.Nodup) (p : Int) : (ensure Z p).dom.Nodup := by
  unfold ensure; split
  · exact h
  · rename_i hp
    show (Z.dom ++ [p]).Nodup
    rw [List.nodup_append]
    exact ⟨h, by simp, fun a ha b hb q => hp (by rw [List.mem_singleton.mp hb] at q; exact q ▸ ha)⟩
theorem ensure_np (Z : SSt) (p i : Int) : npD (ensure Z p) i = npD Z i := by
  unfold npD
  by_cases hp : p ∈ Z.dom
  · have : ensure Z p = Z := if_pos hp
    rw [this]
  · have e : ensure Z p = { Z with dom := Z.dom ++ [p], np := fun i => if i = p then 0 else Z.np i, succ := fun i => if i = p then [] else Z.succ i } := if_neg hp
    rw [e]
    by_cases hi : i = p
    · subst hi; simp [hp]
    · simp [hi]
theorem ensure_suc (Z : SSt) (p i : Int) : sucD (ensure Z p) i = sucD Z i := by
  unfold sucD
  by_cases hp : p ∈ Z.dom
  · have : ensure Z p = Z := if_pos hp
    rw [this]
  · have e : ensure Z p = { Z with dom := Z.dom ++ [p], np := fun i => if i = p then 0 else Z.np i, succ := fun i => if i = p then [] else Z.succ i } := if_neg hp
    rw [e]
    by_cases hi : i = p
    · subst hi; simp [hp]
    · simp [hi]
theorem step_suc (k : Int) (Z : SSt) (p i : Int) : sucD (addStep k Z p) i = sucD Z i ++ if i = p then [k] else [] := by
  rw [← ensure_suc Z p i]
  unfold sucD addStep
  by_cases hi : i = p
  · subst hi
    have : i ∈ (ensure Z i).dom := (ensure_dom Z i i).mpr (.inr rfl)
    simp [this]
  · simp [hi]
theorem step_np (k : Int) (Z : SSt) (p i : Int) : npD (addStep k Z p) i = npD Z i := ensure_np Z p i
theorem adds (k : Int) : ∀ (ps : List Int) (Z : SSt), (Z.dom.Nodup → (ps.foldl (addStep k) Z).dom.Nodup) ∧ (∀ i, i ∈ (ps.foldl (addStep k) Z).dom ↔ i ∈ Z.dom ∨ i ∈ ps) ∧ (∀ i, npD (ps.foldl (addStep k) Z) i = npD Z i) ∧
    (∀ i, sucD (ps.foldl (addStep k) Z) i = sucD Z i ++ List.replicate (ps.count i) k)
  | [], Z => ⟨id, by simp, fun _ => rfl, by simp⟩
  | p :: ps, Z => by
    obtain ⟨h1, h2, h3, h4⟩ := adds k ps (addStep k Z p)
    rw [List.foldl_cons]
    refine ⟨fun h => h1 (ensure_nodup h p), fun i => ?_, fun i => (h3 i).trans (step_np k Z p i), fun i => ?_⟩
    · rw [h2 i]
      have : i ∈ (addStep k Z p).dom ↔ i ∈ Z.dom ∨ i = p := ensure_dom Z p i
      rw [this, List.mem_cons, or_assoc]
    · rw [h4 i, step_suc, List.count_cons]
      by_cases hi : i = p
      · subst hi
        rw [if_pos rfl, if_pos (by simp), List.append_assoc, List.replicate_succ]; rfl
      · rw [if_neg hi, if_neg (by simp; exact fun q => hi q.symm)]; simp
theorem addSt_np (Z : SSt) (k : Int) (ps : List Int) (i : Int) : npD (addSt Z k ps) i = npD Z i + if i = k then (ps.length : Int) else 0 := by
  unfold addSt
  rw [(adds k ps _).2.2.1 i, ← ensure_np Z k i]
  unfold npD add1
  have hk : k ∈ (ensure Z k).dom := (ensure_dom Z k k).mpr (.inr rfl)
  by_cases hi : i = k
  · subst hi; simp [hk]
  · simp [hi]
theorem addSt_suc (Z : SSt) (k : Int) (ps : List Int) (i : Int) : sucD (addSt Z k ps) i = sucD Z i ++ List.replicate (ps.count i) k := by
  unfold addSt
  rw [(adds k ps _).2.2.2 i]
  congr 1
  exact ensure_suc Z k i
theorem addSt_dom (Z : SSt) (k : Int) (ps : List Int) (i : Int) : i ∈ (addSt Z k ps).dom ↔ (i ∈ Z.dom ∨ i = k) ∨ i ∈ ps := by
  unfold addSt
  rw [(adds k ps _).2.1 i]
  exact or_congr (ensure_dom Z k i) Iff.rfl
theorem addSt_nodup {Z : SSt} (h : Z.dom.Nodup) (k : Int) (ps : List Int) : (addSt Z k ps).dom.Nodup := (adds k ps _).1 (ensure_nodup h k)
end Mine
end
section
open PySem PySem.W PyProof.Rows
set_option Elab.async false
set_option maxRecDepth 100000
set_option maxHeartbeats 8000000
namespace Mine
local macro_rules | `(tactic| walk_at "ga") => `(tactic| first
  | (((with_reducible show wpAny _ _ (getAttr (Value.ref _) (Str.ofString "_node2info") _) _ _ _); refine ts_get1 (by assumption) (by assumption) (by assumption) rfl ?_))
  | (((with_reducible show wpAny _ _ (getAttr (Value.ref _) (Str.ofString "_ready_nodes") _) _ _ _); refine ts_get2 (by assumption) (by assumption) (by assumption) rfl ?_))
  | (((with_reducible show wpAny _ _ (getAttr (Value.ref _) (Str.ofString "_npassedout") _) _ _ _); refine ts_get3 (by assumption) (by assumption) (by assumption) rfl ?_))
  | (((with_reducible show wpAny _ _ (getAttr (Value.ref _) (Str.ofString "_nfinished") _) _ _ _); refine ts_get4 (by assumption) (by assumption) (by assumption) rfl ?_))
  | (((with_reducible show wpAny _ _ (getAttr (Value.ref _) (Str.ofString "node") _) _ _ _); refine nd_get0 (by assumption) (by assumption) (by assumption) ?_))
  | (((with_reducible show wpAny _ _ (getAttr (Value.ref _) (Str.ofString "npredecessors") _) _ _ _); refine nd_get1 (by assumption) (by assumption) (by assumption) ?_))
  | (((with_reducible show wpAny _ _ (getAttr (Value.ref _) (Str.ofString "successors") _) _ _ _); refine nd_get2 (by assumption) (by assumption) (by assumption) ?_)))
local macro_rules | `(tactic| walk_at "nm") => `(tactic| (with_reducible show wpAny _ _ (eval (Expr.Name _ _) _) _ _ _);
  (with_unfolding_all refine nm_local (by assumption) (by assumption) ?_ rfl rfl (by decide)))
local macro_rules | `(tactic| walk_at "w") => `(tactic| first | walk_at "ga" | walk_at "nm" | (with_reducible refine Attribute_name ?_) | walk1)

def dstep (x : (Int → Int) × List Int) (s : Int) : (Int → Int) × List Int := (fun i => if i = s then x.1 s - 1 else x.1 i, if x.1 s - 1 = 0 then x.2 ++ [s] else x.2)
def doneSt (Z : SSt) (c : Int) : SSt := let x := (Z.succ c).foldl dstep (fun i => if i = c then -2 else Z.np i, Z.ready); { Z with np := x.1, ready := x.2, fin := Z.fin + 1 }
theorem done_c {w : World} {A : Around} {mean : ExcName → Option Value} {mg mb : Str → Option Value} {s : Shared} {Q : Value → Shared → Prop} {E : Value → Shared → Prop} {b : Book} {Z : SSt} {hb : Heap} {c : Int} {tc : Tok}
    (X : (hd.heap_1 w.params).In hb) (T : Top Mine.view (looseW Mine.view [Str.ofString "_NodeInfo"]) mean mg mb hb) (kb : Ext hb s.heap) (hmu : ∀ a ∈ b.addrs Z.dom, hb.get? a = none) (hroom : A.depth < recursionLimit) (hh : A.handled = none)
    (hS : Sorter PySem.Challenge.rw_nb0259_01.row.prog w s.heap b Z) (hc : c ∈ Z.dom) (hout : Z.np c = -1) (hsub : ∀ r ∈ Z.succ c, r ∈ Z.dom) (hsm : Z.ready.length + (Z.succ c).length ≤ 1000) (hsys : (b.N2 == sysModules) = false)
    (hQ : ∀ h' tk, Sorter PySem.Challenge.rw_nb0259_01.row.prog w h' b (doneSt Z c) → Sub (b.addrs Z.dom) s.heap h' → Q .none { s with heap := h', toks := tk }) :
    wpAny (model PySem.Challenge.rw_nb0259_01.row.prog w) A (call (.ref 147) [.ref b.S, .int c tc]) Q E s := by
  have Xs := X.keeps kb
  have Ts := T.keeps kb
  revert Xs; k_fill; intro Xs
  refine wpAny_call ?_
  (refine' code_rest (K := hd.heap_1 w.params) (vs := [.int c tc]) ?k3 ?k5 ?k6 ?k7 ?k8 ?kP ?kG ?kB ?_ ?c2 ?c3 ?c4 ?c5; (case k3 => exact Xs); (case k5 => exact Ts); (case k6 => k_is); (case k7 => k_is); (case k8 => exact hroom); (case kP => exact rfl); (case kG => exact fun _ => rfl); (case c5 => decide); (case kB => exact fun _ => locs rfl); (case c2 => exact rfl); (case c3 => exact rfl); (case c4 => exact rfl); k_whole; intro t' L' h' tk' hts htL ht1 F'; (try dsimp only))
  obtain ⟨g, G, Fg⟩ := ground X T kb hmu hS.alive F'
  have kF : Ext s.heap h' := F'.keep
  have S1 := hS.keep fun a _ o e => kF a o e
  clear F'
  have htA : ∀ a ∈ b.addrs Z.dom, t' ≠ a := fun a ha q => by
    obtain ⟨o, ho⟩ := hS.alive a ha
    rw [← q, hts] at ho; cases ho
  have N' : News g L' h' [] := News.nil
  have Xg := G.X
  have Tg := G.T
  have X' := Xg.keeps Fg.keep
  clear Xs Ts
  have hi := S1.inst
  obtain ⟨a, t, n, t3, t4, hD⟩ := S1.attrs
  refine wp_hide fun QF EF hqF _ => ?_
  iterate 9 walk_at "w"
  simp only [Bool.false_eq_true, if_false]
  iterate 7 walk_at "w"
  refine sto_local rfl rfl Fg fun h4 F4 k4 => ?_
  replace k4 : Sub [L'] h' h4 := k4
  replace F4 : Fr g L' h4 _ := F4
  have S4 := S1.keep fun a ha o e => k4 a o (by simpa using G.hL a ha) e
  have ht4 := k4 _ _ (by simpa using htL) ht1
  clear S1 Fg ht1 X' hi hD N'
  dsimp only
  walk1
  refine wpAny_For ?_
  walk1
  have hI4 : ∀ a o, h4.get? a = some o → a ≠ h4.objs.size := fun a o e q => absurd (Heap.lt_size e) (by rw [q]; exact Nat.lt_irrefl _)
  have htI := hI4 _ _ ht4
  have hLI : L' ≠ h4.objs.size := Nat.ne_of_lt F4.ns.lt
  have hAI : ∀ a ∈ b.addrs Z.dom, a ≠ h4.objs.size := fun a ha => let ⟨o, e⟩ := S4.alive a ha; hI4 a o e
  have hgI : g.get? h4.objs.size = none := by
    cases e : g.get? h4.objs.size with
    | none => rfl
    | some o => exact absurd rfl (hI4 _ _ (F4.keep _ _ e))
  refine wpAny_pyIter_tuple ⟨_, ht4, rfl, _, rfl⟩ ?_
  have F5 := Fr.push F4 { cls := .type "tuple_iterator", data := .fields #[.ref t', .int 0 0] }
  have hit5 : (h4.push { cls := .type "tuple_iterator", data := .fields #[.ref t', .int 0 0] }).IsTupleIter h4.objs.size t' 0 := ⟨_, Heap.get?_push_size _ rfl, rfl, rfl⟩
  have k5 : Ext h4 (h4.push { cls := .type "tuple_iterator", data := .fields #[.ref t', .int 0 0] }) := fun b o e => Heap.get?_push_of_some _ e
  generalize hH5 : h4.push { cls := .type "tuple_iterator", data := .fields #[.ref t', .int 0 0] } = h5 at F5 hit5 k5 ⊢
  have S5 := S4.keep fun a _ o e => k5 a o e
  have ht5 := k5 _ _ ht4
  have hcons : ∀ {m : Str → Option Value} {v : Value} {x y : Str} {u : Value}, m x = some u → x ≠ y → upd m y v x = some u := fun e hx => (if_neg hx).trans e
  dsimp only
  generalize h4.objs.size = I at *
  refine for_ints (g := g) (s := ⟨h5, _, _, _, _⟩) (ns := [c]) (Walks.tuple (A := A.deeper _) hh I t' htI [.int c tc].toArray) (IntsAre.cons c tc IntsAre.nil) rfl rfl hLI (Ne.symm htL) hgI
    (fun i h m => Sorter PySem.Challenge.rw_nb0259_01.row.prog w h b (if i = 0 then Z else doneSt Z c) ∧ m (Str.ofString "n2i") = some (.ref b.N2) ∧ m (Str.ofString "self") = some (.ref b.S)) ⟨hit5, ⟨_, ht5, rfl, _, rfl⟩⟩ F5 ⟨S5, rfl, rfl⟩ ?stab ?turn ?fin
  case stab =>
    rintro i h m h' v ⟨q1, q2, q3⟩ k
    have ed : (if i = 0 then Z else doneSt Z c).dom = Z.dom := by split <;> rfl
    exact ⟨q1.keep fun a ha o e => k a o (by rw [ed] at ha; simp only [List.mem_cons, List.not_mem_nil, or_false]; rintro (q | q); exact hAI a ha q; exact G.hL a ha q) e, hcons q2 (by decide), hcons q3 (by decide)⟩
  case fin =>
    rintro h h' m tk F ⟨q1, q2, q3⟩ k
    have S6 : Sorter PySem.Challenge.rw_nb0259_01.row.prog w h' b (doneSt Z c) := Sorter.keep (X := doneSt Z c) q1 fun a ha o e => k a o (by simpa using hAI a ha) e
    dsimp only
    walk1
    refine hqF _ _ ?_
    exact hQ _ _ S6 (G.sub _ _ F)
  case turn =>
    rintro i k tk0 h m tk E' hk F hx ⟨q1, q2, q3⟩ hst
    clear F4 F5 S4 S5 hit5 k5 ht5 ht4 hH5
    have hi0 : i = 0 := by
      cases i with
      | zero => rfl
      | succ j => simp at hk
    subst hi0
    simp only [List.getElem?_cons_zero, Option.some.injEq] at hk
    subst hk
    simp only [if_true] at q1
    obtain ⟨t1, t2, hn⟩ := q1.node c hc
    have Xh := Xg.keeps F.keep
    refine wp_hide fun QT ET hqT _ => ?_
    iterate 6 walk_at "w"
    refine meth_dict PySem.F.slot_dict_get PySem.F.type_dict_get q1.n2i ?_
    iterate 4 walk_at "w"
    refine get_pairs hsys q1.n2i ?_
    rw [valueAt_dom hc]
    refine asg_local rfl rfl F fun h1 F1 k1 => ?_
    replace k1 : Sub [L'] h h1 := k1
    replace F1 : Fr g L' h1 _ := F1
    have S1 := q1.keep fun a ha o e => k1 a o (by simpa using G.hL a ha) e
    have r2 := hcons (v := .ref (b.nd c)) (y := Str.ofString "nodeinfo") q2 (by decide)
    have r3 := hcons (v := .ref (b.nd c)) (y := Str.ofString "nodeinfo") q3 (by decide)
    have r4 : upd m (Str.ofString "nodeinfo") (.ref (b.nd c)) (Str.ofString "nodeinfo") = some (.ref (b.nd c)) := if_pos rfl
    have kI1 : ∀ a o, a = I ∨ a = t' → h.get? a = some o → h1.get? a = some o := fun a o ha e => k1 a o (by rcases ha with rfl | rfl; simpa using hLI.symm; simpa using htL) e
    replace F1 : Fr g L' h1 (upd m (Str.ofString "nodeinfo") (.ref (b.nd c))) := F1
    generalize upd m (Str.ofString "nodeinfo") (.ref (b.nd c)) = m1 at F1 r2 r3 r4
    clear F q1 q2 q3 hn Xh k1
    obtain ⟨t1, t2, hn⟩ := S1.node c hc
    have he := S1.emp c hc
    rw [hout] at hn
    have X1 := Xg.keeps F1.keep
    dsimp only [Option.getD]
    iterate 3 walk_at "w"
    simp only [Bool.false_eq_true, if_false]
    iterate 7 walk_at "w"
    refine sto_local rfl rfl F1 fun h2 F2 k2 => ?_
    replace k2 : Sub [L'] h1 h2 := k2
    replace F2 : Fr g L' h2 (upd m1 (Str.ofString "stat") (.int (-1) t2)) := F2
    have S2 := S1.keep fun a ha o e => k2 a o (by simpa using G.hL a ha) e
    replace hn := k2 _ _ (by simpa using G.hL _ (Book.nd_mem hc)) hn
    replace he := S2.emp c hc
    have o2 := hcons (v := .int (-1) t2) (y := Str.ofString "stat") r2 (by decide)
    have o3 := hcons (v := .int (-1) t2) (y := Str.ofString "stat") r3 (by decide)
    have o4 := hcons (v := .int (-1) t2) (y := Str.ofString "stat") r4 (by decide)
    have o5 : upd m1 (Str.ofString "stat") (.int (-1) t2) (Str.ofString "stat") = some (.int (-1) t2) := if_pos rfl
    have kI2 : ∀ a o, a = I ∨ a = t' → h.get? a = some o → h2.get? a = some o := fun a o ha e => k2 a o (by rcases ha with rfl | rfl; simpa using hLI.symm; simpa using htL) (kI1 a o ha e)
    generalize upd m1 (Str.ofString "stat") (.int (-1) t2) = m2 at F2 o2 o3 o4 o5
    clear F1 S1 r2 r3 r4 X1 k2 kI1
    have X2 := Xg.keeps F2.keep
    dsimp only
    iterate 7 walk_at "w"
    rw [if_neg (by decide)]
    iterate 6 walk_at "w"
    refine nd_set1 F2 X2 hn he (G.hL _ (Book.nd_mem hc)) (G.hg _ (Book.nd_mem hc)) fun h3 tk3 F3 hn3 k3 => ?_
    have S3 := S2.set_np hc G.hL hn3 k3
    replace he := S3.emp c hc
    have kI3 : ∀ a o, a = I ∨ a = t' → h.get? a = some o → h3.get? a = some o := fun a o ha e => k3 a o (by
      simp only [List.mem_cons, List.not_mem_nil, or_false]; rintro (q | q)
      · rcases ha with rfl | rfl
        · exact hAI _ (Book.nd_mem hc) q.symm
        · exact htA _ (Book.nd_mem hc) q
      · rcases ha with rfl | rfl
        · exact hLI q.symm
        · exact htL q) (kI2 a o ha e)
    clear F2 S2 X2 kI2 k3 hn
    have X3 := Xg.keeps F3.keep
    obtain ⟨vs, hsl, hvs⟩ := S3.lst c hc
    replace hvs : IntsAre vs (Z.succ c) := hvs
    dsimp only
    walk1
    refine wpAny_For ?_
    iterate 3 walk_at "w"
    have hI3 : ∀ a o, h3.get? a = some o → a ≠ h3.objs.size := fun a o e q => absurd (Heap.lt_size e) (by rw [q]; exact Nat.lt_irrefl _)
    have hsI : b.sl c ≠ h3.objs.size := let ⟨_, e⟩ := hsl; hI3 _ _ e
    have hLJ : L' ≠ h3.objs.size := Nat.ne_of_lt F3.ns.lt
    have hAJ : ∀ a ∈ b.addrs Z.dom, a ≠ h3.objs.size := fun a ha => let ⟨o, e⟩ := S3.alive a ha; hI3 a o e
    have hgJ : g.get? h3.objs.size = none := by
      cases e : g.get? h3.objs.size with
      | none => rfl
      | some o => exact absurd rfl (hI3 _ _ (F3.keep _ _ e))
    refine wpAny_pyIter_list hsl.isList ?_
    have F5 := Fr.push F3 { cls := .type "list_iterator", data := .fields #[.ref (b.sl c), .int 0 0] }
    have hit5 : (h3.push { cls := .type "list_iterator", data := .fields #[.ref (b.sl c), .int 0 0] }).IsListIter h3.objs.size (b.sl c) 0 := ⟨_, Heap.get?_push_size _ rfl, rfl, rfl⟩
    have k5 : Ext h3 (h3.push { cls := .type "list_iterator", data := .fields #[.ref (b.sl c), .int 0 0] }) := fun b o e => Heap.get?_push_of_some _ e
    generalize hH5 : h3.push { cls := .type "list_iterator", data := .fields #[.ref (b.sl c), .int 0 0] } = h5 at F5 hit5 k5 ⊢
    have S5 := S3.keep fun a _ o e => k5 a o e
    have kI5 : ∀ a o, a = I ∨ a = t' → h.get? a = some o → h5.get? a = some o := fun a o ha e => k5 a o (kI3 a o ha e)
    have hsl5 : h5.IsList (b.sl c) vs.toArray := hsl.isList.at fun o e => k5 _ o e
    have hIJ : I ≠ h3.objs.size ∨ ∀ o, h.get? I ≠ some o := by
      rcases e : h.get? I with _ | o
      · right; simp
      · left; exact hI3 _ _ (kI3 I o (.inl rfl) e)
    have htJ : t' ≠ h3.objs.size ∨ ∀ o, h.get? t' ≠ some o := by
      rcases e : h.get? t' with _ | o
      · right; simp
      · left; exact hI3 _ _ (kI3 t' o (.inr rfl) e)
    clear F3 S3 X3 kI3 hI3 hn3
    dsimp only
    generalize h3.objs.size = I2 at *
    refine for_ints (g := g) (s := ⟨h5, _, _, _, _⟩) (ns := Z.succ c) (Walks.list (A := A.deeper _) hh I2 (b.sl c) hsI vs.toArray) hvs rfl rfl hLJ (G.hL _ (Book.sl_mem hc)).symm hgJ
      (fun i h' m => (let x := ((Z.succ c).take i).foldl dstep (fun i => if i = c then -2 else Z.np i, Z.ready); Sorter PySem.Challenge.rw_nb0259_01.row.prog w h' b { Z with np := x.1, ready := x.2 } ∧ x.2.length ≤ Z.ready.length + i) ∧ m (Str.ofString "n2i") = some (.ref b.N2) ∧ m (Str.ofString "self") = some (.ref b.S) ∧
        ∀ a o, a = I ∨ a = t' → h.get? a = some o → h'.get? a = some o) ⟨hit5, hsl5⟩ F5 ⟨⟨S5, Nat.le_refl _⟩, o2, o3, kI5⟩ ?stab ?turn ?fin
    case stab =>
      rintro i h1 m h' v ⟨⟨q1, q0⟩, q2, q3, q4⟩ k
      refine ⟨⟨q1.keep fun a ha o e => k a o (by simp only [List.mem_cons, List.not_mem_nil, or_false]; rintro (q | q); exact hAJ a ha q; exact G.hL a ha q) e, q0⟩, hcons q2 (by decide), hcons q3 (by decide), fun a o ha e => k a o ?_ (q4 a o ha e)⟩
      simp only [List.mem_cons, List.not_mem_nil, or_false]
      rintro (q | q)
      · rcases ha with rfl | rfl
        · exact hIJ.elim (fun z => z q) (fun z => z o e)
        · exact htJ.elim (fun z => z q) (fun z => z o e)
      · rcases ha with rfl | rfl
        · exact hLI q.symm
        · exact htL q
    case fin =>
      rintro h6 h7 m6 tk6 F6 ⟨⟨q1, q0⟩, q2, q3, q4⟩ k6
      have S6 := q1.keep fun a ha o e => k6 a o (by simpa using hAJ a ha) e
      have kI6 : ∀ a o, a = I ∨ a = t' → h.get? a = some o → h7.get? a = some o := fun a o ha e => k6 a o (by
        rcases ha with rfl | rfl
        · simpa using hIJ.elim (fun z => z) (fun z => absurd e (z o))
        · simpa using htJ.elim (fun z => z) (fun z => absurd e (z o))) (q4 a o ha e)
      clear F5 S5 k5 kI5 q1 q4 k6
      have X6 := Xg.keeps F6.keep
      have hi := S6.inst
      obtain ⟨a, t, n, t3, t4, hD⟩ := S6.attrs
      dsimp only
      walk1
      refine wpAny_AugAssign_AttributeAny ?_
      iterate 4 walk_at "w"
      refine ts_set4 F6 X6 hi hD (G.hL _ (by simp [Book.addrs])) (G.hg _ (by simp [Book.addrs])) fun h8 tk8 F8 hD8 k8 => ?_
      have S8 := S6.set_attr G.hL hD8 k8
      walk1
      refine hqT _ _ ?_
      refine ⟨h8, _, _, rfl, F8, ⟨?_, q2, q3⟩, fun a o ha e => k8 a o ?_ (kI6 a o ha e)⟩
      · rw [List.take_length] at S8
        exact S8
      · simp only [List.mem_cons, List.not_mem_nil, or_false]
        rintro (q | q)
        · rcases ha with rfl | rfl
          · exact hAI _ (by simp [Book.addrs]) q.symm
          · exact htA _ (by simp [Book.addrs]) q
        · rcases ha with rfl | rfl
          · exact hLI q.symm
          · exact htL q
    case turn =>
      rintro i k tk0 h6 m6 tk6 E6 hk F6 hx6 ⟨⟨q1, q0⟩, q2, q3, q4⟩ hst6
      clear F5 S5 k5 kI5 hit5 hsl5 hsl
      have hkd : k ∈ Z.dom := hsub k (List.mem_of_getElem? hk)
      have hlen : i < (Z.succ c).length := (List.getElem?_eq_some_iff.mp hk).1
      generalize hY : ((Z.succ c).take i).foldl dstep (fun i => if i = c then -2 else Z.np i, Z.ready) = y at q1 q0
      have hY' : ((Z.succ c).take (i + 1)).foldl dstep (fun i => if i = c then -2 else Z.np i, Z.ready) = dstep y k := by
        rw [List.take_add_one, hk, List.foldl_append, hY]; rfl
      rw [hY']
      have X6 := Xg.keeps F6.keep
      refine wp_hide fun QU EU hqU _ => ?_
      iterate 5 walk_at "w"
      refine item_pairs q1.n2i (valueAt_dom hkd) ?_
      refine sto_local rfl rfl F6 fun h7 F7 k7 => ?_
      replace k7 : Sub [L'] h6 h7 := k7
      replace F7 : Fr g L' h7 (upd m6 (Str.ofString "successor_info") (.ref (b.nd k))) := F7
      have S7 := q1.keep fun a ha o e => k7 a o (by simpa using G.hL a ha) e
      have r2 := hcons (v := .ref (b.nd k)) (y := Str.ofString "successor_info") q2 (by decide)
      have r3 := hcons (v := .ref (b.nd k)) (y := Str.ofString "successor_info") q3 (by decide)
      have r5 := hcons (v := .ref (b.nd k)) (y := Str.ofString "successor_info") hx6 (by decide)
      have r4 : upd m6 (Str.ofString "successor_info") (.ref (b.nd k)) (Str.ofString "successor_info") = some (.ref (b.nd k)) := if_pos rfl
      generalize upd m6 (Str.ofString "successor_info") (.ref (b.nd k)) = m7 at F7 r2 r3 r4 r5
      have hkeepL : ∀ a, a = I ∨ a = t' ∨ a = I2 → a ≠ L' := by rintro a (rfl | rfl | rfl); exact hLI.symm; exact htL; exact hLJ.symm
      clear F6 q2 q3 hx6 X6
      have X7 := Xg.keeps F7.keep
      obtain ⟨t1, t2, hn⟩ := S7.node k hkd
      clear he
      have he := S7.emp k hkd
      dsimp only
      walk1
      refine wpAny_AugAssign_AttributeAny ?_
      iterate 4 walk_at "w"
      refine nd_set1 F7 X7 hn he (G.hL _ (Book.nd_mem hkd)) (G.hg _ (Book.nd_mem hkd)) fun h8 tk8 F8 hn8 k8 => ?_
      have S8 := S7.set_np hkd G.hL hn8 k8
      replace he := S8.emp k hkd
      have X8 := Xg.keeps F8.keep
      clear F7 S7 X7 hn
      have hi := S8.inst
      obtain ⟨a, t, n, t3, t4, hD⟩ := S8.attrs
      iterate 9 walk_at "w"
      have kend : ∀ a o, a = I ∨ a = t' → h.get? a = some o → h8.get? a = some o := fun a o ha e => k8 a o (by
        simp only [List.mem_cons, List.not_mem_nil, or_false]; rintro (q | q)
        · rcases ha with rfl | rfl
          · exact hAI _ (Book.nd_mem hkd) q.symm
          · exact htA _ (Book.nd_mem hkd) q
        · exact hkeepL a (ha.elim .inl fun q => .inr (.inl q)) q) (k7 a o (by simpa using hkeepL a (ha.elim .inl fun q => .inr (.inl q))) (q4 a o ha e))
      have kend2 : ∀ a o, a = I2 ∨ a = b.sl c → h6.get? a = some o → h8.get? a = some o := fun a o ha e => k8 a o (by
        simp only [List.mem_cons, List.not_mem_nil, or_false]; rintro (q | q)
        · rcases ha with rfl | rfl
          · exact hAJ _ (Book.nd_mem hkd) q.symm
          · exact S8.apart.ns k hkd c hc q.symm
        · rcases ha with rfl | rfl
          · exact hLJ q.symm
          · exact G.hL _ (Book.sl_mem hc) q) (k7 a o (by
            rcases ha with rfl | rfl
            · simpa using hLJ.symm
            · simpa using G.hL _ (Book.sl_mem hc)) e)
      by_cases hz : y.1 k - 1 = 0
      · rw [if_pos (beq_iff_eq.mpr hz)]
        obtain ⟨us, hR, hus⟩ := S8.rdy
        replace hus : IntsAre us y.2 := hus
        iterate 6 walk_at "w"
        refine meth_list PySem.F.slot_list_append PySem.F.type_list_append hR ?_
        iterate 4 walk_at "w"
        refine wpAny_list_append_plain hR (fun h9 hR9 hs9 => ?_) (by rw [List.size_toArray, hus.length, sizeLine_eq]; omega)
        have k9 : Sub [b.RD] h8 h9 := fun a o ha e => hs9.extBut a o (fun q => ha (by simp [q])) e
        have F9 : Fr g L' h9 m7 := ⟨F8.ns.sameBut hs9 (G.hL _ (by simp [Book.addrs])).symm, fun a o e => k9 a o (by
          intro q; rw [List.mem_singleton.mp q, G.hg _ (by simp [Book.addrs])] at e; cases e) (F8.keep a o e), F8.above⟩
        have S9 := S8.set_ready (L := L') (vs := us ++ [.int k tk0]) (r := y.2 ++ [k]) G.hL (by simpa using hR9) (IntsAre.append hus (IntsAre.cons _ _ IntsAre.nil)) (by simp; omega) (k9.mono fun x hx => by simp at hx; simp [hx])
        walk1
        dsimp only
        walk1
        walk1
        refine hqU _ _ ?_
        refine ⟨h9, m7, _, rfl, F9, ⟨⟨?_, ?_⟩, r2, r3, fun a o ha e => k9 a o ?_ (kend a o ha e)⟩, fun a o ha e => k9 a o ?_ (kend2 a o ha e)⟩
        · have e : dstep y k = (fun i => if i = k then y.1 k - 1 else y.1 i, y.2 ++ [k]) := by unfold dstep; rw [if_pos hz]
          rw [e]; exact S9
        · unfold dstep; rw [if_pos hz]; simp; omega
        · rcases ha with rfl | rfl
          · simpa using (hAI b.RD (by simp [Book.addrs])).symm
          · simpa using htA b.RD (by simp [Book.addrs])
        · rcases ha with rfl | rfl
          · simpa using (hAJ b.RD (by simp [Book.addrs])).symm
          · simpa using (S8.apart.sl c hc).2.2.2
      · rw [if_neg (fun q => hz (beq_iff_eq.mp q))]
        iterate 2 walk_at "w"
        dsimp only
        walk1
        have e : dstep y k = (fun i => if i = k then y.1 k - 1 else y.1 i, y.2) := by unfold dstep; rw [if_neg hz]
        refine hqU _ _ ?_
        refine ⟨h8, m7, _, rfl, F8, ⟨⟨?_, ?_⟩, r2, r3, kend⟩, kend2⟩
        · rw [e]; exact S8
        · rw [e]; exact Nat.le_succ_of_le q0
end Mine
end
section
open PySem PySem.W PyProof.Rows
namespace Mine
/-- what done's inner loop leaves -/
theorem dfold : ∀ (L : List Int) (np : Int → Int) (r : List Int), ∃ add : List Int, L.foldl dstep (np, r) = (fun j => np j - (L.count j : Int), r ++ add) ∧ add.Nodup ∧ ∀ j, j ∈ add ↔ 1 ≤ np j ∧ np j ≤ (L.count j : Int)
  | [], np, r => ⟨[], by simp, by simp, fun j => by simp; omega⟩
  | s :: L, np, r => by
    rw [List.foldl_cons]
    obtain ⟨add, h1, h2, h3⟩ := dfold L (fun i => if i = s then np s - 1 else np i) (if np s - 1 = 0 then r ++ [s] else r)
    have e : dstep (np, r) s = (fun i => if i = s then np s - 1 else np i, if np s - 1 = 0 then r ++ [s] else r) := rfl
    have hf : (fun j => (if j = s then np s - 1 else np j) - (L.count j : Int)) = fun j => np j - ((s :: L).count j : Int) := by
      funext j
      rw [List.count_cons]
      by_cases hj : j = s
      · subst hj; simp; omega
      · rw [if_neg hj, if_neg (by simp; exact fun q => hj q.symm)]; simp
    have hcs : ((s :: L).count s : Int) = (L.count s : Int) + 1 := by rw [List.count_cons_self]; simp
    have hcn : ∀ j, j ≠ s → ((s :: L).count j : Int) = (L.count j : Int) := fun j hj => by rw [List.count_cons_of_ne (Ne.symm hj)]
    rw [e, h1, hf]
    by_cases hz : np s - 1 = 0
    · rw [if_pos hz]
      refine ⟨s :: add, by simp, List.nodup_cons.mpr ⟨fun q => ?_, h2⟩, fun j => ?_⟩
      · have := (h3 s).mp q
        simp only [if_true] at this
        omega
      · rw [List.mem_cons, h3 j]
        by_cases hj : j = s
        · subst hj; simp only [if_true, hcs, true_or, true_iff]; omega
        · simp only [hj, if_false, false_or, hcn j hj]
    · rw [if_neg hz]
      refine ⟨add, rfl, h2, fun j => ?_⟩
      rw [h3 j]
      by_cases hj : j = s
      · subst hj; simp only [if_true, hcs]; omega
      · simp only [hj, if_false, hcn j hj]
end Mine
end
section
open PySem PySem.W PyProof.Rows
namespace Mine
/-- the needs of a name that are not done yet -/
def lack (G : Nat → List Int) (run : List Int) (i : Int) : Nat := ((G i.toNat).filter fun o => decide (o ∉ run)).length
theorem lack_zero {G : Nat → List Int} {run : List Int} {i : Int} : lack G run i = 0 ↔ ∀ o ∈ G i.toNat, o ∈ run := by
  unfold lack
  rw [List.length_eq_zero_iff, List.filter_eq_nil_iff]
  exact ⟨fun h o ho => by have := h o ho; simpa using this, fun h o ho => by simpa using h o ho⟩
theorem lack_snoc {G : Nat → List Int} {run : List Int} {c i : Int} (hc : c ∉ run) : lack G run i = lack G (run ++ [c]) i + (G i.toNat).count c := by
  unfold lack
  generalize G i.toNat = l
  induction l with
  | nil => rfl
  | cons a l ih =>
    rw [List.count_cons]
    by_cases ha : a ∈ run
    · have h2 : a ≠ c := fun q => hc (q ▸ ha)
      rw [List.filter_cons_of_neg (by simpa using ha), List.filter_cons_of_neg (by simp [ha]), ih]; simp [h2]
    · by_cases hac : a = c
      · subst hac
        rw [List.filter_cons_of_pos (by simpa using ha), List.filter_cons_of_neg (by simp), List.length_cons, ih]; simp; omega
      · rw [List.filter_cons_of_pos (by simpa using ha), List.filter_cons_of_pos (by simp [ha, hac]), List.length_cons, List.length_cons, ih]; simp [hac]; omega
def got (Z : SSt) : SSt := { Z with np := fun i => if i ∈ Z.ready then -1 else Z.np i, ready := [], pass := Z.pass + Z.ready.length }
/-- the sorter between two turns -/
structure Sim (G : Nat → List Int) (run waits : List Int) (Z : SSt) : Prop where
  dom : ∀ i, i ∈ Z.dom ↔ 0 ≤ i ∧ i < 5
  nd : Z.dom.Nodup
  goes : Goes G run
  wnd : waits.Nodup
  wts : ∀ i, i ∈ waits ↔ i ∈ frees G run
  suc : ∀ i j, 0 ≤ i ∧ i < 5 → 0 ≤ j ∧ j < 5 → (Z.succ i).count j = (G j.toNat).count i
  sin : ∀ i, 0 ≤ i ∧ i < 5 → ∀ j ∈ Z.succ i, 0 ≤ j ∧ j < 5
  npo : ∀ i, 0 ≤ i ∧ i < 5 → i ∉ run → i ∉ waits → Z.np i = lack G run i
  npw : ∀ i ∈ waits, Z.np i = -1
  rdy : Z.ready = []
  pass : Z.pass = run.length + waits.length
  fin : Z.fin = run.length
theorem Sim.step {G : Nat → List Int} {run waits : List Int} {Z : SSt} {c : Int} (h : Sim G run waits Z) (hc : c ∈ waits) :
    (∀ r ∈ (doneSt Z c).ready, 0 ≤ r ∧ r < 5) ∧ (doneSt Z c).ready.Nodup ∧ ∀ ws : List Int, ws.Perm (waits.erase c ++ (doneSt Z c).ready) → Sim G (run ++ [c]) ws (got (doneSt Z c)) := by
  obtain ⟨add, e, hnd, hadd⟩ := dfold (Z.succ c) (fun i => if i = c then -2 else Z.np i) Z.ready
  have hcf := (h.wts c).mp hc
  obtain ⟨hc0, hcr, hcn⟩ := mem_frees.mp hcf
  have er : (doneSt Z c).ready = add := by
    show ((Z.succ c).foldl dstep (fun i => if i = c then -2 else Z.np i, Z.ready)).2 = add
    rw [e, h.rdy]; rfl
  have en : (doneSt Z c).np = fun j => (if j = c then -2 else Z.np j) - ((Z.succ c).count j : Int) := by
    show ((Z.succ c).foldl dstep (fun i => if i = c then -2 else Z.np i, Z.ready)).1 = _
    rw [e]
  have hrange : ∀ j ∈ add, 0 ≤ j ∧ j < 5 := fun j hj => by
    have hj := (hadd j).mp hj
    refine h.sin c hc0 j (List.count_pos_iff.mp ?_)
    omega
  -- who is added
  have hnew : ∀ j, j ∈ add ↔ (0 ≤ j ∧ j < 5) ∧ j ∉ run ∧ j ∉ waits ∧ ∀ o ∈ G j.toNat, o ∈ run ++ [c] := by
    intro j
    constructor
    · intro hj
      have hr := hrange j hj
      have h1 := (hadd j).mp hj
      rw [h.suc c j hc0 hr] at h1
      have hjc : j ≠ c := fun q => by rw [if_pos q] at h1; omega
      rw [if_neg hjc] at h1
      have hpos : 0 < (G j.toNat).count c := by omega
      have hcG := List.count_pos_iff.mp hpos
      have hjr : j ∉ run := fun q => hcr ((h.goes.needs j q).2 c hcG)
      have hjw : j ∉ waits := fun q => hcr ((mem_frees.mp ((h.wts j).mp q)).2.2 c hcG)
      refine ⟨hr, hjr, hjw, lack_zero.mp ?_⟩
      have := h.npo j hr hjr hjw
      have hl := lack_snoc (G := G) (i := j) hcr
      omega
    · rintro ⟨hr, hjr, hjw, hn⟩
      have hjc : j ≠ c := fun q => hjw (q ▸ hc)
      rw [hadd j, if_neg hjc, h.suc c j hc0 hr, h.npo j hr hjr hjw]
      have hl := lack_snoc (G := G) (i := j) hcr
      rw [lack_zero.mpr hn] at hl
      have : lack G run j ≠ 0 := fun q => hjw ((h.wts j).mpr (mem_frees.mpr ⟨hr, hjr, lack_zero.mp q⟩))
      omega
  rw [er]
  refine ⟨hrange, hnd, fun ws hp => ?_⟩
  have hmem : ∀ i, i ∈ ws ↔ (i ∈ waits ∧ i ≠ c) ∨ i ∈ add := fun i => by
    rw [hp.mem_iff, List.mem_append, h.wnd.mem_erase_iff]
    exact or_congr ⟨fun q => ⟨q.2, q.1⟩, fun q => ⟨q.2, q.1⟩⟩ Iff.rfl
  have hw0 : ∀ i ∈ waits, ∀ o ∈ G i.toNat, o ∈ run := fun i hi => (mem_frees.mp ((h.wts i).mp hi)).2.2
  have hdis : ∀ i ∈ add, i ∉ waits := fun i hi => ((hnew i).mp hi).2.2.1
  refine ⟨h.dom, h.nd, h.goes.snoc hcf, ?_, fun i => ?_, h.suc, h.sin, fun i hi hir hiw => ?_, fun i hi => ?_, rfl, ?_, ?_⟩
  · rw [hp.nodup_iff, List.nodup_append]
    exact ⟨h.wnd.erase c, hnd, fun a ha b hb q => hdis b hb (q ▸ List.mem_of_mem_erase ha)⟩
  · rw [hmem, mem_frees]
    constructor
    · rintro (⟨q, qc⟩ | q)
      · obtain ⟨a1, a2, a3⟩ := mem_frees.mp ((h.wts i).mp q)
        exact ⟨a1, by simp [a2, qc], fun o ho => List.mem_append_left _ (a3 o ho)⟩
      · obtain ⟨a1, a2, a3, a4⟩ := (hnew i).mp q
        exact ⟨a1, by simp [a2]; exact fun z => a3 (z ▸ hc), a4⟩
    · rintro ⟨a1, a2, a3⟩
      have b1 : i ∉ run := fun z => a2 (List.mem_append_left _ z)
      have b2 : i ≠ c := fun z => a2 (by simp [z])
      by_cases hw : i ∈ waits
      · exact .inl ⟨hw, b2⟩
      · exact .inr ((hnew i).mpr ⟨a1, b1, hw, a3⟩)
  · have b1 : i ∉ run := fun z => hir (List.mem_append_left _ z)
    have b2 : i ≠ c := fun z => hir (by simp [z])
    have b3 : i ∉ add := fun z => hiw ((hmem i).mpr (.inr z))
    have b4 : i ∉ waits := fun z => hiw ((hmem i).mpr (.inl ⟨z, b2⟩))
    show (if i ∈ (doneSt Z c).ready then (-1 : Int) else (doneSt Z c).np i) = _
    rw [er, if_neg b3, en]
    show (if i = c then -2 else Z.np i) - ((Z.succ c).count i : Int) = _
    rw [if_neg b2, h.npo i hi b1 b4, h.suc c i hc0 hi]
    have := lack_snoc (G := G) (i := i) hcr
    omega
  · show (if i ∈ (doneSt Z c).ready then (-1 : Int) else (doneSt Z c).np i) = _
    rw [er]
    rcases (hmem i).mp hi with ⟨q, qc⟩ | q
    · rw [if_neg (fun z => hdis i z q), en]
      show (if i = c then -2 else Z.np i) - ((Z.succ c).count i : Int) = _
      rw [if_neg qc, h.npw i q, h.suc c i hc0 (mem_frees.mp ((h.wts i).mp q)).1, List.count_eq_zero.mpr (fun z => hcr (hw0 i q c z))]
      rfl
    · rw [if_pos q]
  · show Z.pass + ((doneSt Z c).ready.length : Int) = _
    rw [er, h.pass, hp.length_eq, List.length_append, List.length_append, List.length_singleton, List.length_erase_of_mem hc]
    have := List.length_pos_of_mem hc
    omega
  · show Z.fin + 1 = _
    rw [h.fin, List.length_append, List.length_singleton]; omega
end Mine
end
section
open PySem PySem.W PyProof.Rows
namespace Mine
theorem Sim.start {G : Nat → List Int} {Z : SSt} (dom : ∀ i, i ∈ Z.dom ↔ 0 ≤ i ∧ i < 5) (nd : Z.dom.Nodup) (np : ∀ i, 0 ≤ i ∧ i < 5 → Z.np i = (G i.toNat).length) (suc : ∀ i j, 0 ≤ i ∧ i < 5 → 0 ≤ j ∧ j < 5 → (Z.succ i).count j = (G j.toNat).count i)
    (sin : ∀ i, 0 ≤ i ∧ i < 5 → ∀ j ∈ Z.succ i, 0 ≤ j ∧ j < 5) (hrn : Z.ready.Nodup) (hr : ∀ i, i ∈ Z.ready ↔ (0 ≤ i ∧ i < 5) ∧ Z.np i = 0) (hp : Z.pass = 0) (hf : Z.fin = 0) {ws : List Int} (hw : ws.Perm Z.ready) : Sim G [] ws (got Z) := by
  have hl : ∀ i, lack G [] i = (G i.toNat).length := fun i => by unfold lack; rw [List.filter_eq_self.mpr (by simp)]
  have hmem : ∀ i, i ∈ ws ↔ i ∈ frees G [] := fun i => by
    rw [hw.mem_iff, hr, mem_frees]
    constructor
    · rintro ⟨a, b⟩
      rw [np i a] at b
      have : G i.toNat = [] := List.length_eq_zero_iff.mp (by omega)
      exact ⟨a, by simp, by rw [this]; simp⟩
    · rintro ⟨a, _, b⟩
      refine ⟨a, ?_⟩
      rw [np i a]
      have : G i.toNat = [] := List.eq_nil_iff_forall_not_mem.mpr fun o ho => by cases b o ho
      rw [this]; rfl
  refine ⟨dom, nd, .nil, hw.nodup_iff.mpr hrn, hmem, suc, sin, fun i hi _ hiw => ?_, fun i hi => ?_, rfl, ?_, ?_⟩
  · show (if i ∈ Z.ready then (-1 : Int) else Z.np i) = _
    rw [if_neg (fun q => hiw (hw.mem_iff.mpr q)), np i hi, hl]
  · show (if i ∈ Z.ready then (-1 : Int) else Z.np i) = _
    rw [if_pos (hw.mem_iff.mp hi)]
  · show Z.pass + (Z.ready.length : Int) = _
    rw [hp, hw.length_eq]; simp
  · show Z.fin = _
    rw [hf]; rfl
def Z0 : SSt := ⟨[], fun _ => 0, fun _ => [], [], 0, 0⟩
def addAll (G : Nat → List Int) : SSt := addSt (addSt (addSt (addSt (addSt Z0 0 (G 0)) 1 (G 1)) 2 (G 2)) 3 (G 3)) 4 (G 4)
theorem five {i : Int} (h : 0 ≤ i ∧ i < 5) : i = 0 ∨ i = 1 ∨ i = 2 ∨ i = 3 ∨ i = 4 := by omega
section
variable {G : Nat → List Int} (hG : ∀ n, n < 5 → ∀ o ∈ G n, 0 ≤ o ∧ o < 5)
include hG
theorem addAll_dom (i : Int) : i ∈ (addAll G).dom ↔ 0 ≤ i ∧ i < 5 := by
  unfold addAll
  simp only [addSt_dom, Z0, List.not_mem_nil, false_or]
  constructor
  · intro h
    rcases h with ((((((((rfl | h) | rfl) | h) | rfl) | h) | rfl) | h) | rfl) | h
    all_goals first | omega | exact hG 0 (by omega) i h | exact hG 1 (by omega) i h | exact hG 2 (by omega) i h | exact hG 3 (by omega) i h | exact hG 4 (by omega) i h
  · intro h
    rcases five h with rfl | rfl | rfl | rfl | rfl <;> simp
theorem addAll_nodup : (addAll G).dom.Nodup := addSt_nodup (addSt_nodup (addSt_nodup (addSt_nodup (addSt_nodup (by simp [Z0]) _ _) _ _) _ _) _ _) _ _
theorem addAll_np {i : Int} (h : 0 ≤ i ∧ i < 5) : (addAll G).np i = (G i.toNat).length := by
  have e : npD (addAll G) i = (addAll G).np i := if_pos ((addAll_dom hG i).mpr h)
  rw [← e]
  unfold addAll
  simp only [addSt_np]
  rcases five h with rfl | rfl | rfl | rfl | rfl <;> simp [npD, Z0]
theorem addAll_suc {i : Int} (h : 0 ≤ i ∧ i < 5) : (addAll G).succ i = List.replicate ((G 0).count i) 0 ++ List.replicate ((G 1).count i) 1 ++ List.replicate ((G 2).count i) 2 ++ List.replicate ((G 3).count i) 3 ++ List.replicate ((G 4).count i) 4 := by
  have e : sucD (addAll G) i = (addAll G).succ i := if_pos ((addAll_dom hG i).mpr h)
  rw [← e]
  unfold addAll
  simp only [addSt_suc]
  simp [sucD, Z0]
theorem addAll_count {i j : Int} (h : 0 ≤ i ∧ i < 5) (hj : 0 ≤ j ∧ j < 5) : ((addAll G).succ i).count j = (G j.toNat).count i := by
  rw [addAll_suc hG h]
  simp only [List.count_append, List.count_replicate]
  rcases five hj with rfl | rfl | rfl | rfl | rfl <;> simp
theorem addAll_in {i : Int} (h : 0 ≤ i ∧ i < 5) : ∀ j ∈ (addAll G).succ i, 0 ≤ j ∧ j < 5 := by
  intro j hj
  rw [addAll_suc hG h] at hj
  simp only [List.mem_append, List.mem_replicate] at hj
  rcases hj with (((⟨_, rfl⟩ | ⟨_, rfl⟩) | ⟨_, rfl⟩) | ⟨_, rfl⟩) | ⟨_, rfl⟩ <;> omega
end
end Mine
end
section
open PySem PySem.W PyProof.Rows
namespace Mine
theorem ahead_irr {key : Int → Int} {a : Int} : ¬ Ahead key a a := fun h => by rcases h with h | h <;> omega
theorem ahead_asym {key : Int → Int} {a b : Int} (h : Ahead key a b) (h' : Ahead key b a) : False := by
  rcases h with h | h <;> rcases h' with h' | h' <;> omega
theorem ahead_nodup {key : Int → Int} {l : List Int} (h : l.Pairwise (Ahead key)) : l.Nodup := by
  unfold List.Nodup
  refine h.imp ?_
  intro a b q e
  subst e
  exact ahead_irr q
/-- two lists in the order of key and name with the same names are one -/
theorem ahead_unique {key : Int → Int} : ∀ {a b : List Int}, a.Pairwise (Ahead key) → b.Pairwise (Ahead key) → (∀ i, i ∈ a ↔ i ∈ b) → a = b
  | [], b, _, _, h => by
    cases b with
    | nil => rfl
    | cons x r => have := (h x).mpr (by simp); cases this
  | x :: a, [], _, _, h => by have := (h x).mp (by simp); cases this
  | x :: a, y :: b, ha, hb, h => by
    obtain ⟨a1, a2⟩ := List.pairwise_cons.mp ha
    obtain ⟨b1, b2⟩ := List.pairwise_cons.mp hb
    have hxy : x = y := by
      by_cases q : x = y
      · exact q
      · have h1 : y ∈ a := by
          rcases List.mem_cons.mp ((h y).mpr (by simp)) with z | z
          · exact absurd z.symm q
          · exact z
        have h2 : x ∈ b := by
          rcases List.mem_cons.mp ((h x).mp (by simp)) with z | z
          · exact absurd z q
          · exact z
        exact (ahead_asym (a1 y h1) (b1 x h2)).elim
    subst hxy
    congr 1
    refine ahead_unique a2 b2 fun i => ⟨fun hi => ?_, fun hi => ?_⟩
    · rcases List.mem_cons.mp ((h i).mp (List.mem_cons_of_mem _ hi)) with z | z
      · exact absurd (a1 i hi) (z ▸ ahead_irr)
      · exact z
    · rcases List.mem_cons.mp ((h i).mpr (List.mem_cons_of_mem _ hi)) with z | z
      · exact absurd (b1 i hi) (z ▸ ahead_irr)
      · exact z
theorem frees_ahead (G : Nat → List Int) (run : List Int) : (frees G run).Pairwise (Ahead fun _ => 0) := by
  unfold frees
  refine List.Pairwise.filter _ ?_
  have : (upto 5).Pairwise (· < ·) := by decide
  exact this.imp fun q => .inr ⟨rfl, q⟩
end Mine
end
section
open PySem PySem.W PyProof.Rows
set_option Elab.async false
set_option maxRecDepth 100000
namespace Mine
/-- what a tree of questions comes to -/
def kev {α : Type} (lt : Nat → Nat → Bool) : KasT α → α
  | .ret a => a
  | .ask i j k => kev lt (k (lt i j))
/-- all questions are of the first n -/
def kbnd {α : Type} (n : Nat) : KasT α → Bool
  | .ret _ => true
  | .ask i j k => decide (i < n) && decide (j < n) && kbnd n (k true) && kbnd n (k false)
theorem kev_congr {α : Type} {n : Nat} {f g : Nat → Nat → Bool} (h : ∀ i j, i < n → j < n → f i j = g i j) : ∀ t : KasT α, kbnd n t = true → kev f t = kev g t
  | .ret _, _ => rfl
  | .ask i j k, hb => by
    simp only [kbnd, Bool.and_eq_true, decide_eq_true_eq] at hb
    show kev f (k (f i j)) = kev g (k (g i j))
    rw [h i j hb.1.1.1 hb.1.1.2]
    cases g i j with
    | true => exact kev_congr h _ hb.1.2
    | false => exact kev_congr h _ hb.2
theorem kwp_ev {α : Type} {n : Nat} {lt : Nat → Nat → Bool} {cmp : Nat → Nat → (Bool → Shared → Prop) → Shared → Prop} {I : Shared → Prop} (hc : ∀ i j C s, i < n → j < n → I s → (∀ s', I s' → C (lt i j) s') → cmp i j C s) :
    ∀ (t : KasT α) (Q : α → Shared → Prop) (s : Shared), kbnd n t = true → I s → (∀ s', I s' → Q (kev lt t) s') → t.kasWp cmp Q s
  | .ret _, _, s, _, hi, h => h s hi
  | .ask i j k, Q, s, hb, hi, h => by
    simp only [kbnd, Bool.and_eq_true, decide_eq_true_eq] at hb
    refine hc i j _ s hb.1.1.1 hb.1.1.2 hi fun s' hi' => ?_
    refine kwp_ev hc (k (lt i j)) Q s' ?_ hi' h
    cases lt i j with
    | true => exact hb.1.2
    | false => exact hb.2
theorem kbnd2 : kbnd 2 (kas_sort 2) = true := by decide +kernel
theorem kbnd3 : kbnd 3 (kas_sort 3) = true := by decide +kernel
theorem kbnd4 : kbnd 4 (kas_sort 4) = true := by decide +kernel
theorem kbnd5 : kbnd 5 (kas_sort 5) = true := by decide +kernel
/-- the sort of ranks r -/
def kranks (r : List Nat) : List Nat := (kev (fun i j => decide (r.getD i 0 < r.getD j 0)) (kas_sort r.length)).toList
def kgood (r : List Nat) : Bool := (kranks r).map (fun i => r.getD i 0) == List.range r.length && (kranks r).all fun i => decide (i < r.length)
/-- all lists of n ranks below m, each once -/
def kperms (m : Nat) : Nat → List (List Nat)
  | 0 => [[]]
  | n + 1 => (kperms m n).flatMap fun l => ((List.range m).filter fun a => !(l.contains a)).map fun a => a :: l
theorem mem_kperms {m : Nat} : ∀ {n : Nat} {l : List Nat}, l.length = n → l.Nodup → (∀ a ∈ l, a < m) → l ∈ kperms m n
  | 0, l, h, _, _ => by rw [List.length_eq_zero_iff.mp h]; simp [kperms]
  | n + 1, [], h, _, _ => by simp at h
  | n + 1, a :: l, h, hn, hm => by
    obtain ⟨n1, n2⟩ := List.nodup_cons.mp hn
    have ih := mem_kperms (m := m) (n := n) (l := l) (by simpa using h) n2 fun b hb => hm b (List.mem_cons_of_mem _ hb)
    unfold kperms
    refine List.mem_flatMap.mpr ⟨l, ih, List.mem_map.mpr ⟨a, List.mem_filter.mpr ⟨List.mem_range.mpr (hm a (by simp)), ?_⟩, rfl⟩⟩
    simpa using n1
theorem kall2 : (kperms 2 2).all kgood = true := by decide +kernel
theorem kall3 : (kperms 3 3).all kgood = true := by decide +kernel
theorem kall4 : (kperms 4 4).all kgood = true := by decide +kernel
theorem kall5 : (kperms 5 5).all kgood = true := by decide +kernel
theorem kgood_of {r : List Nat} (h2 : 2 ≤ r.length) (h5 : r.length ≤ 5) (hn : r.Nodup) (hm : ∀ a ∈ r, a < r.length) : kgood r = true ∧ kbnd r.length (kas_sort r.length) = true := by
  have hmem := mem_kperms rfl hn hm
  rcases (show r.length = 2 ∨ r.length = 3 ∨ r.length = 4 ∨ r.length = 5 by omega) with e | e | e | e <;> rw [e] at hmem ⊢
  · exact ⟨List.all_eq_true.mp kall2 r hmem, kbnd2⟩
  · exact ⟨List.all_eq_true.mp kall3 r hmem, kbnd3⟩
  · exact ⟨List.all_eq_true.mp kall4 r hmem, kbnd4⟩
  · exact ⟨List.all_eq_true.mp kall5 r hmem, kbnd5⟩
theorem countP_lt {α : Type} {p q : α → Bool} : ∀ {l : List α}, (∀ x ∈ l, p x = true → q x = true) → (∃ x ∈ l, q x = true ∧ p x = false) → l.countP p < l.countP q
  | [], _, h => by obtain ⟨x, hx, _⟩ := h; cases hx
  | a :: l, h1, h2 => by
    have hle : l.countP p ≤ l.countP q := List.countP_mono_left fun x hx => h1 x (List.mem_cons_of_mem _ hx)
    rw [List.countP_cons, List.countP_cons]
    by_cases hq : q a = true
    · by_cases hp : p a = true
      · rw [if_pos hp, if_pos hq]
        obtain ⟨x, hx, x1, x2⟩ := h2
        rcases List.mem_cons.mp hx with rfl | hx
        · rw [hp] at x2; cases x2
        · have := countP_lt (fun y hy => h1 y (List.mem_cons_of_mem _ hy)) ⟨x, hx, x1, x2⟩
          omega
      · rw [if_neg hp, if_pos hq]; omega
    · have hp : ¬ p a = true := fun z => hq (h1 a (by simp) z)
      rw [if_neg hp, if_neg hq]
      obtain ⟨x, hx, x1, x2⟩ := h2
      rcases List.mem_cons.mp hx with rfl | hx
      · exact absurd x1 hq
      · exact countP_lt (fun y hy => h1 y (List.mem_cons_of_mem _ hy)) ⟨x, hx, x1, x2⟩
theorem perm_of_sub : ∀ {a b : List Int}, a.Nodup → b.Nodup → (∀ x ∈ a, x ∈ b) → b.length ≤ a.length → a.Perm b
  | [], b, _, _, _, h => by rw [List.length_eq_zero_iff.mp (Nat.le_zero.mp h)]
  | x :: a, b, ha, hb, hs, h => by
    obtain ⟨p, q, rfl⟩ := List.append_of_mem (hs x (by simp))
    obtain ⟨a1, a2⟩ := List.nodup_cons.mp ha
    have hb' : (x :: (p ++ q)).Nodup := List.perm_middle.nodup_iff.mp hb
    obtain ⟨_, b2⟩ := List.nodup_cons.mp hb'
    refine (List.Perm.cons x (perm_of_sub a2 b2 (fun y hy => ?_) (by simp at h ⊢; omega))).trans List.perm_middle.symm
    have := hs y (List.mem_cons_of_mem _ hy)
    rcases List.mem_append.mp this with z | z
    · exact List.mem_append_left _ z
    · rcases List.mem_cons.mp z with z | z
      · exact absurd (z ▸ hy) a1
      · exact List.mem_append_right _ z
def aheadB (key : Int → Int) (a b : Int) : Bool := decide (key a < key b) || (decide (key a = key b) && decide (a < b))
theorem aheadB_iff {key : Int → Int} {a b : Int} : aheadB key a b = true ↔ Ahead key a b := by
  unfold aheadB Ahead; simp
theorem aheadB_self {key : Int → Int} {a : Int} : aheadB key a a = false := by
  cases h : aheadB key a a with
  | false => rfl
  | true => exact absurd (aheadB_iff.mp h) ahead_irr
theorem ahead_trans {key : Int → Int} {a b c : Int} (h : Ahead key a b) (h' : Ahead key b c) : Ahead key a c := by
  rcases h with h | h <;> rcases h' with h' | h' <;> unfold Ahead <;> omega
theorem ahead_total {key : Int → Int} {a b : Int} (h : a ≠ b) : Ahead key a b ∨ Ahead key b a := by unfold Ahead; omega
/-- the sort's order of names, by key and name -/
theorem ksort_names {key : Int → Int} {ns : List Int} (h2 : 2 ≤ ns.length) (h5 : ns.length ≤ 5) (hnd : ns.Nodup) :
    kbnd ns.length (kas_sort ns.length) = true ∧ ∃ p : List Nat, (kev (fun i j => aheadB key (ns.getD i 0) (ns.getD j 0)) (kas_sort ns.length)).toList = p ∧ (∀ i ∈ p, i < ns.length) ∧ (p.map fun i => ns.getD i 0).Perm ns ∧ (p.map fun i => ns.getD i 0).Pairwise (Ahead key) := by
  obtain ⟨r, hr⟩ : ∃ r : List Nat, r = ns.map fun a => ns.countP fun b => aheadB key b a := ⟨_, rfl⟩
  have hlen : r.length = ns.length := by rw [hr, List.length_map]
  have rk : ∀ i, i < ns.length → r.getD i 0 = ns.countP fun b => aheadB key b (ns.getD i 0) := fun i hi => by
    rw [hr, List.getD_eq_getElem?_getD, List.getElem?_map, List.getElem?_eq_getElem hi, List.getD_eq_getElem?_getD, List.getElem?_eq_getElem hi]; rfl
  have mono : ∀ a ∈ ns, ∀ b, Ahead key a b → (ns.countP fun c => aheadB key c a) < ns.countP fun c => aheadB key c b := fun a ha b hab =>
    countP_lt (fun x _ hx => aheadB_iff.mpr (ahead_trans (aheadB_iff.mp hx) hab)) ⟨a, ha, aheadB_iff.mpr hab, aheadB_self⟩
  have mem : ∀ i, i < ns.length → ns.getD i 0 ∈ ns := fun i hi => by
    rw [List.getD_eq_getElem?_getD, List.getElem?_eq_getElem hi]; exact List.getElem_mem hi
  have agree : ∀ i j, i < ns.length → j < ns.length → aheadB key (ns.getD i 0) (ns.getD j 0) = decide (r.getD i 0 < r.getD j 0) := fun i j hi hj => by
    rw [rk i hi, rk j hj]
    refine Bool.eq_iff_iff.mpr (aheadB_iff.trans (Iff.trans ⟨mono _ (mem i hi) _, fun hlt => ?_⟩ decide_eq_true_iff.symm))
    by_cases e : ns.getD i 0 = ns.getD j 0
    · rw [e] at hlt; omega
    · rcases ahead_total (key := key) e with z | z
      · exact z
      · have := mono _ (mem j hj) _ z; omega
  have hrn : r.Nodup := by
    rw [hr]
    rw [List.Nodup, List.pairwise_map]
    refine List.Pairwise.imp_of_mem (R := fun a b => a ≠ b) (fun {a b} ha hb hab => ?_) hnd
    rcases ahead_total (key := key) hab with z | z
    · have := mono _ ha _ z; omega
    · have := mono _ hb _ z; omega
  have hrm : ∀ a ∈ r, a < r.length := fun a ha => by
    rw [hr] at ha
    obtain ⟨b, hb, rfl⟩ := List.mem_map.mp ha
    rw [hlen]
    have h1 := countP_lt (p := fun c => aheadB key c b) (q := fun _ => true) (l := ns) (fun _ _ _ => rfl) ⟨b, hb, rfl, aheadB_self⟩
    have h2 : ns.countP (fun _ => true) = ns.length := by rw [List.countP_eq_length]; intros; rfl
    omega
  obtain ⟨hg, hbd⟩ := kgood_of (by omega) (by omega) hrn hrm
  rw [hlen] at hbd
  refine ⟨hbd, _, rfl, ?_⟩
  rw [kev_congr agree _ hbd]
  have hk : (kev (fun i j => decide (r.getD i 0 < r.getD j 0)) (kas_sort ns.length)).toList = kranks r := by unfold kranks; rw [hlen]
  rw [hk]
  unfold kgood at hg
  rw [Bool.and_eq_true, beq_iff_eq, List.all_eq_true] at hg
  obtain ⟨g1, g2⟩ := hg
  have hlt : ∀ i ∈ kranks r, i < ns.length := fun i hi => by have := of_decide_eq_true (g2 i hi); omega
  have pw : (kranks r).Pairwise fun i j => r.getD i 0 < r.getD j 0 := by
    have : ((kranks r).map fun i => r.getD i 0).Pairwise (· < ·) := by rw [g1]; exact List.pairwise_lt_range
    exact List.pairwise_map.mp this
  have srt : ((kranks r).map fun i => ns.getD i 0).Pairwise (Ahead key) := by
    rw [List.pairwise_map]
    refine List.Pairwise.imp_of_mem (R := fun i j => r.getD i 0 < r.getD j 0) (fun {i j} hi hj hij => ?_) pw
    have := agree i j (hlt i hi) (hlt j hj)
    rw [decide_eq_true hij] at this
    exact aheadB_iff.mp this
  refine ⟨hlt, ?_, srt⟩
  have kl : (kranks r).length = ns.length := by
    have := congrArg List.length g1
    rwa [List.length_map, List.length_range, hlen] at this
  exact perm_of_sub (ahead_nodup srt) hnd (fun a ha => by
    obtain ⟨i, hi, rfl⟩ := List.mem_map.mp ha
    exact mem i (hlt i hi)) (by rw [List.length_map, kl]; exact Nat.le_refl _)
end Mine
end
section
open PySem PySem.W PyProof.Rows
set_option Elab.async false
set_option maxRecDepth 100000
set_option maxHeartbeats 2000000
namespace Mine
abbrev nextObj (it : Addr) : Obj := { cls := .type "method-wrapper", data := .fields #[.builtin "list_iterator.__next__", .ref it] }
theorem slot_ga : Slot "list_iterator" "__getattribute__" "object.__getattribute__" :=
  .of (owner := "object") (n := "__getattribute__") (by rw [typeLookup_type, builtinLookup_eq_fast]; kernel_rfl) (by decide +kernel) (by decide +kernel) (by decide +kernel)
    (by first | exact .inl (by decide +kernel) | exact .inr (by decide +kernel)) (by rw [isSubtype_type]; kernel_rfl)
theorem entry_ga : entryFor table "object.__getattribute__" = some Builtin.«object.__getattribute__» := entryFor_of_tree (by kernel_rfl)
theorem args_ga (a b : Value) : argsOk "object.__getattribute__" ⟨[a, b], []⟩ := by unfold argsOk; kernel_rfl
theorem slot_wg : Slot "wrapper_descriptor" "__get__" "wrapper_descriptor.__get__" :=
  .of (owner := "wrapper_descriptor") (n := "__get__") (by rw [typeLookup_type, builtinLookup_eq_fast]; kernel_rfl) (by decide +kernel) (by decide +kernel) (by decide +kernel)
    (by first | exact .inl (by decide +kernel) | exact .inr (by decide +kernel)) (by rw [isSubtype_type]; kernel_rfl)
theorem entry_wg : entryFor table "wrapper_descriptor.__get__" = some Builtin.«wrapper_descriptor.__get__» := entryFor_of_tree (by kernel_rfl)
theorem args_wg (a b c : Value) : argsOk "wrapper_descriptor.__get__" ⟨[a, b, c], []⟩ := by unfold argsOk; kernel_rfl
theorem type_ln {s : Shared} : s.TypeIs (.builtin "list_iterator.__next__") "wrapper_descriptor" := by show builtinType _ = _; rw [builtinType_eq_fast]; kernel_rfl
theorem next_attr {prog : Program} {w : World} {A : Around} {E : Value → Shared → Prop} {s : Shared} {it l : Addr} {i : Nat} {Q : Value → Shared → Prop} (hit : s.heap.get? it = some { cls := .type "list_iterator", data := .fields #[.ref l, .int i 0] })
    (h : Q (.ref s.heap.objs.size) { s with heap := s.heap.push (nextObj it), toks := s.toks + 1 }) :
    wpAny (model prog w) A (getAttr (.ref it) (Str.ofString "__next__") true) Q E s := by
  have tga : typeLookup (.type "list_iterator") "__getattribute__" = pure (some (.builtin "object.__getattribute__")) := by rw [typeLookup_type, builtinLookup_eq_fast]; kernel_rfl
  have tg : typeLookup (.type "list_iterator") "__getattr__" = pure none := by rw [typeLookup_type, builtinLookup_eq_fast]; kernel_rfl
  have tn : typeLookup (.type "list_iterator") (Str.ofString "__next__") = pure (some (.builtin "list_iterator.__next__")) := by rw [typeLookup_type, builtinLookup_eq_fast]; kernel_rfl
  have hT : s.TypeIs (.ref it) "list_iterator" := ⟨_, hit, rfl⟩
  obtain ⟨hp, g, d, tk, os⟩ := s
  have hT' : ∀ t', (⟨hp, g, d, t', os⟩ : Shared).TypeIs (.ref it) "list_iterator" := fun _ => ⟨_, hit, rfl⟩
  unfold getAttr getAttrBy
  refine wpAny_bind (wpAny_mkText (wpAny_holding (wpAny_bind (wpAny_typeOf (hT' _) (wpAny_bind (wpAny_of_eq tga ?_))))))
  show wpAny _ _ (getAttrByItsOwn (.ref it) (.str (Str.ofString "__next__") tk) (.type "list_iterator") (.builtin "object.__getattribute__") true true) _ _ _
  unfold getAttrByItsOwn hookBefore callGetattribute boundAndCalled
  refine wpAny_bind (wpAny_of_eq (show (if onTheHeap (.type "list_iterator") then typeLookup (.type "list_iterator") "__getattr__" else pure none) = pure none from rfl) ?_)
  refine wpAny_bind (wpAny_attempt (wpAny_holding ?_))
  show wpAny _ _ (bindSpecial (.builtin "object.__getattribute__") (.ref it) >>= _) _ _ _
  refine wpAny_bind (wpAny_of_eq (slot_ga.bind _) ?_)
  refine wpAny_mono (Q := fun v s' => v = .ref hp.objs.size ∧ s' = ⟨hp.push (nextObj it), g, d, tk + 1, os⟩) (E := fun _ _ => False)
    (wpAny_call_entry slot_ga (hT' _) entry_ga ?_ (args_ga _ _)) (fun v s' hv => ?_) fun _ _ z => z.elim
  · have L1 : Looks (model prog w) hp (typeOf (.ref it)) (.type "list_iterator") := (Looks.ld hit).andThen .now
    have L4 : Looks (model prog w) hp (typeLookup (.type "list_iterator") (Str.ofString "__next__")) (some (.builtin "list_iterator.__next__")) := Looks.of_pure tn
    unfold Builtin.«object.__getattribute__»
    repeat ((fail_if_success (with_reducible show wpAny _ _ (call _ _) _ _ _)); lk)
    refine wpAny_call_entry slot_wg type_ln entry_wg ?_ (args_wg _ _ _)
    have L5 : Looks (model prog w) hp (isSubtype (.type "list_iterator") (.type "list_iterator")) true := Looks.of_pure (by rw [isSubtype_type]; kernel_rfl)
    unfold Builtin.«wrapper_descriptor.__get__»
    repeat lk
    exact ⟨_, rfl, wpAny_pure ⟨_, rfl, rfl, rfl⟩⟩
  · obtain ⟨rfl, rfl⟩ := hv
    exact wpAny_pure h
end Mine
end
section
open PySem PySem.W PyProof.Rows
set_option Elab.async false
set_option maxRecDepth 100000
set_option maxHeartbeats 2000000
namespace Mine
section
variable {prog : Program} {w : World} {A : Around} {E : Value → Shared → Prop} {s : Shared} {nx it l : Addr} {i : Nat} {items : Array Value} {x : Value} {Q : Value → Shared → Prop}
theorem if_so' {α : Type} {M : Model} {A : Around} {E : Value → Shared → Prop} {s : Shared} {c : Prop} [Decidable c] {x y : Sem α} {Q : α → Shared → Prop} (hc : c) (h : wpAny M A x Q E s) : wpAny M A (if c then x else y) Q E s := by rw [if_pos hc]; exact h
theorem if_no' {α : Type} {M : Model} {A : Around} {E : Value → Shared → Prop} {s : Shared} {c : Prop} [Decidable c] {x y : Sem α} {Q : α → Shared → Prop} (hc : ¬ c) (h : wpAny M A y Q E s) : wpAny M A (if c then x else y) Q E s := by rw [if_neg hc]; exact h
theorem check_next (it : Addr) : checkBoundCall "list_iterator.__next__" ⟨[.ref it], []⟩ = pure () := by first | kernel_rfl | rfl
theorem quiet_next {as : Args} : (Code.builtin "list_iterator.__next__" as).quiet = true := Code.quiet_builtin _ (by decide +kernel)
/-- the call of a bound __next__ -/
theorem next_call (hn : s.heap.get? nx = some (nextObj it)) {R : Result → Shared → Prop} (h : wpAny (model prog w) (A.under (.builtin "list_iterator.__next__" ⟨[.ref it], []⟩)) (Builtin.«list_iterator.__next__» ⟨[.ref it], []⟩)
      (fun fin s' => match fin with | .done f => R (.ok f) s' | .again c => c.quiet = true ∧ codeAny (model prog w) A c R s') (fun e s' => R (.error e) s') s) :
    codeAny (model prog w) A (.call (.ref nx) ⟨[], []⟩) R s := by
  refine codeAny_of_tree ?_
  show wpAny _ A.in1 (callAny (.ref nx) ⟨[], []⟩) _ _ s
  simp only [callAny]
  refine wpAny_bind (wpAny_load hn ?_)
  simp only [show (Value.type "method-wrapper" == Value.type "method" || Value.type "method-wrapper" == Value.type "builtin_function_or_method" || Value.type "method-wrapper" == Value.type "method-wrapper") = true by decide, if_true]
  refine if_so' (by decide) ?_
  refine wpAny_bind (wpAny_of_eq (a := ()) (check_next it) ?_)
  refine wpAny_bind (wpAny_pure (wpAny_pure ?_))
  exact ⟨quiet_next, codeAny_builtin entry_listiter_next h⟩
theorem next_item (hn : s.heap.get? nx = some (nextObj it)) (hit : s.heap.IsListIter it l i) (hl : s.heap.IsList l items) (hx : items[i]? = some x) {R : Result → Shared → Prop}
    (h : ∀ h', h'.IsListIter it l (i + 1) → Heap.SameBut it s.heap h' → R (.ok (.ret x)) { s with heap := h' }) : codeAny (model prog w) A (.call (.ref nx) ⟨[], []⟩) R s := by
  refine next_call hn ?_
  obtain ⟨o, ho, hc, hd⟩ := id hit
  obtain ⟨ol, hol, _, nl, hdl⟩ := hl
  show wpAny _ _ (field (.ref it) 0 >>= _) _ _ s
  refine wpAny_bind (wpAny_field ho hd (x := .ref l) rfl ?_)
  refine if_no' Bool.false_ne_true ?_
  refine wpAny_bind (wpAny_field ho hd (x := .int i 0) rfl (wpAny_bind (wpAny_seqItems hol hdl ?_)))
  simp only [Int.toNat_natCast, hx]
  refine wpAny_bind (wpAny_setField ho hd (by simp) (wpAny_pure (h _ ?_ (Heap.SameBut.update ..))))
  exact ⟨_, Heap.get?_update_self _ ho (Obj.isFreed_of_fields (Obj.data_mapFields hd _)), (Obj.cls_mapFields ..).trans hc, by rw [Obj.data_mapFields hd]; simp [rawInt]⟩
theorem next_stop (hh : A.handled = none) (hn : s.heap.get? nx = some (nextObj it)) (hit : s.heap.IsListIter it l i) (hl : s.heap.IsList l items) (hx : items[i]? = none) {R : Result → Shared → Prop}
    (h : ∀ h₁ h' e, Heap.SameBut it s.heap h₁ → Heap.NewExc h₁ h' e "StopIteration" → R (.error (.ref e)) { s with heap := h' }) : codeAny (model prog w) A (.call (.ref nx) ⟨[], []⟩) R s := by
  refine next_call hn ?_
  obtain ⟨o, ho, hc, hd⟩ := id hit
  obtain ⟨ol, hol, _, nl, hdl⟩ := hl
  show wpAny _ _ (field (.ref it) 0 >>= _) _ _ s
  refine wpAny_bind (wpAny_field ho hd (x := .ref l) rfl ?_)
  refine if_no' Bool.false_ne_true ?_
  refine wpAny_bind (wpAny_field ho hd (x := .int i 0) rfl (wpAny_bind (wpAny_seqItems hol hdl ?_)))
  simp only [Int.toNat_natCast, hx]
  refine wpAny_bind (wpAny_rule (wpAny_bind (wpAny_setField ho hd (by simp) ?_)))
  show wpAny _ _ (newExc (.type "StopIteration") [] >>= _) _ _ _
  refine wpAny_bind ?_
  simp only [newExc, newTuple]
  refine wpAny_bind (wpAny_newObj_type ?_ (by size_fits))
  refine wpAny_bind (m := firstArgMember _ _) (wpAny_of_eq (a := Value.none) (by first | rfl | (simp only [firstArgMember]; rfl)) ?_)
  refine wpAny_newObj_type ?_ (by size_fits)
  simp only [raiseNew]
  refine wpAny_bind (wpAny_handled ?_)
  rw [show (A.under (.builtin "list_iterator.__next__" ⟨[.ref it], []⟩)).handled = none from hh]
  refine wpAny_bind (wpAny_pure (wpAny_throw ?_))
  refine h _ _ _ (Heap.SameBut.update ..) ⟨fun b o e => Heap.get?_push_of_some _ (Heap.get?_push_of_some _ e), ?_, _, _, Heap.get?_push_size _ rfl, rfl, rfl⟩
  cases e : Heap.get? _ _ with
  | none => rfl
  | some o => exact absurd (Heap.lt_size (Heap.get?_push_of_some _ e)) (Nat.lt_irrefl _)
end
end Mine
end
section
open PySem PySem.W PyProof.Rows
set_option Elab.async false
set_option maxRecDepth 100000
set_option maxHeartbeats 2000000
namespace Mine
theorem note_first {M : Model} {A : Around} {E : Value → Shared → Prop} {s : Shared} {base : Heap} {env : Env} {outer : List Env} {L e : Addr} {oe : Obj} {vs : Array Value} {a0 : Value} {Q : Unit → Shared → Prop}
    (hfr : A.frames = some (env :: outer)) (hl : s.heap.FunFrames base (env :: outer)) (hf : env.frame = some L) (he : s.heap.get? e = some oe) (hkb : base.StaysIn s.heap) (hen : base.get? e = none) (hd : oe.data = .fields vs) (hsz : 1 < vs.size) (h0 : vs[0]? = some a0) (h1 : vs[1]? = some .none)
    (h : ∀ h', Heap.NotedW base (env :: outer) e oe.cls a0 (rawInt L) s.heap h' → Q () { s with heap := h' }) : wpAny M A (noteFrame (.ref e) env) Q E s := by
  unfold noteFrame
  simp only [hf]
  refine wpAny_bind (wpAny_field he hd h1 ?_)
  rw [if_neg (by decide)]
  exact wpAny_entryW (hadNext := false) hfr hl hf he hkb hen hd hsz h0 h
/-- a StopIteration that the body's call raised, caught by name in the same frame: all that is no frame is kept -/
theorem caught_stop {prog : Program} {w : World} {A : Around} {E : Value → Shared → Prop} {s : Shared} {env : Env} {outer : List Env} {L e : Addr} {h₁ : Heap} {t : Expr} {b₀ : Stmt} {suite : List Stmt} {pos : Pos} {rest : List ExceptHandler} {Q : Flow → Shared → Prop}
    (hfr : A.frames = some (env :: outer)) (hf : env.frame = some L) (hl : ∀ base : Heap, (∀ a ∈ (env :: outer).filterMap (·.frame), base.get? a = none) → h₁.FunFrames base (env :: outer)) (hx : Heap.NewExc h₁ s.heap e "StopIteration")
    (hname : ∀ h' E' (Q' : Value → Shared → Prop), Sub ((env :: outer).filterMap (·.frame)) h₁ h' → h₁.UpToSlots h' → Q' (.type "StopIteration") { s with heap := h' } → wpAny (model prog w) (A.mark (some (.ref e))) (eval t env) Q' E' { s with heap := h' })
    (k : ∀ h' E', Sub ((env :: outer).filterMap (·.frame)) h₁ h' → h₁.UpToSlots h' → wpAny (model prog w) (A.mark (some (.ref e))) (execs (b₀ :: suite) env) Q E' { s with heap := h' }) :
    wpAny (model prog w) A (noteFrame (.ref e) env) (fun _ s₂ => wpAny (model prog w) A (setFlight (.ref e) none) (fun _ s₃ => wpAny (model prog w) A (handleBy (.ref e) env (.ExceptHandler (some t) none (b₀ :: suite) pos :: rest)) Q E s₃) E s₂) E s := by
  obtain ⟨ob, t0, he, hc, hd⟩ := hx.there
  have hst : (hideAll h₁ ((env :: outer).filterMap (·.frame))).StaysIn s.heap := fun b o q => hx.keeps b o (of_hideAll _ q)
  have hfn := hl (hideAll h₁ ((env :: outer).filterMap (·.frame))) fun a ha => hideAll_none _ ha
  have hfs : s.heap.FunFrames (hideAll h₁ ((env :: outer).filterMap (·.frame))) (env :: outer) := hfn.of_keeps fun b o hb _ => ⟨o, hx.keeps b o hb, rfl⟩
  have hen : (hideAll h₁ ((env :: outer).filterMap (·.frame))).get? e = none := by
    cases q : (hideAll h₁ ((env :: outer).filterMap (·.frame))).get? e with
    | none => rfl
    | some o => have := of_hideAll _ q; rw [hx.new] at this; cases this
  have sub : ∀ {h' : Heap}, (hideAll h₁ ((env :: outer).filterMap (·.frame))).StaysIn h' → Sub ((env :: outer).filterMap (·.frame)) h₁ h' := fun st b o hb q => st b o (hideAll_get _ q hb)
  have up : h₁.UpToSlots s.heap := Heap.UpToSlots.of_keeps hx.keeps
  refine note_first hfr hfs hf he hst hen hd (by simp) rfl rfl fun h2 ⟨n1, n2, n3, n4⟩ => ?_
  refine wpAny_setFlight_noneW n1 n2 n3 fun h3 m1 m2 m3 m4 => ?_
  have up3 : h₁.UpToSlots h3 := (up.trans n4).trans fun b o hb hn => ⟨o.slots, m4 b o hb hn⟩
  refine wpAny_handleBy_builtin (X := "StopIteration") (T := "StopIteration") (b := true) (by rw [isSubtype_type]; kernel_rfl) (by rw [isSubtype_type]; kernel_rfl) (by rw [isSubtype_type]; kernel_rfl) (hname h3 _ _ (sub m1) up3 ⟨rfl, ?_, ?_⟩)
  · obtain ⟨o', ho', hc'⟩ := m3.at.there
    exact ⟨o', ho', hc'.trans hc⟩
  · rw [if_pos rfl]
    refine wpAny_setFlight_noneW m1 m2 m3.at fun h4 p1 p2 p3 p4 => ?_
    exact k h4 _ (sub p1) (up3.trans fun b o hb hn => ⟨o.slots, p4 b o hb hn⟩)
end Mine
end
section
open PySem PySem.W PyProof.Rows
set_option Elab.async false
set_option maxRecDepth 100000
set_option maxHeartbeats 2000000
namespace Mine
theorem entry_iter : entryFor table "iter" = some Builtin.«iter» := entryFor_of_fast (by kernel_rfl)
theorem call_iter_list {prog : Program} {w : World} {A : Around} {E : Value → Shared → Prop} {s : Shared} {l : Addr} {items : Array Value} {Q : Value → Shared → Prop} (hl : s.heap.IsList l items)
    (h : Q (.ref s.heap.objs.size) { s with heap := s.heap.push { cls := .type "list_iterator", data := .fields #[.ref l, .int 0 0] } }) : wpAny (model prog w) A (call (.builtin "iter") [.ref l]) Q E s := by
  refine Calls.call_function_entry (by decide +kernel) (by decide +kernel) entry_iter (by unfold argsOk; kernel_rfl) ?_
  unfold Builtin.«iter»
  refine wpAny_bind (wpAny_of_eq (a := [.ref l]) (by first | rfl | kernel_rfl) ?_)
  refine wpAny_bind (wpAny_pyIter_list hl ?_)
  exact wpAny_pure ⟨_, rfl, h⟩
theorem pop_plain {prog : Program} {w : World} {A : Around} {E : Value → Shared → Prop} {s : Shared} {l : Addr} {p : List Value} {y : Value} {Q : Value → Shared → Prop} (hl : s.heap.PlainList l (p ++ [y]).toArray) (hz : (p ++ [y]).length ≤ sizeLine)
    (h : ∀ h', h'.PlainList l p.toArray → Heap.SameBut l s.heap h' → Q y { s with heap := h' }) : wpAny (model prog w) A (call (.builtin "list.pop") [.ref l]) Q E s := by
  obtain ⟨n, e⟩ := hl
  have hz' : (p ++ [y]).toArray.size ≤ sizeLine := by rw [List.size_toArray]; exact hz
  have hk : (p ++ [y]).toArray.size - 1 = p.length := by rw [List.size_toArray, List.length_append]; rfl
  have hy : (p ++ [y]).toArray[(p ++ [y]).toArray.size - 1]? = some y := by rw [hk]; simp
  refine call_meets PySem.F.slot_list_pop ⟨_, e, rfl⟩ PySem.F.entry_list_pop (PySem.F.args_list_pop_1 _) (PySem.MeetsSeq.list_pop_last l _ n y hy hz') ⟨e, h _ ?_ (Heap.SameBut.update ..)⟩
  have q := PySem.IsL.update e (fun xs => xs.eraseIdxIfInBounds ((p ++ [y]).toArray.size - 1))
  rw [hk, kl_erase, List.append_nil] at q
  exact ⟨_, by rw [hk]; exact q⟩
theorem del_pairs {prog : Program} {w : World} {A : Around} {E : Value → Shared → Prop} {s : Shared} {d : Addr} {kvs : List (Int × Value)} {k : Int} {tk : Tok} {Q : Unit → Shared → Prop} (hm : s.heap.DictOf (intKind prog w) d kvs) (hsz : kvs.length ≤ sizeLine) (hv : (valueAt kvs k).isSome = true)
    (h : ∀ h', h'.DictOf (intKind prog w) d (without kvs k) → Heap.SameBut d s.heap h' → Q () { s with heap := h', toks := s.toks + 1 }) : wpAny (model prog w) A (delItem (.ref d) (.int k tk)) Q E s :=
  wpAny_delItem_slot hm.typeIs (by decide) PySem.F.slot_dict_delitem (call_meetsIn PySem.F.slot_dict_delitem hm.typeIs PySem.F.entry_dict_delitem (PySem.F.args_dict_delitem_2 _ _) (meets_dict_delitem_pairs (intKind prog w) d (intKind_is prog w k tk)) ⟨kvs, hm, hsz, hv, h⟩)
end Mine
end
section
open PySem PySem.W PyProof.Rows
set_option Elab.async false
set_option maxRecDepth 100000
namespace Mine
/-- one place of the search's stack: a name, its iterator, the bound next, how many items were taken -/
structure Item where
  v : Int
  it : Nat
  nx : Nat
  i : Nat
/-- the search's stack below a name c, top first -/
def Down (succ : Int → List Int) (fin : List Int) : Int → List Item → Prop
  | _, [] => True
  | c, y :: r => (1 ≤ y.i ∧ (succ y.v)[y.i - 1]? = some c ∧ ∀ j, j < y.i - 1 → ∀ z, (succ y.v)[j]? = some z → z ∈ fin) ∧ Down succ fin y.v r
theorem Down.mono {succ : Int → List Int} {fin fin' : List Int} (h : ∀ z ∈ fin, z ∈ fin') : ∀ {its : List Item} {c : Int}, Down succ fin c its → Down succ fin' c its
  | [], _, _ => trivial
  | _ :: _, _, ⟨⟨a, b, d⟩, r⟩ => ⟨⟨a, b, fun j hj z hz => h z (d j hj z hz)⟩, Down.mono h r⟩
/-- between two steps of the search -/
def Rest (succ : Int → List Int) (fin : List Int) : List Item → Prop
  | [] => True
  | x :: r => (∀ j, j < x.i → ∀ z, (succ x.v)[j]? = some z → z ∈ fin) ∧ Down succ fin x.v r
structure Base (dom : List Int) (succ : Int → List Int) (its : List Item) (S : Int → Bool) (fin : List Int) : Prop where
  nd : (its.map Item.v ++ fin).Nodup
  sub : ∀ x ∈ its.map Item.v ++ fin, x ∈ dom
  seen : ∀ x, S x = true ↔ x ∈ its.map Item.v ++ fin
  fins : ∀ p u q, fin = p ++ u :: q → ∀ y ∈ succ u, y ∈ p
  le : ∀ x ∈ its, x.i ≤ (succ x.v).length
/-- items taken so far -/
def taken (succ : Int → List Int) (its : List Item) (fin : List Int) : Nat := (its.map Item.i).sum + (fin.map fun u => (succ u).length).sum
def total (succ : Int → List Int) (dom : List Int) : Nat := (dom.map fun u => (succ u).length).sum
theorem sum_sub (f : Int → Nat) : ∀ {l dom : List Int}, l.Nodup → (∀ x ∈ l, x ∈ dom) → (l.map f).sum ≤ (dom.map f).sum
  | [], _, _, _ => by simp
  | a :: l, dom, hn, hs => by
    obtain ⟨p, q, e⟩ := List.append_of_mem (hs a (by simp))
    obtain ⟨n1, n2⟩ := List.nodup_cons.mp hn
    have ih := sum_sub f (l := l) (dom := p ++ q) n2 fun x hx => by
      have := hs x (List.mem_cons_of_mem _ hx)
      rw [e] at this
      rcases List.mem_append.mp this with z | z
      · exact List.mem_append_left _ z
      · rcases List.mem_cons.mp z with z | z
        · exact absurd (z ▸ hx) n1
        · exact List.mem_append_right _ z
    rw [e]
    simp only [List.map_cons, List.sum_cons, List.map_append, List.sum_append] at ih ⊢
    omega
theorem Base.taken_le {dom : List Int} {succ : Int → List Int} {its : List Item} {S : Int → Bool} {fin : List Int} (h : Base dom succ its S fin) : taken succ its fin ≤ total succ dom := by
  have h1 := sum_sub (fun u => (succ u).length) h.nd h.sub
  have h2 : (its.map Item.i).sum ≤ ((its.map Item.v).map fun u => (succ u).length).sum := by
    have hle := h.le
    clear h h1
    induction its with
    | nil => simp
    | cons x r ih =>
      have := hle x (by simp)
      have := ih fun y hy => hle y (List.mem_cons_of_mem _ hy)
      simp only [List.map_cons, List.sum_cons]
      omega
  rw [List.map_append, List.sum_append] at h1
  unfold taken total
  omega
section
variable {dom : List Int} {succ : Int → List Int} {its r : List Item} {S : Int → Bool} {fin : List Int} {n c : Int} {x : Item}
/-- a name that is done: nothing to do -/
theorem rest_done (h : Down succ fin n its) (hn : n ∈ fin) : Rest succ fin its := by
  cases its with
  | nil => trivial
  | cons x r =>
    obtain ⟨⟨a, b, d⟩, e⟩ := h
    refine ⟨fun j hj z hz => ?_, e⟩
    rcases Nat.lt_or_eq_of_le (show j ≤ x.i - 1 by omega) with q | q
    · exact d j q z hz
    · subst q; rw [b] at hz; cases hz; exact hn
theorem Base.push (h : Base dom succ its S fin) (hd : n ∈ dom) (hn : S n = false) (it nx : Nat) : Base dom succ (⟨n, it, nx, 0⟩ :: its) (fun k => S k || decide (k = n)) fin := by
  have hnn : n ∉ its.map Item.v ++ fin := fun q => by rw [(h.seen n).mpr q] at hn; cases hn
  refine ⟨?_, ?_, ?_, h.fins, ?_⟩
  · show ((n :: its.map Item.v) ++ fin).Nodup
    rw [List.cons_append]; exact List.nodup_cons.mpr ⟨hnn, h.nd⟩
  · show ∀ x ∈ (n :: its.map Item.v) ++ fin, x ∈ dom
    intro x hx
    rw [List.cons_append] at hx
    rcases List.mem_cons.mp hx with q | q
    · rw [q]; exact hd
    · exact h.sub x q
  · intro x
    show _ ↔ x ∈ (n :: its.map Item.v) ++ fin
    rw [List.cons_append, List.mem_cons, ← h.seen x, Bool.or_eq_true, decide_eq_true_eq]
    exact or_comm
  · intro x hx
    rcases List.mem_cons.mp hx with q | q
    · rw [q]; exact Nat.zero_le _
    · exact h.le x q
theorem rest_push (h : Down succ fin n its) (it nx : Nat) : Rest succ fin (⟨n, it, nx, 0⟩ :: its) := ⟨fun j hj => absurd hj (Nat.not_lt_zero _), h⟩
theorem taken_push (it nx : Nat) : taken succ (⟨n, it, nx, 0⟩ :: its) fin = taken succ its fin := by simp [taken]
/-- the next item -/
theorem Base.take (h : Base dom succ (x :: r) S fin) (hx : (succ x.v)[x.i]? = some c) : Base dom succ ({ x with i := x.i + 1 } :: r) S fin := by
  refine ⟨h.nd, h.sub, h.seen, h.fins, fun y hy => ?_⟩
  rcases List.mem_cons.mp hy with q | q
  · rw [q]; exact (List.getElem?_eq_some_iff.mp hx).1
  · exact h.le y (List.mem_cons_of_mem _ q)
theorem down_take (h : Rest succ fin (x :: r)) (hx : (succ x.v)[x.i]? = some c) : Down succ fin c ({ x with i := x.i + 1 } :: r) :=
  ⟨⟨by simp, by simpa using hx, fun j hj z hz => h.1 j (by simpa using hj) z hz⟩, h.2⟩
theorem taken_take : taken succ ({ x with i := x.i + 1 } :: r) fin = taken succ (x :: r) fin + 1 := by simp [taken]; omega
/-- the top is finished -/
theorem Base.pop (h : Base dom succ (x :: r) S fin) (hr : Rest succ fin (x :: r)) (hx : (succ x.v)[x.i]? = none) : Base dom succ r S (fin ++ [x.v]) := by
  have hp : (List.map Item.v r ++ (fin ++ [x.v])).Perm (List.map Item.v (x :: r) ++ fin) := by
    rw [List.map_cons, List.cons_append, ← List.append_assoc]
    exact List.perm_append_singleton _ _
  refine ⟨hp.nodup_iff.mpr h.nd, fun y hy => h.sub y (hp.mem_iff.mp hy), fun y => (h.seen y).trans hp.mem_iff.symm, fun p u q e => ?_, fun y hy => h.le y (List.mem_cons_of_mem _ hy)⟩
  rcases List.eq_nil_or_concat q with rfl | ⟨q', z, rfl⟩
  · obtain ⟨e1, e2⟩ := List.append_inj' e rfl
    subst e1
    intro y hy
    obtain ⟨j, hj, rfl⟩ := List.mem_iff_getElem.mp hy
    obtain rfl : x.v = u := by simpa using e2
    exact hr.1 j (Nat.lt_of_lt_of_le hj (List.getElem?_eq_none_iff.mp hx)) _ (List.getElem?_eq_getElem hj)
  · rw [List.concat_eq_append, ← List.cons_append, ← List.append_assoc] at e
    obtain ⟨e1, _⟩ := List.append_inj' e rfl
    exact h.fins p u q' e1
theorem rest_pop (hr : Rest succ fin (x :: r)) : Rest succ (fin ++ [x.v]) r := rest_done (hr.2.mono fun z hz => List.mem_append_left _ hz) (by simp)
theorem taken_pop (h : Base dom succ (x :: r) S fin) (hx : (succ x.v)[x.i]? = none) : taken succ r (fin ++ [x.v]) = taken succ (x :: r) fin := by
  have h1 := h.le x (by simp)
  have h2 := List.getElem?_eq_none_iff.mp hx
  simp [taken]
  omega
/-- a ring: each of a set needs one of the set -/
def Ring (dom : List Int) (succ : Int → List Int) : Prop := ∃ S : Int → Prop, (∃ s, S s) ∧ (∀ s, S s → s ∈ dom) ∧ ∀ y, S y → ∃ x, S x ∧ y ∈ succ x
/-- an order of finishing: no ring -/
def Fine (dom : List Int) (succ : Int → List Int) : Prop := ∃ fin : List Int, fin.Nodup ∧ (∀ x, x ∈ fin ↔ x ∈ dom) ∧ ∀ p u q, fin = p ++ u :: q → ∀ y ∈ succ u, y ∈ p
theorem down_ring : ∀ {p : List Item} {y : Item} {r : List Item} {c : Int}, Down succ fin c (p ++ y :: r) → ∀ z ∈ c :: p.map Item.v, ∃ x ∈ (p ++ [y]).map Item.v, z ∈ succ x
  | [], y, r, c, h, z, hz => by
    obtain rfl : z = c := by simpa using hz
    exact ⟨y.v, by simp, List.mem_of_getElem? h.1.2.1⟩
  | a :: p, y, r, c, h, z, hz => by
    rcases List.mem_cons.mp hz with q | q
    · rw [q]; exact ⟨a.v, by simp, List.mem_of_getElem? h.1.2.1⟩
    · obtain ⟨x, hx, e⟩ := down_ring (p := p) h.2 z (by simpa using q)
      exact ⟨x, by simp only [List.cons_append, List.map_cons]; exact List.mem_cons_of_mem _ hx, e⟩
theorem ring_of (h : Base dom succ its S fin) (hd : Down succ fin n its) (hn : n ∈ its.map Item.v) : Ring dom succ := by
  obtain ⟨y, hy, rfl⟩ := List.mem_map.mp hn
  obtain ⟨p, r, rfl⟩ := List.append_of_mem hy
  refine ⟨fun z => z ∈ (p ++ [y]).map Item.v, ⟨y.v, by simp⟩, fun s hs => h.sub s ?_, fun z hz => ?_⟩
  · simp only [List.map_append, List.map_cons, List.map_nil, List.mem_append, List.mem_cons, List.not_mem_nil, or_false] at hs ⊢
    rcases hs with q | q
    · exact .inl (.inl q)
    · exact .inl (.inr (.inl q))
  · have : z ∈ y.v :: p.map Item.v := by
      simp only [List.map_append, List.map_cons, List.map_nil, List.mem_append, List.mem_cons, List.not_mem_nil, or_false] at hz ⊢
      exact hz.symm
    obtain ⟨x, hx, e⟩ := down_ring hd z this
    exact ⟨x, hx, e⟩
theorem fine_of (h : Base dom succ [] S fin) (hall : ∀ x ∈ dom, S x = true) : Fine dom succ :=
  ⟨fin, by simpa using h.nd, fun x => ⟨fun hx => h.sub x (by simpa using hx), fun hx => by simpa using (h.seen x).mp (hall x hx)⟩, h.fins⟩
end
theorem Base.start (dom : List Int) (succ : Int → List Int) : Base dom succ [] (fun _ => false) [] := ⟨by simp, by simp, by simp, by simp, by simp⟩
end Mine
end
section
open PySem PySem.W PyProof.Rows
set_option Elab.async false
set_option maxRecDepth 100000
namespace Mine
abbrev framesOf (l : List Env) : List Addr := l.filterMap (·.frame)
/-- the frames below, as they stand -/
def FunOk (h : Heap) (l : List Env) : Prop := ∀ env ∈ l, env.scope.kind ≠ .module ∧ ∃ L o, env.frame = some L ∧ h.get? L = some o ∧ ∀ vs, o.data ≠ .fields vs
theorem FunOk.frames {h : Heap} : ∀ {l : List Env}, FunOk h l → ∀ base : Heap, (∀ a ∈ framesOf l, base.get? a = none) → h.FunFrames base l
  | [], _, _, _ => trivial
  | env :: r, x, base, hb => by
    obtain ⟨hk, L, o, hf, ho, hd⟩ := x env (by simp)
    refine ⟨hk, ⟨L, o, hf, hb L ?_, ho, hd⟩, FunOk.frames (l := r) (fun e he => x e (List.mem_cons_of_mem _ he)) base fun a ha => hb a ?_⟩
    · simp [framesOf, List.filterMap_cons, hf]
    · obtain ⟨e, he, hfe⟩ := List.mem_filterMap.mp ha
      exact List.mem_filterMap.mpr ⟨e, List.mem_cons_of_mem _ he, hfe⟩
theorem FunOk.alive {h : Heap} {l : List Env} (x : FunOk h l) : ∀ a ∈ framesOf l, ∃ o, h.get? a = some o ∧ ∀ vs, o.data ≠ .fields vs := by
  intro a ha
  obtain ⟨e, he, hfe⟩ := List.mem_filterMap.mp ha
  obtain ⟨_, L, o, hf, ho, hd⟩ := x e he
  rw [hf] at hfe; cases hfe
  exact ⟨o, ho, hd⟩
/-- some frames' slots may turn -/
def UpTo (fs : List Addr) (h h' : Heap) : Prop := ∀ a ∈ fs, ∀ o, h.get? a = some o → (∀ vs, o.data ≠ .fields vs) → ∃ sl, h'.get? a = some { o with slots := sl }
structure FKeep (fs : List Addr) (h h' : Heap) : Prop where
  sub : Sub fs h h'
  up : UpTo fs h h'
theorem UpTo.refl (fs : List Addr) (h : Heap) : UpTo fs h h := fun _ _ o e _ => ⟨o.slots, e⟩
theorem UpTo.trans {fs : List Addr} {a b c : Heap} (x : UpTo fs a b) (y : UpTo fs b c) : UpTo fs a c := fun p hp o e hn =>
  let ⟨_, e₁⟩ := x p hp o e hn; let ⟨sl, e₂⟩ := y p hp _ e₁ hn; ⟨sl, e₂⟩
theorem UpTo.of_keeps {fs : List Addr} {h h' : Heap} (k : ∀ a ∈ fs, ∀ o, h.get? a = some o → h'.get? a = some o) : UpTo fs h h' := fun a ha o e _ => ⟨o.slots, k a ha o e⟩
theorem FKeep.refl (fs : List Addr) (h : Heap) : FKeep fs h h := ⟨Sub.refl _ _, UpTo.refl _ _⟩
theorem FKeep.of_ext {fs : List Addr} {h h' : Heap} (k : Ext h h') : FKeep fs h h' := ⟨Sub.of_ext k, UpTo.of_keeps fun a _ o e => k a o e⟩
theorem FKeep.trans {fs : List Addr} {a b c : Heap} (x : FKeep fs a b) (y : FKeep fs b c) : FKeep fs a c := ⟨x.sub.trans y.sub, x.up.trans y.up⟩
theorem FKeep.of_slots {fs : List Addr} {h h' : Heap} (s : Sub fs h h') (u : h.UpToSlots h') : FKeep fs h h' := ⟨s, fun a _ o e hn => u a o e hn⟩
theorem UpTo.ns {fs : List Addr} {h h' : Heap} {a : Addr} {m : Str → Option Value} (x : UpTo fs h h') (ha : a ∈ fs) (hn : h.Ns a m) : h'.Ns a m := by
  obtain ⟨o, es, ep, ho, hd, r⟩ := hn
  obtain ⟨sl, hs⟩ := x a ha o ho fun vs q => by rw [hd] at q; cases q
  exact ⟨_, es, ep, hs, hd, r⟩
theorem FunOk.keep {h h' : Heap} {l : List Env} (x : FunOk h l) (u : UpTo (framesOf l) h h') : FunOk h' l := by
  intro env he
  obtain ⟨hk, L, o, hf, ho, hd⟩ := x env he
  obtain ⟨sl, hs⟩ := u L (List.mem_filterMap.mpr ⟨env, he, hf⟩) o ho hd
  exact ⟨hk, L, _, hf, hs, hd⟩
theorem FunOk.cons {h : Heap} {l : List Env} {env : Env} {L : Addr} {m : Str → Option Value} (x : FunOk h l) (hk : env.scope.kind = .function) (hf : env.frame = some L) (hn : h.Ns L m) : FunOk h (env :: l) := by
  intro e he
  rcases List.mem_cons.mp he with rfl | he
  · obtain ⟨o, es, ep, ho, hd, r⟩ := hn
    exact ⟨by rw [hk]; decide, L, o, hf, ho, fun vs q => by rw [hd] at q; cases q⟩
  · exact x e he
/-- a frame behind a call that may have noted the frames -/
theorem Fr.fkeep {g h h' : Heap} {L : Addr} {m : Str → Option Value} {fs : List Addr} (F : Fr g L h m) (k : FKeep (L :: fs) h h') (hfs : ∀ a ∈ fs, g.get? a = none) : Fr g L h' m := by
  refine ⟨k.up.ns (by simp) F.ns, fun b o e => k.sub b o (fun q => ?_) (F.keep b o e), F.above⟩
  rcases List.mem_cons.mp q with rfl | q
  · exact absurd (Heap.lt_size e) (Nat.not_lt.mpr F.above)
  · rw [hfs b q] at e; cases e
theorem FKeep.mono {fs fs' : List Addr} {h h' : Heap} (k : FKeep fs h h') (hs : ∀ a ∈ fs, a ∈ fs') : FKeep fs' h h' := by
  refine ⟨k.sub.mono hs, fun a ha o e hn => ?_⟩
  by_cases q : a ∈ fs
  · exact k.up a q o e hn
  · exact ⟨o.slots, k.sub a o q e⟩
end Mine
end
section
open PySem PySem.W PyProof.Rows
set_option Elab.async false
set_option maxRecDepth 100000
namespace Mine
/-- where the search's own parts lie, in the order in which they were made -/
structure FA where
  L : Nat
  ST : Nat
  IT : Nat
  SE : Nat
  NS : Nat
  DI : Nat
structure FA.Ok (F : FA) : Prop where
  a1 : F.L < F.ST
  a2 : F.ST < F.IT
  a3 : F.IT < F.SE
  a4 : F.SE < F.NS
  a5 : F.NS < F.DI
structure ItemAt (F : FA) (b : Book) (h : Heap) (x : Item) : Prop where
  nx : h.get? x.nx = some (nextObj x.it)
  it : h.IsListIter x.it (b.sl x.v) x.i
  lo : F.DI < x.it
  lt : x.it < x.nx
theorem ItemAt.keep {F : FA} {b : Book} {h h' : Heap} {x : Item} (q : ItemAt F b h x) (k : ∀ (a : Nat) o, a = x.it ∨ a = x.nx → h.get? a = some o → h'.get? a = some o) : ItemAt F b h' x :=
  ⟨k _ _ (.inr rfl) q.nx, let ⟨o, ho, r⟩ := q.it; ⟨o, k _ o (.inl rfl) ho, r⟩, q.lo, q.lt⟩
/-- the positions by name -/
def NsOk (kvs : List (Int × Value)) (ns : List Int) : Prop := kvs.map (·.1) = ns ∧ ∀ p ∈ kvs, ∃ (j : Int) (t : Tok), p.2 = .int j t ∧ 0 ≤ j ∧ j ≤ 1000
structure Loc (m : Str → Option Value) (F : FA) (b : Book) : Prop where
  n2i : m (Str.ofString "n2i") = some (.ref b.N2)
  st : m (Str.ofString "stack") = some (.ref F.ST)
  it : m (Str.ofString "itstack") = some (.ref F.IT)
  se : m (Str.ofString "seen") = some (.ref F.SE)
  ns : m (Str.ofString "node2stacki") = some (.ref F.NS)
theorem Loc.upd {m : Str → Option Value} {F : FA} {b : Book} {v : Value} (q : Loc m F b) : Loc (upd m (Str.ofString "node") v) F b :=
  ⟨(if_neg (by decide)).trans q.n2i, (if_neg (by decide)).trans q.st, (if_neg (by decide)).trans q.it, (if_neg (by decide)).trans q.se, (if_neg (by decide)).trans q.ns⟩
/-- the search's own parts: stack, iterators, seen, positions, and the items that are alive -/
structure FH (prog : Program) (w : World) (F : FA) (b : Book) (h : Heap) (sv : List Int) (ix : List Nat) (ks : List Int) (al : List Item) (S : Int → Bool) (n : Nat) : Prop where
  st : ∃ vs : List Value, h.PlainList F.ST vs.toArray ∧ IntsAre vs sv
  it : h.PlainList F.IT (ix.map fun x => Value.ref x).toArray
  se : h.SetOf (intKind prog w) F.SE S n
  ns : ∃ kvs : List (Int × Value), h.DictOf (intKind prog w) F.NS kvs ∧ NsOk kvs ks
  items : ∀ x ∈ al, ItemAt F b h x
  ord : al.Pairwise fun x y => y.nx < x.it
/-- all in step -/
abbrev FHs (prog : Program) (w : World) (F : FA) (b : Book) (h : Heap) (its : List Item) (S : Int → Bool) (n : Nat) : Prop := FH prog w F b h (its.map Item.v).reverse (its.map Item.nx).reverse (its.map Item.v).reverse its S n
section
variable {prog : Program} {w : World} {F : FA} {b : Book} {h h' : Heap} {sv ks : List Int} {ix : List Nat} {al r : List Item} {S : Int → Bool} {n : Nat} {x : Item}
theorem setKeep {a : Addr} (q : h.SetOf (intKind prog w) a S n) (k : ∀ o, h.get? a = some o → h'.get? a = some o) : h'.SetOf (intKind prog w) a S n :=
  let ⟨o, es, ep, t, ho, r⟩ := q; ⟨o, es, ep, t, k o ho, r⟩
theorem dictKeep {a : Addr} {kvs : List (Int × Value)} (q : h.DictOf (intKind prog w) a kvs) (k : ∀ o, h.get? a = some o → h'.get? a = some o) : h'.DictOf (intKind prog w) a kvs :=
  let ⟨o, es, ep, ho, r⟩ := q; ⟨o, es, ep, k o ho, r⟩
theorem FH.keep (q : FH prog w F b h sv ix ks al S n) (ok : F.Ok) (k : ∀ (a : Nat) o, F.ST ≤ a → a ≠ F.DI → h.get? a = some o → h'.get? a = some o) : FH prog w F b h' sv ix ks al S n := by
  obtain ⟨o1, o2, o3, o4, o5⟩ := ok
  refine ⟨?_, ?_, ?_, ?_, fun x hx => (q.items x hx).keep fun a o ha e => k a o ?_ ?_ e, q.ord⟩
  · obtain ⟨vs, e, r⟩ := q.st
    exact ⟨vs, PlainList.keep e fun o e => k _ o (Nat.le_refl _) (by omega) e, r⟩
  · exact PlainList.keep q.it fun o e => k _ o (Nat.le_of_lt o2) (by omega) e
  · exact setKeep q.se fun o e => k _ o (by omega) (by omega) e
  · obtain ⟨kvs, e, r⟩ := q.ns
    exact ⟨kvs, dictKeep e fun o e => k _ o (by omega) (by omega) e, r⟩
  · have := (q.items x hx).lo; have := (q.items x hx).lt
    rcases ha with rfl | rfl <;> omega
  · have := (q.items x hx).lo; have := (q.items x hx).lt
    rcases ha with rfl | rfl <;> omega
theorem FH.set_st {vs : List Value} {sv' : List Int} (q : FH prog w F b h sv ix ks al S n) (ok : F.Ok) (hs : Heap.SameBut F.ST h h') (e : h'.PlainList F.ST vs.toArray) (hv : IntsAre vs sv') : FH prog w F b h' sv' ix ks al S n := by
  obtain ⟨o1, o2, o3, o4, o5⟩ := ok
  have kp : ∀ (a : Nat) o, a ≠ F.ST → h.get? a = some o → h'.get? a = some o := fun a o ha e => hs.extBut a o ha e
  refine ⟨⟨vs, e, hv⟩, ?_, ?_, ?_, fun x hx => (q.items x hx).keep fun a o ha e => kp a o ?_ e, q.ord⟩
  · exact PlainList.keep q.it fun o e => kp _ o (by omega) e
  · exact setKeep q.se fun o e => kp _ o (by omega) e
  · obtain ⟨kvs, e, r⟩ := q.ns
    exact ⟨kvs, dictKeep e fun o e => kp _ o (by omega) e, r⟩
  · have := (q.items x hx).lo; have := (q.items x hx).lt
    rcases ha with rfl | rfl <;> omega
theorem FH.set_it {ix' : List Nat} (q : FH prog w F b h sv ix ks al S n) (ok : F.Ok) (hs : Heap.SameBut F.IT h h') (e : h'.PlainList F.IT (ix'.map fun x => Value.ref x).toArray) : FH prog w F b h' sv ix' ks al S n := by
  obtain ⟨o1, o2, o3, o4, o5⟩ := ok
  have kp : ∀ (a : Nat) o, a ≠ F.IT → h.get? a = some o → h'.get? a = some o := fun a o ha e => hs.extBut a o ha e
  refine ⟨?_, e, ?_, ?_, fun x hx => (q.items x hx).keep fun a o ha e => kp a o ?_ e, q.ord⟩
  · obtain ⟨vs, e, r⟩ := q.st
    exact ⟨vs, PlainList.keep e fun o e => kp _ o (by omega) e, r⟩
  · exact setKeep q.se fun o e => kp _ o (by omega) e
  · obtain ⟨kvs, e, r⟩ := q.ns
    exact ⟨kvs, dictKeep e fun o e => kp _ o (by omega) e, r⟩
  · have := (q.items x hx).lo; have := (q.items x hx).lt
    rcases ha with rfl | rfl <;> omega
theorem FH.set_se {S' : Int → Bool} {n' : Nat} (q : FH prog w F b h sv ix ks al S n) (ok : F.Ok) (hs : Heap.SameBut F.SE h h') (e : h'.SetOf (intKind prog w) F.SE S' n') : FH prog w F b h' sv ix ks al S' n' := by
  obtain ⟨o1, o2, o3, o4, o5⟩ := ok
  have kp : ∀ (a : Nat) o, a ≠ F.SE → h.get? a = some o → h'.get? a = some o := fun a o ha e => hs.extBut a o ha e
  refine ⟨?_, ?_, e, ?_, fun x hx => (q.items x hx).keep fun a o ha e => kp a o ?_ e, q.ord⟩
  · obtain ⟨vs, e, r⟩ := q.st
    exact ⟨vs, PlainList.keep e fun o e => kp _ o (by omega) e, r⟩
  · exact PlainList.keep q.it fun o e => kp _ o (by omega) e
  · obtain ⟨kvs, e, r⟩ := q.ns
    exact ⟨kvs, dictKeep e fun o e => kp _ o (by omega) e, r⟩
  · have := (q.items x hx).lo; have := (q.items x hx).lt
    rcases ha with rfl | rfl <;> omega
theorem FH.set_ns {kvs : List (Int × Value)} {ks' : List Int} (q : FH prog w F b h sv ix ks al S n) (ok : F.Ok) (hs : Heap.SameBut F.NS h h') (e : h'.DictOf (intKind prog w) F.NS kvs) (hk : NsOk kvs ks') : FH prog w F b h' sv ix ks' al S n := by
  obtain ⟨o1, o2, o3, o4, o5⟩ := ok
  have kp : ∀ (a : Nat) o, a ≠ F.NS → h.get? a = some o → h'.get? a = some o := fun a o ha e => hs.extBut a o ha e
  refine ⟨?_, ?_, ?_, ⟨kvs, e, hk⟩, fun x hx => (q.items x hx).keep fun a o ha e => kp a o ?_ e, q.ord⟩
  · obtain ⟨vs, e, r⟩ := q.st
    exact ⟨vs, PlainList.keep e fun o e => kp _ o (by omega) e, r⟩
  · exact PlainList.keep q.it fun o e => kp _ o (by omega) e
  · exact setKeep q.se fun o e => kp _ o (by omega) e
  · have := (q.items x hx).lo; have := (q.items x hx).lt
    rcases ha with rfl | rfl <;> omega
/-- the top's iterator is touched -/
theorem FH.drop (q : FH prog w F b h sv ix ks (x :: r) S n) (ok : F.Ok) (hs : Heap.SameBut x.it h h') : FH prog w F b h' sv ix ks r S n := by
  obtain ⟨o1, o2, o3, o4, o5⟩ := ok
  have xa := q.items x (by simp)
  have l1 := xa.lo
  have l2 := xa.lt
  have kp : ∀ (a : Nat) o, a ≠ x.it → h.get? a = some o → h'.get? a = some o := fun a o ha e => hs.extBut a o ha e
  refine ⟨?_, ?_, ?_, ?_, fun y hy => ?_, (List.pairwise_cons.mp q.ord).2⟩
  · obtain ⟨vs, e, r⟩ := q.st
    exact ⟨vs, PlainList.keep e fun o e => kp _ o (by omega) e, r⟩
  · exact PlainList.keep q.it fun o e => kp _ o (by omega) e
  · exact setKeep q.se fun o e => kp _ o (by omega) e
  · obtain ⟨kvs, e, r⟩ := q.ns
    exact ⟨kvs, dictKeep e fun o e => kp _ o (by omega) e, r⟩
  · have hlt := (List.pairwise_cons.mp q.ord).1 y hy
    have ya := q.items y (List.mem_cons_of_mem _ hy)
    have l3 := ya.lt
    exact ya.keep fun a o ha e => kp a o (by rcases ha with rfl | rfl <;> omega) e
/-- an item more -/
theorem FH.add (q : FH prog w F b h sv ix ks al S n) (xa : ItemAt F b h x) (hlt : ∀ y ∈ al, y.nx < x.it) : FH prog w F b h sv ix ks (x :: al) S n :=
  ⟨q.st, q.it, q.se, q.ns, fun y hy => by rcases List.mem_cons.mp hy with rfl | hy; exact xa; exact q.items y hy, List.pairwise_cons.mpr ⟨hlt, q.ord⟩⟩
/-- the top's iterator goes on -/
theorem FH.take (q : FH prog w F b h sv ix ks (x :: r) S n) (ok : F.Ok) (hit : h'.IsListIter x.it (b.sl x.v) (x.i + 1)) (hs : Heap.SameBut x.it h h') : FH prog w F b h' sv ix ks ({ x with i := x.i + 1 } :: r) S n := by
  have xa := q.items x (by simp)
  have l2 := xa.lt
  exact (q.drop ok hs).add ⟨hs.extBut _ _ (show x.nx ≠ x.it by omega) xa.nx, hit, xa.lo, xa.lt⟩ (List.pairwise_cons.mp q.ord).1
theorem without_last {kvs : List (Int × Value)} {ns : List Int} {v : Int} (h : NsOk kvs (ns ++ [v])) (hn : (ns ++ [v]).Nodup) : NsOk (without kvs v) ns ∧ (valueAt kvs v).isSome = true := by
  obtain ⟨e, hp⟩ := h
  rcases List.eq_nil_or_concat kvs with rfl | ⟨k', z, rfl⟩
  · simp at e
  rw [List.concat_eq_append] at e hp ⊢
  rw [List.map_append, List.map_cons, List.map_nil] at e
  obtain ⟨e1, e2⟩ := List.append_inj' e rfl
  obtain rfl : z.1 = v := by simpa using e2
  have hnv : z.1 ∉ ns := fun q => by
    rw [List.nodup_append] at hn
    exact hn.2.2 z.1 q z.1 (by simp) rfl
  have hw : without (k' ++ [z]) z.1 = k' := by
    unfold without
    rw [List.filter_append, List.filter_cons_of_neg (by simp), List.filter_nil, List.append_nil, List.filter_eq_self.mpr]
    intro p hp'
    refine decide_eq_true fun q => hnv ?_
    rw [← e1, ← q]; exact List.mem_map_of_mem hp'
  refine ⟨?_, ?_⟩
  · rw [hw]; exact ⟨e1, fun p hp' => hp p (List.mem_append_left _ hp')⟩
  · unfold valueAt
    rw [Option.isSome_map, List.find?_isSome]
    exact ⟨z, by simp, by simp⟩
theorem stored_last {kvs : List (Int × Value)} {ns : List Int} {v : Int} {l : Nat} {t : Tok} (h : NsOk kvs ns) (hn : v ∉ ns) (hl : l ≤ 1000) : NsOk (stored kvs v (.int (l : Int) t)) (ns ++ [v]) := by
  obtain ⟨e, hp⟩ := h
  have hw : stored kvs v (.int (l : Int) t) = kvs ++ [(v, .int (l : Int) t)] := by
    unfold stored
    rw [if_neg]
    simp only [List.any_eq_true, decide_eq_true_eq, not_exists, not_and]
    intro p hp' q
    exact hn (by rw [← e, ← q]; exact List.mem_map_of_mem hp')
  rw [hw]
  refine ⟨by rw [List.map_append, e]; rfl, fun p hp' => ?_⟩
  rcases List.mem_append.mp hp' with q | q
  · exact hp p q
  · rw [List.mem_singleton.mp q]; exact ⟨l, t, rfl, by omega, by omega⟩
theorem ns_value {kvs : List (Int × Value)} {ns : List Int} {v : Int} (h : NsOk kvs ns) (hn : v ∈ ns) : ∃ (j : Int) (t : Tok), valueAt kvs v = some (.int j t) ∧ 0 ≤ j ∧ j ≤ 1000 := by
  obtain ⟨e, hp⟩ := h
  rw [← e] at hn
  obtain ⟨p, hp', rfl⟩ := List.mem_map.mp hn
  have : ((kvs.find? fun kv => kv.1 = p.1)).isSome = true := by rw [List.find?_isSome]; exact ⟨p, hp', by simp⟩
  obtain ⟨q, hq⟩ := Option.isSome_iff_exists.mp this
  obtain ⟨j, t, e1, e2, e3⟩ := hp q (List.mem_of_find?_eq_some hq)
  exact ⟨j, t, by unfold valueAt; rw [hq]; exact congrArg some e1, e2, e3⟩
theorem ns_none {kvs : List (Int × Value)} {ns : List Int} {v : Int} (h : NsOk kvs ns) (hn : v ∉ ns) : valueAt kvs v = none := by
  unfold valueAt
  rw [Option.map_eq_none_iff, List.find?_eq_none]
  intro p hp' q
  refine hn ?_
  rw [← h.1, ← of_decide_eq_true q]; exact List.mem_map_of_mem hp'
end
/-- the search's state between two steps -/
structure FW (prog : Program) (w : World) (h₀ g : Heap) (fs : List Addr) (F : FA) (b : Book) (Z : SSt) (St : Heap → Prop) (S₀ : Int → Bool) (h : Heap) (m : Str → Option Value) (sv : List Int) (ix : List Nat) (ks : List Int) (al : List Item) (S : Int → Bool) (n : Nat) : Prop where
  fr : Fr g F.L h m
  loc : Loc m F b
  fh : FH prog w F b h sv ix ks al S n
  up : UpTo fs h₀ h
  st : St h
  old : ∀ x, S₀ x = true → S x = true
structure Grd (h₀ g : Heap) (fs : List Addr) (F : FA) (St : Heap → Prop) : Prop where
  ok : F.Ok
  gsz : g.objs.size ≤ F.L
  fsl : ∀ a ∈ fs, a < F.L
  fsg : ∀ a ∈ fs, g.get? a = none
  stk : ∀ h h', St h → (∀ o, h.get? F.DI = some o → h'.get? F.DI = some o) → Ext g h' → St h'
theorem Grd.none {h₀ g : Heap} {fs : List Addr} {F : FA} {St : Heap → Prop} (G : Grd h₀ g fs F St) {a : Nat} (ha : F.L ≤ a) : g.get? a = none := by
  cases e : g.get? a with
  | none => rfl
  | some o => have := Heap.lt_size e; have := G.gsz; exact absurd (Heap.lt_size e) (Nat.not_lt.mpr (Nat.le_trans G.gsz ha))
section
variable {prog : Program} {w : World} {h₀ g : Heap} {fs : List Addr} {F : FA} {b : Book} {Z : SSt} {St : Heap → Prop} {S₀ : Int → Bool} {h h' : Heap} {m : Str → Option Value} {sv : List Int} {ix : List Nat} {ks : List Int} {al r : List Item} {S : Int → Bool} {n : Nat} {x : Item}
/-- a store into a local -/
theorem FW.node {v : Value} (q : FW prog w h₀ g fs F b Z St S₀ h m sv ix ks al S n) (G : Grd h₀ g fs F St) (F' : Fr g F.L h' (upd m (Str.ofString "node") v)) (k : Sub [F.L] h h') :
    FW prog w h₀ g fs F b Z St S₀ h' (upd m (Str.ofString "node") v) sv ix ks al S n := by
  have o := G.ok
  obtain ⟨o1, o2, o3, o4, o5⟩ := id o
  have nL : ∀ a : Nat, F.L < a → a ∉ [F.L] := fun a ha => by simpa using Nat.ne_of_gt ha
  exact ⟨F', q.loc.upd, q.fh.keep o fun a o ha _ e => k a o (nL a (by omega)) e, q.up.trans (UpTo.of_keeps fun a ha o e => k a o (by simpa using Nat.ne_of_lt (G.fsl a ha)) e), G.stk _ _ q.st (fun o e => k _ o (nL _ (by omega)) e) F'.keep, q.old⟩
/-- a change at one of the search's own addresses -/
theorem FW.at_ {sv' : List Int} {ix' : List Nat} {ks' : List Int} {al' : List Item} {S' : Int → Bool} {n' : Nat} {a : Nat} (q : FW prog w h₀ g fs F b Z St S₀ h m sv ix ks al S n) (G : Grd h₀ g fs F St) (ha : F.L < a) (hd : a ≠ F.DI) (k : Heap.SameBut a h h')
    (fh : FH prog w F b h' sv' ix' ks' al' S' n') (old : ∀ x, S x = true → S' x = true) : FW prog w h₀ g fs F b Z St S₀ h' m sv' ix' ks' al' S' n' := by
  have fr : Fr g F.L h' m := ⟨q.fr.ns.sameBut k (Nat.ne_of_lt ha), fun c o e => k.extBut c o (fun z => by rw [z, G.none (Nat.le_of_lt ha)] at e; cases e) (q.fr.keep c o e), q.fr.above⟩
  exact ⟨fr, q.loc, fh, q.up.trans (UpTo.of_keeps fun c hc o e => k.extBut c o (Nat.ne_of_lt (Nat.lt_trans (G.fsl c hc) ha)) e), G.stk _ _ q.st (fun o e => k.extBut _ o (Ne.symm hd) e) fr.keep, fun x hx => old x (q.old x hx)⟩
/-- something new -/
theorem FW.grow (q : FW prog w h₀ g fs F b Z St S₀ h m sv ix ks al S n) (G : Grd h₀ g fs F St) (k : Ext h h') : FW prog w h₀ g fs F b Z St S₀ h' m sv ix ks al S n :=
  ⟨Fr.grownK q.fr k, q.loc, q.fh.keep G.ok fun a o _ _ e => k a o e, q.up.trans (UpTo.of_keeps fun a _ o e => k a o e), G.stk _ _ q.st (fun o e => k _ o e) (Fr.grownK q.fr k).keep, q.old⟩
/-- frames noted -/
theorem FW.noted (q : FW prog w h₀ g fs F b Z St S₀ h m sv ix ks al S n) (G : Grd h₀ g fs F St) (k : FKeep (F.L :: fs) h h') : FW prog w h₀ g fs F b Z St S₀ h' m sv ix ks al S n := by
  have o := G.ok
  obtain ⟨o1, o2, o3, o4, o5⟩ := id o
  have nL : ∀ a : Nat, F.L < a → a ∉ F.L :: fs := fun a ha z => by
    rcases List.mem_cons.mp z with z | z
    · exact Nat.ne_of_gt ha z
    · exact Nat.lt_asymm ha (G.fsl a z)
  have fr := Fr.fkeep q.fr k G.fsg
  exact ⟨fr, q.loc, q.fh.keep o fun a o ha _ e => k.sub a o (nL a (by omega)) e, q.up.trans fun a ha o e hn => k.up a (List.mem_cons_of_mem _ ha) o e hn, G.stk _ _ q.st (fun o e => k.sub _ o (nL _ (by omega)) e) fr.keep, q.old⟩
end
end Mine
end
section
open PySem PySem.W PyProof.Rows
set_option Elab.async false
set_option maxRecDepth 100000
namespace Mine
/-- a slice of a list: it keeps all -/
theorem slice_own {prog : Program} {w : World} {A : Around} {E : Value → Shared → Prop} {s : Shared} {value slice : Expr} {l : Addr} {items : Array Value} {vl vu : Value} {lo hi : Option Int} {Q : Value → Shared → Prop}
    (hl : s.heap.IsList l items) (pl : IsPart vl lo) (pu : IsPart vu hi)
    (h : ∀ h' D, Ext s.heap h' → h'.PlainList D (slicePick items lo hi none) → s.heap.get? D = none → D < h'.objs.size → s.heap.objs.size ≤ D → Q (.ref D) { s with heap := h' })
    (hsz : items.size ≤ sizeLine)
    (hs : subscripted slice false (.ref l) (.ref s.heap.objs.size) = operate [.ref s.heap.objs.size, .ref l] (getItem (.ref l) (.ref s.heap.objs.size)) := by with_unfolding_all rfl)
    (ht : ∀ r, letTemporaryGo value (.ref l) r = pure () := by intro _; with_unfolding_all rfl) :
    wpAny (model prog w) A (subscriptTail value slice (.ref l) (.ref s.heap.objs.size)) Q E { s with heap := s.heap.push { cls := .type "slice", data := .fields #[vl, vu, .none] } } := by
  refine subscriptTail_ops (Heap.IsList.typeIs (s := { s with heap := s.heap.push { cls := .type "slice", data := .fields #[vl, vu, .none] } }) (hl.push _)) list_getitem_lookup
    (wpAny_getItem_list_slice (hl.push _) (Heap.IsSliceOf.new ..) pl pu .none (by simp) ?_ hsz) hs ht
  refine h _ _ (fun b o e => Heap.get?_push_of_some _ (Heap.get?_push_of_some _ e)) ⟨_, Heap.get?_push_size _ rfl⟩ ?_ ?_ ?_
  · cases e : s.heap.get? (s.heap.push { cls := .type "slice", data := .fields #[vl, vu, .none] }).objs.size with
    | none => rfl
    | some o => exact absurd (Heap.lt_size (Heap.get?_push_of_some { cls := .type "slice", data := .fields #[vl, vu, .none] } e)) (Nat.lt_irrefl _)
  · exact Heap.lt_size (Heap.get?_push_size _ rfl)
  · rw [Heap.size_push]; exact Nat.le_succ _
theorem callWith_next {M : Model} {A : Around} {E : Value → Shared → Prop} {s : Shared} {env : Env} {pos : Pos} {nx it : Addr} {Q : Value → Shared → Prop} (hn : s.heap.get? nx = some (nextObj it)) (h : wpAny M A (call (.ref nx) []) Q E s) :
    wpAny M A (callWith pos (.ref nx) [] (backTo pos (starEach [] env)) []) Q E s := by
  unfold callWith
  refine wpAny_bind (wpAny_holding (evalArgs_nil3 (wpAny_bind (wpAny_standAt ?_))))
  refine wpAny_bind (m := keeperOf (.ref nx)) ?_
  unfold keeperOf
  refine wpAny_bind (wpAny_load hn ?_)
  refine if_so' (by show (Value.type "method-wrapper" != Value.type "method") = true; decide) ?_
  refine wpAny_pure ?_
  exact wpAny_bind (wpAny_mono h (fun r s₂ hr => wpAny_bind (wpAny_holding (wpAny_point (wpAny_pure hr)))) fun _ _ x => x)
theorem ints_snoc : ∀ {vs : List Value} {ns : List Int} {n : Int}, IntsAre vs (ns ++ [n]) → ∃ us t, vs = us ++ [.int n t] ∧ IntsAre us ns
  | vs, [], n, h => by
    cases h with
    | cons _ t h => cases h; exact ⟨[], t, rfl, .nil⟩
  | vs, a :: ns, n, h => by
    cases h with
    | cons _ t h =>
      obtain ⟨us, t', rfl, h'⟩ := ints_snoc h
      exact ⟨_ :: us, t', rfl, .cons _ _ h'⟩
/-- the last of a list -/
theorem last_item {prog : Program} {w : World} {A : Around} {E : Value → Shared → Prop} {s : Shared} {value slice : Expr} {l : Addr} {p : List Value} {y : Value} {u : Tok} {Q : Value → Shared → Prop} (hl : s.heap.IsList l (p ++ [y]).toArray) (h : Q y s)
    (hs : subscripted slice false (.ref l) (.int (-1) u) = operate [.ref l, .int (-1) u] (getItem (.ref l) (.int (-1) u)) := by with_unfolding_all rfl) :
    wpAny (model prog w) A (subscriptTail value slice (.ref l) (.int (-1) u)) Q E s := by
  refine tail_any hl.typeIs slot_list_getitem.lookup (wpAny_getItem_list_neg (x := y) hl (by decide) ?_ (by decide) ?_ h) hs
  · simp only [List.size_toArray, List.length_append, List.length_cons, List.length_nil]; omega
  · have : (-1 + ((p ++ [y]).toArray.size : Int)).toNat = p.length := by simp only [List.size_toArray, List.length_append, List.length_cons, List.length_nil]; omega
    rw [this]; simp
end Mine
end
section
open PySem PySem.W PyProof.Rows
set_option Elab.async false
set_option maxRecDepth 100000
set_option maxHeartbeats 8000000
namespace Mine
local macro_rules | `(tactic| walk_at "ga") => `(tactic| first
  | (((with_reducible show wpAny _ _ (getAttr (Value.ref _) (Str.ofString "_node2info") _) _ _ _); refine ts_get1 (by assumption) (by assumption) (by assumption) rfl ?_))
  | (((with_reducible show wpAny _ _ (getAttr (Value.ref _) (Str.ofString "successors") _) _ _ _); refine nd_get2 (by assumption) (by assumption) (by assumption) ?_)))
local macro_rules | `(tactic| walk_at "nm") => `(tactic| (with_reducible show wpAny _ _ (eval (Expr.Name _ _) _) _ _ _);
  (with_unfolding_all refine nm_local (by assumption) (by assumption) ?_ rfl rfl (by decide)))
local macro_rules | `(tactic| walk_at "w") => `(tactic| first | walk_at "ga" | walk_at "nm" | (with_reducible refine Attribute_name ?_) | walk1)
theorem Ground.get {w : World} {p : Program} {loose : List Str} {mean : ExcName → Option Value} {mg mb : Str → Option Value} {mu : List Addr} {h₀ g : Heap} {L a : Addr} {o : Obj} (G : Ground w p loose mean mg mb mu h₀ L g) (ha : a ∉ mu) (e : h₀.get? a = some o) : g.get? a = some o := by
  cases q : g.get? a with
  | none => rw [G.back a ha q] at e; cases e
  | some o' => have := G.ext a o' q; rw [e] at this; cases this; rfl
theorem none_ge {h : Heap} {a : Addr} (ha : h.objs.size ≤ a) : h.get? a = none := by
  cases e : h.get? a with
  | none => rfl
  | some o => exact absurd (Heap.lt_size e) (Nat.not_lt.mpr ha)
theorem set_new {prog : Program} {w : World} (h : Heap) (led : Bool) : (h.push { cls := .type "set", dict := none, data := .set #[] 0 (.fresh 0 0 led) }).SetOf (intKind prog w) h.objs.size (fun _ => false) 0 :=
  ⟨_, #[], 0, _, Heap.get?_push_size _ rfl, ⟨rfl, rfl, rfl⟩, rfl, fun e he => by simp at he, fun k => by simp, by decide, by rfl, rfl⟩
theorem find_cycle_c {w : World} {A : Around} {mean : ExcName → Option Value} {mg mb : Str → Option Value} {s : Shared} {Q : Value → Shared → Prop} {E : Value → Shared → Prop} {b : Book} {Z : SSt} {hb : Heap} {outer : List Env}
    (X : (hd.heap_1 w.params).In hb) (T : Top Mine.view (looseW Mine.view [Str.ofString "_NodeInfo"]) mean mg mb hb) (kb : Ext hb s.heap) (hfs : ∀ a ∈ framesOf outer, hb.get? a = none) (hroom : A.depth < recursionLimit) (hh : A.handled = none)
    (hfr : A.frames = some outer) (hfun : FunOk s.heap outer)
    (hS : Sorter PySem.Challenge.rw_nb0259_01.row.prog w s.heap b Z) (hSf : ∀ a ∈ b.addrs Z.dom, a ∉ framesOf outer) (hsys : (b.N2 == sysModules) = false)
    (hsub : ∀ i ∈ Z.dom, ∀ j ∈ Z.succ i, j ∈ Z.dom) (hdl : Z.dom.length ≤ 100)
    (hnone : ∀ h' tk, Fine Z.dom Z.succ → FKeep (framesOf outer) s.heap h' → Q .none { s with heap := h', toks := tk })
    (hring : ∀ c items h' tk, Ring Z.dom Z.succ → FKeep (framesOf outer) s.heap h' → h'.IsList c items → 0 < items.size → items.size ≤ 1000 → s.heap.get? c = none → Q (.ref c) { s with heap := h', toks := tk }) :
    wpAny (model PySem.Challenge.rw_nb0259_01.row.prog w) A (call (.ref 154) [.ref b.S]) Q E s := by
  have Xs := X.keeps kb
  have Ts := T.keeps kb
  revert Xs; k_fill; intro Xs
  refine wpAny_call ?_
  (refine' code_base (K := hd.heap_1 w.params) ?k3 ?k5 ?k6 ?k7 ?k8 ?k9 ?kB ?_ ?c2 ?c3 ?c4 ?c5; (case k3 => exact Xs); (case k5 => exact Ts); (case k6 => k_is); (case k7 => k_is); (case k8 => exact hroom); (case k9 => exact BindsTo.of_eq rfl); (case c5 => decide); (case kB => exact locs rfl); (case c2 => exact rfl); (case c3 => exact rfl); (case c4 => exact rfl); k_whole; intro L' h' tk' F' N'; (try dsimp only))
  clear N'
  obtain ⟨g, G, Fg⟩ := ground X T kb hfs (fun a ha => let ⟨o, ho, _⟩ := hfun.alive a ha; ⟨o, ho⟩) F'
  have U1 : UpTo (framesOf outer) s.heap h' := UpTo.of_keeps fun a _ o e => F'.keep a o e
  have hsz0 : s.heap.objs.size ≤ L' := F'.above
  clear F' Xs Ts
  have N' : News g L' h' [] := News.nil
  have Sg := hS.keep (h' := g) fun a ha o e => G.get (hSf a ha) e
  have Xg := G.X
  have Tg := G.T
  have X' := Xg.keeps Fg.keep
  have S1 := Sg.keep fun a _ o e => Fg.keep a o e
  have hi := S1.inst
  obtain ⟨a, t, n, t3, t4, hD⟩ := S1.attrs
  refine wp_hide fun QF EF hqF _ => ?_
  iterate 5 walk_at "w"
  refine sto_local rfl rfl Fg fun h1 F1 k1 => ?_
  replace k1 : Sub [L'] h' h1 := k1
  replace F1 : Fr g L' h1 _ := F1
  have U2 : UpTo (framesOf outer) s.heap h1 := U1.trans (UpTo.of_keeps fun a ha o e => k1 a o (by simpa using G.hL a ha) e)
  clear Fg S1 X' hi hD N' U1
  iterate 4 walk_at "w"
  refine wpAny_newList ?_
  have F2 := Fr.push F1 { cls := .type "list", data := .seq ([] : List Value).toArray }
  have e2 : (h1.push { cls := .type "list", data := .seq ([] : List Value).toArray }).PlainList h1.objs.size (([] : List Value)).toArray := ⟨0, Heap.get?_push_size _ rfl⟩
  have k2 : Ext h1 (h1.push { cls := .type "list", data := .seq ([] : List Value).toArray }) := fun b o e => Heap.get?_push_of_some _ e
  have o1 : L' < h1.objs.size := F1.ns.lt
  generalize h1.push { cls := .type "list", data := .seq ([] : List Value).toArray } = h2 at F2 e2 k2 ⊢
  generalize h1.objs.size = ST at *
  refine sto_local rfl rfl F2 fun h3 F3 k3 => ?_
  replace k3 : Sub [L'] h2 h3 := k3
  replace F3 : Fr g L' h3 _ := F3
  have U3 : UpTo (framesOf outer) s.heap h3 := U2.trans (UpTo.of_keeps fun a ha o e => k3 a o (by simpa using G.hL a ha) (k2 a o e))
  have e3 : h3.PlainList ST _ := PlainList.keep e2 fun o e => k3 _ o (by simpa using Nat.ne_of_gt o1) e
  clear F1 F2 e2 U2 k1 k2 k3
  iterate 4 walk_at "w"
  refine wpAny_newList ?_
  have F4 := Fr.push F3 { cls := .type "list", data := .seq ([] : List Value).toArray }
  have i4 : (h3.push { cls := .type "list", data := .seq ([] : List Value).toArray }).PlainList h3.objs.size (([] : List Value)).toArray := ⟨0, Heap.get?_push_size _ rfl⟩
  have k4 : Ext h3 (h3.push { cls := .type "list", data := .seq ([] : List Value).toArray }) := fun b o e => Heap.get?_push_of_some _ e
  have o2 : ST < h3.objs.size := let ⟨_, e⟩ := e3; Heap.lt_size e
  generalize h3.push { cls := .type "list", data := .seq ([] : List Value).toArray } = h4 at F4 i4 k4 ⊢
  generalize h3.objs.size = IT at *
  refine sto_local rfl rfl F4 fun h5 F5 k5 => ?_
  replace k5 : Sub [L'] h4 h5 := k5
  replace F5 : Fr g L' h5 _ := F5
  have U5 : UpTo (framesOf outer) s.heap h5 := U3.trans (UpTo.of_keeps fun a ha o e => k5 a o (by simpa using G.hL a ha) (k4 a o e))
  have e5 : h5.PlainList ST _ := PlainList.keep e3 fun o e => k5 _ o (by simpa using Nat.ne_of_gt o1) (k4 _ o e)
  have i5 : h5.PlainList IT _ := PlainList.keep i4 fun o e => k5 _ o (by simpa using Nat.ne_of_gt (Nat.lt_trans o1 o2)) e
  clear F3 F4 e3 U3 k4 k5 i4
  iterate 5 walk_at "w"
  refine PySem.call_set_0 fun led => ?_
  have s6 := set_new (prog := PySem.Challenge.rw_nb0259_01.row.prog) (w := w) h5 led
  have F6 := Fr.push F5 { cls := .type "set", dict := none, data := .set #[] 0 (.fresh 0 0 led) }
  have k6 : Ext h5 (h5.push { cls := .type "set", dict := none, data := .set #[] 0 (.fresh 0 0 led) }) := fun b o e => Heap.get?_push_of_some _ e
  have o3 : IT < h5.objs.size := let ⟨_, e⟩ := i5; Heap.lt_size e
  dsimp only at s6 ⊢
  generalize h5.push { cls := .type "set", dict := none, data := .set #[] 0 (.fresh 0 0 led) } = h6 at F6 s6 k6 ⊢
  generalize h5.objs.size = SE at *
  refine sto_local rfl rfl F6 fun h7 F7 k7 => ?_
  replace k7 : Sub [L'] h6 h7 := k7
  replace F7 : Fr g L' h7 _ := F7
  have U7 : UpTo (framesOf outer) s.heap h7 := U5.trans (UpTo.of_keeps fun a ha o e => k7 a o (by simpa using G.hL a ha) (k6 a o e))
  have nL : ∀ a : Nat, L' < a → a ∉ [L'] := fun a ha => by simpa using Nat.ne_of_gt ha
  have e7 : h7.PlainList ST _ := PlainList.keep e5 fun o e => k7 _ o (nL _ o1) (k6 _ o e)
  have i7 : h7.PlainList IT _ := PlainList.keep i5 fun o e => k7 _ o (nL _ (Nat.lt_trans o1 o2)) (k6 _ o e)
  have s7 := setKeep s6 fun o e => k7 _ o (nL _ (Nat.lt_trans (Nat.lt_trans o1 o2) o3)) e
  clear F5 F6 e5 U5 k6 k7 i5 s6
  iterate 2 walk_at "w"
  refine wpAny_Dict_empty ?_
  have F8 := Fr.push F7 { cls := .type "dict", data := .dict #[] }
  have n8 := Heap.DictOf.new (knd := intKind PySem.Challenge.rw_nb0259_01.row.prog w) h7
  have k8 : Ext h7 (h7.push { cls := .type "dict", data := .dict #[] }) := fun b o e => Heap.get?_push_of_some _ e
  have o4 : SE < h7.objs.size := let ⟨_, _, _, _, e, _⟩ := s7; Heap.lt_size e
  generalize h7.push { cls := .type "dict", data := .dict #[] } = h8 at F8 n8 k8 ⊢
  generalize h7.objs.size = NS at *
  refine sto_local rfl rfl F8 fun h9 F9 k9 => ?_
  replace k9 : Sub [L'] h8 h9 := k9
  replace F9 : Fr g L' h9 _ := F9
  have U9 : UpTo (framesOf outer) s.heap h9 := U7.trans (UpTo.of_keeps fun a ha o e => k9 a o (by simpa using G.hL a ha) (k8 a o e))
  have o13 := Nat.lt_trans (Nat.lt_trans o1 o2) o3
  have e9 : h9.PlainList ST _ := PlainList.keep e7 fun o e => k9 _ o (nL _ o1) (k8 _ o e)
  have i9 : h9.PlainList IT _ := PlainList.keep i7 fun o e => k9 _ o (nL _ (Nat.lt_trans o1 o2)) (k8 _ o e)
  have s9 := setKeep s7 fun o e => k9 _ o (nL _ o13) (k8 _ o e)
  have n9 := dictKeep n8 fun o e => k9 _ o (nL _ (Nat.lt_trans o13 o4)) e
  clear F7 F8 e7 U7 k8 k9 i7 s7 n8
  dsimp only
  walk1
  refine wpAny_For ?_
  walk1
  obtain ⟨oN, esN, epN, gN, rN⟩ := id Sg.n2i
  have hat : ∀ h, Ext g h → h.DictAt (intKind PySem.Challenge.rw_nb0259_01.row.prog w) b.N2 (Z.dom.map fun i => (i, .ref (b.nd i))) epN := fun h k => ⟨oN, esN, k _ _ gN, rN⟩
  refine wpAny_pyIter_dict hsys (hat h9 F9.keep) ?_
  have o5 : NS < h9.objs.size := let ⟨_, _, _, e, _⟩ := n9; Heap.lt_size e
  have k10 : Ext h9 (h9.push { cls := .type "dict_keyiterator", data := .fields #[.ref b.N2, .int 0 0, .int (Z.dom.map fun i => (i, Value.ref (b.nd i))).length 0, .int epN 0] }) := fun b o e => Heap.get?_push_of_some _ e
  have d10 : (h9.push { cls := .type "dict_keyiterator", data := .fields #[.ref b.N2, .int 0 0, .int (Z.dom.map fun i => (i, Value.ref (b.nd i))).length 0, .int epN 0] }).IsKeyIter h9.objs.size b.N2 0 (Z.dom.map fun i => (i, Value.ref (b.nd i))).length epN := ⟨_, Heap.get?_push_size _ rfl, rfl, rfl⟩
  have F10 := Fr.grownK F9 k10
  dsimp only
  generalize h9.push { cls := .type "dict_keyiterator", data := .fields #[.ref b.N2, .int 0 0, .int (Z.dom.map fun i => (i, Value.ref (b.nd i))).length 0, .int epN 0] } = h10 at F10 k10 d10 ⊢
  generalize h9.objs.size = DI at *
  have U10 := U9.trans (UpTo.of_keeps (fs := framesOf outer) fun a _ o e => k10 a o e)
  have e10 := PlainList.keep e9 fun o e => k10 _ o e
  have i10 := PlainList.keep i9 fun o e => k10 _ o e
  have s10 := setKeep s9 fun o e => k10 _ o e
  have n10 := dictKeep n9 fun o e => k10 _ o e
  clear F9 e9 U9 i9 s9 n9 k10
  obtain ⟨F, rfl, rfl, rfl, rfl, rfl, rfl⟩ : ∃ F : FA, L' = F.L ∧ ST = F.ST ∧ IT = F.IT ∧ SE = F.SE ∧ NS = F.NS ∧ DI = F.DI := ⟨⟨L', ST, IT, SE, NS, DI⟩, rfl, rfl, rfl, rfl, rfl, rfl⟩
  have ok : F.Ok := ⟨o1, o2, o3, o4, o5⟩
  have hND : b.N2 ≠ F.DI := fun q => by
    obtain ⟨o, es, ep, e, _⟩ := Sg.n2i
    have := Heap.lt_size e
    rw [q] at this
    exact absurd (Nat.lt_of_lt_of_le this F10.above) (Nat.not_lt.mpr (Nat.le_of_lt (Nat.lt_trans (Nat.lt_trans o13 o4) o5)))
  have nsys : (F.NS == sysModules) = false := beq_eq_false_iff_ne.mpr (Nat.ne_of_gt (show 1 < F.NS by have := o1; have := o2; have := o3; have := o4; omega))
  have hlen : (Z.dom.map fun i => (i, Value.ref (b.nd i))).length = Z.dom.length := List.length_map _
  have fh10 : FHs PySem.Challenge.rw_nb0259_01.row.prog w F b h10 [] (fun _ => false) 0 := ⟨⟨[], e10, IntsAre.nil⟩, i10, s10, ⟨[], n10, rfl, by simp⟩, by simp, by simp⟩
  clear e10 i10 s10 n10
  have fsl : ∀ a ∈ framesOf outer, a < F.L := fun a ha => by
    obtain ⟨o, ho, _⟩ := hfun.alive a ha
    exact Nat.lt_of_lt_of_le (Heap.lt_size ho) hsz0
  have GR : ∀ i, Grd s.heap g (framesOf outer) F (fun h => h.IsKeyIter F.DI b.N2 i (Z.dom.map fun i => (i, Value.ref (b.nd i))).length epN ∧ h.DictAt (intKind PySem.Challenge.rw_nb0259_01.row.prog w) b.N2 (Z.dom.map fun i => (i, .ref (b.nd i))) epN) := fun i =>
    ⟨ok, F10.above, fsl, G.hg, fun h h' ⟨p1, p2⟩ k1 k2 => ⟨p1.at k1, hat h' k2⟩⟩
  refine for_own (Walks.dictKeys (A := A.deeper _) hh F.DI b.N2 hND (Z.dom.map fun i => (i, .ref (b.nd i))) epN)
    (fun i s' => ∃ h m tk S n fin, s' = { s with heap := h, toks := tk } ∧ FW PySem.Challenge.rw_nb0259_01.row.prog w s.heap g (framesOf outer) F b Z (fun _ => True) (fun _ => false) h m [] [] [] [] S n ∧ Base Z.dom Z.succ [] S fin ∧ n = fin.length ∧ ∀ k x, k < i → Z.dom[k]? = some x → S x = true) ⟨d10, hat h10 F10.keep⟩ ?start ?turn ?fin
  case start => exact ⟨h10, _, _, _, 0, [], rfl, ⟨F10, ⟨rfl, rfl, rfl, rfl, rfl⟩, fh10, U10, trivial, fun _ q => q⟩, Base.start _ _, rfl, fun k x hk => absurd hk (Nat.not_lt_zero _)⟩
  case fin =>
    rintro s1 h1 tk1 ⟨h, m, tk, S, n, fin, rfl, q, hb', hn, hall⟩ hs1
    have fr1 : Fr g F.L h1 m := ⟨q.fr.ns.at' fun o e => hs1 _ o (by simpa using Nat.ne_of_lt (Nat.lt_trans (Nat.lt_trans o13 o4) o5)) e, fun c o e => hs1 c o (by simp only [List.mem_singleton]; rintro rfl; rw [(GR 0).none (Nat.le_of_lt (Nat.lt_trans (Nat.lt_trans o13 o4) o5))] at e; cases e) (q.fr.keep c o e), q.fr.above⟩
    have up1 := q.up.trans (UpTo.of_keeps (fs := framesOf outer) fun a ha o e => hs1 a o (by simpa using Nat.ne_of_lt (Nat.lt_trans (fsl a ha) (Nat.lt_trans (Nat.lt_trans o13 o4) o5))) e)
    dsimp only
    iterate 3 walk_at "w"
    refine hqF _ _ ?_
    refine hnone h1 _ (fine_of hb' fun x hx => ?_) ⟨G.sub _ _ fr1, up1⟩
    obtain ⟨j, hj, rfl⟩ := List.mem_iff_getElem.mp hx
    exact hall j _ (by rw [hlen]; exact hj) (List.getElem?_eq_getElem hj)
  case turn =>
    rintro i v s1 h1 tk1 E' hi ⟨k, x, hk, hv⟩ ⟨h, m, tk, S, n, fin, rfl, q, hb', hn, hall⟩ hst hs1
    obtain ⟨t0, rfl⟩ := Value.isInt_shape hv
    have hki : Z.dom[i]? = some k := by
      rw [List.getElem?_map] at hk
      obtain ⟨k', e1, e2⟩ := Option.map_eq_some_iff.mp hk
      cases e2; exact e1
    have hkd : k ∈ Z.dom := List.mem_of_getElem? hki
    have oLD := Nat.lt_trans (Nat.lt_trans o13 o4) o5
    have fr1 : Fr g F.L h1 m := ⟨q.fr.ns.at' fun o e => hs1 _ o (by simpa using Nat.ne_of_lt oLD) e, fun c o e => hs1 c o (by simp only [List.mem_singleton]; rintro rfl; rw [(GR 0).none (Nat.le_of_lt oLD)] at e; cases e) (q.fr.keep c o e), q.fr.above⟩
    have up1 := q.up.trans (UpTo.of_keeps (fs := framesOf outer) fun a ha o e => hs1 a o (by simpa using Nat.ne_of_lt (Nat.lt_trans (fsl a ha) oLD)) e)
    have GI := GR (i + 1)
    generalize hSt : (fun h : Heap => h.IsKeyIter F.DI b.N2 (i + 1) (Z.dom.map fun i => (i, Value.ref (b.nd i))).length epN ∧ h.DictAt (intKind PySem.Challenge.rw_nb0259_01.row.prog w) b.N2 (Z.dom.map fun i => (i, .ref (b.nd i))) epN) = St at GI
    have stE : ∀ h : Heap, St h ↔ (h.IsKeyIter F.DI b.N2 (i + 1) (Z.dom.map fun i => (i, Value.ref (b.nd i))).length epN ∧ h.DictAt (intKind PySem.Challenge.rw_nb0259_01.row.prog w) b.N2 (Z.dom.map fun i => (i, .ref (b.nd i))) epN) := fun h => by rw [← hSt]
    have q1 : FW PySem.Challenge.rw_nb0259_01.row.prog w s.heap g (framesOf outer) F b Z St S h1 m [] [] [] [] S n := ⟨fr1, q.loc, q.fh.keep ok fun a o _ hd e => hs1 a o (by simpa using hd) e, up1, hSt ▸ hst, fun _ z => z⟩
    refine asg_local (s := { s with heap := h1, toks := tk1 }) rfl rfl q1.fr fun h2 F2 k2 => ?_
    have q2 := q1.node GI F2 k2
    have hnode : upd m (Str.ofString "node") (.int k t0) (Str.ofString "node") = some (.int k t0) := if_pos rfl
    generalize upd m (Str.ofString "node") (.int k t0) = m2 at q2 hnode
    clear q q1 F2 k2 fr1 up1 F10 U10 fh10 d10
    have F2 := q2.fr
    obtain ⟨l1, l2, l3, l4, l5⟩ := id q2.loc
    dsimp only
    refine wp_hide fun QT ET hqT _ => ?_
    iterate 6 walk_at "w"
    refine PySem.wpAny_inSet_of (intKind_is _ _ k t0) rfl q2.fh.se ?_
    walk_at "w"
    by_cases hSk : S k = true
    · rw [if_pos hSk]
      iterate 3 walk_at "w"
      refine hqT _ _ ?_
      refine ⟨⟨h2, m2, _, S, n, fin, rfl, ⟨q2.fr, q2.loc, q2.fh, q2.up, trivial, fun _ z => by cases z⟩, hb', hn, fun j y hj hy => ?_⟩, (stE _).mp q2.st⟩
      rcases Nat.lt_or_eq_of_le (Nat.le_of_lt_succ hj) with z | z
      · exact hall j y z hy
      · subst z; rw [hki] at hy; cases hy; exact hSk
    · rw [if_neg hSk]
      iterate 3 walk_at "w"
      refine wpAny_While (codeAny_whileLoop (fun n1 s' => ∃ h m tk its S' n' fin' v tv, s' = { s with heap := h, toks := tk } ∧ FW PySem.Challenge.rw_nb0259_01.row.prog w s.heap g (framesOf outer) F b Z St S h m (its.map Item.v).reverse (its.map Item.nx).reverse (its.map Item.v).reverse its S' n' ∧ m (Str.ofString "node") = some (.int v tv) ∧
        Base Z.dom Z.succ its S' fin' ∧ Down Z.succ fin' v its ∧ v ∈ Z.dom ∧ n' = its.length + fin'.length ∧ (S' k = true ∨ v = k) ∧ n1 = total Z.succ Z.dom - taken Z.succ its fin') ?wturn (total Z.succ Z.dom - taken Z.succ [] fin) ?wstart)
      case wstart => exact ⟨h2, m2, _, [], S, n, fin, k, t0, rfl, q2, hnode, hb', trivial, hkd, by simpa using hn, .inr rfl, rfl⟩
      case wturn =>
        clear q2 F2 l1 l2 l3 l4 l5 hnode
        rintro n1 s1 ⟨h, m, tk, its, S', n', fin', v, tv, rfl, q, hnode, hB, hD, hvd, hn', hk', rfl⟩
        generalize hc0 : taken Z.succ its fin' = c0
        have F2 := q.fr
        obtain ⟨l1, l2, l3, l4, l5⟩ := id q.loc
        iterate 3 walk1
        simp only [if_true]
        refine wp_hide fun QW EW hqW _ => ?_
        walk1
        refine wpAny_mono (Q := fun f s' => (f = .next ∧ ∃ h m tk its S' n' fin', s' = { s with heap := h, toks := tk } ∧ FW PySem.Challenge.rw_nb0259_01.row.prog w s.heap g (framesOf outer) F b Z St S h m (its.map Item.v).reverse (its.map Item.nx).reverse (its.map Item.v).reverse its S' n' ∧
            Base Z.dom Z.succ its S' fin' ∧ Rest Z.succ fin' its ∧ n' = its.length + fin'.length ∧ S' k = true ∧ taken Z.succ its fin' = c0) ∨ ∃ c items h' tk, f = .ret (.ref c) ∧ s' = { s with heap := h', toks := tk } ∧ Ring Z.dom Z.succ ∧ FKeep (framesOf outer) s.heap h' ∧ h'.IsList c items ∧ 0 < items.size ∧ items.size ≤ 1000 ∧ s.heap.get? c = none) ?first ?second fun _ _ e => e
        have its_le : its.length ≤ 100 := by
          have h1 : (its.map Item.v ++ fin').length ≤ Z.dom.length := hB.nd.length_le_of_subset fun x hx => hB.sub x hx
          rw [List.length_append, List.length_map] at h1
          omega
        case first =>
          refine wp_hide fun Q1 E1 hq1 _ => ?_
          iterate 4 walk_at "w"
          refine PySem.wpAny_inSet_of (intKind_is _ _ v tv) rfl q.fh.se ?_
          walk_at "w"
          by_cases hSv : S' v = true
          · rw [if_pos hSv]
            iterate 6 walk_at "w"
            obtain ⟨kvs, hkv, hks⟩ := q.fh.ns
            refine PySem.wpAny_in_of (intKind_is _ _ v tv) nsys hkv.mapOf ?_
            walk_at "w"
            by_cases hvi : v ∈ its.map Item.v
            · obtain ⟨j, tj, hj, j0, j1⟩ := ns_value hks (List.mem_reverse.mpr hvi)
              rw [hj]
              simp only [Option.isSome_some, if_true]
              iterate 11 walk_at "w"
              refine item_pairs hkv hj ?_
              iterate 2 walk_at "w"
              obtain ⟨vs, hST, hvs⟩ := q.fh.st
              have hvl : vs.length ≤ 100 := by rw [hvs.length, List.length_reverse, List.length_map]; exact its_le
              refine slice_own (s := { s with heap := h, toks := _ }) hST.isList (.int _ _) .none (fun h4 D k4 hD hD0 hDl hDs => ?_) (by rw [List.size_toArray, sizeLine_eq]; omega)
              have F4 := Fr.grownK q.fr k4
              have hsl := slice_ints_fromW hvs (x := j) j0
              have hsl2 := hsl.length
              have hsl3 : ((its.map Item.v).reverse.drop j.toNat).length ≤ 100 := by rw [List.length_drop, List.length_reverse, List.length_map]; omega
              rw [Array.length_toList] at hsl2
              dsimp only
              iterate 4 walk_at "w"
              refine wpAny_newList ?_
              obtain ⟨nD, hDe⟩ := hD
              refine PySem.P.add_list (n2 := 0) (Heap.get?_push_of_some _ hDe) (Heap.get?_push_size _ rfl) ?_ (by rw [sizeLine_eq, hsl2]; simp only [List.size_toArray, List.length_cons, List.length_nil]; omega)
              have kk : Ext h ((h4.push { cls := .type "list", data := .seq [Value.int v tv].toArray }).push { cls := .type "list", data := .seq (slicePick vs.toArray (some j) none none ++ [Value.int v tv].toArray) }) := fun a o e => Heap.get?_push_of_some _ (Heap.get?_push_of_some _ (k4 a o e))
              refine hq1 _ _ (.inr ⟨_, _, _, _, rfl, rfl, ring_of hB hD hvi, ⟨G.sub _ _ (Fr.grownK q.fr kk), q.up.trans (UpTo.of_keeps fun a _ o e => kk a o e)⟩, ⟨_, Heap.get?_push_size _ rfl, rfl, _, rfl⟩, ?_, ?_, none_ge ?_⟩)
              · simp
              · simp only [Array.size_append, hsl2, List.size_toArray, List.length_cons, List.length_nil]; omega
              · exact Nat.le_trans hsz0 (Nat.le_trans (Nat.le_of_lt F4.ns.lt) (by rw [Heap.size_push]; exact Nat.le_succ _))
            · rw [ns_none hks (fun z => hvi (List.mem_reverse.mp z))]
              simp only [Option.isSome_none, Bool.false_eq_true, if_false]
              iterate 3 walk_at "w"
              refine hq1 _ _ (.inl ⟨rfl, h, m, _, its, S', n', fin', rfl, q, hB, rest_done hD ?_, hn', hk'.elim id (fun z => z ▸ hSv), hc0⟩)
              rcases List.mem_append.mp ((hB.seen v).mp hSv) with z | z
              · exact absurd z hvi
              · exact z
          · rw [if_neg hSv]
            iterate 5 walk_at "w"
            refine PySem.getMethod_set_add q.fh.se ?_
            iterate 4 walk_at "w"
            have n_le : n' ≤ 100 := by
              have h1 : (its.map Item.v ++ fin').length ≤ Z.dom.length := hB.nd.length_le_of_subset fun x hx => hB.sub x hx
              rw [List.length_append, List.length_map] at h1
              omega
            refine PySem.call_set_add (intKind_is _ _ v tv) rfl q.fh.se (by rw [show scanBound = 4096 from rfl]; omega) fun h4 s4 e4 => ?_
            rw [if_neg hSv] at e4
            have q4 := q.at_ GI (show F.L < F.SE from o13) (show F.SE ≠ F.DI from Nat.ne_of_lt (Nat.lt_trans o4 o5)) s4 (q.fh.set_se ok s4 e4) (fun x hx => by simp [hx])
            clear F2
            have F4 := q4.fr
            have Xh := Xg.keeps F4.keep
            have Sh := Sg.keep fun a _ o e => F4.keep a o e
            obtain ⟨tn1, tn2, hnd⟩ := Sh.node v hvd
            have hem := Sh.emp v hvd
            obtain ⟨us, hus, hui⟩ := Sh.lst v hvd
            iterate 4 walk_at "w"
            refine meth_list PySem.F.slot_list_append PySem.F.type_list_append q4.fh.it ?_
            iterate 11 walk_at "w"
            refine item_pairs Sh.n2i (valueAt_dom hvd) ?_
            iterate 2 walk_at "w"
            refine call_iter_list hus.isList ?_
            refine next_attr (i := 0) (Heap.get?_push_size _ rfl) ?_
            have k6 : Ext h4 ((h4.push { cls := .type "list_iterator", data := .fields #[.ref (b.sl v), .int 0 0] }).push (nextObj h4.objs.size)) := fun a o e => Heap.get?_push_of_some _ (Heap.get?_push_of_some _ e)
            have a6 : ((h4.push { cls := .type "list_iterator", data := .fields #[.ref (b.sl v), .int 0 0] }).push (nextObj h4.objs.size)).get? (h4.objs.size + 1) = some (nextObj h4.objs.size) := by
              have := Heap.get?_push_size (h4.push { cls := .type "list_iterator", data := .fields #[.ref (b.sl v), .int 0 0] }) (o := nextObj h4.objs.size) rfl
              rwa [Heap.size_push] at this
            have b6 : ((h4.push { cls := .type "list_iterator", data := .fields #[.ref (b.sl v), .int 0 0] }).push (nextObj h4.objs.size)).IsListIter h4.objs.size (b.sl v) 0 := ⟨_, Heap.get?_push_of_some _ (Heap.get?_push_size _ rfl), rfl, rfl⟩
            dsimp only
            rw [Heap.size_push]
            generalize (h4.push { cls := .type "list_iterator", data := .fields #[.ref (b.sl v), .int 0 0] }).push (nextObj h4.objs.size) = h6 at k6 a6 b6 ⊢
            have d4 : F.DI < h4.objs.size := by
              obtain ⟨⟨o, e, _⟩, _⟩ := (stE _).mp q4.st
              exact Heap.lt_size e
            have m4 : ∀ y ∈ its, y.nx < h4.objs.size := fun y hy => Heap.lt_size (q4.fh.items y hy).nx
            generalize h4.objs.size = I4 at *
            have q6 := q4.grow GI k6
            have fh6 := q6.fh.add (x := ⟨v, I4, I4 + 1, 0⟩) ⟨a6, b6, d4, Nat.lt_succ_self _⟩ m4
            clear F4 Xh Sh hnd hem
            walk_at "w"
            refine wpAny_list_append_plain q6.fh.it (fun h7 e7 s7 => ?_) (by rw [List.size_toArray, List.length_map, List.length_reverse, List.length_map, sizeLine_eq]; omega)
            have q7 := q6.at_ GI (Nat.lt_trans o1 o2) (Nat.ne_of_lt (Nat.lt_trans o3 (Nat.lt_trans o4 o5))) s7 (fh6.set_it (ix' := (its.map Item.nx).reverse ++ [I4 + 1]) ok s7 (by simpa using e7)) (fun x hx => hx)
            clear fh6 q6 q4
            have F7 := q7.fr
            obtain ⟨vs7, p7, hv7⟩ := q7.fh.st
            have vl7 : vs7.length ≤ 100 := by rw [hv7.length, List.length_reverse, List.length_map]; exact its_le
            iterate 8 walk_at "w"
            refine len_list p7.isList (by rw [List.size_toArray]; omega) ?_
            iterate 2 walk_at "w"
            obtain ⟨kv7, d7, nk7⟩ := q7.fh.ns
            have hvn : v ∉ its.map Item.v := fun z => hSv ((hB.seen v).mpr (List.mem_append_left _ z))
            have kl7 : kv7.length ≤ 100 := by
              have := congrArg List.length nk7.1
              rw [List.length_map, List.length_reverse, List.length_map] at this
              omega
            refine PySem.wpAny_setItem_pairs (intKind_is _ _ v tv) d7 (fun h8 e8 s8 => ?_) (by rw [sizeLine_eq]; omega)
            have q8 := q7.at_ GI (Nat.lt_trans o13 o4) (Nat.ne_of_lt o5) s8 (q7.fh.set_ns ok s8 e8 (stored_last nk7 (fun z => hvn (List.mem_reverse.mp z)) (by rw [List.size_toArray]; omega))) (fun x hx => hx)
            clear q7 p7 F7
            obtain ⟨vs8, p8, hv8⟩ := q8.fh.st
            have F8 := q8.fr
            iterate 4 walk_at "w"
            refine meth_list PySem.F.slot_list_append PySem.F.type_list_append p8 ?_
            iterate 4 walk_at "w"
            refine wpAny_list_append_plain p8 (fun h9 e9 s9 => ?_) (by rw [List.size_toArray, hv8.length, List.length_reverse, List.length_map, sizeLine_eq]; omega)
            have q9 := q8.at_ GI o1 (Nat.ne_of_lt (Nat.lt_trans o2 (Nat.lt_trans o3 (Nat.lt_trans o4 o5)))) s9 (q8.fh.set_st (vs := vs8 ++ [.int v tv]) (sv' := (its.map Item.v).reverse ++ [v]) ok s9 (by simpa using e9) (IntsAre.append hv8 (IntsAre.cons _ _ IntsAre.nil))) (fun x hx => hx)
            iterate 1 walk_at "w"
            refine hq1 _ _ (.inl ⟨rfl, h9, m, _, ⟨v, I4, I4 + 1, 0⟩ :: its, _, _, fin', rfl, by simpa using q9, hB.push hvd (by simpa using hSv) _ _, rest_push hD _ _, ?_, ?_, by rw [taken_push]; exact hc0⟩)
            · simp; omega
            · rcases hk' with z | z
              · simp [z]
              · simp [z]
        case second =>
          rintro f s3 (⟨rfl, h3, m3, tk3, its3, S3, n3, fin3, rfl, q3, hB3, hR3, hn3, hk3, ht3⟩ | ⟨c, items, h3, tk3, rfl, rfl, p1, p2, p3, p4, p5, p6⟩)
          · clear q hnode hB hD hvd hn' hk' F2 l1 l2 l3 l4 l5
            dsimp only
            walk1
            refine wpAny_While (codeAny_whileLoop (fun n2 s' => ∃ h m tk its S' n' fin', s' = { s with heap := h, toks := tk } ∧ FW PySem.Challenge.rw_nb0259_01.row.prog w s.heap g (framesOf outer) F b Z St S h m (its.map Item.v).reverse (its.map Item.nx).reverse (its.map Item.v).reverse its S' n' ∧
              Base Z.dom Z.succ its S' fin' ∧ Rest Z.succ fin' its ∧ n' = its.length + fin'.length ∧ S' k = true ∧ taken Z.succ its fin' = c0 ∧ n2 = its.length) ?vturn its3.length ⟨h3, m3, _, its3, S3, n3, fin3, rfl, q3, hB3, hR3, hn3, hk3, ht3, rfl⟩)
            case vturn =>
              clear q3 hB3 hR3 hn3 hk3 ht3
              rintro n2 s2 ⟨h, m, tk, its, S', n', fin', rfl, q, hB, hR, hn', hk', hc, rfl⟩
              have F2 := q.fr
              obtain ⟨l1, l2, l3, l4, l5⟩ := id q.loc
              obtain ⟨vs, p, hvs⟩ := q.fh.st
              have its_le : its.length ≤ 100 := by
                have h1 : (its.map Item.v ++ fin').length ≤ Z.dom.length := hB.nd.length_le_of_subset fun x hx => hB.sub x hx
                rw [List.length_append, List.length_map] at h1
                omega
              have hfit : (vs.toArray.size : Int) < 2 ^ 63 := by rw [List.size_toArray, hvs.length, List.length_reverse, List.length_map]; omega
              iterate 2 walk_at "w"
              refine wpAny_truthy_list p.isList hfit ?_
              rw [ints_empty hvs]
              cases its with
              | nil =>
                rw [if_neg (by simp)]
                refine wp_hide fun QV EV hqV _ => ?_
                iterate 3 walk_at "w"
                refine hqV _ _ ?_
                dsimp only
                refine hqW _ _ ?_
                dsimp only
                iterate 1 walk_at "w"
                refine hqT _ _ ?_
                refine ⟨⟨h, m, _, S', n', fin', rfl, ⟨q.fr, q.loc, q.fh, q.up, trivial, fun _ z => by cases z⟩, hB, by simpa using hn', fun j y hj hy => ?_⟩, (stE _).mp q.st⟩
                rcases Nat.lt_or_eq_of_le (Nat.le_of_lt_succ hj) with z | z
                · exact q.old y (hall j y z hy)
                · subst z; rw [hki] at hy; cases hy; exact hk'
              | cons x r =>
                rw [if_pos (by simp)]
                refine wp_hide fun QV EV hqV _ => ?_
                iterate 2 walk1
                refine wpAny_Try_except ?_
                iterate 8 walk_at "w"
                have hix : ((x :: r).map Item.nx).reverse = (r.map Item.nx).reverse ++ [x.nx] := by simp
                have hIT := q.fh.it
                rw [hix] at hIT
                rw [List.map_append, List.map_cons, List.map_nil] at hIT
                refine last_item hIT.isList ?_
                have xa := q.fh.items x (by simp)
                have hxd : x.v ∈ Z.dom := hB.sub _ (by simp)
                have Sh := Sg.keep fun a _ o e => F2.keep a o e
                obtain ⟨us, hus, hui⟩ := Sh.lst x.v hxd
                refine callWith_next xa.nx (wpAny_call ?_)
                cases hx : (Z.succ x.v)[x.i]? with
                | some c =>
                  obtain ⟨tc, hc'⟩ := hui.get x.i c hx
                  refine next_item xa.nx xa.it hus.isList (by simpa using hc') fun h4 it4 s4 => ?_
                  have xlo := xa.lo
                  have q4 := q.at_ GI (show F.L < x.it from Nat.lt_trans oLD xlo) (Nat.ne_of_gt xlo) s4 (q.fh.take ok it4 s4) (fun _ z => z)
                  clear F2
                  dsimp only
                  refine sto_local rfl rfl q4.fr fun h5 F5 k5 => ?_
                  have q5 := q4.node GI F5 k5
                  dsimp only
                  iterate 2 walk_at "w"
                  refine hqV _ _ ?_
                  dsimp only
                  iterate 2 walk_at "w"
                  refine hqW _ _ ?_
                  have hc1 := (hB.take hx).taken_le
                  rw [taken_take, hc] at hc1
                  refine ⟨total Z.succ Z.dom - (c0 + 1), by omega, h5, _, _, { x with i := x.i + 1 } :: r, S', n', fin', c, tc, rfl, q5, if_pos rfl, hB.take hx, down_take hR hx, hsub _ hxd c (List.mem_of_getElem? hx), by simpa using hn', .inl hk', by rw [taken_take, hc]⟩
                | none =>
                  have hc' : us[x.i]? = none := by
                    rw [List.getElem?_eq_none_iff, hui.length]; exact List.getElem?_eq_none_iff.mp hx
                  refine next_stop (A := A.deeper _) (items := us.toArray) hh xa.nx xa.it hus.isList (by rw [List.getElem?_toArray]; exact hc') fun h4 h5 e5 s4 x5 => ?_
                  dsimp only
                  have xlo := xa.lo
                  have q4 := q.at_ GI (show F.L < x.it from Nat.lt_trans oLD xlo) (Nat.ne_of_gt xlo) s4 (q.fh.drop ok s4) (fun _ z => z)
                  clear F2
                  refine caught_stop (h₁ := h4) (L := F.L) (Around.frames_deeper hfr) rfl ((FunOk.cons (hfun.keep q4.up) rfl rfl q4.fr.ns).frames) x5 ?hname ?hsuite
                  case hname =>
                    intro h6 E6 Q6 s6 u6 z6
                    have F6 := (q4.noted GI (FKeep.of_slots s6 u6)).fr
                    refine nm_built F6 Xg (by k_asm) (by k_is) (by boot_by_name) (by decide) z6 rfl rfl rfl rfl (by decide)
                  case hsuite =>
                    intro h6 E6 s6 u6
                    have q6 := q4.noted GI (FKeep.of_slots s6 u6)
                    clear q4
                    have F6 := q6.fr
                    have hsv : ((x :: r).map Item.v).reverse = (r.map Item.v).reverse ++ [x.v] := by simp
                    rw [hsv, hix] at q6
                    obtain ⟨vs6, p6, hv6⟩ := q6.fh.st
                    obtain ⟨us6, t6, rfl, hu6⟩ := ints_snoc hv6
                    have ul6 : us6.length ≤ 100 := by rw [hu6.length, List.length_reverse, List.length_map]; simp at its_le; omega
                    iterate 7 walk_at "w"
                    refine meth_list PySem.F.slot_list_pop PySem.F.type_list_pop p6 ?_
                    iterate 1 walk_at "w"
                    refine pop_plain p6 (by rw [sizeLine_eq, List.length_append, List.length_singleton]; omega) fun h7 e7 s7 => ?_
                    have q7 := q6.at_ GI o1 (Nat.ne_of_lt (Nat.lt_trans o2 (Nat.lt_trans o3 (Nat.lt_trans o4 o5)))) s7 (q6.fh.set_st (vs := us6) ok s7 e7 hu6) (fun _ z => z)
                    clear q6 F6 p6
                    have F7 := q7.fr
                    obtain ⟨kv7, d7, nk7⟩ := q7.fh.ns
                    have nd7 : ((r.map Item.v).reverse ++ [x.v]).Nodup := by
                      rw [← hsv]; exact (List.reverse_perm _).nodup_iff.mpr (List.nodup_append.mp hB.nd).1
                    obtain ⟨w1, w2⟩ := without_last nk7 nd7
                    have kl7 : kv7.length ≤ 101 := by
                      have := congrArg List.length nk7.1
                      rw [List.length_map, List.length_append, List.length_singleton, List.length_reverse, List.length_map] at this
                      simp at its_le; omega
                    refine del_pairs d7 (by rw [sizeLine_eq]; omega) w2 fun h8 e8 s8 => ?_
                    have q8 := q7.at_ GI (Nat.lt_trans o13 o4) (Nat.ne_of_lt o5) s8 (q7.fh.set_ns ok s8 e8 w1) (fun _ z => z)
                    clear q7 F7
                    have F8 := q8.fr
                    have p8 := q8.fh.it
                    rw [List.map_append, List.map_cons, List.map_nil] at p8
                    dsimp only
                    iterate 6 walk_at "w"
                    refine meth_list PySem.F.slot_list_pop PySem.F.type_list_pop p8 ?_
                    iterate 1 walk_at "w"
                    refine pop_plain p8 (by rw [sizeLine_eq, List.length_append, List.length_singleton, List.length_map, List.length_reverse, List.length_map]; simp at its_le; omega) fun h9 e9 s9 => ?_
                    have q9 := q8.at_ GI (Nat.lt_trans o1 o2) (Nat.ne_of_lt (Nat.lt_trans o3 (Nat.lt_trans o4 o5))) s9 (q8.fh.set_it ok s9 e9) (fun _ z => z)
                    dsimp only
                    iterate 2 walk_at "w"
                    refine hqV _ _ ?_
                    refine ⟨r.length, by simp, h9, m, _, r, S', n', fin' ++ [x.v], rfl, q9, hB.pop hR hx, rest_pop hR, ?_, hk', by rw [taken_pop hB hx]; exact hc, rfl⟩
                    rw [hn']; simp; omega
          · dsimp only
            refine hqW _ _ ?_
            refine hqT _ _ ?_
            refine hqF _ _ ?_
            exact hring c items h3 tk3 p1 p2 p3 p4 p5 p6
end Mine
end
section
open PySem PySem.W PyProof.Rows
set_option Elab.async false
set_option maxRecDepth 100000
set_option maxHeartbeats 8000000
namespace Mine
local macro_rules | `(tactic| walk_at "ga") => `(tactic| first
  | (((with_reducible show wpAny _ _ (getAttr (Value.ref _) (Str.ofString "_node2info") _) _ _ _); refine ts_get1 (by assumption) (by assumption) (by assumption) rfl ?_))
  | (((with_reducible show wpAny _ _ (getAttr (Value.ref _) (Str.ofString "_ready_nodes") _) _ _ _); refine ts_get2 (by assumption) (by assumption) (by assumption) rfl ?_))
  | (((with_reducible show wpAny _ _ (getAttr (Value.ref _) (Str.ofString "node") _) _ _ _); refine nd_get0 (by assumption) (by assumption) (by assumption) ?_))
  | (((with_reducible show wpAny _ _ (getAttr (Value.ref _) (Str.ofString "npredecessors") _) _ _ _); refine nd_get1 (by assumption) (by assumption) (by assumption) ?_)))
local macro_rules | `(tactic| walk_at "nm") => `(tactic| (with_reducible show wpAny _ _ (eval (Expr.Name _ _) _) _ _ _);
  (with_unfolding_all refine nm_local (by assumption) (by assumption) ?_ rfl rfl (by decide)))
local macro_rules | `(tactic| walk_at "w") => `(tactic| first | walk_at "ga" | walk_at "nm" | (with_reducible refine Attribute_name ?_) | walk1)
def prepSt (Z : SSt) : SSt := { Z with ready := Z.dom.filter (fun i => decide (Z.np i = 0)), pass := 0, fin := 0 }
def Book.at_ (b : Book) (RD : Addr) : Book := { b with RD := RD }
theorem Pre.to_sorter {prog : Program} {w : World} {h h' : Heap} {b : Book} {Z : SSt} {RD L : Addr} {vs : List Value} {a : Nat → Int} {t : Nat → Tok} {n : Nat} {t3 t4 : Tok} {r : List Int} (x : Pre prog w h b Z) (hL : ∀ a ∈ b.addrs0 Z.dom, a ≠ L) (hR : ∀ a ∈ b.addrs0 Z.dom, a ≠ RD)
    (hD : h'.get? b.D = some (attrObj a t (.ref b.N2) (.ref RD) (.int 0 t3) (.int 0 t4) n)) (s : Sub [b.D, L] h h') (hl : h'.PlainList RD vs.toArray) (hi : IntsAre vs r) (hz : r.length ≤ 1000) :
    Sorter prog w h' (b.at_ RD) { Z with ready := r, pass := 0, fin := 0 } := by
  have hs : ∀ a ∈ b.addrs0 Z.dom, a ≠ b.D → ∀ o, h.get? a = some o → h'.get? a = some o := fun a ha hne o e => s a o (by simp [hne, hL a ha]) e
  have ap := x.apart
  have bS : b.S ∈ b.addrs0 Z.dom := by simp [Book.addrs0]
  have bD : b.D ∈ b.addrs0 Z.dom := by simp [Book.addrs0]
  have bN : b.N2 ∈ b.addrs0 Z.dom := by simp [Book.addrs0]
  refine ⟨hs _ bS ap.SD _ x.inst, ⟨a, t, n, t3, t4, hD⟩, ?_, ?_, ?_, ?_, ⟨vs, hl, hi⟩, ?_, hz⟩
  · obtain ⟨o, es, ep, e, r⟩ := x.n2i; exact ⟨o, es, ep, hs _ bN ap.DN.symm _ e, r⟩
  · intro i hi
    obtain ⟨t1, t2, e⟩ := x.node i hi
    exact ⟨t1, t2, hs _ (Book.nd_mem0 hi) (ap.nd i hi).2.1 _ e⟩
  · intro i hi; exact hs _ (Book.dd_mem0 hi) (ap.dd i hi).2.1 _ (x.emp i hi)
  · intro i hi
    obtain ⟨vs, e, r⟩ := x.lst i hi
    exact ⟨vs, PlainList.keep e (hs _ (Book.sl_mem0 hi) (ap.sl i hi).2.1), r⟩
  · exact ⟨ap.SD, ap.SN, hR _ bS, ap.DN, hR _ bD, hR _ bN, fun i hi => ⟨(ap.nd i hi).1, (ap.nd i hi).2.1, (ap.nd i hi).2.2, hR _ (Book.nd_mem0 hi)⟩, fun i hi => ⟨(ap.sl i hi).1, (ap.sl i hi).2.1, (ap.sl i hi).2.2, hR _ (Book.sl_mem0 hi)⟩, ap.nn, ap.ss, ap.ns,
      fun i hi => ⟨(ap.dd i hi).1, (ap.dd i hi).2.1, (ap.dd i hi).2.2, hR _ (Book.dd_mem0 hi)⟩, ap.nx, ap.sx⟩
theorem at_mem {b : Book} {RD a : Addr} {dom : List Int} (h : a ∈ (b.at_ RD).addrs dom) : a = RD ∨ a ∈ b.addrs0 dom := by
  simp only [Book.addrs, Book.at_, Book.addrs0, List.mem_cons] at h ⊢
  rcases h with h | h | h | h | h
  · exact .inr (.inl h)
  · exact .inr (.inr (.inl h))
  · exact .inr (.inr (.inr (.inl h)))
  · exact .inl h
  · exact .inr (.inr (.inr (.inr h)))
theorem prepare_c {w : World} {A : Around} {mean : ExcName → Option Value} {mg mb : Str → Option Value} {s : Shared} {Q : Value → Shared → Prop} {E : Value → Shared → Prop} {b : Book} {Z : SSt} {hb : Heap} {outer : List Env}
    (X : (hd.heap_1 w.params).In hb) (T : Top Mine.view (looseW Mine.view [Str.ofString "_NodeInfo"]) mean mg mb hb) (kb : Ext hb s.heap) (hmu : ∀ a ∈ b.addrs0 Z.dom, hb.get? a = none) (hfs : ∀ a ∈ framesOf outer, hb.get? a = none) (hroom : A.depth + 4 < recursionLimit) (hh : A.handled = none)
    (hfr : A.frames = some outer) (hfun : FunOk s.heap outer)
    (hS : Pre PySem.Challenge.rw_nb0259_01.row.prog w s.heap b Z) (hSf : ∀ a ∈ b.addrs0 Z.dom, a ∉ framesOf outer)
    (hsub : ∀ i ∈ Z.dom, ∀ j ∈ Z.succ i, j ∈ Z.dom) (hdl : Z.dom.length ≤ 100)
    (hok : ∀ h' tk RD, Fine Z.dom Z.succ → Sorter PySem.Challenge.rw_nb0259_01.row.prog w h' (b.at_ RD) (prepSt Z) → Sub (b.D :: framesOf outer) s.heap h' → UpTo (framesOf outer) s.heap h' → s.heap.get? RD = none → Q .none { s with heap := h', toks := tk })
    (hbad : ∀ B h' tk e a0 RD, Ring Z.dom Z.succ → Sorter PySem.Challenge.rw_nb0259_01.row.prog w B (b.at_ RD) (prepSt Z) → Heap.FlyingW B outer e (.ref 82) a0 h' → Sub (b.D :: framesOf outer) s.heap B → UpTo (framesOf outer) s.heap h' → s.heap.get? RD = none → E (.ref e) { s with heap := h', toks := tk }) :
    wpAny (model PySem.Challenge.rw_nb0259_01.row.prog w) A (call (.ref 119) [.ref b.S]) Q E s := by
  have Xs := X.keeps kb
  have Ts := T.keeps kb
  revert Xs; k_fill; intro Xs
  refine wpAny_call ?_
  (refine' code_base (K := hd.heap_1 w.params) ?k3 ?k5 ?k6 ?k7 ?k8 ?k9 ?kB ?_ ?c2 ?c3 ?c4 ?c5; (case k3 => exact Xs); (case k5 => exact Ts); (case k6 => k_is); (case k7 => k_is); (case k8 => exact Nat.lt_of_le_of_lt (Nat.le_add_right _ _) hroom); (case k9 => exact BindsTo.of_eq rfl); (case c5 => decide); (case kB => exact locs rfl); (case c2 => exact rfl); (case c3 => exact rfl); (case c4 => exact rfl); k_whole; intro L' h' tk' F' N'; (try dsimp only))
  clear N'
  have bD : b.D ∈ b.addrs0 Z.dom := by simp [Book.addrs0]
  obtain ⟨g, G, Fg⟩ := ground (mu := b.D :: framesOf outer) X T kb (fun a ha => by rcases List.mem_cons.mp ha with rfl | ha; exact hmu _ bD; exact hfs a ha) (fun a ha => by rcases List.mem_cons.mp ha with rfl | ha; exact hS.alive _ bD; exact let ⟨o, ho, _⟩ := hfun.alive a ha; ⟨o, ho⟩) F'
  have U1 : UpTo (framesOf outer) s.heap h' := UpTo.of_keeps fun a _ o e => F'.keep a o e
  have hsz0 : s.heap.objs.size ≤ L' := F'.above
  have S1 := hS.keep fun a _ o e => F'.keep a o e
  clear F' Xs Ts
  have Xg := G.X
  have Tg := G.T
  have X' := Xg.keeps Fg.keep
  have hi := S1.inst
  obtain ⟨a, t, n, t3, t4, hD⟩ := S1.attrs
  iterate 9 walk_at "w"
  simp only [Bool.false_eq_true, if_false]
  iterate 4 walk_at "w"
  refine LC_local (cl := []) (by with_unfolding_all rfl) (by decide) rfl (by decide) (by decide) ?_
  iterate 3 walk_at "w"
  iterate 1 walk_at "w"
  refine meth_dict PySem.F.slot_dict_values PySem.F.type_dict_values S1.n2i ?_
  iterate 1 walk_at "w"
  refine call_meetsIn PySem.F.slot_dict_values S1.n2i.typeIs PySem.F.entry_dict_values (PySem.F.args_dict_values_1 _) (meets_dict_values (intKind PySem.Challenge.rw_nb0259_01.row.prog w) b.N2 S1.sys) ⟨⟨_, S1.n2i⟩, ?_⟩
  obtain ⟨oN, esN, epN, gN, rN⟩ := id S1.n2i
  have hat : ∀ h, Ext h' h → h.DictAt (intKind PySem.Challenge.rw_nb0259_01.row.prog w) b.N2 (Z.dom.map fun i => (i, .ref (b.nd i))) epN := fun h k => ⟨oN, esN, k _ _ gN, rN⟩
  dsimp only
  refine wpAny_pyIter_values (d := b.N2) ⟨_, Heap.get?_push_size _ rfl, rfl, rfl⟩ (hat _ fun a o e => Heap.get?_push_of_some _ e) ?_
  have k2 : Ext h' ((h'.push { cls := .type "dict_values", data := .fields #[.ref b.N2] }).push { cls := .type "dict_valueiterator", data := .fields #[.ref b.N2, .int 0 0, .int (Z.dom.map fun i => (i, Value.ref (b.nd i))).length 0, .int epN 0] }) := fun a o e => Heap.get?_push_of_some _ (Heap.get?_push_of_some _ e)
  have v2 : ((h'.push { cls := .type "dict_values", data := .fields #[.ref b.N2] }).push { cls := .type "dict_valueiterator", data := .fields #[.ref b.N2, .int 0 0, .int (Z.dom.map fun i => (i, Value.ref (b.nd i))).length 0, .int epN 0] }).IsValIter (h'.objs.size + 1) b.N2 0 (Z.dom.map fun i => (i, Value.ref (b.nd i))).length epN := ⟨_, by
    have := Heap.get?_push_size (h'.push { cls := .type "dict_values", data := .fields #[.ref b.N2] }) (o := { cls := .type "dict_valueiterator", data := .fields #[.ref b.N2, .int 0 0, .int (Z.dom.map fun i => (i, Value.ref (b.nd i))).length 0, .int epN 0] }) rfl
    rw [Heap.size_push] at this
    exact this, rfl, rfl⟩
  have z2 : ((h'.push { cls := .type "dict_values", data := .fields #[.ref b.N2] }).push { cls := .type "dict_valueiterator", data := .fields #[.ref b.N2, .int 0 0, .int (Z.dom.map fun i => (i, Value.ref (b.nd i))).length 0, .int epN 0] }).objs.size = h'.objs.size + 2 := by simp [Heap.size_push]
  dsimp only
  rw [Heap.size_push]
  generalize (h'.push { cls := .type "dict_values", data := .fields #[.ref b.N2] }).push { cls := .type "dict_valueiterator", data := .fields #[.ref b.N2, .int 0 0, .int (Z.dom.map fun i => (i, Value.ref (b.nd i))).length 0, .int epN 0] } = h2 at k2 v2 z2 ⊢
  have hlen : (Z.dom.map fun i => (i, Value.ref (b.nd i))).length = Z.dom.length := List.length_map _
  refine ⟨h'.objs.size + 1, [h'.objs.size + 1, b.N2], [h'.objs.size + 1], _, _, _, _, _, fun i _ _ o => ∃ k, Z.dom[i]? = some k ∧ ((decide (Z.np k = 0) = true ∧ ∃ t, o = some (.int k t)) ∨ (decide (Z.np k = 0) = false ∧ o = none)), rfl, rfl,
    Walks.dictValues (A := A.deeper _) hh _ b.N2 (Nat.ne_of_lt (Nat.lt_succ_of_lt (Heap.lt_size gN))) (Z.dom.map fun i => (i, .ref (b.nd i))) epN, by rw [hlen, sizeLine_eq]; omega, ⟨v2, hat _ k2⟩, ?_, ?_, ?_, k2, by rw [z2]; exact Nat.le_add_right _ _, ?_, ?_, ?_⟩
  · intro c hc
    rw [z2]
    rcases List.mem_cons.mp hc with rfl | hc
    · exact Nat.lt_succ_self _
    · rw [List.mem_singleton.mp hc]; exact Nat.lt_succ_of_lt (Nat.lt_succ_of_lt (Heap.lt_size gN))
  · rintro i h ⟨⟨o, ho, _⟩, _⟩ c hc
    rw [List.mem_singleton.mp hc]; exact ⟨o, ho⟩
  · intro c hc
    rw [List.mem_singleton.mp hc]
    exact none_ge (Nat.le_succ _)
  · intro i h h' v y q _; exact q
  · rintro i v h tk m E' hi ⟨k, hk⟩ F hm hX
    have hki : Z.dom[i]? = some k ∧ v = .ref (b.nd k) := by
      rw [List.getElem?_map] at hk
      obtain ⟨k', e1, e2⟩ := Option.map_eq_some_iff.mp hk
      cases e2; exact ⟨e1, rfl⟩
    obtain ⟨hki, rfl⟩ := hki
    have hkd : k ∈ Z.dom := List.mem_of_getElem? hki
    have S2 := S1.keep fun a _ o e => F.keep a o e
    have X2 := X'.keeps F.keep
    obtain ⟨t1, t2, hn⟩ := S2.node k hkd
    have he := S2.emp k hkd
    clear Fg hi hD
    refine turn_one ?_
    iterate 7 walk_at "w"
    by_cases hz : Z.np k = 0
    · rw [if_pos (by simpa using hz)]
      iterate 3 walk_at "w"
      exact ⟨_, _, rfl, ⟨k, hki, .inl ⟨by simpa using hz, _, rfl⟩⟩, fun _ _ e => e⟩
    · rw [if_neg (by simpa using hz)]
      exact ⟨_, _, rfl, ⟨k, hki, .inr ⟨by simpa using hz, rfl⟩⟩, fun _ _ e => e⟩
  · intro h3 tk3 vs os hM hext hnone
    have F3 := Fr.grownK Fg hext
    have S3 := S1.keep fun a _ o e => hext a o e
    have X3 := Xg.keeps F3.keep
    have U3 := U1.trans (UpTo.of_keeps (fs := framesOf outer) fun a _ o e => hext a o e)
    have hr : IntsAre (os.filterMap id) (Z.dom.filter fun i => decide (Z.np i = 0)) := filter_made (vs := vs) (by rw [hM.lo, hM.lv]) (by rw [hM.lv, hlen]) fun j v o a b => hM.out j v o a b
    have hR3 := hM.at_
    have hRs : ∀ a o, h'.get? a = some o → a ≠ h2.objs.size := fun a o e q => by rw [q, hnone] at e; cases e
    have hRL : h2.objs.size ≠ L' := fun q => let ⟨o, e⟩ := fr_alive Fg; hRs _ _ e q.symm
    have hR0 : s.heap.get? h2.objs.size = none := none_ge (Nat.le_trans hsz0 (Nat.le_trans (Nat.le_of_lt Fg.ns.lt) (by rw [z2]; exact Nat.le_add_right _ _)))
    have hRA : ∀ a ∈ b.addrs0 Z.dom, a ≠ h2.objs.size := fun a ha => let ⟨o, e⟩ := S1.alive a ha; hRs a o e
    clear hM
    generalize h2.objs.size = RD at *
    clear Fg S1 X' hi hD v2 k2 hat
    have hi := S3.inst
    obtain ⟨a, t, n, t3, t4, hD⟩ := S3.attrs
    iterate 1 walk_at "w"
    have hAL : ∀ a ∈ b.addrs0 Z.dom, a ≠ L' := fun a ha q => by
      obtain ⟨o, ho⟩ := hS.alive a ha
      exact absurd (Heap.lt_size ho) (Nat.not_lt.mpr (q ▸ hsz0))
    refine ts_set2 F3 X3 hi hD (hAL _ bD) (G.hg _ (by simp)) fun h4 tk4 F4 hD4 k4 => ?_
    have S4 := S3.to_sorter hAL hRA hD4 k4 (PlainList.keep hR3 fun o e => k4 _ o (by simp only [List.mem_cons, List.not_mem_nil, or_false]; rintro (q | q); exact hRA _ bD q.symm; exact hRL q) e) hr (by have := List.length_filter_le (fun i => decide (Z.np i = 0)) Z.dom; omega)
    have U4 := U3.trans (UpTo.of_keeps (fs := framesOf outer) fun a ha o e => k4 a o (by simp only [List.mem_cons, List.not_mem_nil, or_false]; rintro (q | q); exact hSf _ bD (q ▸ ha); exact G.hL a (List.mem_cons_of_mem _ ha) q) e)
    replace S4 : Sorter PySem.Challenge.rw_nb0259_01.row.prog w h4 (b.at_ RD) (prepSt Z) := S4
    clear F3 S3 X3 U3 hi hD hr hR3 k4
    have X4 := Xg.keeps F4.keep
    have hi := S4.inst
    obtain ⟨a, t, n, t3, t4, hD⟩ := S4.attrs
    iterate 4 walk_at "w"
    refine ts_m154 X4 hi hD ?_
    walk_at "w"
    dsimp only [List.append_nil]
    have hA4 : ∀ a ∈ (b.at_ RD).addrs (prepSt Z).dom, a ≠ L' := by
      intro c hc q
      rcases at_mem hc with rfl | hc
      · exact hRL q
      · exact hAL c hc q
    have hF4 : ∀ a ∈ (b.at_ RD).addrs (prepSt Z).dom, a ∉ framesOf outer := by
      intro c hc q
      rcases at_mem hc with rfl | hc
      · obtain ⟨o, ho, _⟩ := hfun.alive c q
        rw [hR0] at ho; cases ho
      · exact hSf c hc q
    refine find_cycle_c (b := b.at_ RD) (Z := prepSt Z) (hb := g) (outer := _ :: outer) Xg Tg F4.keep ?_ (show A.depth + 1 < recursionLimit by omega) hh (Around.frames_deeper hfr) (FunOk.cons (hfun.keep U4) rfl rfl F4.ns) S4 ?_ hS.sys hsub hdl ?_ ?_
    · intro c hc
      rcases List.mem_cons.mp (show c ∈ L' :: framesOf outer from hc) with rfl | hc
      · exact none_ge F4.above
      · exact G.hg c (List.mem_cons_of_mem _ hc)
    · intro c hc hc'
      rcases List.mem_cons.mp (show c ∈ L' :: framesOf outer from hc') with rfl | hc'
      · exact hA4 _ hc rfl
      · exact hF4 _ hc hc'
    · intro h5 tk5 hfine k5
      replace k5 : FKeep (L' :: framesOf outer) h4 h5 := k5
      have F5 := Fr.fkeep F4 k5 (fun a ha => G.hg a (List.mem_cons_of_mem _ ha))
      have U5 := U4.trans (fun a ha o e hn => k5.up a (List.mem_cons_of_mem _ ha) o e hn)
      have S5 := S4.keep fun a ha o e => k5.sub a o (fun q => by rcases List.mem_cons.mp q with q | q; exact hA4 a ha q; exact hF4 a ha q) e
      refine sto_local rfl rfl F5 fun h6 F6 k6 => ?_
      replace k6 : Sub [L'] h5 h6 := k6
      replace F6 : Fr g L' h6 _ := F6
      have U6 := U5.trans (UpTo.of_keeps (fs := framesOf outer) fun a ha o e => k6 a o (by simpa using G.hL a (List.mem_cons_of_mem _ ha)) e)
      have S6 := S5.keep fun a ha o e => k6 a o (by simpa using hA4 a ha) e
      clear F4 F5 S4 S5 X4 hi hD U4 U5
      iterate 9 walk_at "w"
      exact hok h6 _ RD hfine S6 (G.sub _ _ F6) U6 hR0
    · intro c items h5 tk5 hring k5 c1 c2 c3 c4
      replace k5 : FKeep (L' :: framesOf outer) h4 h5 := k5
      have F5 := Fr.fkeep F4 k5 (fun a ha => G.hg a (List.mem_cons_of_mem _ ha))
      have U5 := U4.trans (fun a ha o e hn => k5.up a (List.mem_cons_of_mem _ ha) o e hn)
      have S5 := S4.keep fun a ha o e => k5.sub a o (fun q => by rcases List.mem_cons.mp q with q | q; exact hA4 a ha q; exact hF4 a ha q) e
      have hcL : c ≠ L' := fun q => by obtain ⟨o, e⟩ := fr_alive F4; rw [← q, c4] at e; cases e
      refine sto_local rfl rfl F5 fun h6 F6 k6 => ?_
      replace k6 : Sub [L'] h5 h6 := k6
      replace F6 : Fr g L' h6 _ := F6
      have U6 := U5.trans (UpTo.of_keeps (fs := framesOf outer) fun a ha o e => k6 a o (by simpa using G.hL a (List.mem_cons_of_mem _ ha)) e)
      have S6 := S5.keep fun a ha o e => k6 a o (by simpa using hA4 a ha) e
      have d1 : h6.IsList c items := c1.at fun o e => k6 _ o (by simpa using hcL) e
      clear F4 F5 S4 S5 X4 hi hD U4 U5 c1
      have hfit : (items.size : Int) < 2 ^ 63 := by omega
      iterate 5 walk_at "w"
      rw [if_pos (by cases hq : items.isEmpty with
        | false => rfl
        | true => rw [Array.isEmpty_iff_size_eq_zero] at hq; omega)]
      iterate 9 walk_at "w"
      refine ⟨by rw [sizeLine_eq]; simp, F6.keep, fun h7 e7 x7 => ?_⟩
      have hLs : ∀ c ∈ L' :: framesOf outer, c ∈ (framesOf outer) ∨ c = L' := fun c hc => (List.mem_cons.mp hc).symm
      refine wpAny_leaves_madeW (base := hideAll h6 (L' :: framesOf outer)) (Around.frames_deeper hfr) rfl (fun b o q => of_hideAll _ q) ((FunOk.cons (hfun.keep U6) rfl rfl F6.ns).frames _ fun a ha => hideAll_none _ ha) x7 fun h8 t8 fl tup hbt up8 => ?_
      refine hbad (hideAll h6 (L' :: framesOf outer)) h8 _ e7 (.ref t8) RD hring ?_ fl ?_ ?_ hR0
      · exact S6.keep fun a ha o e => hideAll_get _ e fun q => by rcases List.mem_cons.mp q with q | q; exact hA4 a ha q; exact hF4 a ha q
      · intro c o hc e
        refine hideAll_get _ (G.sub _ _ F6 c o hc e) fun q => ?_
        rcases List.mem_cons.mp q with q | q
        · rw [q] at e; exact absurd (Heap.lt_size e) (Nat.not_lt.mpr hsz0)
        · exact hc (List.mem_cons_of_mem _ q)
      · exact (U6.trans (UpTo.of_keeps fun a _ o e => x7.keeps a o e)).trans fun a _ o e hn => up8 a o e hn
end Mine
end
section
open PySem PySem.W PyProof.Rows
set_option Elab.async false
set_option maxRecDepth 100000
set_option maxHeartbeats 4000000
namespace Mine
section
variable {prog : Program} {w : World} {A : Around} {E : Value → Shared → Prop} {s : Shared} {g : Heap} {L : Addr} {m : Str → Option Value}
/-- the sort of a list of none or one -/
theorem sort_short {a : Addr} {vs : List Value} {n : Nat} {P : PySem.Fin → Shared → Prop} (ho : s.heap.get? a = some (seqObj "list" vs.toArray n)) (h1 : vs.length < 2)
    (h : ∀ h' c, h'.get? a = some (seqObj "list" vs.toArray c) → Sub [a] s.heap h' → P (.done (.ret .none)) { s with heap := h' }) :
    wpAny (model prog w) A (Builtin.«list.sort» ⟨[.ref a], []⟩) P E s := by
  have ha : a < s.heap.objs.size := Heap.lt_size ho
  have s1 := Heap.SameBut.update s.heap a (Obj.mapSeq fun _ => (#[] : Array Value))
  obtain ⟨e1, ho1⟩ : ∃ e1, (s.heap.update a (Obj.mapSeq fun _ => (#[] : Array Value))).get? a = some (seqObj "list" #[] e1) := ⟨_, get?_update_seq ho fun _ => #[]⟩
  rw [list_sort_plain]
  refine wpAny_bind (listItems_at ho rfl ?_)
  refine wpAny_bind (listUpdate_at ho rfl ?_ (by rw [List.size_toArray, sizeLine_eq]; omega) (Nat.zero_le _))
  refine wpAny_bind (seqEpoch_at ho1 rfl ?_)
  refine wpAny_bind (wpAny_newTuple ?_ (by show vs.length ≤ _; rw [sizeLine_eq]; omega))
  refine wpAny_bind (wpAny_newList ?_ (Nat.zero_le _))
  refine wpAny_holding ?_
  show wpAny (model prog w) A _ P E { s with heap := ((s.heap.update a (Obj.mapSeq fun _ => (#[] : Array Value))).push (seqObj "tuple" vs.toArray 0)).push (seqObj "list" #[] 0) }
  have ho2 := Heap.get?_push_of_some (seqObj "list" #[] 0) (Heap.get?_push_of_some (seqObj "tuple" vs.toArray 0) ho1)
  have k2 : Sub [a] s.heap (((s.heap.update a (Obj.mapSeq fun _ => (#[] : Array Value))).push (seqObj "tuple" vs.toArray 0)).push (seqObj "list" #[] 0)) := fun b o hb e => Heap.get?_push_of_some _ (Heap.get?_push_of_some _ (s1.extBut b o (fun q => hb (by simp [q])) e))
  generalize ((s.heap.update a (Obj.mapSeq fun _ => (#[] : Array Value))).push (seqObj "tuple" vs.toArray 0)).push (seqObj "list" #[] 0) = h2 at ho2 k2 ⊢
  dsimp only
  have hn2 : vs.toArray.size < 2 := by rw [List.size_toArray]; omega
  rw [if_pos hn2, if_pos hn2]
  refine wpAny_bind (wpAny_pure ?_)
  refine wpAny_bind (wpAny_pure ?_)
  dsimp only
  have hout : (arrOf (SortSt.mk' general' (vs.toArray.zip vs.toArray) #[] 7 none)).map (·.2) = vs.toArray := by
    show (vs.toArray.zip vs.toArray).map (·.2) = vs.toArray
    apply Array.toList_inj.mp
    rw [Array.toList_map, Array.toList_zip]
    exact List.map_snd_zip (Nat.le_refl _)
  rw [hout]
  have s2 := Heap.SameBut.update h2 a (Obj.mapSeq fun _ => vs.toArray)
  obtain ⟨c2, hc2⟩ : ∃ c2, (h2.update a (Obj.mapSeq fun _ => vs.toArray)).get? a = some (seqObj "list" vs.toArray c2) := ⟨_, get?_update_seq ho2 fun _ => vs.toArray⟩
  refine wpAny_bind (seqEpoch_at ho2 rfl ?_)
  refine wpAny_bind (listUpdate_at ho2 rfl ?_ (Nat.zero_le _) (by rw [List.size_toArray, sizeLine_eq]; omega))
  simp only [bne_self_eq_false, Bool.false_eq_true, if_false]
  exact wpAny_pure (h _ c2 hc2 fun b o hb e => s2.extBut b o (fun q => hb (by simp [q])) (k2 b o hb e))
theorem sorted_short {l : Addr} {vs : List Value} {Q : Value → Shared → Prop} (hl : s.heap.IsList l vs.toArray) (h1 : vs.length < 2)
    (h : ∀ D h', h'.PlainList D vs.toArray → Ext s.heap h' → s.heap.get? D = none → Q (.ref D) { s with heap := h' }) : wpAny (model prog w) A (call (.builtin "sorted") [.ref l]) Q E s := by
  refine Calls.call_function_entry kind_sorted plain_sorted entry_sorted (args_sorted1 _) ?_
  unfold Builtin.«sorted»
  refine wpAny_bind (m := checkCount "sorted" 1 1 _) (wpAny_pure ?_)
  refine wpAny_bind (collect_list hl ?_ (by rw [sizeLine_eq]; omega))
  refine wpAny_bind (wpAny_newList ?_ (by rw [sizeLine_eq]; omega))
  have hsz : ((s.heap.push (seqObj "list" #[] 0)).update s.heap.objs.size (Obj.mapSeq (· ++ vs.toArray))).objs.size = s.heap.objs.size + 1 := by
    rw [Heap.size_update, size_push']
  have hoL : (((s.heap.push (seqObj "list" #[] 0)).update s.heap.objs.size (Obj.mapSeq (· ++ vs.toArray))).push (seqObj "list" vs.toArray 0)).get? (s.heap.objs.size + 1) = some (seqObj "list" vs.toArray 0) := by
    rw [← hsz]; exact Heap.get?_push_size _ rfl
  have keep : Ext s.heap (((s.heap.push (seqObj "list" #[] 0)).update s.heap.objs.size (Obj.mapSeq (· ++ vs.toArray))).push (seqObj "list" vs.toArray 0)) := fun b o q => by
    have hlt : b < s.heap.objs.size := Heap.lt_size q
    rw [Heap.get?_push_ne _ _ _ (by rw [hsz]; exact Nat.ne_of_lt (Nat.lt_succ_of_lt hlt)), Heap.get?_update_ne _ _ _ _ (Nat.ne_of_lt hlt), Heap.get?_push_ne _ _ _ (Nat.ne_of_lt hlt)]
    exact q
  show wpAny _ _ _ _ _ { s with heap := ((s.heap.push (seqObj "list" #[] 0)).update s.heap.objs.size (Obj.mapSeq (· ++ vs.toArray))).push (seqObj "list" vs.toArray 0) }
  rw [hsz]
  refine wpAny_bind (wpAny_holding (wpAny_call_entry slot_list_sort ⟨_, hoL, rfl⟩ entry_list_sort ?body (args_list_sort _)))
  refine sort_short (s := { s with heap := ((s.heap.push (seqObj "list" #[] 0)).update s.heap.objs.size (Obj.mapSeq (· ++ vs.toArray))).push (seqObj "list" vs.toArray 0) }) hoL h1 fun h' c hc ks => ?_
  refine ⟨_, rfl, wpAny_pure ⟨_, rfl, h _ h' ⟨c, hc⟩ (fun b o e => ks b o ?_ (keep b o e)) (none_ge (Nat.le_succ _))⟩⟩
  simp only [List.mem_singleton]
  rintro rfl
  exact absurd (Heap.lt_size e) (Nat.not_lt.mpr (Nat.le_succ _))
end
/-- a pair of key and name -/
def PairAt (h : Heap) (key : Int → Int) (p : Addr × Int) : Prop := ∃ t1 t2 n, h.get? p.1 = some { cls := .type "tuple", data := .seq #[.int (key p.2) t1, .int p.2 t2] n }
theorem PairAt.keep {h h' : Heap} {key : Int → Int} {p : Addr × Int} (x : PairAt h key p) (k : ∀ o, h.get? p.1 = some o → h'.get? p.1 = some o) : PairAt h' key p := let ⟨t1, t2, n, e⟩ := x; ⟨t1, t2, n, k _ e⟩
abbrev refs (ps : List (Addr × Int)) : List Value := ps.map fun p => Value.ref p.1
abbrev nms (ps : List (Addr × Int)) : List Int := ps.map (·.2)
theorem all_N {g h : Heap} {L : Addr} : News g L h (allN g L h) := fun p hp => by
  have := mem_allN.mp (show (p.1, p.2) ∈ _ from hp)
  exact ⟨this.2.2, this.1, this.2.1⟩
theorem all_sub {g h h' : Heap} {L : Addr} {m m' : Str → Option Value} {news : List (Addr × Obj)} (F : Fr g L h m) (F' : Fr g L h' m') (N : News g L h' news) (hs : ∀ p ∈ allN g L h, p ∈ news) : Sub [L] h h' := fun b o hb e => by
  have hbL : b ≠ L := by simpa using hb
  cases q : g.get? b with
  | some o' =>
    have := F.keep b o' q
    rw [e] at this; cases this
    exact F'.keep b o q
  | none => exact (N (b, o) (hs _ (mem_allN.mpr ⟨hbL, q, e⟩))).1
theorem kat_tups {h : Heap} {key : Int → Int} : ∀ {ps : List (Addr × Int)}, (∀ p ∈ ps, PairAt h key p) → ∃ fs : List Value, KatTups h (refs ps) fs ∧ fs.length = ps.length ∧ ∀ v ∈ fs, ∃ i t, v = .int i t
  | [], _ => ⟨[], .nil, rfl, by simp⟩
  | p :: ps, hp => by
    obtain ⟨fs, h1, h2, h3⟩ := kat_tups (ps := ps) fun q hq => hp q (List.mem_cons_of_mem _ hq)
    obtain ⟨t1, t2, n, e⟩ := hp p (by simp)
    refine ⟨.int (key p.2) t1 :: fs, .cons e rfl rfl (by simp) h1, by simp [h2], fun v hv => ?_⟩
    rcases List.mem_cons.mp hv with rfl | hv
    · exact ⟨_, _, rfl⟩
    · exact h3 v hv
section
variable {prog : Program} {w : World} {A : Around} {E : Value → Shared → Prop} {s : Shared} {g : Heap} {L : Addr} {m : Str → Option Value}
/-- two pairs compared by the sort -/
theorem pair_lt {key : Int → Int} {p q : Addr × Int} {C : Bool → Shared → Prop} (hp : PairAt s.heap key p) (hq : PairAt s.heap key q) (h : C (aheadB key p.2 q.2) s) :
    wpAny (model prog w) A (keyLt' (tuples' true) (.ref p.1) (.ref q.1)) C E s := by
  obtain ⟨t1, t2, n, e⟩ := hp
  obtain ⟨u1, u2, n', e'⟩ := hq
  refine kat_lt e rfl e' rfl ?_
  refine kat_cons (wpAny_eqBool_int ?_)
  unfold aheadB at h
  by_cases hk : key p.2 = key q.2
  · rw [beq_iff_eq.mpr hk]
    refine kat_yes (kat_cons (wpAny_eqBool_int ?_))
    rw [hk] at h
    simp only [Int.lt_irrefl, decide_false, Bool.false_or, decide_true, Bool.true_and] at h
    by_cases hn : p.2 = q.2
    · rw [beq_iff_eq.mpr hn]
      refine kat_yes (kat_nil ?_)
      rw [hn] at h
      simpa using h
    · rw [beq_eq_false_iff_ne.mpr hn]
      refine kat_no (kat_one _ _ (PyProof.Rows.lt_int ?_))
      exact h
  · rw [beq_eq_false_iff_ne.mpr hk]
    refine kat_no (oneLt_int ?_)
    simpa [hk] using h
theorem sorted_pairs {key : Int → Int} {l : Addr} {ps : List (Addr × Int)} {Q : Value → Shared → Prop} (F : Fr g L s.heap m) (hl : s.heap.IsList l (refs ps).toArray) (hp : ∀ p ∈ ps, PairAt s.heap key p) (hL : ∀ p ∈ ps, p.1 ≠ L) (hnd : (nms ps).Nodup) (h5 : ps.length ≤ 5)
    (h : ∀ D h' tk ps', h'.PlainList D (refs ps').toArray → (nms ps').Perm (nms ps) → (nms ps').Pairwise (Ahead key) → (∀ q ∈ ps', q ∈ ps) → Fr g L h' m → Sub [L] s.heap h' → s.heap.get? D = none → Q (.ref D) { s with heap := h', toks := tk }) :
    wpAny (model prog w) A (call (.builtin "sorted") [.ref l]) Q E s := by
  by_cases h2 : 2 ≤ ps.length
  · refine kat_sorted F all_N hl (by simpa using h2) (by rw [List.length_map]; omega) fun D e1 h' F' N' hlt => ?_
    have k' : Sub [L] s.heap h' := all_sub F F' N' fun p hp => List.mem_cons_of_mem _ hp
    have hp' : ∀ p ∈ ps, PairAt h' key p := fun p hq => (hp p hq).keep fun o e => k' _ o (by simpa using hL p hq) e
    obtain ⟨fs, f1, f2, f3⟩ := kat_tups hp'
    have hD := N' (D, seqObj "list" #[] e1) (.head _)
    have hDs : s.heap.get? D = none := by
      cases e : s.heap.get? D with
      | none => rfl
      | some o => exact absurd (hlt (D, o) (mem_allN.mpr ⟨hD.2.1, hD.2.2, e⟩)) (Nat.lt_irrefl _)
    refine kat_kind (T := .type "int") (s := { s with heap := h' }) f1 (by omega) (fun v hv => ?_) (by decide) ?_
    · obtain ⟨i, t, rfl⟩ := f3 v hv
      exact Looks.of_pure rfl
    rw [show (Value.type "int" != Value.type "tuple") = true by decide, List.length_map]
    obtain ⟨hbd, p, hpe, plt, pprm, psrt⟩ := ksort_names (key := key) (ns := nms ps) (by simpa using h2) (by simpa using h5) hnd
    rw [List.length_map] at hbd hpe plt
    refine kwp_ev (n := ps.length) (lt := fun i j => aheadB key ((nms ps).getD i 0) ((nms ps).getD j 0)) (I := fun s' => s' = { s with heap := h' }) ?_ _ _ _ hbd rfl ?_
    · rintro i j C s' hi hj rfl hC
      have gi : ∀ i, i < ps.length → (refs ps).getD i Value.none = .ref (ps.getD i (0, 0)).1 ∧ (nms ps).getD i 0 = (ps.getD i (0, 0)).2 ∧ ps.getD i (0, 0) ∈ ps := fun i hi => by
        simp [List.getD_eq_getElem?_getD, List.getElem?_map, List.getElem?_eq_getElem hi]
      obtain ⟨a1, a2, a3⟩ := gi i hi
      obtain ⟨b1, b2, b3⟩ := gi j hj
      unfold kas_ask
      rw [a1, b1]
      refine pair_lt (s := { s with heap := h' }) (hp' _ a3) (hp' _ b3) ?_
      rw [← a2, ← b2]
      exact hC _ rfl
    · rintro s' rfl
      rw [hpe]
      have gi : ∀ i, i < ps.length → (refs ps).getD i Value.none = .ref (ps.getD i (0, 0)).1 ∧ (nms ps).getD i 0 = (ps.getD i (0, 0)).2 ∧ ps.getD i (0, 0) ∈ ps := fun i hi => by
        simp [List.getD_eq_getElem?_getD, List.getElem?_map, List.getElem?_eq_getElem hi]
      have er : (p.map fun i => (refs ps).getD i Value.none) = refs (p.map fun i => ps.getD i (0, 0)) := by
        show _ = List.map _ (List.map _ p)
        rw [List.map_map]; exact List.map_congr_left fun i hi => (gi i (plt i hi)).1
      have en : (p.map fun i => (nms ps).getD i 0) = nms (p.map fun i => ps.getD i (0, 0)) := by
        show _ = List.map _ (List.map _ p)
        rw [List.map_map]; exact List.map_congr_left fun i hi => (gi i (plt i hi)).2.1
      rw [en] at pprm psrt
      rw [er]
      refine KasFin.intro (s := { s with heap := h' }) F' N' (.head (fun q hq => Nat.ne_of_lt (hlt q hq))) fun h'' c F'' N'' => ?_
      have hD'' := N'' (D, listOf (refs (p.map fun i => ps.getD i (0, 0))).toArray c) (.head _)
      refine h D h'' s.toks (p.map fun i => ps.getD i (0, 0)) ⟨c, hD''.1⟩ pprm psrt (fun q hq => ?_) F'' (all_sub F F'' N'' fun p hp => List.mem_cons_of_mem _ hp) hDs
      obtain ⟨i, hi, rfl⟩ := List.mem_map.mp hq
      exact (gi i (plt i hi)).2.2
  · refine sorted_short hl (by rw [List.length_map]; omega) fun D h' hD k' hD0 => ?_
    refine h D h' s.toks ps hD (List.Perm.refl _) ?_ (fun q hq => hq) (Fr.grownK F k') (Sub.of_ext k') hD0
    match ps, h2 with
    | [], _ => exact List.Pairwise.nil
    | [p], _ => exact List.pairwise_singleton _ _
    | _ :: _ :: _, h2 => simp at h2
end
end Mine
end
section
open PySem PySem.W PyProof.Rows
set_option Elab.async false
set_option maxRecDepth 100000
set_option maxHeartbeats 4000000
namespace Mine
/-- an exception of the text's own class that a callee raised, caught by its name -/
theorem caught_cycle {prog : Program} {w : World} {A : Around} {E : Value → Shared → Prop} {s : Shared} {env : Env} {outer : List Env} {L e C : Addr} {a0 : Value} {B : Heap} {t : Expr} {x : Str} {bmB : List Value} {newId : String} {mg : Str → Option Value} {b₀ : Stmt} {suite : List Stmt} {pos : Pos} {rest : List ExceptHandler} {Q : Flow → Shared → Prop}
    (hfr : A.frames = some (env :: outer)) (hf : env.frame = some L) (hfl : Heap.FlyingW B (env :: outer) e (.ref C) a0 s.heap) (O : OwnCls x C bmB newId mg B) (hbase : bmB.contains (.type "BaseException") = true)
    (hname : ∀ h' E' (Q' : Value → Shared → Prop), B.StaysIn h' → s.heap.UpToSlots h' → Q' (.ref C) { s with heap := h' } → wpAny (model prog w) (A.mark (some (.ref e))) (eval t env) Q' E' { s with heap := h' })
    (k : ∀ h' E', B.StaysIn h' → s.heap.UpToSlots h' → wpAny (model prog w) (A.mark (some (.ref e))) (execs (b₀ :: suite) env) Q E' { s with heap := h' }) :
    wpAny (model prog w) A (noteFrame (.ref e) env) (fun _ s₂ => wpAny (model prog w) A (setFlight (.ref e) none) (fun _ s₃ => wpAny (model prog w) A (handleBy (.ref e) env (.ExceptHandler (some t) none (b₀ :: suite) pos :: rest)) Q E s₃) E s₂) E s := by
  refine wpAny_looks_onW hfr hf hfl fun h₄ hheld₄ hsm₄ => ?_
  refine wpAny_landsW hheld₄ fun h₅ hheld hsm₅' => ?_
  have hsm₅ := hsm₄.trans hsm₅'
  obtain ⟨ob, hob, hobc⟩ := hheld.there
  refine wpAny_handleBy_cons (codeAny_handlers_test (hname h₅ _ _ hheld.1 hsm₅ ?_)) (by intro q; cases q)
  obtain ⟨bm, N, nm, qn, bs, hdct, sn, sub, ab, col, dd, k0, k1, k2, k3, k5, mN, hC, hN, hni, TL⟩ := (O.keeps hheld.1).obj
  refine wpAny_excMatches_sub_self hC hob hobc (TL.hasType hbase) (codeAny_handlers_suite ?_)
  refine lands_againW hheld fun h₆ hfl₆ hsm₆ => ?_
  exact k h₆ _ hfl₆.1 (hsm₅.trans hsm₆)
theorem star_list {prog : Program} {w : World} {A : Around} {E : Value → Shared → Prop} {s : Shared} {a : Addr} {ws : List Value} {Q : List Value → Shared → Prop} (hl : s.heap.IsList a ws.toArray) (hz : ws.length ≤ sizeLine)
    (h : ∀ h', Ext s.heap h' → Q ws { s with heap := h' }) : StarOf (model prog w) A E (.ref a) Q s := by
  obtain ⟨o, D, hc, n, hd⟩ := id hl
  have z : wpAny (model prog w) A (collect (.ref a)) Q E s := wpAny_collect_seq a (.inl rfl) D hc hd (fun h' hk => h h' hk) (by rw [List.size_toArray]; exact hz)
  unfold StarOf notIterableAtAll
  exact wpAny_bind (wpAny_specialOf hl.typeIs PySem.F.slot_list_iter.lookup (wpAny_pure ⟨rfl, z⟩))
end Mine
end
section
open PySem PySem.W PyProof.Rows
set_option Elab.async false
set_option maxRecDepth 100000
namespace Mine
/-- names in the order of key and name -/
def ordK (key : Int → Int) (f : List Int) : List Int := f.mergeSort fun a b => !aheadB key b a
theorem ordK_perm (key : Int → Int) (f : List Int) : (ordK key f).Perm f := List.mergeSort_perm _ _
theorem ordK_pw {key : Int → Int} {f : List Int} (hn : f.Nodup) : (ordK key f).Pairwise (Ahead key) := by
  have h := List.pairwise_mergeSort (le := fun a b : Int => !aheadB key b a) (fun a b c h1 h2 => by
    simp only [Bool.not_eq_true', ← Bool.not_eq_true, aheadB_iff] at h1 h2 ⊢
    unfold Ahead at *; omega) (fun a b => by
    cases h : aheadB key b a with
    | false => simp
    | true =>
      cases h' : aheadB key a b with
      | false => simp
      | true => exact (ahead_asym (aheadB_iff.mp h) (aheadB_iff.mp h')).elim) f
  have hnd : (ordK key f).Nodup := (ordK_perm key f).nodup_iff.mpr hn
  refine (List.Pairwise.and h hnd).imp fun {a b} q => ?_
  obtain ⟨q1, q2⟩ := q
  rcases ahead_total (key := key) q2 with z | z
  · exact z
  · rw [aheadB_iff.mpr z] at q1; cases q1
theorem ordK_unique {key : Int → Int} {f ws : List Int} (hn : f.Nodup) (hw : ws.Pairwise (Ahead key)) (hm : ∀ i, i ∈ ws ↔ i ∈ f) : ws = ordK key f :=
  ahead_unique hw (ordK_pw hn) fun i => (hm i).trans (ordK_perm key f).mem_iff.symm
theorem frees_nodup (G : Nat → List Int) (run : List Int) : (frees G run).Nodup := ahead_nodup (frees_ahead G run)
/-- the run that picks by place among the waiting ones, in the order of key and name -/
def runK (G : Nat → List Int) (key : Int → Int) : Nat → List Int → Int → List Int
  | 0, run, _ => run
  | k + 1, run, pick => if frees G run = [] then run else runK G key k (run ++ [pickOf (ordK key (frees G run)) pick]) (Int.fdiv pick (frees G run).length)
theorem runK_stop {G : Nat → List Int} {key : Int → Int} {run : List Int} {pick : Int} (h : frees G run = []) : ∀ k, runK G key k run pick = run
  | 0 => rfl
  | k + 1 => by simp [runK, h]
theorem ordK_len (key : Int → Int) (f : List Int) : (ordK key f).length = f.length := (ordK_perm key f).length_eq
theorem pickK_mem {key : Int → Int} {f : List Int} {pick : Int} (hf : f ≠ []) (hp : 0 ≤ pick) : pickOf (ordK key f) pick ∈ f :=
  (ordK_perm key f).mem_iff.mp (pickOf_mem (fun q => hf (List.length_eq_zero_iff.mp (by rw [← ordK_len key f, q]; rfl))) hp)
theorem runK_go {G : Nat → List Int} {key : Int → Int} {run : List Int} {pick : Int} (hn : Names run) (h : frees G run ≠ []) (hp : 0 ≤ pick) :
    run.length < 5 ∧ runK G key (5 - run.length) run pick = runK G key (5 - (run ++ [pickOf (ordK key (frees G run)) pick]).length) (run ++ [pickOf (ordK key (frees G run)) pick]) (Int.fdiv pick (frees G run).length) := by
  have h1 := (hn.snoc (pickK_mem (key := key) h hp)).le
  rw [List.length_append, List.length_singleton] at h1
  refine ⟨by omega, ?_⟩
  have e : 5 - run.length = (5 - (run.length + 1)) + 1 := by omega
  rw [e, runK, if_neg h, List.length_append, List.length_singleton]
/-- all keys alike: the plain run -/
theorem runK_plain {G : Nat → List Int} : ∀ (k : Nat) (run : List Int) (pick : Int), runK G (fun _ => 0) k run pick = plainGo G k run pick
  | 0, _, _ => rfl
  | k + 1, run, pick => by
    have e : ordK (fun _ => 0) (frees G run) = frees G run := (ordK_unique (frees_nodup G run) (frees_ahead G run) fun _ => Iff.rfl).symm
    unfold runK plainGo
    rw [e, runK_plain k]
/-- always the first -/
theorem runK_first {G : Nat → List Int} {key : Int → Int} {due : List Int} (hc : ∀ p n q, due = p ++ n :: q → Chosen key (frees G p) n) (hend : frees G due = []) :
    ∀ (q p : List Int) (k : Nat), due = p ++ q → q.length ≤ k → runK G key k p 0 = due
  | [], p, k, e, _ => by
    rw [List.append_nil] at e
    subst e; exact runK_stop hend k
  | n :: q, p, 0, _, h => by simp at h
  | n :: q, p, k + 1, e, h => by
    obtain ⟨c1, c2⟩ := hc p n q e
    have hne : frees G p ≠ [] := fun z => by rw [z] at c1; cases c1
    unfold runK
    rw [if_neg hne]
    have hf : pickOf (ordK key (frees G p)) 0 = n := by
      have hm : n ∈ ordK key (frees G p) := (ordK_perm key _).mem_iff.mpr c1
      have hpw := ordK_pw (key := key) (frees_nodup G p)
      have hx : ∀ x ∈ ordK key (frees G p), x ≠ n → Ahead key n x := fun x hx hxn => c2 x ((ordK_perm key _).mem_iff.mp hx) hxn
      unfold pickOf
      rw [Int.zero_fmod]
      generalize ordK key (frees G p) = f at hm hpw hx
      cases f with
      | nil => cases hm
      | cons a f =>
        show a = n
        by_cases han : a = n
        · exact han
        · have h1 := hx a (by simp) han
          rcases List.mem_cons.mp hm with z | z
          · exact z.symm
          · exact (ahead_asym h1 ((List.pairwise_cons.mp hpw).1 n z)).elim
    rw [hf, Int.zero_fdiv]
    exact runK_first hc hend q (p ++ [n]) k (by rw [e]; simp) (by simpa using h)
/-- the sorter at the head of a turn -/
structure Pend (G : Nat → List Int) (run ws : List Int) (Z : SSt) : Prop where
  dm : Z.dom = (addAll G).dom
  sc : Z.succ = (addAll G).succ
  sim : ∀ ws' : List Int, ws'.Perm (ws ++ Z.ready) → Sim G run ws' (got Z)
section
variable {G : Nat → List Int} {run ws : List Int} {Z : SSt}
theorem Pend.rdy (h : Pend G run ws Z) : ∀ r ∈ Z.ready, r ∈ Z.dom := fun r hr => by
  have S := h.sim _ (List.Perm.refl _)
  exact (S.dom r).mpr (mem_frees.mp ((S.wts r).mp (List.mem_append_right _ hr))).1
theorem Pend.names (h : Pend G run ws Z) : (ws ++ Z.ready).Nodup := (h.sim _ (List.Perm.refl _)).wnd
theorem Pend.five (h : Pend G run ws Z) : (ws ++ Z.ready).length ≤ 5 := by
  have S := h.sim _ (List.Perm.refl _)
  exact Names.le ⟨S.wnd, fun x hx => (mem_frees.mp ((S.wts x).mp hx)).1⟩
theorem Pend.active (h : Pend G run ws Z) : (decide (Z.fin < Z.pass) || decide (Z.ready ≠ [])) = decide (ws ++ Z.ready ≠ []) := by
  have S := h.sim _ (List.Perm.refl _)
  have h1 : Z.pass + (Z.ready.length : Int) = run.length + ((ws ++ Z.ready).length : Nat) := S.pass
  have h2 : Z.fin = run.length := S.fin
  rw [List.length_append] at h1
  by_cases hr : Z.ready = []
  · rw [hr] at h1 ⊢
    simp only [List.append_nil, ne_eq, not_true_eq_false, decide_false, Bool.or_false]
    refine decide_eq_decide.mpr ?_
    constructor
    · intro q e; rw [e] at h1; simp at h1; omega
    · intro q
      have := List.length_pos_iff.mpr q
      simp at h1; omega
  · simp [hr]
theorem Pend.step (h : Pend G run ws Z) {ws' : List Int} (hp : ws'.Perm (ws ++ Z.ready)) {i : Nat} {c : Int} (hc : ws'[i]? = some c) : Pend G (run ++ [c]) (ws'.eraseIdx i) (doneSt (got Z) c) := by
  have S := h.sim ws' hp
  have hcm : c ∈ ws' := List.mem_of_getElem? hc
  obtain ⟨_, _, h3⟩ := S.step hcm
  refine ⟨h.dm, h.sc, fun ws2 q => h3 ws2 (q.trans (List.Perm.append_right _ ?_))⟩
  have hlt : i < ws'.length := (List.getElem?_eq_some_iff.mp hc).1
  have hce : ws'[i] = c := (List.getElem?_eq_some_iff.mp hc).2
  have e1 : ws'.Perm (c :: ws'.eraseIdx i) := by
    rw [List.eraseIdx_eq_take_drop_succ]
    have e : ws' = ws'.take i ++ c :: ws'.drop (i + 1) := by
      rw [← hce, List.getElem_cons_drop hlt, List.take_append_drop]
    exact (List.Perm.of_eq e).trans List.perm_middle
  exact (List.perm_cons c).mp (e1.symm.trans (List.perm_cons_erase hcm))
end
section
variable {G : Nat → List Int} (hG : ∀ n, n < 5 → ∀ o ∈ G n, 0 ≤ o ∧ o < 5)
include hG
theorem Pend.start : Pend G [] [] (prepSt (addAll G)) := by
  refine ⟨rfl, rfl, fun ws' hp => ?_⟩
  have hd := addAll_dom hG
  refine Sim.start (Z := prepSt (addAll G)) hd (addAll_nodup hG) (fun i hi => addAll_np hG hi) (fun i j hi hj => addAll_count hG hi hj) (fun i hi => addAll_in hG hi) ?_ (fun i => ?_) rfl rfl (by simpa using hp)
  · exact (addAll_nodup hG).filter _
  · show i ∈ (addAll G).dom.filter _ ↔ _
    rw [List.mem_filter, hd i, decide_eq_true_eq]; exact Iff.rfl
theorem suc_iff {x y : Int} (hx : 0 ≤ x ∧ x < 5) : y ∈ (addAll G).succ x ↔ (0 ≤ y ∧ y < 5) ∧ x ∈ G y.toNat := by
  constructor
  · intro h
    have hy := addAll_in hG hx y h
    have := addAll_count hG hx hy
    have h1 := List.count_pos_iff.mpr h
    exact ⟨hy, List.count_pos_iff.mp (by omega)⟩
  · rintro ⟨hy, h⟩
    have := addAll_count hG hx hy
    have h1 := List.count_pos_iff.mpr h
    exact List.count_pos_iff.mp (by omega)
theorem ring_lt (h : Ring (addAll G).dom (addAll G).succ) {run : List Int} (hr : Goes G run) : run.length < 5 := by
  obtain ⟨S, ⟨s, hs⟩, h2, h3⟩ := h
  have hd := addAll_dom hG
  refine ring_short (S := S) (fun y hy => ?_) hs ((hd s).mp (h2 s hs)) hr
  obtain ⟨x, hx, hxy⟩ := h3 y hy
  exact ⟨x, ((suc_iff hG ((hd x).mp (h2 x hx))).mp hxy).2, hx⟩
theorem fine_five (h : Fine (addAll G).dom (addAll G).succ) {run : List Int} (hr : Goes G run) (hend : frees G run = []) : run.length = 5 := by
  obtain ⟨fin, f1, f2, f3⟩ := h
  have hd := addAll_dom hG
  have hf : ∀ x, x ∈ fin ↔ 0 ≤ x ∧ x < 5 := fun x => (f2 x).trans (hd x)
  have g : Goes G fin.reverse := goes_of_fin f1 (fun x hx => (hf x).mp hx) (fun x hx o ho => (hf o).mpr (hG _ (by have := (hf x).mp hx; omega) o ho)) fun p u q e y hy hu => by
    have hy' := (hf y).mp hy
    have hu' : 0 ≤ u ∧ u < 5 := (hf u).mp (by rw [e]; simp)
    exact f3 p u q e y ((suc_iff hG hu').mpr ⟨hy', hu⟩)
  refine full_long g ?_ hr hend
  rw [List.length_reverse]
  have h1 : (upto 5).length ≤ fin.length := (show (upto 5).Nodup by decide).length_le_of_subset fun x hx => (hf x).mpr (by have := mem_upto.mp hx; simpa using this)
  have h2 := Names.le ⟨f1, fun x hx => (hf x).mp hx⟩
  rw [upto_len] at h1
  omega
end
/-- the first i adds -/
def addN (G : Nat → List Int) : Nat → SSt
  | 0 => Z0
  | i + 1 => addSt (addN G i) i (G i)
theorem addN_ok {G : Nat → List Int} (hG : ∀ n, n < 5 → ∀ o ∈ G n, 0 ≤ o ∧ o < 5) (h10 : ∀ n, (G n).length ≤ 10) : ∀ i, i ≤ 5 → (addN G i).dom.Nodup ∧ (∀ x ∈ (addN G i).dom, 0 ≤ x ∧ x < 5) ∧ (∀ x, (sucD (addN G i) x).length ≤ 10 * i) ∧ (addN G i).dom.length ≤ 5 ∧ ∀ x ∈ (addN G i).dom, ((addN G i).succ x).length ≤ 10 * i
  | 0, _ => ⟨by simp [addN, Z0], by simp [addN, Z0], by simp [addN, Z0, sucD], by simp [addN, Z0], by simp [addN, Z0]⟩
  | i + 1, hi => by
    obtain ⟨h1, h2, h3, _, _⟩ := addN_ok hG h10 i (by omega)
    have a1 : (addN G (i + 1)).dom.Nodup := addSt_nodup h1 _ _
    have a2 : ∀ x ∈ (addN G (i + 1)).dom, 0 ≤ x ∧ x < 5 := fun x hx => by
      rcases (addSt_dom _ _ _ _).mp hx with (q | q) | q
      · exact h2 x q
      · omega
      · exact hG i (by omega) x q
    have a3 : ∀ x, (sucD (addN G (i + 1)) x).length ≤ 10 * (i + 1) := fun x => by
      show (sucD (addSt (addN G i) i (G i)) x).length ≤ _
      rw [addSt_suc, List.length_append, List.length_replicate]
      have := h3 x
      have := h10 i
      have := List.count_le_length (a := x) (l := G i)
      omega
    refine ⟨a1, a2, a3, Names.le ⟨a1, a2⟩, fun x hx => ?_⟩
    have := a3 x
    unfold sucD at this
    rwa [if_pos hx] at this
end Mine
end
section
open PySem PySem.W PyProof.Rows
set_option Elab.async false
set_option maxRecDepth 100000
set_option maxHeartbeats 4000000
namespace Mine
theorem MethodStar {M : Model} {A : Around} {E : Value → Shared → Prop} {s : Shared} {env : Env} {o : Expr} {name : Str} {apos pos : Pos} {args : List Expr} {Q : Value → Shared → Prop}
    (h : wpAny M A (eval o env) (fun ov s₁ => wpAny M A (getAttr ov name true) (fun f s₂ => wpAny M A (callWith pos f [] (backTo pos (starEach args env)) []) Q E s₂) E s₁) E s)
    (he : eval (.Call (.Attribute o name apos) args [] pos) env = (do
      let ov ← eval o env
      standAt apos.atName
      let (f, first) ← holding [ov] (do pure (← getAttr ov name true, []))
      callWith pos f first (backTo pos (starEach args env)) []) := by rfl) :
    wpAny M A (eval (.Call (.Attribute o name apos) args [] pos) env) Q E s := by
  rw [he]
  refine wpAny_bind (wpAny_mono h (fun ov s₁ h₁ => wpAny_bind (wpAny_standAt (wpAny_bind (wpAny_holding (wpAny_bind (wpAny_mono h₁ (fun f s₂ h₂ => wpAny_pure ?_) fun _ _ x => x)))))) fun _ _ x => x)
  exact h₂
theorem bd114 {w : World} {a : Nat → Int} {t : Nat → Tok} {v1 v2 v3 v4 : Value} {n : Nat} : findObj (KK' w) 164 (some (attrObj a t v1 v2 v3 v4 n)) (Str.ofString "add") = some (.bind (.builtin "function.__get__") (.ref 114)) := by kernel_rfl
theorem ty114 {w : World} : typeIn (KK' w) (.ref 114) = some (.type "function") := by kernel_rfl
theorem fn114 {w : World} : fnIn (KK' w) 114 = true := by kernel_rfl
theorem ts_bound {prog : Program} {w : World} {A : Around} {E : Value → Shared → Prop} {s : Shared} {Q : Value → Shared → Prop} {x D : Addr} {a : Nat → Int} {t : Nat → Tok} {v1 v2 v3 v4 : Value} {n : Nat} {b : Bool} (X : (KK' w).In s.heap) (hi : s.heap.get? x = some (instObj 164 D)) (hD : s.heap.get? D = some (attrObj a t v1 v2 v3 v4 n))
    (h : Q (.ref s.heap.objs.size) { s with heap := s.heap.push (methodObj (.ref 114) (.ref x)), toks := s.toks + 1 }) : wpAny (model prog w) A (getAttr (.ref x) (Str.ofString "add") b) Q E s :=
  get_bind X (inst_at hi hD) gaTS bd114 g2TS (wpAny_call (fn_get (s := { s with toks := s.toks + 1 }) X ty114 (handed_on rfl h)))
theorem callWith_bound {M : Model} {A : Around} {E : Value → Shared → Prop} {s : Shared} {env : Env} {K : Frag} {pos : Pos} {q g : Addr} {self : Value} {e : Expr} {rest : List Expr} {Q : Value → Shared → Prop} (hf : fnIn K g = true)
    (h : wpAny M A (spliced (backTo pos (starEach (e :: rest) env))) (fun vs s₁ => MethP K q g self s₁.heap ∧ wpAny M A (call (.ref q) ([] ++ vs)) Q E s₁) E s)
    (he : starEach (e :: rest) env = (false, eval e env) :: starEach rest env := by rfl) (hst : (backTo pos (starEach rest env)).any (·.1) = true := by rfl) :
    wpAny M A (callWith pos (.ref q) [] (backTo pos (starEach (e :: rest) env)) []) Q E s := by
  rw [he] at h ⊢
  exact ks_call (by show (false || (backTo pos (starEach rest env)).any (·.1)) = true; rw [hst]; rfl) (keeps_M hf) (Calls.evalArgs_plain h)
end Mine
end
section
open PySem PySem.W PyProof.Rows
set_option Elab.async false
set_option maxRecDepth 100000
namespace Mine
/-- what stays fixed in the run's loop -/
structure RG (g : Heap) (fs : List Addr) (L R : Addr) (A : List Addr) : Prop where
  rL : R ≠ L
  rC : R ≠ L + 1
  rA : R ∉ A
  rg : g.get? R = none
  rf : R ∉ fs
  aL : ∀ a ∈ A, a ≠ L
  aC : ∀ a ∈ A, a ≠ L + 1
  af : ∀ a ∈ A, a ∉ fs
  ag : ∀ a ∈ A, g.get? a = none
  fL : ∀ a ∈ fs, a ≠ L
structure RI (prog : Program) (w : World) (g : Heap) (fs : List Addr) (h₀ : Heap) (L R kl : Addr) (bb : Book) (D : List Int) (key : Int → Int) (h : Heap) (m : Str → Option Value) (Z : SSt) (run : List Int) (ps : List (Addr × Int)) (W : Addr) : Prop where
  fr : Fr g L h m
  cell : h.IsCell (L + 1) (some (.ref kl))
  up : UpTo fs h₀ h
  st : Sorter prog w h bb Z
  dm : Z.dom = D
  rl : ∃ vs : List Value, h.PlainList R vs.toArray ∧ IntsAre vs run
  wl : h.PlainList W (refs ps).toArray
  pa : ∀ p ∈ ps, PairAt h key p
  fw : W ≠ L ∧ W ≠ R ∧ W ∉ bb.addrs D
  fp : ∀ p ∈ ps, p.1 ≠ L ∧ p.1 ≠ R ∧ p.1 ∉ bb.addrs D
section
variable {prog : Program} {w : World} {g : Heap} {fs : List Addr} {h₀ : Heap} {L R kl : Addr} {bb : Book} {D : List Int} {key : Int → Int} {h h' : Heap} {m m' : Str → Option Value} {Z Z' : SSt} {run run' : List Int} {ps ps' : List (Addr × Int)} {W W' : Addr}
theorem cellAt {c : Addr} {v : Option Value} (x : h.IsCell c v) (k : ∀ o, h.get? c = some o → h'.get? c = some o) : h'.IsCell c v := let ⟨o, ho, hd⟩ := x; ⟨o, k o ho, hd⟩
theorem RI.ext (q : RI prog w g fs h₀ L R kl bb D key h m Z run ps W) (k : Ext h h') : RI prog w g fs h₀ L R kl bb D key h' m Z run ps W :=
  ⟨Fr.grownK q.fr k, cellAt q.cell fun o e => k _ o e, q.up.trans (UpTo.of_keeps fun a _ o e => k a o e), q.st.keep fun a _ o e => k a o e, q.dm, let ⟨vs, e, r⟩ := q.rl; ⟨vs, PlainList.keep e fun o e => k _ o e, r⟩, PlainList.keep q.wl fun o e => k _ o e, fun p hp => (q.pa p hp).keep fun o e => k _ o e, q.fw, q.fp⟩
theorem RI.loc (q : RI prog w g fs h₀ L R kl bb D key h m Z run ps W) (G : RG g fs L R (bb.addrs D)) (F : Fr g L h' m') (k : Sub [L] h h') : RI prog w g fs h₀ L R kl bb D key h' m' Z run ps W := by
  have kp : ∀ a o, a ≠ L → h.get? a = some o → h'.get? a = some o := fun a o ha e => k a o (by simpa using ha) e
  refine ⟨F, cellAt q.cell fun o e => kp _ o (Nat.succ_ne_self L) e, q.up.trans (UpTo.of_keeps fun a ha o e => kp a o (G.fL a ha) e), q.st.keep fun a ha o e => kp a o (G.aL a (q.dm ▸ ha)) e, q.dm, ?_, PlainList.keep q.wl fun o e => kp _ o q.fw.1 e, fun p hp => (q.pa p hp).keep fun o e => kp _ o (q.fp p hp).1 e, q.fw, q.fp⟩
  obtain ⟨vs, e, r⟩ := q.rl
  exact ⟨vs, PlainList.keep e fun o e => kp _ o G.rL e, r⟩
theorem RI.srt (q : RI prog w g fs h₀ L R kl bb D key h m Z run ps W) (G : RG g fs L R (bb.addrs D)) (S : Sorter prog w h' bb Z') (hd : Z'.dom = D) (k : Sub (bb.addrs D) h h') : RI prog w g fs h₀ L R kl bb D key h' m Z' run ps W := by
  refine ⟨⟨q.fr.ns.at' fun o e => k _ o (fun z => G.aL _ z rfl) e, fun a o e => k a o (fun z => by rw [G.ag a z] at e; cases e) (q.fr.keep a o e), q.fr.above⟩, cellAt q.cell fun o e => k _ o (fun z => G.aC _ z rfl) e, q.up.trans (UpTo.of_keeps fun a ha o e => k a o (fun z => G.af a z ha) e), S, hd, ?_, PlainList.keep q.wl fun o e => k _ o q.fw.2.2 e,
    fun p hp => (q.pa p hp).keep fun o e => k _ o (q.fp p hp).2.2 e, q.fw, q.fp⟩
  obtain ⟨vs, e, r⟩ := q.rl
  exact ⟨vs, PlainList.keep e fun o e => k _ o G.rA e, r⟩
theorem RI.grow (q : RI prog w g fs h₀ L R kl bb D key h m Z run ps W) (G : RG g fs L R (bb.addrs D)) (k : Heap.SameBut R h h') {vs : List Value} (e : h'.PlainList R vs.toArray) (hv : IntsAre vs run') : RI prog w g fs h₀ L R kl bb D key h' m Z run' ps W := by
  have kp : ∀ a o, a ≠ R → h.get? a = some o → h'.get? a = some o := fun a o ha e => k.extBut a o ha e
  exact ⟨⟨q.fr.ns.at' fun o e => kp _ o G.rL.symm e, fun a o e => kp a o (fun z => by rw [z, G.rg] at e; cases e) (q.fr.keep a o e), q.fr.above⟩, cellAt q.cell fun o e => kp _ o G.rC.symm e, q.up.trans (UpTo.of_keeps fun a ha o e => kp a o (fun z => G.rf (z ▸ ha)) e), q.st.keep fun a ha o e => kp a o (fun z => G.rA (z ▸ q.dm ▸ ha)) e, q.dm, ⟨vs, e, hv⟩,
    PlainList.keep q.wl fun o e => kp _ o q.fw.2.1 e, fun p hp => (q.pa p hp).keep fun o e => kp _ o (q.fp p hp).2.1 e, q.fw, q.fp⟩
/-- what is not yet there is none of what is held -/
theorem RI.new (q : RI prog w g fs h₀ L R kl bb D key h m Z run ps W) {a : Addr} (ha : h.get? a = none) : a ≠ L ∧ a ≠ R ∧ a ∉ bb.addrs D := by
  refine ⟨?_, ?_, ?_⟩
  · rintro rfl; obtain ⟨o, e⟩ := fr_alive q.fr; rw [ha] at e; cases e
  · rintro rfl; obtain ⟨vs, ⟨n, e⟩, _⟩ := q.rl; rw [ha] at e; cases e
  · intro z
    obtain ⟨o, e⟩ := q.st.alive a (q.dm ▸ z)
    rw [ha] at e; cases e
theorem RI.wts (q : RI prog w g fs h₀ L R kl bb D key h m Z run ps W) (e : h.PlainList W' (refs ps').toArray) (hp : ∀ p ∈ ps', PairAt h key p) (fw : W' ≠ L ∧ W' ≠ R ∧ W' ∉ bb.addrs D) (fp : ∀ p ∈ ps', p.1 ≠ L ∧ p.1 ≠ R ∧ p.1 ∉ bb.addrs D) : RI prog w g fs h₀ L R kl bb D key h m Z run ps' W' :=
  ⟨q.fr, q.cell, q.up, q.st, q.dm, q.rl, e, hp, fw, fp⟩
end
end Mine
end
section
open PySem PySem.W PyProof.Rows
set_option Elab.async false
set_option maxRecDepth 100000
set_option maxHeartbeats 4000000
namespace Mine
theorem pairs_made {P : Addr → Int → Prop} : ∀ {os : List (Option Value)} {ns : List Int}, os.length = ns.length → (∀ (j : Nat) (o : Option Value) (n : Int), os[j]? = some o → ns[j]? = some n → ∃ a, o = some (.ref a) ∧ P a n) → ∃ ps : List (Addr × Int), os.filterMap id = refs ps ∧ nms ps = ns ∧ ∀ p ∈ ps, P p.1 p.2
  | [], ns, h, _ => by
    cases ns with
    | nil => exact ⟨[], rfl, rfl, by simp⟩
    | cons => simp at h
  | o :: os, [], h, _ => by simp at h
  | o :: os, n :: ns, h, hp => by
    obtain ⟨ps, e1, e2, e3⟩ := pairs_made (os := os) (ns := ns) (by simpa using h) fun j q k a b => hp (j + 1) q k (by simpa using a) (by simpa using b)
    obtain ⟨a, rfl, ha⟩ := hp 0 o n rfl rfl
    refine ⟨(a, n) :: ps, by simp [e1], by simp [e2], fun p hq => ?_⟩
    rcases List.mem_cons.mp hq with rfl | hq
    · exact ha
    · exact e3 p hq
/-- [(keys[x], x) for x in ints] -/
theorem LC_pairs {prog : Program} {w : World} {A : Around} {E : Value → Shared → Prop} {env : Env} {s : Shared} {elt iter : Expr} {x : Str} {px : Pos} {scope : Scope} {cl : List (Str × Addr)} {pos : Pos} {Q : Value → Shared → Prop} {key : Int → Int} {ns : List Int}
    (hclos : closureFor scope env = pure cl) (hcell : ∀ y ∈ scope.names, y.2 ≠ .cell) (hkind : scope.kind = .function)
    (hnames : ∀ y ∈ scope.names, y.2 = .local → scope.names.lookup y.1 = some .local) (hx : scope.names.lookup x = some .local) (hsz : ns.length ≤ 1000)
    (hit : ∀ Q' : Value → Shared → Prop, (∀ ax (vs : List Value) (St : Nat → Heap → Prop) h₂ tk₂, Walks prog w A s.heap.objs.size [s.heap.objs.size, ax] [s.heap.objs.size] vs.toArray.size (fun i v => vs.toArray[i]? = some v) St → IntsAre vs ns → St 0 h₂ → Ext s.heap h₂ → h₂.objs.size = s.heap.objs.size + 1 → ax < s.heap.objs.size → (∀ i h, St i h → ∃ o, h.get? s.heap.objs.size = some o) → Q' (.ref s.heap.objs.size) { s with heap := h₂, toks := tk₂ }) →
      wpAny (model prog w) A (eval iter env) (fun xv s₁ => wpAny (model prog w) A (pyIter xv) Q' E s₁) E s)
    (hel : ∀ n t h tk m E' C (Q' : Value → Shared → Prop), n ∈ ns → Fr s.heap C h m → m x = some (.int n t) → (∀ t1 t2 tk', Q' (.ref h.objs.size) { s with heap := h.push { cls := .type "tuple", data := .seq #[.int (key n) t1, .int n t2] }, toks := tk' }) →
      wpAny (model prog w) A (eval elt (compEnvC scope cl C env)) Q' E' { s with heap := h, toks := tk })
    (hQ : ∀ D h' tk ps, h'.PlainList D (refs ps).toArray → nms ps = ns → (∀ p ∈ ps, PairAt h' key p) → Ext s.heap h' → s.heap.get? D = none → (∀ p ∈ ps, s.heap.get? p.1 = none) → Q (.ref D) { s with heap := h', toks := tk })
    (hs : ∀ x, foldedSetIterable iter env x = pure x := by intro _; rfl) :
    wpAny (model prog w) A (eval (.ListComp elt [⟨.Name x px, iter, [], 0⟩] scope pos) env) Q E s := by
  refine LC_local hclos hcell hkind hnames hx (hit _ fun ax vs St h₂ tk₂ W hvs hst k2 hsz2 hax hal => ?_) hs
  refine ⟨_, _, _, _, _, _, _, _, fun i h _ o => ∃ n a, ns[i]? = some n ∧ o = some (.ref a) ∧ PairAt h key (a, n) ∧ s.heap.objs.size + 2 < a, rfl, rfl, W, by rw [List.size_toArray, hvs.length, sizeLine_eq]; omega, hst, ?_, ?_, ?_, k2, by rw [hsz2]; exact Nat.le_succ _, ?_, ?_, ?_⟩
  · intro b hb
    rw [hsz2]
    rcases List.mem_cons.mp hb with rfl | hb
    · exact Nat.lt_succ_self _
    · rw [List.mem_singleton.mp hb]; exact Nat.lt_succ_of_lt hax
  · intro i h st b hb
    rw [List.mem_singleton.mp hb]; exact hal i h st
  · intro b hb
    rw [List.mem_singleton.mp hb]; exact none_ge (Nat.le_refl _)
  · rintro i h h' v y ⟨n, a, e1, e2, e3, e4⟩ hsub
    refine ⟨n, a, e1, e2, e3.keep fun o e => hsub _ o ?_ e, e4⟩
    intro hm
    dsimp only at hm
    rw [hsz2] at hm
    rcases List.mem_cons.mp hm with q | q
    · rw [q] at e4; exact absurd e4 (Nat.not_lt.mpr (Nat.le_succ _))
    rcases List.mem_append.mp q with q | q
    · rw [List.mem_singleton.mp q] at e4; exact absurd e4 (Nat.lt_irrefl _)
    · rw [List.mem_singleton.mp q] at e4; exact absurd e4 (Nat.not_lt.mpr (Nat.le_add_right _ _))
  · intro i v h tk m E' hi hP F hm hX
    obtain ⟨n, t, hn, rfl⟩ := ints_at hvs hP
    refine turn_nil (hel n t h tk m E' _ _ (List.mem_of_getElem? hn) F hm fun t1 t2 tk' => ?_)
    refine ⟨_, _, rfl, ⟨n, _, hn, rfl, ⟨t1, t2, 0, Heap.get?_push_size _ rfl⟩, ?_⟩, fun b o e => Heap.get?_push_of_some _ e⟩
    obtain ⟨o, ho⟩ := hX (h₂.objs.size + 1) (by simp)
    have := Heap.lt_size ho
    rw [hsz2] at this
    exact this
  · intro h' tk us os hM hext hnone
    obtain ⟨ps, p1, p2, p3⟩ := pairs_made (P := fun a n => PairAt h' key (a, n) ∧ s.heap.objs.size + 2 < a) (os := os) (ns := ns) (by rw [hM.lo, List.size_toArray, hvs.length]) fun j o n hj hn => by
      have hjl : j < us.length := by
        have := (List.getElem?_eq_some_iff.mp hj).1
        rw [hM.lo] at this
        rw [hM.lv]; exact this
      obtain ⟨n', a, e1, e2, e3, e4⟩ := hM.out j us[j] o (List.getElem?_eq_getElem hjl) hj
      rw [hn] at e1; cases e1
      exact ⟨a, e2, e3, e4⟩
    have hat := hM.at_
    rw [p1] at hat
    exact hQ _ h' tk ps hat p2 (fun p hp => (p3 p hp).1) hext hnone fun p hp => none_ge (Nat.le_of_lt (Nat.lt_trans (Nat.lt_trans (Nat.lt_succ_self _) (Nat.lt_succ_self _)) (p3 p hp).2))
end Mine
end
section
open PySem PySem.W PyProof.Rows PySem.SeqAt
set_option Elab.async false
set_option maxRecDepth 100000
namespace Mine
/-- a store into a local, the map told by what it holds -/
theorem sto_any {prog : Program} {w : World} {A : Around} {E : Value → Shared → Prop} {s : Shared} {g : Heap} {env : Env} {m : Str → Option Value} {x : Str} {v : Value} {Q : Unit → Shared → Prop} (hx : env.kindOf x = some .local) (hk : env.scope.kind = .function) (F : Fr g env.locals s.heap m)
    (h : ∀ h' m', Fr g env.locals h' m' → (∀ y u, m y = some u → y ≠ x → m' y = some u) → m' x = some v → Sub [env.locals] s.heap h' → Q () { s with heap := h', toks := s.toks + 1 }) : wpAny (model prog w) A (storeName env x v) Q E s :=
  sto_local hx hk F fun h' F' k => h h' _ F' (fun y u e hy => (if_neg hy).trans e) (if_pos rfl) k
section
variable {prog : Program} {w : World} {A : Around} {E : Value → Shared → Prop} {s : Shared} {Q : Value → Shared → Prop}
theorem item_tupT {value slice : Expr} {t : Addr} {items : Array Value} {k : Int} {u : Tok} {j : Nat} {x : Value} (ht : IsTup s.heap t items) (hlo : -(2 ^ 63) ≤ k) (hhi : k < 2 ^ 63) (hj : seqIndex? k items.size = some j) (hx : items[j]? = some x) (h : Q x s)
    (hs : subscripted slice false (.ref t) (.int k u) = operate [.ref t, .int k u] (getItem (.ref t) (.int k u)) := by with_unfolding_all rfl) : wpAny (model prog w) A (subscriptTail value slice (.ref t) (.int k u)) Q E s :=
  tail_any ht.typeIs slot_tuple_getitem.lookup (getItem_tuple ht hlo hhi hj hx h) hs
theorem ne_nil {a b : Addr} {items : Array Value} (ha : s.heap.IsList a items) (hb : s.heap.IsList b #[]) (hu : A.units < cLine) (h : Q (.bool (decide (items.size ≠ 0))) s) : wpAny (model prog w) A (compareOp .NotEq (.ref a) (.ref b)) Q E s := by
  by_cases hz : items.size = 0
  · refine RcNeAt.lists (e := fun _ => true) ha hb (by simpa using hz) hu (fun j h1 h2 => by simp at h2) prog w E Q ?_
    rw [hz]; simpa [hz] using h
  · refine RcNeAt.lists_lengths ha hb (by simpa using hz) hu prog w E Q ?_
    simpa [hz] using h
theorem eq_nil {a b : Addr} {items : Array Value} (ha : s.heap.IsList a items) (hb : s.heap.IsList b #[]) (hu : A.units < cLine) (h : Q (.bool (decide (items.size = 0))) s) : wpAny (model prog w) A (compareOp .Eq (.ref a) (.ref b)) Q E s := by
  by_cases hz : items.size = 0
  · refine RcAt.lists (e := fun _ => true) ha hb (by simpa using hz) hu (fun j h1 h2 => by simp at h2) prog w E Q ?_
    rw [hz]; simpa [hz] using h
  · refine RcAt.lists_lengths ha hb (by simpa using hz) hu prog w E Q ?_
    simpa [hz] using h
/-- two lists with the same ints -/
theorem eq_same {a b : Addr} {vs us : List Value} {ns : List Int} (hab : a ≠ b) (ha : s.heap.IsList a vs.toArray) (hb : s.heap.IsList b us.toArray) (hv : IntsAre vs ns) (hu' : IntsAre us ns) (hu : A.units < cLine) : EqAt A s (.ref a) (.ref b) true := by
  refine EqAt.of_refs hab ?_
  have hs : vs.toArray.size = us.toArray.size := by rw [List.size_toArray, List.size_toArray, hv.length, hu'.length]
  have := RcAt.lists (A := A) (s := s) (e := fun _ => true) ha hb hs hu fun j h1 h2 => by
    obtain ⟨n, t, e1, e2⟩ := ints_at hv (Array.getElem?_eq_getElem h1)
    obtain ⟨n', t', e3, e4⟩ := ints_at hu' (Array.getElem?_eq_getElem h2)
    rw [e1] at e3; cases e3
    rw [e2, e4]
    simpa using EqAt.int_int (A := A.in1) (s := s) n t n t'
  have e : (List.range vs.toArray.size).all (fun _ => true) = true := List.all_eq_true.mpr fun _ _ => rfl
  rwa [e] at this
/-- (run, ring, sound) twice the same -/
theorem ne_triple {T1 T2 R1 R2 : Addr} {p q : Bool} {vs us : List Value} {ns : List Int} (hR : R1 ≠ R2) (h1 : s.heap.IsTuple T1 #[.ref R1, .bool p, .bool q]) (h2 : s.heap.IsTuple T2 #[.ref R2, .bool p, .bool q]) (ha : s.heap.IsList R1 vs.toArray) (hb : s.heap.IsList R2 us.toArray) (hv : IntsAre vs ns) (hu' : IntsAre us ns) (hu : A.units + 8 < cLine)
    (h : Q (.bool false) s) : wpAny (model prog w) A (compareOp .NotEq (.ref T1) (.ref T2)) Q E s := by
  refine RcNeAt.tuples (e := fun _ => true) h1 h2 (by omega) (fun j j1 j2 => ?_) prog w E Q (by exact h)
  have hj : j = 0 ∨ j = 1 ∨ j = 2 := by simp at j1; omega
  rcases hj with rfl | rfl | rfl
  · exact eq_same (A := A.in1) hR ha hb hv hu' (by show A.units + 1 < cLine; omega)
  · simpa using EqAt.bool_bool (A := A.in1) (s := s) p p
  · simpa using EqAt.bool_bool (A := A.in1) (s := s) q q
end
end Mine
end
section
open PySem PySem.W PyProof.Rows
set_option Elab.async false
set_option maxRecDepth 100000
set_option maxHeartbeats 1000000
namespace Mine
/-- for xi, xv in enumerate(list), by an invariant over the heap -/
theorem for_enum {prog : Program} {w : World} {A : Around} {s : Shared} {env : Env} {g : Heap} {R : Result → Shared → Prop} {xi xv : Str} {pi pv pt : Pos} {x1} {body : List Stmt} {e it l : Addr} {items : Array Value} {m : Str → Option Value}
    (hh : A.handled = none) (hxi : env.kindOf xi = some .local) (hxv : env.kindOf xv = some .local) (hkf : env.scope.kind = .function) (hxx : xi ≠ xv)
    (hei : e ≠ it) (heL : e ≠ env.locals) (hiL : it ≠ env.locals) (hlL : l ≠ env.locals) (hle : l ≠ e) (hli : l ≠ it)
    (he : IsEnum s.heap e it 0 .none) (hit : s.heap.IsListIter it l 0) (hl : s.heap.IsList l items) (F : Fr g env.locals s.heap m) (hge : g.get? e = none) (hgi : g.get? it = none)
    (J : Nat → Heap → (Str → Option Value) → Prop) (h0 : J 0 s.heap m)
    (stab : ∀ i h m h' m', J i h m → (∀ b o, b ≠ env.locals → b ≠ e → b ≠ it → h.get? b = some o → h'.get? b = some o) → (∀ y, y ≠ xi → y ≠ xv → m' y = m y) → J i h' m')
    (step : ∀ i v tk tk' h m E', items[i]? = some v → J i h m → Fr g env.locals h m → m xi = some (.int i tk) → m xv = some v →
      wpAny (model prog w) A (execs body env) (fun f s₂ => f = .next ∧ ∃ h' m' tk'', s₂ = { s with heap := h', toks := tk'' } ∧ Fr g env.locals h' m' ∧ J (i + 1) h' m' ∧ ∀ b o, b = e ∨ b = it ∨ b = l → h.get? b = some o → h'.get? b = some o) E' { s with heap := h, toks := tk' })
    (fin : ∀ h' m' tk, Fr g env.locals h' m' → J items.size h' m' → R (.ok .next) { s with heap := h', toks := tk }) :
    codeAny (model prog w) A (.forLoop (.Tuple [.Name xi pi, .Name xv pv] x1 pt) (.ref e) body [] env) R s := by
  refine codeAny_forLoop_any (fun k s' => ∃ h tk m' i old, s' = { s with heap := h, toks := tk } ∧ IsEnum h e it ((i : Nat) : Int) old ∧ h.IsListIter it l i ∧ h.IsList l items ∧ Fr g env.locals h m' ∧ J i h m' ∧ i ≤ items.size ∧ k = items.size + 1 - i) ?_ (items.size + 1)
    ⟨s.heap, s.toks, m, 0, .none, rfl, he, hit, hl, F, h0, Nat.zero_le _, rfl⟩
  rintro k s' ⟨H, tk, m', i, old, rfl, he', hit', hl', F', hJ, hi, rfl⟩
  cases hv : items[i]? with
  | none =>
    have hsz : i = items.size := Nat.le_antisymm hi (by simpa using hv)
    refine wpAny_pyNext_enum_end hh he' hit' hl' hv fun h₁ he₁ => wpAny_execs_nil ?_
    replace he₁ : Heap.ExtBut it H h₁ := he₁
    refine fin h₁ m' tk ⟨F'.ns.extBut he₁ (Ne.symm hiL), fun b o q => he₁ b o (fun z => by rw [z, hgi] at q; cases q) (F'.keep b o q), F'.above⟩ (hsz ▸ stab i H m' h₁ m' hJ (fun b o _ _ hbi q => he₁ b o hbi q) fun _ _ _ => rfl)
  | some v =>
    have hlt : i < items.size := (Array.getElem?_eq_some_iff.mp hv).1
    have heH : e < H.objs.size := Heap.lt_size he'
    have hLH : env.locals < H.objs.size := F'.ns.lt
    obtain ⟨oi, hoi, _⟩ := id hit'
    obtain ⟨ol, hol, _⟩ := id hl'
    have hiH : it < H.objs.size := Heap.lt_size hoi
    have hlH : l < H.objs.size := Heap.lt_size hol
    refine wpAny_pyNext_enum_item he' hit' hl' hv hei fun h₁ heo hit₁ ht₁ hz₁ hk₁ => ?_
    refine wpAny_letOwnedTupleGo_enum heo fun h₂ he₂ hs₂ => ?_
    replace hs₂ : Heap.SameBut e h₁ h₂ := hs₂
    have ht₂ : h₂.IsTuple H.objs.size #[.int i tk, v] := ⟨_, (hs₂.2 _ (Nat.ne_of_gt heH)).trans ht₁, rfl, _, rfl⟩
    have hz₂ : h₂.objs.size = H.objs.size + 1 := hs₂.1.trans hz₁
    refine wpAny_assign_Tuple hh ht₂ rfl rfl fun h₃ hx₃ => ?_
    replace hx₃ : Heap.ExtBut h₂.objs.size h₂ h₃ := hx₃
    have old₃ : ∀ b o, b < H.objs.size → h₂.get? b = some o → h₃.get? b = some o := fun b o hb x => hx₃ b o (by rw [hz₂]; exact Nat.ne_of_lt (Nat.lt_succ_of_lt hb)) x
    have up : ∀ b o, b ≠ e → b ≠ it → H.get? b = some o → h₃.get? b = some o := fun b o hbe hbi x => old₃ b o (Heap.lt_size x) (hs₂.extBut b o hbe (hk₁ b o hbe hbi x))
    have F₃ : Fr g env.locals h₃ m' := ⟨F'.ns.at' fun o x => up _ o (Ne.symm heL) (Ne.symm hiL) x, fun b o q => up b o (fun z => by rw [z, hge] at q; cases q) (fun z => by rw [z, hgi] at q; cases q) (F'.keep b o q), F'.above⟩
    show wpAny _ A (do holding [v] (assign (.Name xi pi) env (.int i tk)); do holding [] (assign (.Name xv pv) env v); pure ()) _ _ _
    refine wpAny_bind (wpAny_holding (asg_local hxi hkf F₃ fun h₄ F₄ k₄ => ?_))
    replace k₄ : Sub [env.locals] h₃ h₄ := k₄
    refine wpAny_bind (wpAny_holding (asg_local hxv hkf F₄ fun h₅ F₅ k₅ => wpAny_pure ?_))
    replace k₅ : Sub [env.locals] h₄ h₅ := k₅
    have k5 : ∀ b o, b ≠ env.locals → h₃.get? b = some o → h₅.get? b = some o := fun b o hb x => k₅ b o (by simpa using hb) (k₄ b o (by simpa using hb) x)
    have J₅ := stab i H m' h₅ (upd (upd m' xi (.int i tk)) xv v) hJ (fun b o hbL hbe hbi x => k5 b o hbL (up b o hbe hbi x)) fun y hy1 hy2 => by simp [upd, hy1, hy2]
    refine wpAny_mono (step i v tk _ h₅ _ _ hv J₅ F₅ (by simp [upd, hxx]) (by simp [upd])) (fun f s₃ h₆ => ?_) fun _ _ x => x
    obtain ⟨rfl, h₆, m₆, tk₆, rfl, F₆, J₆, kp⟩ := h₆
    refine ⟨items.size + 1 - (i + 1), by omega, h₆, tk₆, m₆, i + 1, v, rfl, ?_, ?_, ?_, F₆, J₆, hlt, rfl⟩
    · have : ((i + 1 : Nat) : Int) = (i : Int) + 1 := by push_cast; rfl
      rw [this]; exact kp _ _ (.inl rfl) (k5 _ _ heL (old₃ _ _ heH he₂))
    · exact (hit₁.extBut hs₂.extBut (Ne.symm hei)).at fun o x => kp _ o (.inr (.inl rfl)) (k5 _ o hiL (old₃ _ o hiH x))
    · exact ((hl'.at fun o x => hk₁ l o hle hli x).extBut hs₂.extBut hle).at fun o x => kp _ o (.inr (.inr rfl)) (k5 _ o hlL (old₃ _ o hlH x))
end Mine
end
section
open PySem PySem.W PyProof.Rows
set_option Elab.async false
set_option maxRecDepth 100000
set_option maxHeartbeats 8000000
namespace Mine
local macro_rules | `(tactic| walk_at "nm") => `(tactic| (with_reducible show wpAny _ _ (eval (Expr.Name _ _) _) _ _ _);
  (with_unfolding_all refine nm_local (by assumption) (by assumption) ?_ rfl rfl (by decide)))
local macro_rules | `(tactic| walk_at "w") => `(tactic| first | walk_at "nm" | walk1)
theorem if_both {c : Prop} [Decidable c] {P Q : Prop} (h1 : P) (h2 : Q) : if c then P else Q := by
  split
  · exact h1
  · exact h2
theorem ints_set : ∀ {us : List Value} {cs : List Int} {j : Nat} {y : Int} {t : Tok}, IntsAre us cs → IntsAre (us.set j (.int y t)) (cs.set j y)
  | _, _, _, _, _, .nil => .nil
  | _, _, 0, y, t, .cons _ _ h => .cons y t h
  | _, _, j + 1, _, _, .cons n t h => .cons n t (ints_set h)
theorem newList_ints {prog : Program} {w : World} {A : Around} {E : Value → Shared → Prop} {s : Shared} {us : List Value} {ns : List Int} {Q : Value → Shared → Prop} (hi : IntsAre us ns) (hz : us.length ≤ 1000)
    (h : ∀ h' D us', Ext s.heap h' → h'.PlainList D us'.toArray → IntsAre us' ns → s.heap.get? D = none → Q (.ref D) { s with heap := h' }) : wpAny (model prog w) A (newList us) Q E s :=
  wpAny_newList (h _ _ us (fun b o e => Heap.get?_push_of_some _ e) ⟨0, Heap.get?_push_size _ rfl⟩ hi (none_ge (Nat.le_refl _))) (by rw [sizeLine_eq]; omega)
theorem cells_c {w : World} {env : Env} {mean : ExcName → Option Value} {mg mb : Str → Option Value} {s : Shared} {Q : Value → Shared → Prop} {E : Value → Shared → Prop} {l : Addr} {vs : List Value} {ns : List Int}
    (X : (hd.heap_1 w.params).In s.heap) (T : Top Mine.view (looseW Mine.view [Str.ofString "_NodeInfo"]) mean mg mb s.heap)
    (hl : s.heap.IsList l vs.toArray) (hI : IntsAre vs ns) (hn : ns.length ≤ 1000)
    (h : ∀ D h' tk us cs, h'.IsList D us.toArray → IntsAre us cs → cs.length = 5 → Ext s.heap h' → s.heap.get? D = none → Q (.ref D) { s with heap := h', toks := tk }) :
    wpAny (model PySem.Challenge.rw_nb0259_01.row.prog w) (callerA.deeper env) (call (.ref 175) [.ref l]) Q E s := by
  revert X; k_fill; intro X
  refine wpAny_call ?_
  (refine' code_base ?k3 ?k5 ?k6 ?k7 ?k8 ?k9 ?kB ?_ ?c2 ?c3 ?c4 ?c5; (case k3 => k_asm); (case k5 => k_asm); (case k6 => k_is); (case k7 => k_is); (case k8 => k_room); (case k9 => exact BindsTo.of_eq rfl); (case c5 => decide); (case kB => exact locs rfl); (case c2 => exact rfl); (case c3 => exact rfl); (case c4 => exact rfl); k_whole; intro L' h' tk' F' N'; (try dsimp only))
  clear N'
  have hlL : l ≠ L' := fun q => by obtain ⟨o, ho, _⟩ := hl; exact absurd (Heap.lt_size ho) (Nat.not_lt.mpr (q ▸ F'.above))
  iterate 14 walk_at "w"
  refine newList_ints (ns := [382, 916, 703, 254, 620]) (.cons _ _ (.cons _ _ (.cons _ _ (.cons _ _ (.cons _ _ .nil))))) (by simp) fun h1 D us1 k1 e1 hi1 nD => ?_
  refine sto_any rfl rfl (Fr.grownK F' k1) fun h2 m2 F2 tr n2 k2 => ?_
  replace k2 : Sub [L'] h1 h2 := k2
  replace F2 : Fr s.heap L' h2 m2 := F2
  have n1 := tr _ _ (show (fun y => ([(Str.ofString "script", Value.ref l)] : List (Str × Value)).reverse.lookup y) (Str.ofString "script") = some (.ref l) from rfl) (by decide)
  have hDL : D ≠ L' := fun q => by obtain ⟨o, e⟩ := fr_alive F'; rw [← q, nD] at e; cases e
  have hD0 : s.heap.get? D = none := by
    cases e : s.heap.get? D with
    | none => rfl
    | some o => rw [F'.keep _ _ e] at nD; cases nD
  have e2 := PlainList.keep e1 fun o e => k2 _ o (by simpa using hDL) e
  have l2 : h2.IsList l vs.toArray := hl.at fun o e => F2.keep _ o e
  clear F' tr k1 e1 k2
  dsimp only
  walk1
  refine wpAny_For ?_
  iterate 11 walk_at "w"
  refine slice_own (s := { s with heap := h2, toks := _ }) l2 .none (.int _ _) (fun h3 S3 k3 hS3 nS3 _ _ => ?_) (by rw [List.size_toArray, hI.length, sizeLine_eq]; omega)
  replace k3 : Ext h2 h3 := k3
  replace nS3 : h2.get? S3 = none := nS3
  have hS3' : h3.PlainList S3 (vs.take 60).toArray := by
    have e : (60 : Int) = ((60 : Nat) : Int) := rfl
    rw [e, slicePick_upto'] at hS3
    simpa using hS3
  have hIs : IntsAre (vs.take 60) (ns.take 60) := hI.take 60
  have hSL : S3 ≠ L' := fun q => by obtain ⟨o, e⟩ := fr_alive F2; rw [← q, nS3] at e; cases e
  have hSD : S3 ≠ D := fun q => by obtain ⟨n, e⟩ := e2; rw [← q, nS3] at e; cases e
  have hS0 : s.heap.get? S3 = none := by
    cases e : s.heap.get? S3 with
    | none => rfl
    | some o => rw [F2.keep _ _ e] at nS3; cases nS3
  have F3 := Fr.grownK F2 k3
  have e3 := PlainList.keep e2 fun o e => k3 _ o e
  clear F2 e2 l2 k3 hS3
  dsimp only
  iterate 1 walk_at "w"
  refine call_enumerate_list hS3'.isList fun h4 he4 hit4 hz4 k4 => ?_
  replace k4 : Ext h3 h4 := k4
  refine wpAny_pyIter_enum he4 ?_
  have F4 := Fr.grownK F3 k4
  have e4 := PlainList.keep e3 fun o e => k4 _ o e
  have lt : ∀ a o, h3.get? a = some o → a < h3.objs.size := fun a o e => Heap.lt_size e
  have oL : L' < h3.objs.size := F3.ns.lt
  have oS : S3 < h3.objs.size := by obtain ⟨n, e⟩ := hS3'; exact lt _ _ e
  have oD : D < h3.objs.size := by obtain ⟨n, e⟩ := e3; exact lt _ _ e
  have ne0 : ∀ a, a < h3.objs.size → a ≠ h3.objs.size ∧ a ≠ h3.objs.size + 1 := fun a ha => ⟨Nat.ne_of_lt ha, Nat.ne_of_lt (Nat.lt_succ_of_lt ha)⟩
  have s0 : ∀ k, s.heap.get? (h3.objs.size + k) = none := fun k => none_ge (Nat.le_trans F3.above (Nat.le_trans (Nat.le_of_lt oL) (Nat.le_add_right _ _)))
  dsimp only
  refine for_enum (s := ⟨h4, _, _, _, _⟩) (g := s.heap) (l := S3) rfl rfl rfl rfl (by decide) (Nat.succ_ne_self _) (ne0 _ oL).2.symm (ne0 _ oL).1.symm hSL (ne0 _ oS).2 (ne0 _ oS).1 he4 hit4 (hS3'.isList.at fun o e => k4 _ o e) F4 (s0 1) (s0 0)
    (fun i h m => m (Str.ofString "cells") = some (.ref D) ∧ ∃ us cs, h.IsList D us.toArray ∧ IntsAre us cs ∧ cs.length = 5) ⟨n2, us1, _, e4.isList, hi1, rfl⟩ ?stab ?step ?fin
  case stab =>
    rintro i h m h' m' ⟨q1, us, cs, q2, q3, q4⟩ k hm
    exact ⟨(hm _ (by decide) (by decide)).trans q1, us, cs, q2.at fun o e => k _ o hDL (ne0 _ oD).2 (ne0 _ oD).1 e, q3, q4⟩
  case fin =>
    rintro h5 m5 tk5 F5 ⟨q1, us, cs, q2, q3, q4⟩
    dsimp only
    iterate 3 walk_at "w"
    exact h D h5 _ us cs q2 q3 q4 F5.keep hD0
  case step =>
    rintro i v tk tk' h5 m5 E5 hv ⟨q1, us, cs, q2, q3, q4⟩ F5 hk hx
    obtain ⟨x, tx, hxn, rfl⟩ := ints_at hIs hv
    have l5 := q2
    iterate 7 walk_at "w"
    have hm0 : 0 ≤ Int.fmod (i : Int) 5 ∧ Int.fmod (i : Int) 5 < 5 := by
      rw [Int.fmod_eq_emod_of_nonneg _ (by decide)]; omega
    obtain ⟨j, hj, hj5⟩ : ∃ j : Nat, Int.fmod (i : Int) 5 = (j : Int) ∧ j < 5 := ⟨(Int.fmod (i : Int) 5).toNat, by omega, by omega⟩
    rw [hj]
    have hcj : cs[j]? = some cs[j] := List.getElem?_eq_getElem (by omega)
    obtain ⟨tj, htj⟩ := q3.get j _ hcj
    refine PySem.wpAny_getItem_list l5 (by omega) (by omega) (by simpa using htj) ?_
    refine wpAny_mono (Q := fun v s' => ∃ y ty tk2, v = .int y ty ∧ s' = { s with heap := h5, toks := tk2 }) ?val ?rest fun _ _ e => e
    case val =>
      iterate 9 walk_at "w"
      iterate 6 walk_at "w"
      refine if_both ?_ ?_
      · walk_at "nm"
        exact ⟨_, _, _, rfl, rfl⟩
      · iterate 7 walk_at "w"
        exact ⟨_, _, _, rfl, rfl⟩
    case rest =>
      rintro v s6 ⟨y, ty, tk2, rfl, rfl⟩
      iterate 1 walk_at "w"
      refine PySem.wpAny_setItem_list l5 (by omega) (by omega) (by rw [List.size_toArray, q3.length]; omega) fun h6 l6 s6 => ?_
      replace s6 : Heap.SameBut D h5 h6 := s6
      have F6 : Fr s.heap L' h6 m5 := ⟨F5.ns.sameBut s6 (Ne.symm hDL), fun b o e => s6.extBut b o (fun z => by rw [z, hD0] at e; cases e) (F5.keep b o e), F5.above⟩
      walk_at "w"
      refine ⟨rfl, h6, m5, _, rfl, F6, ⟨q1, us.set j _, cs.set j _, by simpa using l6, ints_set q3, by simpa using q4⟩, fun b o hb e => s6.extBut b o ?_ e⟩
      rcases hb with rfl | rfl | rfl
      · exact (ne0 _ oD).2.symm
      · exact (ne0 _ oD).1.symm
      · exact hSD
end Mine
end
section
open PySem PySem.W PyProof.Rows
set_option Elab.async false
set_option maxRecDepth 100000
set_option maxHeartbeats 8000000
namespace Mine
local macro_rules | `(tactic| walk_at "nm") => `(tactic| (with_reducible show wpAny _ _ (eval (Expr.Name _ _) _) _ _ _); first
  | (with_unfolding_all refine nm_local (by assumption) (by assumption) ?_ rfl rfl (by decide))
  | (refine nm_built (by assumption) (by k_asm) (by k_asm) (by k_is) (by boot_by_name) (by decide) ?_ rfl rfl rfl rfl (by decide)))
local macro_rules | `(tactic| walk_at "w") => `(tactic| first | walk_at "nm" | walk1)
/-- the needs while they are built -/
structure NB (g : Heap) (L D : Addr) (as : List Addr) (h : Heap) (G : Nat → List Int) : Prop where
  dl : h.PlainList D (as.map Value.ref).toArray
  ls : ∀ i a, as[i]? = some a → ∃ vs : List Value, h.PlainList a vs.toArray ∧ IntsAre vs (G i)
  lo : ∀ n, n < 5 → ∀ o ∈ G n, 0 ≤ o ∧ o < 5
structure NF (g : Heap) (L D : Addr) (as : List Addr) : Prop where
  len : as.length = 5
  nd : as.Nodup
  aL : ∀ a ∈ as, a ≠ L
  aD : ∀ a ∈ as, a ≠ D
  ag : ∀ a ∈ as, g.get? a = none
  dL : D ≠ L
  dg : g.get? D = none
theorem NB.keep {g : Heap} {L D : Addr} {as : List Addr} {h h' : Heap} {G : Nat → List Int} (q : NB g L D as h G) (k : ∀ a o, (a = D ∨ a ∈ as) → h.get? a = some o → h'.get? a = some o) : NB g L D as h' G :=
  ⟨PlainList.keep q.dl fun o e => k _ o (.inl rfl) e, fun i a ha => let ⟨vs, e, r⟩ := q.ls i a ha; ⟨vs, PlainList.keep e fun o e => k _ o (.inr (List.mem_of_getElem? ha)) e, r⟩, q.lo⟩
theorem NB.loc {g : Heap} {L D : Addr} {as : List Addr} {h h' : Heap} {G : Nat → List Int} (q : NB g L D as h G) (f : NF g L D as) (k : Sub [L] h h') : NB g L D as h' G :=
  q.keep fun a o ha e => k a o (by rcases ha with rfl | ha; simpa using f.dL; simpa using f.aL a ha) e
/-- one name more for j -/
def put (G : Nat → List Int) (j : Nat) (x : Int) : Nat → List Int := fun n => if n = j then G j ++ [x] else G n
theorem NB.put {g : Heap} {L D a : Addr} {as : List Addr} {h h' : Heap} {G : Nat → List Int} {j : Nat} {x : Int} {vs : List Value} (q : NB g L D as h G) (f : NF g L D as) (ha : as[j]? = some a) (k : Heap.SameBut a h h') (e : h'.PlainList a vs.toArray) (hv : IntsAre vs (G j ++ [x])) (hx : 0 ≤ x ∧ x < 5) : NB g L D as h' (put G j x) := by
  refine ⟨PlainList.keep q.dl fun o e => k.extBut _ o (f.aD a (List.mem_of_getElem? ha)).symm e, fun i b hb => ?_, fun n hn o ho => ?_⟩
  · by_cases hij : i = j
    · subst hij
      rw [ha] at hb; cases hb
      exact ⟨vs, e, by simpa [Mine.put] using hv⟩
    · obtain ⟨us, e', r⟩ := q.ls i b hb
      refine ⟨us, PlainList.keep e' fun o e => k.extBut _ o (fun z => ?_) e, by simpa [Mine.put, hij] using r⟩
      subst z
      exact hij ((List.getElem?_inj (by rw [List.getElem?_eq_some_iff] at hb; exact hb.1) f.nd).mp (hb.trans ha.symm))
  · unfold Mine.put at ho
    split at ho
    · rename_i h; subst h
      rcases List.mem_append.mp ho with z | z
      · exact q.lo n hn o z
      · rw [List.mem_singleton.mp z]; exact hx
    · exact q.lo n hn o ho
abbrev nilObj : Obj := { cls := .type "list", data := .seq ([] : List Value).toArray }
theorem five_lists (h : Heap) {H : Heap} (hH : H = (((((h.push nilObj).push nilObj).push nilObj).push nilObj).push nilObj).push { cls := .type "list", data := .seq ([h.objs.size, h.objs.size + 1, h.objs.size + 2, h.objs.size + 3, h.objs.size + 4].map Value.ref).toArray }) :
    Ext h H ∧ H.PlainList (h.objs.size + 5) ([h.objs.size, h.objs.size + 1, h.objs.size + 2, h.objs.size + 3, h.objs.size + 4].map Value.ref).toArray ∧ ∀ a ∈ [h.objs.size, h.objs.size + 1, h.objs.size + 2, h.objs.size + 3, h.objs.size + 4], H.PlainList a ([] : List Value).toArray := by
  subst hH
  have p : ∀ (h : Heap) (o : Obj) (n : Nat), h.objs.size = n → o.isFreed = false → (h.push o).get? n = some o ∧ (h.push o).objs.size = n + 1 := fun h o n e hf => ⟨e ▸ Heap.get?_push_size h hf, by rw [Heap.size_push, e]⟩
  have up : ∀ (h : Heap) (o : Obj), Ext h (h.push o) := fun h o b x e => Heap.get?_push_of_some _ e
  obtain ⟨a0, z0⟩ := p h nilObj _ rfl rfl
  obtain ⟨a1, z1⟩ := p (h.push nilObj) nilObj _ z0 rfl
  obtain ⟨a2, z2⟩ := p _ nilObj _ z1 rfl
  obtain ⟨a3, z3⟩ := p _ nilObj _ z2 rfl
  obtain ⟨a4, z4⟩ := p _ nilObj _ z3 rfl
  obtain ⟨a5, z5⟩ := p _ { cls := .type "list", data := .seq ([h.objs.size, h.objs.size + 1, h.objs.size + 2, h.objs.size + 3, h.objs.size + 4].map Value.ref).toArray } _ z4 rfl
  refine ⟨fun b o e => up _ _ _ _ (up _ _ _ _ (up _ _ _ _ (up _ _ _ _ (up _ _ _ _ (up _ _ _ _ e))))), ⟨0, a5⟩, fun a ha => ?_⟩
  simp only [List.mem_cons, List.not_mem_nil, or_false] at ha
  rcases ha with rfl | rfl | rfl | rfl | rfl
  · exact ⟨0, up _ _ _ _ (up _ _ _ _ (up _ _ _ _ (up _ _ _ _ (up _ _ _ _ a0))))⟩
  · exact ⟨0, up _ _ _ _ (up _ _ _ _ (up _ _ _ _ (up _ _ _ _ a1)))⟩
  · exact ⟨0, up _ _ _ _ (up _ _ _ _ (up _ _ _ _ a2))⟩
  · exact ⟨0, up _ _ _ _ (up _ _ _ _ a3)⟩
  · exact ⟨0, up _ _ _ _ a4⟩
theorem range2 {prog : Program} {w : World} {A : Around} {E : Value → Shared → Prop} {s : Shared} {Q : Value → Shared → Prop} {a b : Int} {t u : Tok} {n : Nat} (ha : 0 ≤ a) (hn : b = a + n) (hz : a + n ≤ 1000000)
    (h : ∀ h' tk, Ext s.heap h' → IsRangeIter h' (s.heap.objs.size + 1) (a + (0 : Nat) * 1) ((n : Int) - (0 : Nat)) 1 → Q (.ref (s.heap.objs.size + 1)) { s with heap := h', toks := tk }) :
    wpAny (model prog w) A (call (.type "range") [.int a t, .int b u]) (fun xv s₁ => wpAny (model prog w) A (pyIter xv) Q E s₁) E s := by
  subst hn
  refine call_range_2 ?_
  refine wpAny_pyIter_range (IsRange.new ..) (small_one (by omega) (by omega) (by omega) (by omega)) ?_
  have e1 : Builtin.Range.rangeSize a (a + n) 1 = (n : Int) := by rw [rangeSize_one]; split <;> omega
  rw [e1]
  dsimp only
  have := Heap.get?_push_size (s.heap.push { cls := .type "range", data := .fields #[.int a t, .int (a + n) u, .int 1 s.toks] }) (o := { cls := .type "range_iterator", data := .fields #[rawInt a, rawInt n, rawInt 1] }) rfl
  rw [Heap.size_push] at this ⊢
  exact h _ _ (fun b o e => Heap.get?_push_of_some _ (Heap.get?_push_of_some _ e)) (by simpa using this)
theorem asg_any {prog : Program} {w : World} {A : Around} {E : Value → Shared → Prop} {s : Shared} {g : Heap} {env : Env} {m : Str → Option Value} {x : Str} {px : Pos} {v : Value} {Q : Unit → Shared → Prop} (hx : env.kindOf x = some .local) (hk : env.scope.kind = .function) (F : Fr g env.locals s.heap m)
    (h : ∀ h' m', Fr g env.locals h' m' → (∀ y u, m y = some u → y ≠ x → m' y = some u) → m' x = some v → Sub [env.locals] s.heap h' → Q () { s with heap := h', toks := s.toks + 1 }) : wpAny (model prog w) A (assign (.Name x px) env v) Q E s :=
  asg_local hx hk F fun h' F' k => h h' _ F' (fun y u e hy => (if_neg hy).trans e) (if_pos rfl) k
theorem sum_own {prog : Program} {w : World} {A : Around} {E : Value → Shared → Prop} {s : Shared} {l : Addr} {vs : List Value} {ns : List Int} {Q : Value → Shared → Prop} (hh : A.handled = none) (hl : s.heap.IsList l vs.toArray) (hi : IntsAre vs ns)
    (h : ∀ h' tk y t', Ext s.heap h' → Q (.int y t') { s with heap := h', toks := tk }) : wpAny (model prog w) A (call (.builtin "sum") [.ref l]) Q E s := by
  obtain ⟨xs, hx⟩ := hi.allInts.items
  rw [hx] at hl
  exact sum_intListG hh hl fun h' tk t' hk => h h' tk _ t' hk
theorem pow_small : ∀ e : Nat, e < 5 → (10 : Int) ^ e ≠ 0 ∧ ((10 : Int) ^ e).natAbs < 1073741824 := by decide
theorem fr_at {g : Heap} {L a : Addr} {h h' : Heap} {m : Str → Option Value} (F : Fr g L h m) (k : Heap.SameBut a h h') (haL : a ≠ L) (hg : g.get? a = none) : Fr g L h' m := kas_fr F k haL hg
theorem needs_c {w : World} {env : Env} {mean : ExcName → Option Value} {mg mb : Str → Option Value} {s : Shared} {Q : Value → Shared → Prop} {E : Value → Shared → Prop} {l : Addr} {vs : List Value} {cs : List Int}
    (X : (hd.heap_1 w.params).In s.heap) (T : Top Mine.view (looseW Mine.view [Str.ofString "_NodeInfo"]) mean mg mb s.heap)
    (hl : s.heap.IsList l vs.toArray) (hI : IntsAre vs cs) (hn : cs.length = 5)
    (h : ∀ D h' tk G, NeedsAt h' D G → (∀ n, n < 5 → ∀ o ∈ G n, 0 ≤ o ∧ o < 5) → (∀ n, (G n).length ≤ 10) → Ext s.heap h' → Q (.ref D) { s with heap := h', toks := tk }) :
    wpAny (model PySem.Challenge.rw_nb0259_01.row.prog w) (callerA.deeper env) (call (.ref 182) [.ref l]) Q E s := by
  revert X; k_fill; intro X
  refine wpAny_call ?_
  (refine' code_base ?k3 ?k5 ?k6 ?k7 ?k8 ?k9 ?kB ?_ ?c2 ?c3 ?c4 ?c5; (case k3 => k_asm); (case k5 => k_asm); (case k6 => k_is); (case k7 => k_is); (case k8 => k_room); (case k9 => exact BindsTo.of_eq rfl); (case c5 => decide); (case kB => exact locs rfl); (case c2 => exact rfl); (case c3 => exact rfl); (case c4 => exact rfl); k_whole; intro L' h' tk' F' N'; (try dsimp only))
  clear N'
  refine wp_hide fun QF EF hqF _ => ?_
  iterate 6 walk_at "w"
  refine wpAny_newList ?_
  iterate 3 walk_at "w"
  refine wpAny_newList ?_
  iterate 3 walk_at "w"
  refine wpAny_newList ?_
  iterate 3 walk_at "w"
  refine wpAny_newList ?_
  iterate 3 walk_at "w"
  refine wpAny_newList ?_
  walk_at "w"
  refine wpAny_newList ?_
  simp only [Heap.size_push]
  obtain ⟨H, hH⟩ : ∃ H, H = (((((h'.push nilObj).push nilObj).push nilObj).push nilObj).push nilObj).push { cls := .type "list", data := .seq ([h'.objs.size, h'.objs.size + 1, h'.objs.size + 2, h'.objs.size + 3, h'.objs.size + 4].map Value.ref).toArray } := ⟨_, rfl⟩
  obtain ⟨k1, e1, f1⟩ := five_lists h' hH
  have oL : L' < h'.objs.size := F'.ns.lt
  have s0 : ∀ k, s.heap.get? (h'.objs.size + k) = none := fun k => none_ge (Nat.le_trans F'.above (Nat.le_trans (Nat.le_of_lt oL) (Nat.le_add_right _ _)))
  obtain ⟨as, has⟩ : ∃ as : List Addr, as = [h'.objs.size, h'.objs.size + 1, h'.objs.size + 2, h'.objs.size + 3, h'.objs.size + 4] := ⟨_, rfl⟩
  have nf : NF s.heap L' (h'.objs.size + 5) as := by
    subst has
    refine ⟨rfl, ?_, ?_, ?_, ?_, Nat.ne_of_gt (Nat.lt_add_right 5 oL), s0 5⟩
    · simp
    · intro a ha
      simp only [List.mem_cons, List.not_mem_nil, or_false] at ha
      rcases ha with rfl | rfl | rfl | rfl | rfl
      · exact Nat.ne_of_gt oL
      all_goals exact Nat.ne_of_gt (Nat.lt_add_right _ oL)
    · intro a ha
      simp only [List.mem_cons, List.not_mem_nil, or_false] at ha
      rcases ha with rfl | rfl | rfl | rfl | rfl <;> simp
    · intro a ha
      simp only [List.mem_cons, List.not_mem_nil, or_false] at ha
      rcases ha with rfl | rfl | rfl | rfl | rfl
      · exact s0 0
      · exact s0 1
      · exact s0 2
      · exact s0 3
      · exact s0 4
  rw [← has] at e1 f1
  have nb1 : NB s.heap L' (h'.objs.size + 5) as H (fun _ => []) := ⟨e1, fun i a ha => ⟨[], f1 a (List.mem_of_getElem? ha), IntsAre.nil⟩, by simp⟩
  have F1 := Fr.grownK F' k1
  subst hH
  refine sto_any (v := .ref (h'.objs.size + 5)) rfl rfl F1 fun h2 m2 F2 tr n2 k2 => ?_
  have nb2 := nb1.loc nf k2
  replace F2 : Fr s.heap L' h2 m2 := F2
  have n1 := tr _ _ (show (fun y => ([(Str.ofString "cells", Value.ref l)] : List (Str × Value)).reverse.lookup y) (Str.ofString "cells") = some (.ref l) from rfl) (by decide)
  clear F' F1 k1 k2 nb1 f1 e1 tr
  generalize h'.objs.size + 5 = D at *
  clear has s0 oL
  dsimp only
  iterate 3 walk_at "w"
  refine sto_any rfl rfl F2 fun h3 m3 F3 tr n3 k3 => ?_
  have nb3 := nb2.loc nf k3
  replace F3 : Fr s.heap L' h3 m3 := F3
  replace n1 := tr _ _ n1 (by decide)
  replace n2 := tr _ _ n2 (by decide)
  clear F2 k3 nb2 tr
  dsimp only
  walk1
  refine wpAny_For (src_range (k := 5) (by decide) ?hname ?he (by with_unfolding_all rfl) fun a1 a2 a3 tk4 => ?_)
  case hname => intro Q' q; walk_at "nm"; exact q
  case he => intro Q' q; walk1; exact q _ _
  obtain ⟨r1, r2, r3⟩ := rg_ok (k := 5) (a := a1) (b := a2) (c := a3) (h := h3)
  dsimp only at r1 r2 r3 ⊢
  generalize (h3.push (rgObj 5 a1 a2 a3)).push (riObj 5) = h4 at r1 r2 r3 ⊢
  have F4 := Fr.grownK F3 r2
  have nb4 := nb3.keep fun a o _ e => r2 a o e
  have oL : L' < h3.objs.size := F3.ns.lt
  have aI : ∀ a, (a = D ∨ a ∈ as) → a ≠ h3.objs.size + 1 := fun a ha => by
    have : a < h3.objs.size := by
      rcases ha with rfl | ha
      · obtain ⟨n, e⟩ := nb3.dl; exact Heap.lt_size e
      · obtain ⟨i, hi⟩ := List.getElem?_of_mem ha
        obtain ⟨vs, ⟨n, e⟩, _⟩ := nb3.ls i a hi
        exact Heap.lt_size e
    exact Nat.ne_of_lt (Nat.lt_succ_of_lt this)
  have hLI : L' ≠ h3.objs.size + 1 := Nat.ne_of_lt (Nat.lt_succ_of_lt oL)
  have gI : s.heap.get? (h3.objs.size + 1) = none := none_ge (Nat.le_trans F3.above (Nat.le_trans (Nat.le_of_lt oL) (Nat.le_succ _)))
  clear F3 nb3 oL
  generalize h3.objs.size + 1 = I at *
  refine for_own (s := ⟨h4, _, _, _, _⟩) (Walks.range (A := (callerA.deeper env).deeper _) rfl I 0 1 5)
    (fun i s' => ∃ h m tk G k tk0, s' = { s with heap := h, toks := tk } ∧ Fr s.heap L' h m ∧ m (Str.ofString "cells") = some (.ref l) ∧ m (Str.ofString "needs") = some (.ref D) ∧ m (Str.ofString "k") = some (.int k tk0) ∧ (0 ≤ k ∧ k ≤ 4 * i) ∧
      NB s.heap L' D as h G ∧ ∀ j, (G j).length ≤ 2 * min i j) r3 ⟨h4, _, _, _, 0, _, rfl, F4, n1, n2, n3, ⟨by omega, by omega⟩, nb4, by simp⟩ ?turn ?fin
  case fin =>
    rintro s1 h5 tk5 ⟨h6, m, tk, G, k, tk0, rfl, F, m1, m2, m3, hk, hN, hl2⟩ hs1
    have F5 : Fr s.heap L' h5 m := Fr_sub F hs1 (by simpa using hLI) (by intro a ha; rw [List.mem_singleton.mp ha]; exact gI)
    have N5 := hN.keep fun a o ha e => hs1 a o (by simpa using aI a ha) e
    clear F hN hs1 F4 nb4 r1 r2 r3
    have l5 : h5.IsList l vs.toArray := hl.at fun o e => F5.keep _ o e
    dsimp only
    iterate 9 walk_at "w"
    refine sum_own rfl l5 hI fun h7 tk7 sm ts k7 => ?_
    replace k7 : Ext h5 h7 := k7
    have F7 := Fr.grownK F5 k7
    have N7 := N5.keep fun a o _ e => k7 a o e
    clear F5 N5 l5 k7
    iterate 2 walk_at "w"
    obtain ⟨mo, hmo⟩ : ∃ mo, mo = Int.fmod sm 50 := ⟨_, rfl⟩
    rw [← hmo]
    have hmo0 : 0 ≤ mo := by rw [hmo, Int.fmod_eq_emod_of_nonneg _ (by decide)]; omega
    refine sto_any rfl rfl F7 fun h8 m8 F8 tr q6 k8 => ?_
    have N8 := N7.loc nf k8
    replace F8 : Fr s.heap L' h8 m8 := F8
    have q2 := tr _ _ m2 (by decide)
    clear F7 N7 k8 tr hmo
    have fin : ∀ h9 G9 tk9, NB s.heap L' D as h9 G9 → (∀ j, (G9 j).length ≤ 10) → Ext s.heap h9 → Q (.ref D) { s with heap := h9, toks := tk9 } := fun h9 G9 tk9 N9 hb he => by
      refine h D h9 tk9 G9 ⟨⟨as, nf.len, N9.dl.isList, fun i a ha => ?_⟩, fun i => Nat.le_trans (hb i) (by decide)⟩ N9.lo hb he
      obtain ⟨us, e, r⟩ := N9.ls i a ha
      exact ⟨us, e.isList, r⟩
    have hG8 : ∀ j, j < 5 → (G j).length ≤ 8 := fun j hj => by have := hl2 j; omega
    dsimp only
    iterate 7 walk_at "w"
    by_cases hlt : mo < 25
    · rw [if_pos (decide_eq_true hlt)]
      iterate 10 walk_at "w"
      have hm5 : 0 ≤ Int.fmod mo 5 ∧ Int.fmod mo 5 < 5 := by rw [Int.fmod_eq_emod_of_nonneg _ (by decide)]; omega
      obtain ⟨j, hj, hj5⟩ : ∃ j : Nat, Int.fmod mo 5 = (j : Int) ∧ j < 5 := ⟨(Int.fmod mo 5).toNat, by omega, by omega⟩
      rw [hj]
      obtain ⟨a0, ha0⟩ : ∃ a0, as[j]? = some a0 := ⟨as[j]'(by rw [nf.len]; exact hj5), List.getElem?_eq_getElem _⟩
      have ham := List.mem_of_getElem? ha0
      obtain ⟨us, ee, hus⟩ := N8.ls j a0 ha0
      have ll := N8.dl.isList
      have hlen := hG8 j hj5
      refine item_list (x := .ref a0) ll (by omega) (by omega) (by simp [ha0]) ?_
      refine meth_list PySem.F.slot_list_append PySem.F.type_list_append ee ?_
      iterate 7 walk_at "w"
      have hd5 : 0 ≤ Int.fdiv mo 5 ∧ Int.fdiv mo 5 < 5 := by rw [Int.fdiv_eq_ediv_of_nonneg _ (by decide)]; omega
      refine wpAny_list_append_plain ee (fun hx ex sx => ?_) (by rw [List.size_toArray, hus.length, sizeLine_eq]; omega)
      replace sx : Heap.SameBut a0 h8 hx := sx
      have Nx := N8.put (x := Int.fdiv mo 5) (vs := us ++ [.int (Int.fdiv mo 5) _]) nf ha0 sx (by simpa using ex) (IntsAre.append hus (IntsAre.cons _ _ IntsAre.nil)) hd5
      have Fx := fr_at F8 sx (nf.aL a0 ham) (nf.ag a0 ham)
      iterate 4 walk_at "w"
      refine hqF _ _ ?_
      refine fin hx (put G j (Int.fdiv mo 5)) _ Nx (fun j' => ?_) Fx.keep
      unfold put
      split
      · rw [List.length_append, List.length_singleton]; omega
      · have := hl2 j'; omega
    · rw [if_neg (fun q => hlt (of_decide_eq_true q))]
      iterate 5 walk_at "w"
      refine hqF _ _ ?_
      refine fin h8 G _ N8 (fun j => by have := hl2 j; omega) F8.keep
  case turn =>
    rintro i v s1 h5 tk5 E' hi ⟨t0, rfl⟩ ⟨h, m, tk, G, k, tk0, rfl, F, m1, m2, m3, hk, hN, hl2⟩ hst hs1
    have ei : (0 + (i : Int) * 1) = (i : Int) := by omega
    rw [ei]
    have F5 : Fr s.heap L' h5 m := Fr_sub F hs1 (by simpa using hLI) (by intro a ha; rw [List.mem_singleton.mp ha]; exact gI)
    have N5 := hN.keep fun a o ha e => hs1 a o (by simpa using aI a ha) e
    refine asg_any (s := { s with heap := h5, toks := tk5 }) rfl rfl F5 fun h6 m6 F6 tr o4 k6 => ?_
    replace k6 : Sub [L'] h5 h6 := k6
    replace F6 : Fr s.heap L' h6 m6 := F6
    have N6 := N5.loc nf k6
    have o1 := tr _ _ m1 (by decide)
    have o2 := tr _ _ m2 (by decide)
    have o3 := tr _ _ m3 (by decide)
    have st6 := (Walks.range (prog := PySem.Challenge.rw_nb0259_01.row.prog) (w := w) (A := callerA) rfl I 0 1 5).frame _ _ h6 hst fun a ha o e => k6 a o (by rw [List.mem_singleton.mp ha]; simpa using hLI.symm) e
    clear tr
    clear F F5 hN N5 k6 hs1 hst m1 m2 m3 F4 nb4 r1 r2 r3 n1 n2 n3
    dsimp only
    refine wp_hide fun QT ET hqT _ => ?_
    iterate 2 walk1
    refine wpAny_For ?_
    iterate 11 walk_at "w"
    refine range2 (n := 4 - i) (by omega) (by omega) (by omega) fun h7 tk7 k7 it7 => ?_
    replace k7 : Ext h6 h7 := k7
    have F7 := Fr.grownK F6 k7
    have N7 := N6.keep fun a o _ e => k7 a o e
    have oL : L' < h6.objs.size := F6.ns.lt
    have oI : I < h6.objs.size := Heap.lt_size st6
    have st7 := k7 _ _ st6
    have aK : ∀ a, (a = D ∨ a ∈ as) → a ≠ h6.objs.size + 1 := fun a ha => by
      have : a < h6.objs.size := by
        rcases ha with rfl | ha
        · obtain ⟨n, e⟩ := N6.dl; exact Heap.lt_size e
        · obtain ⟨i, hi⟩ := List.getElem?_of_mem ha
          obtain ⟨vs, ⟨n, e⟩, _⟩ := N6.ls i a hi
          exact Heap.lt_size e
      exact Nat.ne_of_lt (Nat.lt_succ_of_lt this)
    have hLK : L' ≠ h6.objs.size + 1 := Nat.ne_of_lt (Nat.lt_succ_of_lt oL)
    have hIK : I ≠ h6.objs.size + 1 := Nat.ne_of_lt (Nat.lt_succ_of_lt oI)
    have gK : s.heap.get? (h6.objs.size + 1) = none := none_ge (Nat.le_trans F6.above (Nat.le_trans (Nat.le_of_lt oL) (Nat.le_succ _)))
    clear F6 N6 oL oI st6 k7
    dsimp only at it7 ⊢
    generalize h6.objs.size + 1 = K at *
    refine for_own (s := ⟨h7, _, _, _, _⟩) (Walks.range (A := (callerA.deeper env).deeper _) rfl K ((i : Int) + 1) 1 (4 - i))
      (fun jj s' => ∃ h m tk G k tk0, s' = { s with heap := h, toks := tk } ∧ Fr s.heap L' h m ∧ m (Str.ofString "cells") = some (.ref l) ∧ m (Str.ofString "needs") = some (.ref D) ∧ m (Str.ofString "k") = some (.int k tk0) ∧ m (Str.ofString "i") = some (.int (i : Int) t0) ∧ (0 ≤ k ∧ k ≤ 4 * i + jj) ∧
        NB s.heap L' D as h G ∧ (∀ j, (G j).length ≤ 2 * (if j < i + 1 + jj then min (i + 1) j else min i j)) ∧ IsRangeIter h I (0 + ((i + 1 : Nat) : Int) * 1) ((5 : Nat) - ((i + 1 : Nat) : Int)) 1) it7
      ⟨h7, m6, _, G, k, tk0, rfl, F7, o1, o2, o3, o4, ⟨hk.1, by have := hk.2; omega⟩, N7, fun j => ?_, st7⟩ ?turn2 ?fin2
    · have := hl2 j
      split
      · have e : min (i + 1) j = min i j := by omega
        omega
      · omega
    case fin2 =>
      rintro s2 h8 tk8 ⟨h, m, tk, G, k, tk0, rfl, F, m1, m2, m3, m4, hk2, hN, hl3, hst⟩ hs2
      have F8 : Fr s.heap L' h8 m := Fr_sub F hs2 (by simpa using hLK) (by intro a ha; rw [List.mem_singleton.mp ha]; exact gK)
      have N8 := hN.keep fun a o ha e => hs2 a o (by simpa using aK a ha) e
      dsimp only
      walk_at "w"
      refine hqT _ _ ?_
      refine ⟨⟨h8, m, _, G, k, tk0, rfl, F8, m1, m2, m3, ⟨hk2.1, by have := hk2.2; omega⟩, N8, fun j => ?_⟩, hs2 _ _ (by simpa using hIK) hst⟩
      have := hl3 j
      split at this
      · exact this
      · have e : min i j ≤ min (i + 1) j := by omega
        omega
    case turn2 =>
      rintro jj v s2 h8 tk8 E2 hjj ⟨t1, rfl⟩ ⟨h, m, tk, G, k, tk0, rfl, F, m1, m2, m3, m4, hk2, hN, hl3, hst⟩ hst2 hs2
      have ej : ((i : Int) + 1 + (jj : Int) * 1) = ((i + 1 + jj : Nat) : Int) := by omega
      rw [ej]
      obtain ⟨j0, hj0⟩ : ∃ j0, j0 = i + 1 + jj := ⟨_, rfl⟩
      rw [← hj0] at hl3 ⊢
      have hj5 : j0 < 5 := by omega
      have F8 : Fr s.heap L' h8 m := Fr_sub F hs2 (by simpa using hLK) (by intro a ha; rw [List.mem_singleton.mp ha]; exact gK)
      have N8 := hN.keep fun a o ha e => hs2 a o (by simpa using aK a ha) e
      have it8 := hs2 _ _ (by simpa using hIK) hst
      refine asg_any (s := { s with heap := h8, toks := tk8 }) rfl rfl F8 fun h9 m9 F9 tr p5 k9 => ?_
      replace k9 : Sub [L'] h8 h9 := k9
      replace F9 : Fr s.heap L' h9 m9 := F9
      have N9 := N8.loc nf k9
      have p1 := tr _ _ m1 (by decide)
      have p2 := tr _ _ m2 (by decide)
      have p3 := tr _ _ m3 (by decide)
      have p4 := tr _ _ m4 (by decide)
      have it9 := k9 _ _ (by simpa using hLI.symm) it8
      have jt9 := k9 _ _ (by simpa using hLK.symm) hst2
      clear F F8 hN N8 it8 hst hst2 hs2 k9 tr m1 m2 m3 m4 F7 N7 st7 it7 o1 o2 o3 o4
      have l9 : h9.IsList l vs.toArray := hl.at fun o e => F9.keep _ o e
      dsimp only
      refine wp_hide fun QU EU hqU _ => ?_
      iterate 2 walk1
      refine wpAny_mono (Q := fun f s' => f = .next ∧ ∃ h m tk y ty, s' = { s with heap := h, toks := tk } ∧ Fr s.heap L' h m ∧ m (Str.ofString "cells") = some (.ref l) ∧ m (Str.ofString "needs") = some (.ref D) ∧ m (Str.ofString "k") = some (.int k tk0) ∧ m (Str.ofString "i") = some (.int (i : Int) t0) ∧ m (Str.ofString "j") = some (.int (j0 : Int) t1) ∧ m (Str.ofString "figure") = some (.int y ty) ∧ Sub [L'] h9 h) ?fig ?rest1 fun _ _ e => e
      case fig =>
        refine wp_hide fun QG EG hqG _ => ?_
        iterate 12 walk_at "w"
        iterate 5 walk_at "w"
        have he5 : (Int.fdiv k 5).toNat < 5 := by rw [Int.fdiv_eq_ediv_of_nonneg _ (by decide)]; omega
        obtain ⟨q1, q2⟩ := pow_small _ he5
        refine PyProof.Rows.floordiv_int q1 ?_ (.inl (PyProof.noPylong_small q2))
        iterate 2 walk_at "w"
        refine sto_any rfl rfl F9 fun h10 m10 F10 tr p6 k10 => ?_
        refine hqG _ _ ?_
        exact ⟨rfl, h10, m10, _, _, _, rfl, F10, tr _ _ p1 (by decide), tr _ _ p2 (by decide), tr _ _ p3 (by decide), tr _ _ p4 (by decide), tr _ _ p5 (by decide), p6, k10⟩
      case rest1 =>
        rintro f s3 ⟨rfl, h10, m10, tk10, y, ty, rfl, F10, p1, p2, p3, p4, p5, p6, k10⟩
        have N10 := N9.loc nf k10
        have it10 := k10 _ _ (by simpa using hLI.symm) it9
        have jt10 := k10 _ _ (by simpa using hLK.symm) jt9
        clear F9 N9 it9 jt9 k10 l9
        obtain ⟨a0, ha0⟩ : ∃ a0, as[j0]? = some a0 := ⟨as[j0]'(by rw [nf.len]; exact hj5), List.getElem?_eq_getElem _⟩
        have ham := List.mem_of_getElem? ha0
        have hl4 : ∀ j, (G j).length ≤ if j = j0 then 2 * min i j0 + 0 else 2 * (if j < j0 then min (i + 1) j else min i j) := fun j => by
          have := hl3 j
          split
          · rename_i e; subst e; simpa using this
          · exact this
        dsimp only
        walk1
        refine wpAny_mono (Q := fun f s' => f = .next ∧ ∃ h tk G, s' = { s with heap := h, toks := tk } ∧ Fr s.heap L' h m10 ∧ NB s.heap L' D as h G ∧ (∀ j, (G j).length ≤ if j = j0 then 2 * min i j0 + 1 else 2 * (if j < j0 then min (i + 1) j else min i j)) ∧ IsRangeIter h I (0 + ((i + 1 : Nat) : Int) * 1) ((5 : Nat) - ((i + 1 : Nat) : Int)) 1 ∧ IsRangeIter h K ((i : Int) + 1 + ((jj + 1 : Nat) : Int) * 1) ((4 - i : Nat) - ((jj + 1 : Nat) : Int)) 1) ?if1 ?rest2 fun _ _ e => e
        case if1 =>
          refine wp_hide fun QG EG hqG _ => ?_
          iterate 6 walk_at "w"
          refine if_both ?_ ?_
          · obtain ⟨us, ee, hus⟩ := N10.ls j0 a0 ha0
            have ll := N10.dl.isList
            have hlen := hl4 j0
            rw [if_pos rfl] at hlen
            iterate 6 walk_at "w"
            refine item_list (x := .ref a0) ll (by omega) (by omega) (by simp [ha0]) ?_
            refine meth_list PySem.F.slot_list_append PySem.F.type_list_append ee ?_
            iterate 4 walk_at "w"
            refine wpAny_list_append_plain ee (fun hx ex sx => ?_) (by rw [List.size_toArray, hus.length, sizeLine_eq]; omega)
            replace sx : Heap.SameBut a0 h10 hx := sx
            have Nx := N10.put (x := (i : Int)) (vs := us ++ [.int (i : Int) t0]) nf ha0 sx (by simpa using ex) (IntsAre.append hus (IntsAre.cons _ _ IntsAre.nil)) ⟨by omega, by omega⟩
            iterate 1 walk_at "w"
            refine hqG _ _ ?_
            refine ⟨rfl, hx, _, put G j0 (i : Int), rfl, fr_at F10 sx (nf.aL a0 ham) (nf.ag a0 ham), Nx, fun j => ?_, sx.extBut _ _ (aI a0 (.inr ham)).symm it10, sx.extBut _ _ (aK a0 (.inr ham)).symm jt10⟩
            have := hl4 j
            unfold put
            by_cases ej : j = j0
            · subst ej
              rw [if_pos rfl] at this ⊢
              rw [if_pos rfl, List.length_append, List.length_singleton]; omega
            · rw [if_neg ej] at this ⊢
              rw [if_neg ej]; exact this
          · iterate 2 walk_at "w"
            refine hqG _ _ ?_
            refine ⟨rfl, h10, _, G, rfl, F10, N10, fun j => ?_, it10, jt10⟩
            have := hl4 j
            split
            · rename_i e; rw [if_pos e] at this; omega
            · rename_i e; rw [if_neg e] at this; exact this
        case rest2 =>
          rintro f s4 ⟨rfl, h11, tk11, G1, rfl, F11, N11, hl5, it11, jt11⟩
          clear F10 N10 it10 jt10 hl4 hl3
          dsimp only
          walk1
          refine wpAny_mono (Q := fun f s' => f = .next ∧ ∃ h tk G, s' = { s with heap := h, toks := tk } ∧ Fr s.heap L' h m10 ∧ NB s.heap L' D as h G ∧ (∀ j, (G j).length ≤ if j = j0 then 2 * min i j0 + 2 else 2 * (if j < j0 then min (i + 1) j else min i j)) ∧ IsRangeIter h I (0 + ((i + 1 : Nat) : Int) * 1) ((5 : Nat) - ((i + 1 : Nat) : Int)) 1 ∧ IsRangeIter h K ((i : Int) + 1 + ((jj + 1 : Nat) : Int) * 1) ((4 - i : Nat) - ((jj + 1 : Nat) : Int)) 1) ?if2 ?rest3 fun _ _ e => e
          case if2 =>
            refine wp_hide fun QG EG hqG _ => ?_
            iterate 6 walk_at "w"
            refine if_both ?_ ?_
            · obtain ⟨us, ee, hus⟩ := N11.ls j0 a0 ha0
              have ll := N11.dl.isList
              have hlen := hl5 j0
              rw [if_pos rfl] at hlen
              iterate 6 walk_at "w"
              refine item_list (x := .ref a0) ll (by omega) (by omega) (by simp [ha0]) ?_
              refine meth_list PySem.F.slot_list_append PySem.F.type_list_append ee ?_
              iterate 4 walk_at "w"
              refine wpAny_list_append_plain ee (fun hx ex sx => ?_) (by rw [List.size_toArray, hus.length, sizeLine_eq]; omega)
              replace sx : Heap.SameBut a0 h11 hx := sx
              have Nx := N11.put (x := (i : Int)) (vs := us ++ [.int (i : Int) t0]) nf ha0 sx (by simpa using ex) (IntsAre.append hus (IntsAre.cons _ _ IntsAre.nil)) ⟨by omega, by omega⟩
              iterate 1 walk_at "w"
              refine hqG _ _ ?_
              refine ⟨rfl, hx, _, put G1 j0 (i : Int), rfl, fr_at F11 sx (nf.aL a0 ham) (nf.ag a0 ham), Nx, fun j => ?_, sx.extBut _ _ (aI a0 (.inr ham)).symm it11, sx.extBut _ _ (aK a0 (.inr ham)).symm jt11⟩
              have := hl5 j
              unfold put
              by_cases ej : j = j0
              · subst ej
                rw [if_pos rfl] at this ⊢
                rw [if_pos rfl, List.length_append, List.length_singleton]; omega
              · rw [if_neg ej] at this ⊢
                rw [if_neg ej]; exact this
            · iterate 2 walk_at "w"
              refine hqG _ _ ?_
              refine ⟨rfl, h11, _, G1, rfl, F11, N11, fun j => ?_, it11, jt11⟩
              have := hl5 j
              split
              · rename_i e; rw [if_pos e] at this; omega
              · rename_i e; rw [if_neg e] at this; exact this
          case rest3 =>
            rintro f s5 ⟨rfl, h12, tk12, G2, rfl, F12, N12, hl6, it12, jt12⟩
            clear F11 N11 it11 jt11 hl5
            dsimp only
            iterate 2 walk_at "w"
            refine wpAny_loadName_local rfl rfl F12.ns p3 ?_
            iterate 2 walk_at "w"
            refine sto_any rfl rfl F12 fun h13 m13 F13 tr q3 k13 => ?_
            replace k13 : Sub [L'] h12 h13 := k13
            have N13 := N12.loc nf k13
            have it13 := k13 _ _ (by simpa using hLI.symm) it12
            have jt13 := k13 _ _ (by simpa using hLK.symm) jt12
            dsimp only
            walk_at "w"
            refine hqU _ _ ?_
            refine ⟨⟨h13, m13, _, G2, k + 1, _, rfl, F13, tr _ _ p1 (by decide), tr _ _ p2 (by decide), q3, tr _ _ p4 (by decide), ⟨by omega, by omega⟩, N13, fun j => ?_, it13⟩, jt13⟩
            have := hl6 j
            by_cases e1 : j = j0
            · rw [if_pos e1] at this
              rw [if_pos (by omega)]
              have : min (i + 1) j = min i j0 + 1 := by omega
              omega
            · rw [if_neg e1] at this
              by_cases e2 : j < j0
              · rw [if_pos e2] at this; rw [if_pos (by omega)]; exact this
              · rw [if_neg e2] at this; rw [if_neg (by omega)]; exact this
end Mine
end
section
open PySem PySem.W PyProof.Rows
set_option Elab.async false
set_option maxRecDepth 100000
set_option maxHeartbeats 4000000
namespace Mine
theorem ints_made : ∀ {os : List (Option Value)} {ns : List Int}, os.length = ns.length → (∀ (j : Nat) (o : Option Value) (n : Int), os[j]? = some o → ns[j]? = some n → ∃ t, o = some (.int n t)) → IntsAre (os.filterMap id) ns
  | [], ns, h, _ => by
    cases ns with
    | nil => exact IntsAre.nil
    | cons => simp at h
  | o :: os, [], h, _ => by simp at h
  | o :: os, n :: ns, h, hp => by
    have ih := ints_made (os := os) (ns := ns) (by simpa using h) fun j q k a b => hp (j + 1) q k (by simpa using a) (by simpa using b)
    obtain ⟨t, rfl⟩ := hp 0 o n rfl rfl
    simpa using IntsAre.cons n t ih
theorem lists_made {P : Nat → Addr → Prop} : ∀ {os : List (Option Value)}, (∀ (j : Nat) (o : Option Value), os[j]? = some o → ∃ a, o = some (.ref a) ∧ P j a) → ∃ as : List Addr, os.filterMap id = as.map Value.ref ∧ as.length = os.length ∧ ∀ i a, as[i]? = some a → P i a := by
  intro os
  induction os generalizing P with
  | nil => exact fun _ => ⟨[], rfl, rfl, by simp⟩
  | cons o os ih =>
    intro hp
    obtain ⟨as, e1, e2, e3⟩ := ih (P := fun j a => P (j + 1) a) fun j q a => hp (j + 1) q (by simpa using a)
    obtain ⟨a, rfl, ha⟩ := hp 0 o rfl
    refine ⟨a :: as, by simp [e1], by simp [e2], fun i b hb => ?_⟩
    cases i with
    | zero => simp at hb; subst hb; exact ha
    | succ i => exact e3 i b (by simpa using hb)
section
variable {prog : Program} {w : World} {A : Around} {E : Value → Shared → Prop} {env : Env} {s : Shared}
/-- what a comprehension goes over -/
def SrcOk (prog : Program) (w : World) (A : Around) (s : Shared) (n : Nat) (P : Nat → Value → Prop) (it : Value) (s₂ : Shared) : Prop :=
  ∃ I fp wr St h₂ t₂, it = .ref I ∧ s₂ = { s with heap := h₂, toks := t₂ } ∧ Walks prog w A I fp wr n P St ∧ St 0 h₂ ∧ (∀ b ∈ fp, b < h₂.objs.size) ∧ (∀ i h, St i h → ∀ b ∈ wr, ∃ o, h.get? b = some o) ∧ (∀ b ∈ wr, s.heap.get? b = none) ∧ Ext s.heap h₂ ∧ s.heap.objs.size ≤ h₂.objs.size
theorem SrcOk.list {l : Addr} {vs : Array Value} (hh : A.handled = none) (hl : s.heap.IsList l vs) : wpAny (model prog w) A (pyIter (.ref l)) (SrcOk prog w A s vs.size (fun i v => vs[i]? = some v)) E s := by
  have hlt : l < s.heap.objs.size := by obtain ⟨o, ho, _⟩ := hl; exact Heap.lt_size ho
  refine wpAny_pyIter_list hl ?_
  refine ⟨_, _, _, _, _, _, rfl, rfl, Walks.list hh _ l (Nat.ne_of_lt hlt) vs, ⟨⟨_, Heap.get?_push_size _ rfl, rfl, rfl⟩, hl.at fun o e => Heap.get?_push_of_some _ e⟩, ?_, ?_, ?_, fun b o e => Heap.get?_push_of_some _ e, by simp [Heap.size_push]⟩
  · intro b hb
    rw [Heap.size_push]
    rcases List.mem_cons.mp hb with rfl | hb
    · exact Nat.lt_succ_self _
    · rw [List.mem_singleton.mp hb]; exact Nat.lt_succ_of_lt hlt
  · rintro i h ⟨⟨o, st, _⟩, _⟩ b hb
    rw [List.mem_singleton.mp hb]; exact ⟨_, st⟩
  · intro b hb
    rw [List.mem_singleton.mp hb]; exact none_ge (Nat.le_refl _)
theorem SrcOk.range {k : Nat} {e : Expr} {rp rpos : Pos} (hh : A.handled = none) (hk : k ≤ 1000000)
    (hname : ∀ Q' : Value → Shared → Prop, Q' (.type "range") s → wpAny (model prog w) A (eval (.Name "range" rp) env) Q' E s)
    (he : ∀ Q' : Value → Shared → Prop, (∀ t tk, Q' (.int (k : Int) t) { s with toks := tk }) → wpAny (model prog w) A (eval e env) Q' E s)
    (hse : backTo rpos (starEach [e] env) = [(false, eval e env)]) :
    wpAny (model prog w) A (eval (.Call (.Name "range" rp) [e] [] rpos) env) (fun xv s₁ => wpAny (model prog w) A (pyIter xv) (SrcOk prog w A s k (fun i v => ∃ t, v = .int (i : Int) t)) E s₁) E s := by
  refine src_range hk hname he hse fun a b cc tk => ?_
  obtain ⟨e1, e2, e3⟩ := rg_ok (k := k) (a := a) (b := b) (c := cc) (h := s.heap)
  have W := Walks.range (prog := prog) (w := w) (A := A) hh (s.heap.objs.size + 1) 0 1 k
  have hp : (fun (i : Nat) (v : Value) => ∃ t, v = .int (0 + (i : Int) * 1) t) = fun (i : Nat) (v : Value) => ∃ t, v = .int (i : Int) t := by
    funext i v
    rw [show (0 + (i : Int) * 1) = (i : Int) by omega]
  rw [hp] at W
  refine ⟨_, _, _, _, _, _, rfl, rfl, W, e3, ?_, ?_, ?_, e2, by rw [e1]; exact Nat.le_add_right _ _⟩
  · intro q hq; rw [List.mem_singleton.mp hq, e1]; exact Nat.lt_succ_self _
  · intro i h st q hq; rw [List.mem_singleton.mp hq]; exact ⟨_, st⟩
  · intro q hq
    rw [List.mem_singleton.mp hq]
    exact none_ge (Nat.le_succ _)
variable {elt iter : Expr} {x y : Str} {px py : Pos} {scope : Scope} {cl : List (Str × Addr)} {pos spos : Pos} {n : Nat} {P : Nat → Value → Prop} {f : Nat → Int} {g : Nat → List Int} {h₀ : Heap} {m₀ : Str → Option Value}
abbrev FI (f : Nat → Int) : Nat → Heap → Value → Option Value → Prop := fun i _ _ o => ∃ t, o = some (.int (f i) t)
def FL (h₀ : Heap) (X : List Addr) (g : Nat → List Int) : Nat → Heap → Value → Option Value → Prop := fun i h _ o => ∃ a, o = some (.ref a) ∧ (∃ us : List Value, h.PlainList a us.toArray ∧ IntsAre us (g i)) ∧ a ∉ X ∧ h₀.get? a = none
theorem FL.mono {X : List Addr} {i : Nat} {h h' : Heap} {v : Value} {o : Option Value} (q : FL h₀ X g i h v o) (k : Sub X h h') : FL h₀ X g i h' v o :=
  let ⟨a, e, ⟨us, p, r⟩, n, z⟩ := q
  ⟨a, e, ⟨us, PlainList.keep p fun o e => k _ o n e, r⟩, n, z⟩
theorem Made.ints {D : Addr} {h' : Heap} {vs : List Value} {os : List (Option Value)} (M : Made n P (FI f) D h' vs os) : ∃ us : List Value, h'.PlainList D us.toArray ∧ IntsAre us ((List.range n).map f) := by
  refine ⟨_, M.at_, ints_made (by simp [M.lo]) fun j o k hj hk => ?_⟩
  have hjl : j < vs.length := by rw [M.lv, ← M.lo]; exact (List.getElem?_eq_some_iff.mp hj).1
  obtain ⟨t, e⟩ := M.out j vs[j] o (List.getElem?_eq_getElem hjl) hj
  have hjn : j < n := by rw [M.lv] at hjl; exact hjl
  have : k = f j := by simpa [hjn] using hk.symm
  exact ⟨t, this ▸ e⟩
/-- lists of ints in a list, all new -/
def Lists (h₀ h : Heap) (D : Addr) (n : Nat) (g : Nat → List Int) (as : List Addr) : Prop := h.PlainList D (as.map Value.ref).toArray ∧ as.length = n ∧ ∀ i a, as[i]? = some a → (∃ us : List Value, h.PlainList a us.toArray ∧ IntsAre us (g i)) ∧ h₀.get? a = none
theorem Made.lists {D : Addr} {h' : Heap} {vs : List Value} {os : List (Option Value)} {X : List Addr} (M : Made n P (FL h₀ X g) D h' vs os) : ∃ as, Lists h₀ h' D n g as := by
  obtain ⟨as, e1, e2, e3⟩ := lists_made (P := fun j a => (∃ us : List Value, h'.PlainList a us.toArray ∧ IntsAre us (g j)) ∧ h₀.get? a = none) (os := os) fun j o hj => by
    have hjl : j < vs.length := by rw [M.lv, ← M.lo]; exact (List.getElem?_eq_some_iff.mp hj).1
    obtain ⟨a, e, p, _, z⟩ := M.out j vs[j] o (List.getElem?_eq_getElem hjl) hj
    exact ⟨a, e, p, z⟩
  have hat := M.at_
  rw [e1] at hat
  exact ⟨as, hat, by rw [e2, M.lo], e3⟩
/-- the element gives an int -/
def ElI (prog : Program) (w : World) (A : Around) (s : Shared) (n : Nat) (P : Nat → Value → Prop) (f : Nat → Int) (x : Str) (elt : Expr) (cenv : Addr → Env) : Prop :=
  ∀ i v h tk m E' C (Q' : Value → Shared → Prop), i < n → P i v → Fr s.heap C h m → m x = some v → (∀ t h' tk', Ext h h' → Q' (.int (f i) t) { s with heap := h', toks := tk' }) →
    wpAny (model prog w) A (eval elt (cenv C)) Q' E' { s with heap := h, toks := tk }
/-- the element gives a new list -/
def ElL (prog : Program) (w : World) (A : Around) (s : Shared) (n : Nat) (P : Nat → Value → Prop) (g : Nat → List Int) (x : Str) (elt : Expr) (cenv : Addr → Env) : Prop :=
  ∀ i v h tk m E' C (Q' : Value → Shared → Prop), i < n → P i v → Fr s.heap C h m → m x = some v → (∀ a us h' tk', h'.PlainList a us.toArray → IntsAre us (g i) → h.get? a = none → Ext h h' → Q' (.ref a) { s with heap := h', toks := tk' }) →
    wpAny (model prog w) A (eval elt (cenv C)) Q' E' { s with heap := h, toks := tk }
theorem LCI {Q : Value → Shared → Prop} (hclos : closureFor scope env = pure cl) (hcell : ∀ y ∈ scope.names, y.2 ≠ .cell) (hkind : scope.kind = .function)
    (hnames : ∀ y ∈ scope.names, y.2 = .local → scope.names.lookup y.1 = some .local) (hx : scope.names.lookup x = some .local) (hsz : n ≤ 1000)
    (h : wpAny (model prog w) A (eval iter env) (fun xv s₁ => wpAny (model prog w) A (pyIter xv) (SrcOk prog w A s n P) E s₁) E s)
    (hel : ElI prog w A s n P f x elt fun C => compEnvC scope cl C env)
    (hQ : ∀ D h' tk us, h'.PlainList D us.toArray → IntsAre us ((List.range n).map f) → Ext s.heap h' → s.heap.get? D = none → Q (.ref D) { s with heap := h', toks := tk })
    (hs : ∀ x, foldedSetIterable iter env x = pure x := by intro _; rfl) :
    wpAny (model prog w) A (eval (.ListComp elt [⟨.Name x px, iter, [], 0⟩] scope pos) env) Q E s := by
  refine LC_local hclos hcell hkind hnames hx (wpAny_mono h (fun xv s₁ h₁ => wpAny_mono h₁ (fun it s₂ h₂ => ?_) fun _ _ e => e) fun _ _ e => e) hs
  obtain ⟨I, fp, wr, St, h₂, t₂, e1, e2, W, e3, e4, e5, e6, e7, e8⟩ := h₂
  refine ⟨I, fp, wr, n, P, St, h₂, t₂, FI f, e1, e2, W, by rw [sizeLine_eq]; omega, e3, e4, e5, e6, e7, e8, fun _ _ _ _ _ q _ => q, ?_, ?_⟩
  · intro i v h tk m E' hi hP F hm hX
    exact turn_nil (hel i v h tk m E' _ _ hi hP F hm fun t h' tk' k => ⟨_, _, rfl, ⟨t, rfl⟩, k⟩)
  · intro h' tk vs os hM hext hnone
    obtain ⟨us, p, r⟩ := hM.ints
    exact hQ _ h' tk us p r hext hnone
theorem LCI_to {Q : Flow → Shared → Prop} (hsw : swapsWith (.ListComp elt [⟨.Name x px, iter, [], 0⟩] scope pos) (some (.Name y py)) spos.line env = pure true)
    (hclos : closureFor scope env = pure cl) (hcell : ∀ z ∈ scope.names, z.2 ≠ .cell) (hkind : scope.kind = .function)
    (hnames : ∀ z ∈ scope.names, z.2 = .local → scope.names.lookup z.1 = some .local) (hx : scope.names.lookup x = some .local)
    (hy : env.kindOf y = some .local) (hp : (env.scope.kind == .class || (env.scope.kind == .module && env.locals != env.globals)) = false)
    (F₀ : Fr h₀ env.locals s.heap m₀) (hsz : n ≤ 1000)
    (h : wpAny (model prog w) A (eval iter env) (fun xv s₁ => wpAny (model prog w) A (pyIter xv) (SrcOk prog w A s n P) E s₁) E s)
    (hel : ElI prog w A s n P f x elt fun C => compEnvC scope cl C env)
    (hQ : ∀ D h' tk us, h'.PlainList D us.toArray → IntsAre us ((List.range n).map f) → Fr h₀ env.locals h' (fun z => if z = y then some (.ref D) else m₀ z) → Sub [env.locals] s.heap h' → s.heap.get? D = none → Q .next { s with heap := h', toks := tk })
    (hs : ∀ x, foldedSetIterable iter env x = pure x := by intro _; rfl) :
    wpAny (model prog w) A (exec (.Assign [.Name y py] (.ListComp elt [⟨.Name x px, iter, [], 0⟩] scope pos) spos) env) Q E s := by
  refine LC_local_to hsw hclos hcell hkind hnames hx hy hp F₀ (wpAny_mono h (fun xv s₁ h₁ => wpAny_mono h₁ (fun it s₂ h₂ => ?_) fun _ _ e => e) fun _ _ e => e) hs
  obtain ⟨I, fp, wr, St, h₂, t₂, e1, e2, W, e3, e4, e5, e6, e7, e8⟩ := h₂
  refine ⟨I, fp, wr, n, P, St, h₂, t₂, FI f, e1, e2, W, by rw [sizeLine_eq]; omega, e3, e4, e5, e6, e7, e8, fun _ _ _ _ _ q _ => q, ?_, ?_⟩
  · intro i v h tk m E' hi hP F hm hX
    exact turn_nil (hel i v h tk m E' _ _ hi hP F hm fun t h' tk' k => ⟨_, _, rfl, ⟨t, rfl⟩, k⟩)
  · intro h' tk vs os hM F' hext hnone
    obtain ⟨us, p, r⟩ := hM.ints
    exact hQ _ h' tk us p r F' hext hnone
theorem LCL {Q : Value → Shared → Prop} (hclos : closureFor scope env = pure cl) (hcell : ∀ y ∈ scope.names, y.2 ≠ .cell) (hkind : scope.kind = .function)
    (hnames : ∀ y ∈ scope.names, y.2 = .local → scope.names.lookup y.1 = some .local) (hx : scope.names.lookup x = some .local) (hsz : n ≤ 1000)
    (h : wpAny (model prog w) A (eval iter env) (fun xv s₁ => wpAny (model prog w) A (pyIter xv) (SrcOk prog w A s n P) E s₁) E s)
    (hel : ElL prog w A s n P g x elt fun C => compEnvC scope cl C env)
    (hQ : ∀ D h' tk as, Lists s.heap h' D n g as → Ext s.heap h' → s.heap.get? D = none → Q (.ref D) { s with heap := h', toks := tk })
    (hs : ∀ x, foldedSetIterable iter env x = pure x := by intro _; rfl) :
    wpAny (model prog w) A (eval (.ListComp elt [⟨.Name x px, iter, [], 0⟩] scope pos) env) Q E s := by
  refine LC_local hclos hcell hkind hnames hx (wpAny_mono h (fun xv s₁ h₁ => wpAny_mono h₁ (fun it s₂ h₂ => ?_) fun _ _ e => e) fun _ _ e => e) hs
  obtain ⟨I, fp, wr, St, h₂, t₂, e1, e2, W, e3, e4, e5, e6, e7, e8⟩ := h₂
  refine ⟨I, fp, wr, n, P, St, h₂, t₂, FL s.heap (XX h₂.objs.size wr) g, e1, e2, W, by rw [sizeLine_eq]; omega, e3, e4, e5, e6, e7, e8, fun _ _ _ _ _ q k => q.mono k, ?_, ?_⟩
  · intro i v h tk m E' hi hP F hm hX
    refine turn_nil (hel i v h tk m E' _ _ hi hP F hm fun a us h' tk' p r na k => ⟨_, _, rfl, ⟨a, rfl, ⟨us, p, r⟩, fun q => ?_, ?_⟩, k⟩)
    · obtain ⟨o, ho⟩ := hX a q
      rw [na] at ho; cases ho
    · cases e : s.heap.get? a with
      | none => rfl
      | some o => rw [F.keep a o e] at na; cases na
  · intro h' tk vs os hM hext hnone
    obtain ⟨as, r⟩ := hM.lists
    exact hQ _ h' tk as r hext hnone
/-- the same with a variable that is a cell, stored to a local -/
theorem LCLC_to {Q : Flow → Shared → Prop} (hsw : swapsWith (.ListComp elt [⟨.Name x px, iter, [], 0⟩] scope pos) (some (.Name y py)) spos.line env = pure true)
    (hclos : closureFor scope env = pure cl) (hcf : ∀ k, cellsFrom k scope.names cl = (x, k) :: cl) (hpc : ∀ h, pushCells h scope.names = h.push { cls := .type "cell", data := .cell none }) (hkind : scope.kind = .function)
    (hnames : ∀ z ∈ scope.names, z.2 = .local → scope.names.lookup z.1 = some .local) (hx : scope.names.lookup x = some .cell)
    (hy : env.kindOf y = some .local) (hp : (env.scope.kind == .class || (env.scope.kind == .module && env.locals != env.globals)) = false)
    (F₀ : Fr h₀ env.locals s.heap m₀) (hsz : n ≤ 1000)
    (h : wpAny (model prog w) A (eval iter env) (fun xv s₁ => wpAny (model prog w) A (pyIter xv) (SrcOk prog w A s n P) E s₁) E s)
    (hel : ∀ i v h tk m E' C K (Q' : Value → Shared → Prop), i < n → P i v → Fr s.heap C h m → h.IsCell K (some v) → (∀ a us h' tk', h'.PlainList a us.toArray → IntsAre us (g i) → h.get? a = none → Ext h h' → Q' (.ref a) { s with heap := h', toks := tk' }) →
      wpAny (model prog w) A (eval elt (compEnvC scope ((x, K) :: cl) C env)) Q' E' { s with heap := h, toks := tk })
    (hQ : ∀ D h' tk as, Lists s.heap h' D n g as → Fr h₀ env.locals h' (fun z => if z = y then some (.ref D) else m₀ z) → Sub [env.locals] s.heap h' → s.heap.get? D = none → Q .next { s with heap := h', toks := tk })
    (hs : ∀ x, foldedSetIterable iter env x = pure x := by intro _; rfl) :
    wpAny (model prog w) A (exec (.Assign [.Name y py] (.ListComp elt [⟨.Name x px, iter, [], 0⟩] scope pos) spos) env) Q E s := by
  refine LC_cell_to hsw hclos hcf hpc hkind hnames hx hy hp F₀ (wpAny_mono h (fun xv s₁ h₁ => wpAny_mono h₁ (fun it s₂ h₂ => ?_) fun _ _ e => e) fun _ _ e => e) hs
  obtain ⟨I, fp, wr, St, h₂, t₂, e1, e2, W, e3, e4, e5, e6, e7, e8⟩ := h₂
  obtain ⟨oL, _, _, hoL, _⟩ := id F₀.ns
  refine ⟨I, fp, wr, n, P, St, h₂, t₂, FL s.heap (env.locals :: XC h₂.objs.size wr) g, e1, e2, W, by rw [sizeLine_eq]; omega, e3, e4, e5, e6, e7, e8, fun _ _ _ _ _ q k => q.mono k, ?_, ?_⟩
  · intro i v h tk m E' hi hP F hm hX
    refine turn_nil (hel i v h tk m E' _ _ _ hi hP F hm fun a us h' tk' p r na k => ⟨_, _, rfl, ⟨a, rfl, ⟨us, p, r⟩, fun q => ?_, ?_⟩, k⟩)
    · rcases List.mem_cons.mp q with q | q
      · rw [q, F.keep _ _ hoL] at na; cases na
      · obtain ⟨o, ho⟩ := hX a q
        rw [na] at ho; cases ho
    · cases e : s.heap.get? a with
      | none => rfl
      | some o => rw [F.keep a o e] at na; cases na
  · intro h' tk vs os hM F' hext hnone
    obtain ⟨as, r⟩ := hM.lists
    exact hQ _ h' tk as r F' hext hnone
end
end Mine
end
section
open PySem PySem.W PyProof.Rows
set_option Elab.async false
set_option maxRecDepth 100000
set_option maxHeartbeats 4000000
namespace Mine
/-- the addresses of the law's own frame -/
abbrev FX (L : Addr) : List Addr := [L, L + 1, L + 2, L + 3, L + 4]
/-- the law's frame and cells -/
structure LawSt (g : Heap) (L : Addr) (h : Heap) (m : Str → Option Value) (c n r k : Option Value) : Prop where
  F : Fr g L h m
  c : h.IsCell (L + 1) c
  n : h.IsCell (L + 2) n
  r : h.IsCell (L + 3) r
  k : h.IsCell (L + 4) k
section
variable {g : Heap} {L a : Addr} {h h' : Heap} {m m' : Str → Option Value} {c n r k v : Option Value}
theorem LawSt.gnone (q : LawSt g L h m c n r k) : ∀ a ∈ FX L, g.get? a = none := fun a ha => none_ge (by
  have : (L : Nat) ≤ a := by
    simp only [List.mem_cons, List.not_mem_nil, or_false] at ha
    rcases ha with rfl | rfl | rfl | rfl | rfl
    · exact Nat.le_refl _
    all_goals exact Nat.le_add_right _ _
  exact Nat.le_trans q.F.above this)
theorem cell_keep {a : Addr} {v : Option Value} (x : h.IsCell a v) (k : ∀ o, h.get? a = some o → h'.get? a = some o) : h'.IsCell a v := let ⟨o, e, d⟩ := x; ⟨o, k o e, d⟩
theorem LawSt.grow (q : LawSt g L h m c n r k) (e : Ext h h') : LawSt g L h' m c n r k :=
  ⟨Fr.grownK q.F e, cell_keep q.c (e _), cell_keep q.n (e _), cell_keep q.r (e _), cell_keep q.k (e _)⟩
theorem add_ne (L : Nat) {i : Nat} (hi : i ≠ 0) : L + i ≠ L := by omega
theorem LawSt.loc (q : LawSt g L h m c n r k) (F : Fr g L h' m') (e : Sub [L] h h') : LawSt g L h' m' c n r k :=
  ⟨F, cell_keep q.c fun o => e _ o (by simp), cell_keep q.n fun o => e _ o (by simp), cell_keep q.r fun o => e _ o (by simp), cell_keep q.k fun o => e _ o (by simp)⟩
theorem LawSt.fkeep (q : LawSt g L h m c n r k) (e : FKeep [L] h h') : LawSt g L h' m c n r k :=
  q.loc (Fr.fkeep q.F e (by simp)) e.sub
theorem LawSt.off (q : LawSt g L h m c n r k) {items : Array Value} (hl : h.IsList a items) : a ∉ FX L := by
  obtain ⟨o, ho, _, ep, hd⟩ := hl
  intro ha
  have cl : ∀ {b : Addr} {v : Option Value}, h.IsCell b v → a = b → False := fun ⟨o', ho', hd'⟩ e => by
    subst e; rw [ho] at ho'; cases ho'; rw [hd] at hd'; cases hd'
  simp only [List.mem_cons, List.not_mem_nil, or_false] at ha
  rcases ha with ha | ha | ha | ha | ha
  · obtain ⟨o', es, ep', ho', hd', _⟩ := q.F.ns
    subst ha; rw [ho] at ho'; cases ho'; rw [hd] at hd'; cases hd'
  · exact cl q.c ha
  · exact cl q.n ha
  · exact cl q.r ha
  · exact cl q.k ha
theorem LawSt.list (q : LawSt g L h m c n r k) {items : Array Value} (hl : h.IsList a items) (e : Sub (FX L) h h') : h'.IsList a items :=
  hl.at fun o x => e _ o (q.off hl) x
theorem LawSt.plain (q : LawSt g L h m c n r k) {items : Array Value} (hl : h.PlainList a items) (e : Sub (FX L) h h') : h'.PlainList a items :=
  hl.at fun o x => e _ o (q.off hl.isList) x
theorem LawSt.needs (q : LawSt g L h m c n r k) {G : Nat → List Int} (x : NeedsAt h a G) (e : Sub (FX L) h h') : NeedsAt h' a G := by
  obtain ⟨as, hl, ha, hi⟩ := x.at_
  refine ⟨⟨as, hl, q.list ha e, fun i a z => ?_⟩, x.len⟩
  obtain ⟨vs, h1, h2⟩ := hi i a z
  exact ⟨vs, q.list h1 e, h2⟩
theorem LawSt.lists (q : LawSt g L h m c n r k) {g' : Heap} {G : Nat → List Int} {z : Nat} {as : List Addr} (x : Lists g' h a z G as) (e : Sub (FX L) h h') : Lists g' h' a z G as := by
  obtain ⟨ha, hn, hi⟩ := x
  refine ⟨q.plain ha e, hn, fun i a z => ?_⟩
  obtain ⟨⟨us, h1, h2⟩, h3⟩ := hi i a z
  exact ⟨⟨us, q.plain h1 e, h2⟩, h3⟩
theorem sub_L (e : Sub [L] h h') : Sub (FX L) h h' := e.mono fun x hx => by simp at hx; simp [hx]
variable {prog : Program} {w : World} {A : Around} {E : Value → Shared → Prop} {s : Shared} {env : Env} {x : Str} {u : Value} {Q : Unit → Shared → Prop}
theorem LawSt.frs (q : LawSt g L h m c n r k) (i : Nat) (hi : i ≠ 0) (e : Heap.SameBut (L + i) h h') : Fr g L h' m :=
  ⟨q.F.ns.sameBut e (fun z => add_ne L hi z.symm), fun b o z => e.extBut b o (fun y => by rw [y] at z; exact absurd (Heap.lt_size z) (Nat.not_lt.mpr (Nat.le_trans q.F.above (Nat.le_add_right _ i)))) (q.F.keep b o z), q.F.above⟩
theorem LawSt.stoC (hL : env.locals = L) (hk : env.scope.kind = .function) (hl : env.kindOf x = some .cell) (hc : env.cells.lookup x = some (L + 1)) (q : LawSt g L s.heap m c n r k)
    (hQ : ∀ h', LawSt g L h' m (some u) n r k → Sub [L + 1] s.heap h' → Q () { s with heap := h' }) : wpAny (model prog w) A (storeName env x u) Q E s :=
  wpAny_storeName_cell hk hl hc q.c fun h' hc' hs => hQ h' ⟨q.frs 1 (by decide) hs, hc', q.n.sameBut hs (by simp), q.r.sameBut hs (by simp), q.k.sameBut hs (by simp)⟩ fun b o hb e => hs.extBut b o (by simpa using hb) e
theorem LawSt.stoN (hL : env.locals = L) (hk : env.scope.kind = .function) (hl : env.kindOf x = some .cell) (hc : env.cells.lookup x = some (L + 2)) (q : LawSt g L s.heap m c n r k)
    (hQ : ∀ h', LawSt g L h' m c (some u) r k → Sub [L + 2] s.heap h' → Q () { s with heap := h' }) : wpAny (model prog w) A (storeName env x u) Q E s :=
  wpAny_storeName_cell hk hl hc q.n fun h' hc' hs => hQ h' ⟨q.frs 2 (by decide) hs, q.c.sameBut hs (by simp), hc', q.r.sameBut hs (by simp), q.k.sameBut hs (by simp)⟩ fun b o hb e => hs.extBut b o (by simpa using hb) e
theorem LawSt.stoR (hL : env.locals = L) (hk : env.scope.kind = .function) (hl : env.kindOf x = some .cell) (hc : env.cells.lookup x = some (L + 3)) (q : LawSt g L s.heap m c n r k)
    (hQ : ∀ h', LawSt g L h' m c n (some u) k → Sub [L + 3] s.heap h' → Q () { s with heap := h' }) : wpAny (model prog w) A (storeName env x u) Q E s :=
  wpAny_storeName_cell hk hl hc q.r fun h' hc' hs => hQ h' ⟨q.frs 3 (by decide) hs, q.c.sameBut hs (by simp), q.n.sameBut hs (by simp), hc', q.k.sameBut hs (by simp)⟩ fun b o hb e => hs.extBut b o (by simpa using hb) e
theorem LawSt.stoK (hL : env.locals = L) (hk : env.scope.kind = .function) (hl : env.kindOf x = some .cell) (hc : env.cells.lookup x = some (L + 4)) (q : LawSt g L s.heap m c n r k)
    (hQ : ∀ h', LawSt g L h' m c n r (some u) → Sub [L + 4] s.heap h' → Q () { s with heap := h' }) : wpAny (model prog w) A (storeName env x u) Q E s :=
  wpAny_storeName_cell hk hl hc q.k fun h' hc' hs => hQ h' ⟨q.frs 4 (by decide) hs, q.c.sameBut hs (by simp), q.n.sameBut hs (by simp), q.r.sameBut hs (by simp), hc'⟩ fun b o hb e => hs.extBut b o (by simpa using hb) e
end
end Mine
end
section
open PySem PySem.W PyProof.Rows
set_option Elab.async false
set_option maxRecDepth 100000
set_option maxHeartbeats 8000000
set_option profiler true
set_option profiler.threshold 1000
namespace Mine
local macro_rules | `(tactic| walk_at "nm") => `(tactic| (with_reducible show wpAny _ _ (eval (Expr.Name _ _) _) _ _ _); first
  | (with_unfolding_all refine nm_local (by assumption) (by assumption) ?_ rfl rfl (by decide))
  | (with_unfolding_all refine nm_cell (by assumption) ?_ rfl rfl rfl (by decide))
  | (with_unfolding_all refine nm_cell (IsCell.keep (by assumption) (Fr.keep (by assumption))) ?_ rfl rfl rfl (by decide))
  | (refine nm_built (by assumption) (by k_asm) (by k_asm) (by k_is) (by boot_by_name) (by decide) ?_ rfl rfl rfl rfl (by decide)))
local macro_rules | `(tactic| walk_at "w") => `(tactic| first | walk_at "nm" | walk1)

theorem plain_c {w : World} {env : Env} {mean : ExcName → Option Value} {mg mb : Str → Option Value} {s : Shared}
    {Q : Value → Shared → Prop} {E : Value → Shared → Prop} {l : Addr} {G : Nat → List Int} {pick : Int} {tp : Tok}
    (X : (hd.heap_1 w.params).In s.heap) (T : Top Mine.view (looseW Mine.view [Str.ofString "_NodeInfo"]) mean mg mb s.heap)
    (hG : NeedsAt s.heap l G) (hp : 0 ≤ pick)
    (hQ0 : ∀ R h' tk us, h'.PlainList R us.toArray → IntsAre us (plainRun G pick) → Ext s.heap h' → s.heap.get? R = none → Q (.ref R) { s with heap := h', toks := tk }) :
    wpAny (model PySem.Challenge.rw_nb0259_01.row.prog w) (callerA.deeper env) (call (.ref 187) [.ref l, .int pick tp]) Q E s := by
  revert X; k_fill; intro X
  refine wpAny_call ?_
  (refine' code_baseC ?k3 ?k5 ?k6 ?k7 ?k8 ?k9 ?kB ?kD ?_ ?c2 ?c3 ?c4; (case k3 => k_asm); (case k5 => k_asm); (case k6 => k_is); (case k7 => k_is); (case k8 => k_room); (case k9 => exact BindsTo.of_eq rfl); (case kB => exact rfl); (case kD => decide +kernel); (case c2 => exact rfl); (case c3 => exact rfl); (case c4 => exact rfl); k_whole; intro L' h' tk' cells' F' N' Y'; k_cells Y'; (try simp only [List.cons_append, List.nil_append] at N'); (try dsimp only))
  rename_i orun on drun dn
  have hcn : h'.IsCell (L' + 1) (some (.ref l)) := ⟨on, (N' _ (.tail _ (.head _))).1, dn⟩
  have hcr : h'.IsCell (L' + 2) none := ⟨orun, (N' _ (.head _)).1, drun⟩
  clear N' drun dn
  refine wp_hide fun QF EF hqF _ => ?_
  iterate 4 walk1
  refine wpAny_newList ?_
  have F1 := Fr.push F' { cls := .type "list", data := .seq ([] : List Value).toArray }
  generalize hH : h'.push { cls := .type "list", data := .seq ([] : List Value).toArray } = h1 at F1 ⊢
  have hx1 : Ext h' h1 := fun b o e => hH ▸ Heap.get?_push_of_some _ e
  have hR1 : h1.PlainList h'.objs.size (([] : List Value)).toArray := ⟨0, hH ▸ Heap.get?_push_size _ rfl⟩
  refine wpAny_storeName_cell (v₀ := none) rfl rfl rfl ?hcell ?_
  case hcell => exact IsCell.keep hcr hx1
  intro h2 hc2 hs2
  have F2 : Fr s.heap L' h2 _ := ⟨F1.ns.sameBut hs2 (Nat.ne_of_lt (Nat.lt_add_of_pos_right (by decide : 0 < 2))), fun b o e => hs2.extBut b o (fun hm => by rw [hm] at e; exact absurd (Heap.lt_size e) (Nat.not_lt.mpr (Nat.le_trans F1.above (Nat.le_add_right _ 2)))) (F1.keep b o e), F1.above⟩
  have hLs := F'.ns.lt
  have hc1 : L' + 2 < h'.objs.size := by obtain ⟨o, ho, _⟩ := hcr; exact Heap.lt_size ho
  have hRne : h'.objs.size ≠ L' + 2 := Nat.ne_of_gt hc1
  have hR2 : h2.PlainList h'.objs.size (([] : List Value)).toArray := by obtain ⟨ep, e⟩ := hR1; exact ⟨ep, hs2.extBut _ _ hRne e⟩
  have hcn2 : h2.IsCell (L' + 1) (some (.ref l)) := by obtain ⟨o, ho, hd'⟩ := hcn; exact ⟨o, hs2.extBut _ _ (by simp) (hx1 _ _ ho), hd'⟩
  walk1
  refine wpAny_While (codeAny_whileLoop (fun n s' => ∃ h tk m run pk tpk R, ∃ vs : List Value, s' = { s with heap := h, toks := tk } ∧ Fr s.heap L' h m ∧ m (Str.ofString "pick") = some (.int pk tpk) ∧ h.IsCell (L' + 1) (some (.ref l)) ∧ h.IsCell (L' + 2) (some (.ref R)) ∧ h.PlainList R vs.toArray ∧
    s.heap.get? R = none ∧ R ≠ L' ∧ R ≠ L' + 1 ∧ R ≠ L' + 2 ∧ IntsAre vs run ∧ Names run ∧ 0 ≤ pk ∧ plainGo G (5 - run.length) run pk = plainRun G pick ∧ n = 6 - run.length) ?turn 6 ?start)
  case start =>
    refine ⟨h2, _, _, [], pick, tp, h'.objs.size, [], rfl, F2, rfl, hcn2, hc2, hR2, ?_, Nat.ne_of_gt hLs, ?_, hRne, IntsAre.nil, Names.nil, hp, rfl, rfl⟩
    · cases e : s.heap.get? h'.objs.size with
      | none => rfl
      | some o => exact absurd (Heap.lt_size (F'.keep _ _ e)) (Nat.lt_irrefl _)
    · exact Nat.ne_of_gt (Nat.lt_trans (Nat.lt_succ_self _) hc1)
  case turn =>
    clear F1 F2 F' hx1 hR1 hs2 hc2 hR2 hcn2 hcn hcr hRne hc1 hLs hH
    rintro n s' ⟨h, tk, m, run, pk, tpk, R, vs, rfl, F, hm, hcn, hcr, hR, hRn, hRL, hR1, hR2, hvs, hnm, hpk, hgo, rfl⟩
    have X' := X.keeps F.keep
    have T' := T.keeps F.keep
    have hG' := hG.keep F.keep
    iterate 3 walk1
    simp only [if_true]
    refine wp_hide fun QW EW hqW _ => ?_
    walk1
    refine LC_filterR_to (k := 5) (p := isFree G run) (cl := [(Str.ofString "run", L' + 2), (Str.ofString "needs", L' + 1)]) rfl (by with_unfolding_all rfl) (by with_unfolding_all rfl) (by decide) rfl (by decide) (by decide) (by decide) (by with_unfolding_all rfl) (by with_unfolding_all rfl) F (by decide) ?hname ?he (by with_unfolding_all rfl) ?htest ?hQ
    case hname => intro Q' q; walk_at "nm"; exact q
    case he => intro Q' q; walk1; exact q _ _
    case htest =>
      intro n t h3 tk3 m3 E3 C hn F3 hm3
      have hRl : h3.IsList R vs.toArray := hR.isList.at fun o e => F3.keep _ o e
      walk1
      walk1
      walk_at "nm"
      walk_at "nm"
      refine notin_list_ints hRl hvs ?_
      walk1
      split
      · rename_i hnr
        obtain ⟨hn0, hn5⟩ := mem_upto.mp hn
        obtain ⟨items, a, ws, hli, hia, hla, hws⟩ := (hG'.keep F3.keep).item (n := n.toNat) (by omega)
        walk1
        walk1
        refine LC_filter (cl := [(Str.ofString "run", L' + 2)]) (p := fun o => !(run.any (· == o))) rfl (by with_unfolding_all rfl) (by decide) rfl (by decide) (by decide) (by decide) hla hws (by rw [sizeLine_eq]; have := hG.len n.toNat; omega) ?hit2 ?htest2 ?hQ2
        case hit2 =>
          intro Q' q
          walk1
          walk_at "nm"
          walk_at "nm"
          exact item_list hli hn0 (by omega) hia q
        case htest2 =>
          intro o t4 h4 tk4 m4 E4 C4 ho F4 hm4
          have hRl4 : h4.IsList R vs.toArray := hRl.at fun o e => F4.keep _ o e
          have hcr4 : h3.IsCell (L' + 2) (some (.ref R)) := IsCell.keep hcr F3.keep
          walk1
          walk_at "nm"
          walk_at "nm"
          refine notin_list_ints hRl4 hvs ?_
          walk1
          exact ⟨_, _, rfl, rfl, fun _ _ e => e⟩
        case hQ2 =>
          intro D h4 tk4 us hD hus hx4 hn4
          have F4 := Fr.grownK F3 hx4
          walk1
          walk1
          refine wpAny_newList ?_
          refine eq_intsK (vs := us) (us := []) (ms := []) (hD.isList.at fun o e => Heap.get?_push_of_some _ e) hus ⟨_, Heap.get?_push_size _ rfl, rfl, _, rfl⟩ IntsAre.nil (by k_units) ?_
          walk1
          split
          · rename_i hq
            walk1
            refine ⟨_, _, rfl, ?_, fun b o e => Heap.get?_push_of_some _ (hx4 b o e)⟩
            rw [isFree, hnr, Bool.true_and, of_decide_eq_true hq]; rfl
          · rename_i hq
            refine ⟨_, _, rfl, ?_, fun b o e => Heap.get?_push_of_some _ (hx4 b o e)⟩
            rw [isFree, hnr, Bool.true_and]
            cases hq2 : List.filter (fun o => !run.any fun x => x == o) (G n.toNat) with
            | nil => exact absurd (decide_eq_true hq2) hq
            | cons a r => rfl
      · rename_i hnr
        refine ⟨_, _, rfl, ?_, fun _ _ e => e⟩
        rw [isFree]
        simp only [Bool.not_eq_true] at hnr
        rw [hnr, Bool.false_and]
    case hQ =>
      intro D h3 tk3 us hD hus F3 hs3 hn3
      replace hs3 : Sub [L'] h h3 := hs3
      replace hus : IntsAre us (frees G run) := hus
      replace F3 : Fr s.heap L' h3 _ := F3
      have hR0 := hR
      obtain ⟨ep, hRe⟩ := hR
      replace hRe := hs3 _ _ (by simpa using hRL) hRe
      have hcn3 : h3.IsCell (L' + 1) (some (.ref l)) := by obtain ⟨o, ho, hd'⟩ := hcn; exact ⟨o, hs3 _ _ (by simp) ho, hd'⟩
      have hcr3 : h3.IsCell (L' + 2) (some (.ref R)) := by obtain ⟨o, ho, hd'⟩ := hcr; exact ⟨o, hs3 _ _ (by simp) ho, hd'⟩
      have hfl : (frees G run).length ≤ 5 := by have := List.length_filter_le (isFree G run) (upto 5); rwa [upto_len] at this
      have hpk3 : (fun z => if z = Str.ofString "free" then some (Value.ref D) else m z) (Str.ofString "pick") = some (.int pk tpk) := (if_neg (by decide)).trans hm
      have N3 : News s.heap L' h3 [(R, listOf vs.toArray ep)] := fun p hp => by rw [List.mem_singleton.mp hp]; exact ⟨hRe, hRL, hRn⟩
      clear F hs3
      dsimp only
      iterate 6 walk1
      refine wpAny_newList ?_
      have F4 := Fr.push F3 { cls := .type "list", data := .seq ([] : List Value).toArray }
      refine eq_intsK (vs := us) (us := []) (ms := []) (hD.isList.at fun o e => Heap.get?_push_of_some _ e) hus ⟨_, Heap.get?_push_size _ rfl, rfl, _, rfl⟩ IntsAre.nil (by k_units) ?_
      have N4 : News s.heap L' _ [(R, listOf vs.toArray ep)] := fun p hp => ⟨Heap.get?_push_of_some { cls := .type "list", data := .seq ([] : List Value).toArray } (N3 p hp).1, (N3 p hp).2⟩
      have hx4 : Ext h3 (h3.push { cls := .type "list", data := .seq ([] : List Value).toArray }) := fun b o e => Heap.get?_push_of_some _ e
      clear F3 N3
      generalize h3.push { cls := .type "list", data := .seq ([] : List Value).toArray } = h4 at F4 N4 hx4 ⊢
      have hcn4 := IsCell.keep hcn3 hx4
      have hcr4 := IsCell.keep hcr3 hx4
      have hD4 : h4.PlainList D us.toArray := by obtain ⟨e1, e2⟩ := hD; exact ⟨e1, hx4 _ _ e2⟩
      have hDl := hD4.isList
      clear hcn3 hcr3 hD hx4
      walk1
      by_cases hq : frees G run = []
      · rw [if_pos (decide_eq_true hq)]
        iterate 3 walk1
        walk_at "nm"
        have e : run = plainRun G pick := by rw [← hgo, plainGo_stop hq]
        refine hqW _ _ ?_
        refine hqF _ _ ?_
        exact hQ0 R h4 _ vs ⟨ep, (N4 _ (.head _)).1⟩ (e ▸ hvs) F4.keep hRn
      · rw [if_neg (fun e => hq (of_decide_eq_true e))]
        iterate 5 walk1
        walk_at "nm"
        have hfp : 0 < (frees G run).length := List.length_pos_iff.mpr hq
        have hfit : (us.toArray.size : Int) < 2 ^ 63 := by rw [List.size_toArray, hus.length]; omega
        have hus' := hus.length
        iterate 6 walk_at "w"
        walk_at "nm"
        iterate 6 walk_at "w"
        refine len_list hDl hfit ?_
        rw [List.size_toArray, hus.length]
        walk_at "w"
        obtain ⟨hi0, hi1, ti, hti⟩ := pick_item hus hq hpk
        refine item_list hDl hi0 (by omega) hti ?_
        walk_at "w"
        refine wpAny_list_append_plain ⟨ep, (N4 _ (.head _)).1⟩ ?_ (by rw [List.size_toArray, hvs.length, sizeLine_eq]; have := hnm.le; omega)
        intro h5 hR5 hs5
        have F5 := kas_fr F4 hs5 hRL hRn
        have hcn5 : h5.IsCell (L' + 1) (some (.ref l)) := by obtain ⟨o, ho, hd'⟩ := hcn4; exact ⟨o, hs5.extBut _ _ (Ne.symm hR1) ho, hd'⟩
        have hcr5 : h5.IsCell (L' + 2) (some (.ref R)) := by obtain ⟨o, ho, hd'⟩ := hcr4; exact ⟨o, hs5.extBut _ _ (Ne.symm hR2) ho, hd'⟩
        have hDR : D ≠ R := fun e => by have := hD4; obtain ⟨e1, e2⟩ := this; rw [e] at hn3; obtain ⟨ep', e'⟩ := hR0; rw [hn3] at e'; cases e'
        have hDl5 : h5.IsList D us.toArray := hDl.at fun o e => hs5.extBut _ _ hDR e
        clear N4 F4 hcn4 hcr4 hDl hD4
        dsimp only
        iterate 3 walk_at "w"
        walk_at "nm"
        iterate 6 walk_at "w"
        refine len_list hDl5 hfit ?_
        rw [List.size_toArray, hus.length]
        walk_at "w"
        refine wpAny_storeName_local (by with_unfolding_all rfl) F5.ns (fun h6 hn6 hs6 => ?_) (by with_unfolding_all rfl)
        have F6 := Fr.set F5 hn6 hs6
        replace hs6 : Heap.SameBut L' h5 h6 := hs6
        obtain ⟨ep5, hR5'⟩ := hR5
        obtain ⟨hlt5, hgo5⟩ := plainGo_go hnm hq hpk
        walk_at "w"
        refine hqW _ _ ?_
        refine ⟨6 - (run ++ [pickOf (frees G run) pk]).length, by rw [List.length_append, List.length_singleton]; omega, h6, _, _, run ++ [pickOf (frees G run) pk], Int.fdiv pk (frees G run).length, _, R, vs ++ [.int (pickOf (frees G run) pk) ti], rfl, F6, if_pos rfl, ?_, ?_, ?_, hRn, hRL, hR1, hR2, ?_, hnm.snoc (pickOf_mem hq hpk), fdiv_nonneg' hpk, hgo5 ▸ hgo, rfl⟩
        · obtain ⟨o, ho, hd'⟩ := hcn5; exact ⟨o, hs6.extBut _ _ (by simp) ho, hd'⟩
        · obtain ⟨o, ho, hd'⟩ := hcr5; exact ⟨o, hs6.extBut _ _ (by simp) ho, hd'⟩
        · exact ⟨ep5, by have := hs6.extBut _ _ hRL hR5'; simpa using this⟩
        · exact IntsAre.append hvs (IntsAre.cons _ _ IntsAre.nil)
end Mine
end
section
open PySem PySem.W PyProof.Rows
set_option Elab.async false
set_option maxRecDepth 100000
set_option maxHeartbeats 8000000
namespace Mine
local macro_rules | `(tactic| walk_at "ga") => `(tactic| first
  | (((with_reducible show wpAny _ _ (getAttr (Value.ref _) (Str.ofString "_node2info") _) _ _ _); refine ts_get1 (by assumption) (by assumption) (by assumption) rfl ?_))
  | (((with_reducible show wpAny _ _ (getAttr (Value.ref _) (Str.ofString "_ready_nodes") _) _ _ _); refine ts_get2 (by assumption) (by assumption) (by assumption) rfl ?_))
  | (((with_reducible show wpAny _ _ (getAttr (Value.ref _) (Str.ofString "_npassedout") _) _ _ _); refine ts_get3 (by assumption) (by assumption) (by assumption) rfl ?_))
  | (((with_reducible show wpAny _ _ (getAttr (Value.ref _) (Str.ofString "_nfinished") _) _ _ _); refine ts_get4 (by assumption) (by assumption) (by assumption) rfl ?_))
  | (((with_reducible show wpAny _ _ (getAttr (Value.ref _) (Str.ofString "node") _) _ _ _); refine nd_get0 (by assumption) (by assumption) (by assumption) ?_))
  | (((with_reducible show wpAny _ _ (getAttr (Value.ref _) (Str.ofString "npredecessors") _) _ _ _); refine nd_get1 (by assumption) (by assumption) (by assumption) ?_))
  | (((with_reducible show wpAny _ _ (getAttr (Value.ref _) (Str.ofString "successors") _) _ _ _); refine nd_get2 (by assumption) (by assumption) (by assumption) ?_)))
local macro_rules | `(tactic| walk_at "nm") => `(tactic| (with_reducible show wpAny _ _ (eval (Expr.Name _ _) _) _ _ _);
  (with_unfolding_all refine nm_local (by assumption) (by assumption) ?_ rfl rfl (by decide)))
local macro_rules | `(tactic| walk_at "w") => `(tactic| first | walk_at "ga" | walk_at "nm" | (with_reducible refine Attribute_name ?_) | walk1)

theorem get_ready_c {w : World} {A : Around} {mean : ExcName → Option Value} {mg mb : Str → Option Value} {s : Shared} {Q : Value → Shared → Prop} {E : Value → Shared → Prop} {b : Book} {Z : SSt} {hb : Heap}
    (X : (hd.heap_1 w.params).In hb) (T : Top Mine.view (looseW Mine.view [Str.ofString "_NodeInfo"]) mean mg mb hb) (kb : Ext hb s.heap) (hmu : ∀ a ∈ b.addrs Z.dom, hb.get? a = none) (hroom : A.depth < recursionLimit) (hh : A.handled = none)
    (hS : Sorter PySem.Challenge.rw_nb0259_01.row.prog w s.heap b Z) (hsub : ∀ r ∈ Z.ready, r ∈ Z.dom)
    (hQ : ∀ t h' tk vs, h'.get? t = some { cls := .type "tuple", data := .seq vs.toArray } → IntsAre vs Z.ready →
      Sorter PySem.Challenge.rw_nb0259_01.row.prog w h' b { Z with np := fun i => if i ∈ Z.ready then -1 else Z.np i, ready := [], pass := Z.pass + Z.ready.length } → Sub (b.addrs Z.dom) s.heap h' → s.heap.get? t = none → Q (.ref t) { s with heap := h', toks := tk }) :
    wpAny (model PySem.Challenge.rw_nb0259_01.row.prog w) A (call (.ref 126) [.ref b.S]) Q E s := by
  have Xs := X.keeps kb
  have Ts := T.keeps kb
  revert Xs; k_fill; intro Xs
  refine wpAny_call ?_
  (refine' code_base (K := hd.heap_1 w.params) ?k3 ?k5 ?k6 ?k7 ?k8 ?k9 ?kB ?_ ?c2 ?c3 ?c4 ?c5; (case k3 => exact Xs); (case k5 => exact Ts); (case k6 => k_is); (case k7 => k_is); (case k8 => exact hroom); (case k9 => exact BindsTo.of_eq rfl); (case c5 => decide); (case kB => exact locs rfl); (case c2 => exact rfl); (case c3 => exact rfl); (case c4 => exact rfl); k_whole; intro L' h' tk' F' N'; (try dsimp only))
  clear N'
  obtain ⟨g, G, Fg⟩ := ground X T kb hmu hS.alive F'
  have S1 := hS.keep fun a _ o e => F'.keep a o e
  have kF : Ext s.heap h' := F'.keep
  clear F'
  have N' : News g L' h' [] := News.nil
  have Xg := G.X
  have Tg := G.T
  have X' := Xg.keeps Fg.keep
  clear Xs Ts
  have hi := S1.inst
  obtain ⟨a, t, n, t3, t4, hD⟩ := S1.attrs
  obtain ⟨vs, hR, hvs⟩ := S1.rdy
  iterate 9 walk_at "w"
  simp only [Bool.false_eq_true, if_false]
  iterate 12 walk_at "w"
  have hz : vs.length ≤ 1000 := by rw [hvs.length]; exact hS.small
  refine call_tuple_list hR.isList (fun h1 k1 => ?_) (by rw [List.size_toArray, sizeLine_eq]; omega)
  have k2 : Ext h' (h1.push { cls := .type "tuple", data := .seq vs.toArray }) := fun b o e => Heap.get?_push_of_some _ (k1 b o e)
  have ht2 : (h1.push { cls := .type "tuple", data := .seq vs.toArray }).get? h1.objs.size = some { cls := .type "tuple", data := .seq vs.toArray } := Heap.get?_push_size _ rfl
  have F2 := Fr.grownK Fg k2
  generalize hH : h1.push { cls := .type "tuple", data := .seq vs.toArray } = h2 at k2 ht2 F2 ⊢
  have S2 := S1.keep fun a _ o e => k2 a o e
  have htL : h1.objs.size ≠ L' := by
    obtain ⟨o, _, _, ho, _⟩ := Fg.ns
    exact fun q => absurd (Heap.lt_size (k1 _ _ ho)) (by rw [q]; exact Nat.lt_irrefl _)
  have htA : ∀ a ∈ b.addrs Z.dom, h1.objs.size ≠ a := fun a ha q => by
    obtain ⟨o, ho⟩ := S1.alive a ha
    exact absurd (Heap.lt_size (k1 _ _ ho)) (by rw [q]; exact Nat.lt_irrefl _)
  have hts : s.heap.get? h1.objs.size = none := by
    cases e : s.heap.get? h1.objs.size with
    | none => rfl
    | some o => exact absurd (Heap.lt_size (k1 _ _ (kF _ _ e))) (Nat.lt_irrefl _)
  generalize h1.objs.size = t' at htL htA hts ht2 ⊢
  clear Fg S1 hD hR hi X' N' k1
  refine sto_local rfl rfl F2 fun h3 F3 k3 => ?_
  replace k3 : Sub [L'] h2 h3 := k3
  replace F3 : Fr g L' h3 _ := F3
  have S3 := S2.keep fun a ha o e => k3 a o (by simpa using G.hL a ha) e
  have ht3 := k3 _ _ (by simpa using htL) ht2
  have X3 := Xg.keeps F3.keep
  have hi := S3.inst
  obtain ⟨a, t, n, t3, t4, hD⟩ := S3.attrs
  clear S2 F2 ht2
  iterate 5 walk_at "w"
  refine sto_local rfl rfl F3 fun h4 F4 k4 => ?_
  replace k4 : Sub [L'] h3 h4 := k4
  replace F4 : Fr g L' h4 _ := F4
  have S4 := S3.keep fun a ha o e => k4 a o (by simpa using G.hL a ha) e
  have ht4 := k4 _ _ (by simpa using htL) ht3
  clear S3 F3 ht3 X3 hi hD
  dsimp only
  walk1
  refine wpAny_For ?_
  walk1
  have hI4 : ∀ a o, h4.get? a = some o → a ≠ h4.objs.size := fun a o e q => absurd (Heap.lt_size e) (by rw [q]; exact Nat.lt_irrefl _)
  have htI := hI4 _ _ ht4
  have hLI : L' ≠ h4.objs.size := Nat.ne_of_lt F4.ns.lt
  have hAI : ∀ a ∈ b.addrs Z.dom, a ≠ h4.objs.size := fun a ha => let ⟨o, e⟩ := S4.alive a ha; hI4 a o e
  have hgI : g.get? h4.objs.size = none := by
    cases e : g.get? h4.objs.size with
    | none => rfl
    | some o => exact absurd rfl (hI4 _ _ (F4.keep _ _ e))
  refine wpAny_pyIter_tuple ⟨_, ht4, rfl, _, rfl⟩ ?_
  have F5 := Fr.push F4 { cls := .type "tuple_iterator", data := .fields #[.ref t', .int 0 0] }
  have hit5 : (h4.push { cls := .type "tuple_iterator", data := .fields #[.ref t', .int 0 0] }).IsTupleIter h4.objs.size t' 0 := ⟨_, Heap.get?_push_size _ rfl, rfl, rfl⟩
  have k5 : Ext h4 (h4.push { cls := .type "tuple_iterator", data := .fields #[.ref t', .int 0 0] }) := fun b o e => Heap.get?_push_of_some _ e
  generalize hH5 : h4.push { cls := .type "tuple_iterator", data := .fields #[.ref t', .int 0 0] } = h5 at F5 hit5 k5 ⊢
  have S5 := S4.keep fun a _ o e => k5 a o e
  have ht5 := k5 _ _ ht4
  have hcons : ∀ {m : Str → Option Value} {v : Value} {x : Str} {u : Value}, m x = some u → x ≠ Str.ofString "node" → upd m (Str.ofString "node") v x = some u := fun e hx => (if_neg hx).trans e
  dsimp only
  refine for_ints (g := g) (s := ⟨h5, _, _, _, _⟩) (Walks.tuple (A := A.deeper _) hh h4.objs.size t' htI vs.toArray) hvs rfl rfl hLI (Ne.symm htL) hgI
    (fun i h m => Sorter PySem.Challenge.rw_nb0259_01.row.prog w h b { Z with np := fun k => if k ∈ Z.ready.take i then -1 else Z.np k } ∧ m (Str.ofString "n2i") = some (.ref b.N2) ∧ m (Str.ofString "self") = some (.ref b.S) ∧ m (Str.ofString "result") = some (.ref t') ∧
      h.get? t' = some { cls := .type "tuple", data := .seq vs.toArray }) ⟨hit5, ⟨_, ht5, rfl, _, rfl⟩⟩ F5 ⟨?j0, rfl, rfl, rfl, ht5⟩ ?stab ?turn ?fin
  case j0 => simpa using S5
  case stab =>
    rintro i h m h' v ⟨q1, q2, q3, q4, q5⟩ k
    exact ⟨q1.keep fun a ha o e => k a o (by simp only [List.mem_cons, List.not_mem_nil, or_false]; rintro (q | q); exact hAI a ha q; exact G.hL a ha q) e, hcons q2 (by decide), hcons q3 (by decide), hcons q4 (by decide), k _ _ (by simp only [List.mem_cons, List.not_mem_nil, or_false]; rintro (q | q); exact htI q; exact htL q) q5⟩
  case turn =>
    rintro i k tk0 h m tk E' hk F hx ⟨q1, q2, q3, q4, q5⟩ hst
    have hkd : k ∈ Z.dom := hsub k (List.mem_of_getElem? hk)
    obtain ⟨t1, t2, hn⟩ := q1.node k hkd
    have he := q1.emp k hkd
    have Xh := Xg.keeps F.keep
    clear F4 F5 S4 S5 hit5 k5 ht5 ht4
    iterate 6 walk_at "w"
    refine item_pairs q1.n2i (valueAt_dom hkd) ?_
    refine nd_set1 F Xh hn he (G.hL _ (Book.nd_mem hkd)) (G.hg _ (Book.nd_mem hkd)) fun h' tk'' F' hn' ks => ?_
    walk1
    refine ⟨h', m, _, rfl, F', ⟨?_, q2, q3, q4, ks _ _ (by simp only [List.mem_cons, List.not_mem_nil, or_false]; rintro (q | q); exact htA _ (Book.nd_mem hkd) q; exact htL q) q5⟩, ?_⟩
    · have := q1.set_np hkd G.hL hn' ks
      have e : (fun j => if j ∈ Z.ready.take (i + 1) then (-1 : Int) else Z.np j) = fun j => if j = k then -1 else if j ∈ Z.ready.take i then -1 else Z.np j := by
        funext j
        rw [List.take_add_one, hk]
        by_cases hj : j = k <;> simp [hj]
      rw [e]; exact this
    · rintro a o (rfl | rfl) e
      · exact ks _ _ (by simp only [List.mem_cons, List.not_mem_nil, or_false]; rintro (q | q); exact hAI _ (Book.nd_mem hkd) q.symm; exact hLI q.symm) e
      · exact ks _ _ (by simp only [List.mem_cons, List.not_mem_nil, or_false]; rintro (q | q); exact htA _ (Book.nd_mem hkd) q; exact htL q) e
  case fin => 
    rintro h h' m tk F ⟨q1, q2, q3, q4, q5⟩ k
    have S6 := q1.keep fun a ha o e => k a o (by simpa using hAI a ha) e
    have ht6 := k _ _ (by simpa using htI) q5
    clear F4 F5 S4 S5 hit5 k5 ht5 ht4 q1 q5 k
    have X6 := Xg.keeps F.keep
    have hi := S6.inst
    obtain ⟨a, t, n, t3, t4, hD⟩ := S6.attrs
    obtain ⟨vs', ⟨ep, hR⟩, hvs'⟩ := S6.rdy
    iterate 6 walk_at "w"
    refine meth_list PySem.F.slot_list_clear PySem.F.type_list_clear ⟨ep, hR⟩ ?_
    walk_at "w"
    refine clear_list hR (by rw [List.size_toArray, sizeLine_eq, hvs'.length]; have := hS.small; exact Nat.le_trans this (by decide)) (fun h7 hR7 k7 F7 => ?_) F (G.hL _ (by simp [Book.addrs])) (G.hg _ (by simp [Book.addrs]))
    have S7 := S6.set_ready (L := L') (vs := []) G.hL hR7 IntsAre.nil (by simp) (k7.mono fun x hx => by simp at hx; simp [hx])
    have ht7 := k7 _ _ (by simpa using htA _ (show b.RD ∈ _ by simp [Book.addrs])) ht6
    replace F7 : Fr g L' h7 _ := F7
    clear F S6 ht6 hD hR X6 hi
    have X7 := Xg.keeps F7.keep
    have hi := S7.inst
    obtain ⟨a, t, n, t3, t4, hD⟩ := S7.attrs
    dsimp only
    walk1
    refine wpAny_AugAssign_AttributeAny ?_
    iterate 8 walk_at "w"
    refine P.len_tuple (n := 0) ht7 ?_ ?_
    · rw [List.size_toArray, hvs.length]; have := hS.small; omega
    iterate 1 walk_at "w"
    refine ts_set3 F7 X7 hi hD (G.hL _ (by simp [Book.addrs])) (G.hg _ (by simp [Book.addrs])) fun h8 tk8 F8 hD8 k8 => ?_
    have S8 := S7.set_attr G.hL hD8 k8
    have ht8 := k8 _ _ (by simp only [List.mem_cons, List.not_mem_nil, or_false]; rintro (q | q); exact htA _ (by simp [Book.addrs]) q; exact htL q) ht7
    clear F7 S7 ht7 hD hi X7
    iterate 3 walk_at "w"
    dsimp only
    refine hQ t' h8 _ vs ht8 hvs ?_ (G.sub _ _ F8) hts
    rw [List.take_length, List.size_toArray, hvs.length] at S8
    exact S8
end Mine
end
section
open PySem PySem.W PyProof.Rows
set_option Elab.async false
set_option maxRecDepth 100000
set_option maxHeartbeats 8000000
namespace Mine
local macro_rules | `(tactic| walk_at "nm") => `(tactic| (with_reducible show wpAny _ _ (eval (Expr.Name _ _) _) _ _ _); first
  | (with_unfolding_all refine nm_local (by assumption) (by assumption) ?_ rfl rfl (by decide))
  | (with_unfolding_all refine nm_cell (by assumption) ?_ rfl rfl rfl (by decide))
  | (refine nm_built (by assumption) (by k_asm) (by k_asm) (by k_is) (by boot_by_name) (by decide) ?_ rfl rfl rfl rfl (by decide)))
local macro_rules | `(tactic| walk_at "w") => `(tactic| first | walk_at "nm" | (with_reducible refine Attribute_name ?_) | walk1)
theorem mkTS {w : World} : makesIn (KK' w) 164 = true := by kernel_rfl
theorem inTS {w : World} : findIn (KK' w) (.ref 164) "__init__" = some (some (.ref 100)) := by kernel_rfl
theorem fnTS {w : World} : typeIn (KK' w) (.ref 100) = some (.type "function") := by kernel_rfl
def keyOf (ks : List Int) (i : Int) : Int := ks.getD i.toNat 0
theorem run_c {w : World} {A : Around} {mean : ExcName → Option Value} {mg mb : Str → Option Value} {s : Shared} {Q : Value → Shared → Prop} {E : Value → Shared → Prop} {hb : Heap} {outer : List Env} {l kl : Addr} {G : Nat → List Int} {kvs : List Value} {ks : List Int} {pick : Int} {tp : Tok}
    (X : (hd.heap_1 w.params).In hb) (T : Top Mine.view (looseW Mine.view [Str.ofString "_NodeInfo"]) mean mg mb hb) (kb : Ext hb s.heap) (hfs : ∀ a ∈ framesOf outer, hb.get? a = none) (hroom : A.depth + 20 < recursionLimit) (hun : A.units ≤ 1000) (hh : A.handled = none)
    (hfr : A.frames = some outer) (hfun : FunOk s.heap outer)
    (hG : NeedsAt hb l G) (hG5 : ∀ n, n < 5 → ∀ o ∈ G n, 0 ≤ o ∧ o < 5) (hG10 : ∀ n, (G n).length ≤ 10) (hkl : hb.IsList kl kvs.toArray) (hks : IntsAre kvs ks) (hk5 : ks.length = 5) (hp : 0 ≤ pick)
    (hQ : ∀ h' tk T R us rg, h'.get? T = some { cls := .type "tuple", data := .seq #[.ref R, .bool rg, .bool true] } → h'.PlainList R us.toArray → IntsAre us (runK G (keyOf ks) 5 [] pick) → ((rg = true ∧ Ring (addAll G).dom (addAll G).succ) ∨ (rg = false ∧ Fine (addAll G).dom (addAll G).succ)) →
      FKeep (framesOf outer) s.heap h' → s.heap.get? T = none → s.heap.get? R = none → Q (.ref T) { s with heap := h', toks := tk }) :
    wpAny (model PySem.Challenge.rw_nb0259_01.row.prog w) A (call (.ref 192) [.ref l, .ref kl, .int pick tp]) Q E s := by
  have Xs := X.keeps kb
  have Ts := T.keeps kb
  revert Xs; k_fill; intro Xs
  refine wpAny_call ?_
  (refine' code_baseC (K := hd.heap_1 w.params) ?k3 ?k5 ?k6 ?k7 ?k8 ?k9 ?kB ?kD ?_ ?c2 ?c3 ?c4; (case k3 => exact Xs); (case k5 => exact Ts); (case k6 => k_is); (case k7 => k_is); (case k8 => exact Nat.lt_of_le_of_lt (Nat.le_add_right _ _) hroom); (case k9 => exact BindsTo.of_eq rfl); (case kB => exact rfl); (case kD => decide +kernel); (case c2 => exact rfl); (case c3 => exact rfl); (case c4 => exact rfl); k_whole; intro L' h' tk' cells' F' N' Y'; k_cells Y'; (try simp only [List.cons_append, List.nil_append] at N'); (try dsimp only))
  rename_i okc dkc
  have hck : h'.IsCell (L' + 1) (some (.ref kl)) := ⟨okc, (N' _ (.head _)).1, dkc⟩
  clear N' dkc
  obtain ⟨g, GR, Fg⟩ := ground X T kb hfs (fun a ha => let ⟨o, ho, _⟩ := hfun.alive a ha; ⟨o, ho⟩) F'
  have U1 : UpTo (framesOf outer) s.heap h' := UpTo.of_keeps fun a _ o e => F'.keep a o e
  have hsz0 : s.heap.objs.size ≤ L' := F'.above
  have hbg : Ext hb g := fun a o e => GR.get (fun q => by rw [hfs a q] at e; cases e) (kb a o e)
  have hGg := hG.keep hbg
  have hkg : g.IsList kl kvs.toArray := hkl.at fun o e => hbg _ o e
  clear F' Xs Ts
  have Xg := GR.X
  have Tg := GR.T
  have X1 := Xg.keeps Fg.keep
  refine wp_hide fun QF EF hqF _ => ?_
  iterate 5 walk_at "w"
  refine wpAny_call ?_
  refine make_own (K := KK' w) (rest := []) X1 mkTS inTS fnTS fun x dx h2 k2 nx ndx hne hx2 hd2 => ?_
  replace k2 : Ext h' h2 := k2
  have gn : ∀ {h : Heap} {m : Str → Option Value} {a : Addr}, Fr g L' h m → h.get? a = none → g.get? a = none := fun {h m a} F e => by
    cases q : g.get? a with
    | none => rfl
    | some o => rw [F.keep a o q] at e; cases e
  have F2 := Fr.grownK Fg k2
  refine init_c (hb := g) (s := ⟨h2, _, _, _, _⟩) Xg Tg F2.keep (gn Fg nx) (gn Fg ndx) ?room hx2 hd2 hne fun h3 tk3 N2 hx3 hat3 hn3 hsys nN2 e1 e2 k3 => ⟨rfl, ?_⟩
  case room =>
    refine Nat.lt_of_le_of_lt ?_ hroom
    show A.depth + 1 + Code.weight (.builtin "type.__call__" ⟨[Value.ref 164], []⟩) ≤ A.depth + 20
    have : Code.weight (.builtin "type.__call__" ⟨[Value.ref 164], []⟩) ≤ 3 := Nat.le_of_ble_eq_true rfl
    omega
  replace k3 : Sub [x, dx] h2 h3 := k3
  have hLx : L' ≠ x := fun q => by obtain ⟨o, ho⟩ := fr_alive Fg; rw [q, nx] at ho; cases ho
  have hLd : L' ≠ dx := fun q => by obtain ⟨o, ho⟩ := fr_alive Fg; rw [q, ndx] at ho; cases ho
  have F3 := Fr_sub F2 k3 (by simp [hLx, hLd]) (by intro a ha; simp at ha; rcases ha with rfl | rfl; exact gn Fg nx; exact gn Fg ndx)
  have kx : Ext h' h3 := fun a o e => k3 a o (by simp only [List.mem_cons, List.not_mem_nil, or_false]; rintro (q | q); rw [q, nx] at e; cases e; rw [q, ndx] at e; cases e) (k2 a o e)
  have U3 := U1.trans (UpTo.of_keeps (fs := framesOf outer) fun a _ o e => kx a o e)
  have hck3 := IsCell.keep hck kx
  have hLN : L' ≠ N2 := fun q => by obtain ⟨o, ho⟩ := fr_alive F2; rw [q] at ho; rw [show h2.get? N2 = none from nN2] at ho; cases ho
  have hNs : h'.get? N2 = none := by
    cases e : h'.get? N2 with
    | none => rfl
    | some o => have := k2 _ _ e; rw [show h2.get? N2 = none from nN2] at this; cases this
  have P3 : Pre PySem.Challenge.rw_nb0259_01.row.prog w h3 ⟨x, dx, N2, 0, fun _ => 0, fun _ => 0, fun _ => 0⟩ Z0 :=
    ⟨hx3, hat3, hn3, by simp [Z0], by simp [Z0], by simp [Z0], ⟨hne, e1.symm, e2.symm, by simp [Z0], by simp [Z0], by simp [Z0], by simp [Z0], by simp [Z0], by simp [Z0], by simp [Z0], by simp [Z0]⟩, hsys⟩
  have f3 : ∀ a ∈ Book.addrs0 ⟨x, dx, N2, 0, fun _ => 0, fun _ => 0, fun _ => 0⟩ Z0.dom, h'.get? a = none := by
    intro a ha
    simp only [Book.addrs0, Z0, List.flatMap_nil, List.mem_cons, List.not_mem_nil, or_false] at ha
    rcases ha with rfl | rfl | rfl
    · exact nx
    · exact ndx
    · exact hNs
  obtain ⟨b3, eS, P3x, f3x⟩ : ∃ b : Book, x = b.S ∧ Pre PySem.Challenge.rw_nb0259_01.row.prog w h3 b Z0 ∧ ∀ a ∈ b.addrs0 Z0.dom, h'.get? a = none := ⟨_, rfl, P3, f3⟩
  subst eS
  clear P3 f3
  clear F2 hx3 hat3 hn3 hsys nN2 e1 e2 k3 hx2 hd2 hne nx ndx hLx hLd hLN hNs k2
  dsimp only
  refine sto_local rfl rfl F3 fun h4 F4 k4 => ?_
  replace k4 : Sub [L'] h3 h4 := k4
  replace F4 : Fr g L' h4 _ := F4
  have U4 := U3.trans (UpTo.of_keeps (fs := framesOf outer) fun a ha o e => k4 a o (by simpa using GR.hL a ha) e)
  have nl3 : ∀ a ∈ b3.addrs0 Z0.dom, a ≠ L' := fun a ha q => by obtain ⟨o, e⟩ := fr_alive Fg; rw [← q, f3x a ha] at e; cases e
  have P4 := P3x.keep fun a ha o e => k4 a o (by simpa using nl3 a ha) e
  have hck4 : h4.IsCell (L' + 1) (some (.ref kl)) := by obtain ⟨o, ho, hd'⟩ := hck3; exact ⟨o, k4 _ _ (by simp) ho, hd'⟩
  clear F3 U3 P3x hck3
  dsimp only
  walk1
  refine wpAny_For (src_range (k := 5) (by decide) ?hname ?he (by with_unfolding_all rfl) fun a1 a2 a3 tk5 => ?_)
  case hname => intro Q' q; walk_at "nm"; exact q
  case he => intro Q' q; walk1; exact q _ _
  obtain ⟨r1, r2, r3⟩ := rg_ok (k := 5) (a := a1) (b := a2) (c := a3) (h := h4)
  dsimp only at r1 r2 r3 ⊢
  generalize (h4.push (rgObj 5 a1 a2 a3)).push (riObj 5) = h5 at r1 r2 r3 ⊢
  have F5 := Fr.grownK F4 r2
  have U5 := U4.trans (UpTo.of_keeps (fs := framesOf outer) fun a _ o e => r2 a o e)
  have P5 := P4.keep fun a _ o e => r2 a o e
  have hck5 := IsCell.keep hck4 r2
  have oI : L' + 1 < h4.objs.size := by obtain ⟨o, ho, _⟩ := hck4; exact Heap.lt_size ho
  have aI : ∀ a ∈ b3.addrs0 Z0.dom, a < h4.objs.size := fun a ha => let ⟨o, e⟩ := P4.alive a ha; Heap.lt_size e
  have gI : g.get? (h4.objs.size + 1) = none := none_ge (Nat.le_trans F4.above (Nat.le_trans (Nat.le_of_lt (Nat.lt_trans (Nat.lt_succ_self _) oI)) (Nat.le_succ _)))
  have nI : h4.get? (h4.objs.size + 1) = none := none_ge (Nat.le_succ _)
  have fr5 : ∀ a ∈ b3.addrs0 Z0.dom, FreshIn g (L' :: (L' + 1) :: (h4.objs.size + 1) :: framesOf outer) (framesOf outer) s.heap a := fun a ha => by
    have hn := f3x a ha
    refine ⟨fun c hc => ?_, gn Fg hn, .inr ?_⟩
    · rcases List.mem_cons.mp hc with rfl | hc
      · exact nl3 a ha
      rcases List.mem_cons.mp hc with rfl | hc
      · rintro rfl; obtain ⟨o, ho, _⟩ := hck; rw [hn] at ho; cases ho
      rcases List.mem_cons.mp hc with rfl | hc
      · exact Nat.ne_of_lt (Nat.lt_succ_of_lt (aI a ha))
      · rintro rfl
        obtain ⟨o, ho, hnf⟩ := hfun.alive a hc
        obtain ⟨sl, e⟩ := U1 a hc o ho hnf
        rw [hn] at e; cases e
    · cases e : s.heap.get? a with
      | none => rfl
      | some o =>
        by_cases hc : a ∈ framesOf outer
        · obtain ⟨o, ho, hnf⟩ := hfun.alive a hc
          obtain ⟨sl, e⟩ := U1 a hc o ho hnf
          rw [hn] at e; cases e
        · have := GR.sub _ _ Fg a o hc e
          rw [hn] at this; cases this
  have hLI : L' ≠ h4.objs.size + 1 := Nat.ne_of_lt (Nat.lt_succ_of_lt (Nat.lt_trans (Nat.lt_succ_self _) oI))
  have hL1I : L' + 1 ≠ h4.objs.size + 1 := Nat.ne_of_lt (Nat.lt_succ_of_lt oI)
  have hfI : ∀ a ∈ framesOf outer, a ≠ h4.objs.size + 1 := fun a ha => Nat.ne_of_lt (Nat.lt_succ_of_lt (Nat.lt_trans (Nat.lt_of_lt_of_le (let ⟨_, ho, _⟩ := hfun.alive a ha; Heap.lt_size ho) hsz0) (Nat.lt_trans (Nat.lt_succ_self _) oI)))
  clear Fg F4 U1 U4 P4 hck hck4 X1 kx
  generalize h4.objs.size + 1 = I at *
  have hcons : ∀ {m : Str → Option Value} {v : Value} {x y : Str} {u : Value}, m x = some u → x ≠ y → upd m y v x = some u := fun e hx => (if_neg hx).trans e
  refine for_own (s := ⟨h5, _, _, _, _⟩) (Walks.range (A := A.deeper _) hh I 0 1 5)
    (fun i s' => ∃ h m tk b, s' = { s with heap := h, toks := tk } ∧ Fr g L' h m ∧ m (Str.ofString "sorter") = some (.ref b.S) ∧ m (Str.ofString "needs") = some (.ref l) ∧ m (Str.ofString "pick") = some (.int pick tp) ∧ h.IsCell (L' + 1) (some (.ref kl)) ∧ UpTo (framesOf outer) s.heap h ∧
      Pre PySem.Challenge.rw_nb0259_01.row.prog w h b (addN G i) ∧ ∀ a ∈ b.addrs0 (addN G i).dom, FreshIn g (L' :: (L' + 1) :: I :: framesOf outer) (framesOf outer) s.heap a) r3 ⟨h5, _, _, b3, rfl, F5, rfl, rfl, rfl, hck5, U5, P5, fr5⟩ ?turn ?fin
  case turn =>
    rintro i v s1 h1 tk1 E' hi ⟨t0, rfl⟩ ⟨h, m, tk, b, rfl, F, m1, m2, m3, hc, hU, hP, hf⟩ hst hs1
    have ei : (0 + (i : Int) * 1) = (i : Int) := by omega
    rw [ei]
    have F1 : Fr g L' h1 m := Fr_sub F hs1 (by simpa using hLI) (by intro a ha; rw [List.mem_singleton.mp ha]; exact gI)
    have P1 := hP.keep fun a ha o e => hs1 a o (by simpa using (hf a ha).1 I (by simp)) e
    have U1 := hU.trans (UpTo.of_keeps (fs := framesOf outer) fun a ha o e => hs1 a o (by simpa using hfI a ha) e)
    have c1 : h1.IsCell (L' + 1) (some (.ref kl)) := by obtain ⟨o, ho, hd'⟩ := hc; exact ⟨o, hs1 _ _ (by simpa using hL1I) ho, hd'⟩
    refine asg_local (s := { s with heap := h1, toks := tk1 }) rfl rfl F1 fun h2 F2 k2 => ?_
    replace k2 : Sub [L'] h1 h2 := k2
    have P2 := P1.keep fun a ha o e => k2 a o (by simpa using (hf a ha).1 L' (by simp)) e
    have U2 := U1.trans (UpTo.of_keeps (fs := framesOf outer) fun a ha o e => k2 a o (by simpa using GR.hL a ha) e)
    have c2 : h2.IsCell (L' + 1) (some (.ref kl)) := by obtain ⟨o, ho, hd'⟩ := c1; exact ⟨o, k2 _ _ (by simp) ho, hd'⟩
    have st2 := (Walks.range (prog := PySem.Challenge.rw_nb0259_01.row.prog) (w := w) (A := A) hh I 0 1 5).frame _ _ h2 hst fun a ha o e => k2 a o (by rw [List.mem_singleton.mp ha]; simpa using hLI.symm) e
    have n1 := hcons (v := .int (i : Int) t0) (y := Str.ofString "name") m1 (by decide)
    have n2 := hcons (v := .int (i : Int) t0) (y := Str.ofString "name") m2 (by decide)
    have n3 := hcons (v := .int (i : Int) t0) (y := Str.ofString "name") m3 (by decide)
    have n4 : upd m (Str.ofString "name") (.int (i : Int) t0) (Str.ofString "name") = some (.int (i : Int) t0) := if_pos rfl
    replace F2 : Fr g L' h2 (upd m (Str.ofString "name") (.int (i : Int) t0)) := F2
    generalize upd m (Str.ofString "name") (.int (i : Int) t0) = mm at F2 n1 n2 n3 n4
    clear F F1 P1 U1 c1 k2 hs1 hc hU hP hst F5 U5 P5 fr5 hck5 m1 m2 m3 r2 r3
    have X2 := Xg.keeps F2.keep
    have hi2 := P2.inst
    obtain ⟨aa, tt, nn, tt3, tt4, hD2⟩ := P2.attrs
    refine wp_hide fun QT ET hqT _ => ?_
    iterate 3 walk_at "w"
    refine MethodStar ?_
    walk_at "nm"
    refine ts_bound X2 hi2 hD2 ?_
    have k3 : Ext h2 (h2.push (methodObj (.ref 114) (.ref b.S))) := fun a o e => Heap.get?_push_of_some _ e
    have q3 : (h2.push (methodObj (.ref 114) (.ref b.S))).get? h2.objs.size = some (methodObj (.ref 114) (.ref b.S)) := Heap.get?_push_size _ rfl
    dsimp only
    have qn : ∀ a o, h2.get? a = some o → a ≠ h2.objs.size := fun a o e q => absurd (Heap.lt_size e) (by rw [q]; exact Nat.lt_irrefl _)
    have qn0 : h2.get? h2.objs.size = none := none_ge (Nat.le_refl _)
    generalize h2.push (methodObj (.ref 114) (.ref b.S)) = h3 at k3 q3 ⊢
    generalize h2.objs.size = qq at q3 qn qn0 ⊢
    have F3 := Fr.grownK F2 k3
    have P3 := P2.keep fun a _ o e => k3 a o e
    have U3 := U2.trans (UpTo.of_keeps (fs := framesOf outer) fun a _ o e => k3 a o e)
    have c3 := IsCell.keep c2 k3
    have st3 := (Walks.range (prog := PySem.Challenge.rw_nb0259_01.row.prog) (w := w) (A := A) hh I 0 1 5).frame _ _ h3 st2 fun a _ o e => k3 a o e
    clear F2 X2 hi2 hD2 P2
    refine callWith_bound (K := KK' w) (self := .ref b.S) fn114 ?_
    iterate 1 walk_at "w"
    walk_at "nm"
    refine items_star ?_
    obtain ⟨items, na, ws, hli, hia, hla, hws⟩ := (hGg.keep F3.keep).item (n := i) (by omega)
    iterate 3 walk_at "w"
    refine item_list hli (by omega) (by omega) (by simpa using hia) ?_
    have hwl : ws.length ≤ 10 := by rw [hws.length]; exact hG10 i
    refine star_list hla (by rw [sizeLine_eq]; omega) fun h4 k4 => ?_
    replace k4 : Ext h3 h4 := k4
    have F4 := Fr.grownK F3 k4
    have P4 := P3.keep fun a _ o e => k4 a o e
    have U4 := U3.trans (UpTo.of_keeps (fs := framesOf outer) fun a _ o e => k4 a o e)
    have c4 := IsCell.keep c3 k4
    have st4 := (Walks.range (prog := PySem.Challenge.rw_nb0259_01.row.prog) (w := w) (A := A) hh I 0 1 5).frame _ _ h4 st3 fun a _ o e => k4 a o e
    have q4 := k4 _ _ q3
    have X4 := Xg.keeps F4.keep
    clear F3 P3 U3 c3 st3 hli hla
    walk_at "w"
    refine ⟨⟨q4, X4⟩, wpAny_call (method_call q4 ?_)⟩
    simp only [List.nil_append, List.append_nil]
    obtain ⟨o1, o2, o3, o4, o5⟩ := addN_ok hG5 hG10 i (by omega)
    refine add_c (hb := g) (s := ⟨h4, _, _, _, _⟩) Xg Tg F4.keep (fun a ha => (hf a ha).2.1) (show A.depth + 1 + 8 < recursionLimit by omega) hh P4 hws hwl (by have := hG10 i; omega) (fun x hx => by have := o5 x hx; have := hG10 i; omega) fun h5 tk5 b5 P5 eS5 fr5 k5 => ?_
    replace k5 : Sub (b.addrs0 (addN G i).dom) h4 h5 := k5
    replace P5 : Pre PySem.Challenge.rw_nb0259_01.row.prog w h5 b5 (addN G (i + 1)) := P5
    have F5 := Fr_sub F4 k5 (fun q => (hf _ q).1 L' (by simp) rfl) (fun a ha => (hf a ha).2.1)
    have f5 := fresh_step hf fr5 (fun c hc => by
      rcases List.mem_cons.mp hc with rfl | hc
      · exact fr_alive F4
      rcases List.mem_cons.mp hc with rfl | hc
      · obtain ⟨o, ho, _⟩ := c4; exact ⟨o, ho⟩
      rcases List.mem_cons.mp hc with rfl | hc
      · exact ⟨_, st4⟩
      · obtain ⟨o, ho, hnf⟩ := hfun.alive c hc
        obtain ⟨sl, e⟩ := U4 c hc o ho hnf
        exact ⟨_, e⟩) F4.keep (GR.sub _ _ F4)
    have c5 : h5.IsCell (L' + 1) (some (.ref kl)) := by obtain ⟨o, ho, hd'⟩ := c4; exact ⟨o, k5 _ _ (fun q => (hf _ q).1 (L' + 1) (by simp) rfl) ho, hd'⟩
    have U5 := U4.trans (UpTo.of_keeps (fs := framesOf outer) fun a ha o e => k5 a o (fun q => (hf a q).1 a (by simp [ha]) rfl) e)
    dsimp only
    walk_at "w"
    refine hqT _ _ ?_
    exact ⟨⟨h5, mm, _, b5, rfl, F5, by rw [eS5]; exact n1, n2, n3, c5, U5, P5, f5⟩, k5 _ _ (fun q => (hf _ q).1 I (by simp) rfl) st4⟩
  case fin =>
    rintro s1 h1 tk1 ⟨h, m, tk, b, rfl, F, m1, m2, m3, hc, hU, hP, hf⟩ hs1
    have F1 : Fr g L' h1 m := Fr_sub F hs1 (by simpa using hLI) (by intro a ha; rw [List.mem_singleton.mp ha]; exact gI)
    have P1 : Pre PySem.Challenge.rw_nb0259_01.row.prog w h1 b (addAll G) := hP.keep fun a ha o e => hs1 a o (by simpa using (hf a ha).1 I (by simp)) e
    have U1 := hU.trans (UpTo.of_keeps (fs := framesOf outer) fun a ha o e => hs1 a o (by simpa using hfI a ha) e)
    have c1 : h1.IsCell (L' + 1) (some (.ref kl)) := by obtain ⟨o, ho, hd'⟩ := hc; exact ⟨o, hs1 _ _ (by simpa using hL1I) ho, hd'⟩
    have f1 : ∀ a ∈ b.addrs0 (addAll G).dom, (a ≠ L' ∧ a ≠ L' + 1 ∧ a ∉ framesOf outer) ∧ g.get? a = none ∧ s.heap.get? a = none := fun a ha => by
      obtain ⟨q1, q2, q3⟩ := hf a ha
      have hnf : a ∉ framesOf outer := fun z => q1 a (by simp [z]) rfl
      exact ⟨⟨q1 _ (by simp), q1 _ (by simp), hnf⟩, q2, q3.resolve_left hnf⟩
    clear F5 U5 P5 fr5 hck5 r2 r3 F hc hU hP hf hs1 gI nI oI aI hLI hL1I hfI f3x nl3
    dsimp only
    iterate 3 walk_at "w"
    refine sto_local rfl rfl F1 fun h2 F2 k2 => ?_
    replace k2 : Sub [L'] h1 h2 := k2
    have P2 := P1.keep fun a ha o e => k2 a o (by simpa using (f1 a ha).1.1) e
    have U2 := U1.trans (UpTo.of_keeps (fs := framesOf outer) fun a ha o e => k2 a o (by simpa using GR.hL a ha) e)
    have c2 : h2.IsCell (L' + 1) (some (.ref kl)) := by obtain ⟨o, ho, hd'⟩ := c1; exact ⟨o, k2 _ _ (by simp) ho, hd'⟩
    have n1 := hcons (v := .bool false) (y := Str.ofString "ring") m1 (by decide)
    have n3 := hcons (v := .bool false) (y := Str.ofString "ring") m3 (by decide)
    have n4 : upd m (Str.ofString "ring") (.bool false) (Str.ofString "ring") = some (.bool false) := if_pos rfl
    replace F2 : Fr g L' h2 (upd m (Str.ofString "ring") (.bool false)) := F2
    generalize upd m (Str.ofString "ring") (.bool false) = mm at F2 n1 n3 n4
    have hbsys := P1.sys
    clear F1 P1 U1 c1 k2 m1 m2 m3
    dsimp only
    walk1
    refine wpAny_mono (Q := fun f s' => f = .next ∧ ∃ h m tk RD rg, s' = { s with heap := h, toks := tk } ∧ Fr g L' h m ∧ m (Str.ofString "sorter") = some (.ref b.S) ∧ m (Str.ofString "pick") = some (.int pick tp) ∧ m (Str.ofString "ring") = some (.bool rg) ∧ h.IsCell (L' + 1) (some (.ref kl)) ∧ UpTo (framesOf outer) s.heap h ∧
        Sorter PySem.Challenge.rw_nb0259_01.row.prog w h (b.at_ RD) (prepSt (addAll G)) ∧ ((rg = true ∧ Ring (addAll G).dom (addAll G).succ) ∨ (rg = false ∧ Fine (addAll G).dom (addAll G).succ)) ∧ RD ≠ L' ∧ RD ≠ L' + 1 ∧ RD ∉ framesOf outer ∧ g.get? RD = none ∧ s.heap.get? RD = none) ?first ?second fun _ _ e => e
    case first =>
      have bD : b.D ∈ b.addrs0 (addAll G).dom := by simp [Book.addrs0]
      have hgD : ∀ c o, g.get? c = some o → c ∉ b.D :: L' :: framesOf outer := fun c o e q => by
        rcases List.mem_cons.mp q with rfl | q
        · rw [(f1 _ bD).2.1] at e; cases e
        rcases List.mem_cons.mp q with rfl | q
        · rw [none_ge F2.above] at e; cases e
        · rw [GR.hg c q] at e; cases e
      have fal : ∀ c ∈ framesOf outer, (∃ o, h2.get? c = some o) ∧ c < L' := fun c hc => by
        obtain ⟨o, ho, hnf⟩ := hfun.alive c hc
        obtain ⟨sl, e⟩ := U2 c hc o ho hnf
        exact ⟨⟨_, e⟩, Nat.lt_of_lt_of_le (Heap.lt_size ho) hsz0⟩
      have hL1 : L' + 1 ∉ b.D :: L' :: framesOf outer := fun q => by
        rcases List.mem_cons.mp q with q | q
        · exact (f1 _ bD).1.2.1 q.symm
        rcases List.mem_cons.mp q with q | q
        · exact absurd q (Nat.succ_ne_self L')
        · exact absurd (fal _ q).2 (Nat.not_lt.mpr (Nat.le_succ _))
      have hRf : ∀ RD, h2.get? RD = none → RD ≠ L' ∧ RD ≠ L' + 1 ∧ RD ∉ framesOf outer ∧ g.get? RD = none ∧ s.heap.get? RD = none := fun RD hn => by
        refine ⟨?_, ?_, ?_, gn F2 hn, ?_⟩
        · rintro rfl; obtain ⟨o, e⟩ := fr_alive F2; rw [hn] at e; cases e
        · rintro rfl; obtain ⟨o, e, _⟩ := c2; rw [hn] at e; cases e
        · intro q; obtain ⟨⟨o, e⟩, _⟩ := fal RD q; rw [hn] at e; cases e
        · cases e : s.heap.get? RD with
          | none => rfl
          | some o =>
            by_cases q : RD ∈ framesOf outer
            · obtain ⟨⟨o, e⟩, _⟩ := fal RD q; rw [hn] at e; cases e
            · have := GR.sub _ _ F2 RD o q e; rw [hn] at this; cases this
      refine wp_hide fun Q1 E1 hq1 _ => ?_
      refine wpAny_Try_except ?_
      have X2 := Xg.keeps F2.keep
      have hi2 := P2.inst
      obtain ⟨aa, tt, nn, tt3, tt4, hD2⟩ := P2.attrs
      iterate 4 walk_at "w"
      refine ts_m119 X2 hi2 hD2 ?_
      walk_at "w"
      have hd5 : (addAll G).dom.length ≤ 5 := (addN_ok hG5 hG10 5 (by omega)).2.2.2.1
      have hdm := addAll_dom hG5
      refine prepare_c (b := b) (hb := g) (outer := _ :: outer) Xg Tg F2.keep (fun a ha => (f1 a ha).2.1) ?_ (show A.depth + 1 + 4 < recursionLimit by omega) hh (Around.frames_deeper hfr) (FunOk.cons (hfun.keep U2) rfl rfl F2.ns) P2 ?_
        (fun i hi j hj => (hdm j).mpr (addAll_in hG5 ((hdm i).mp hi) j hj)) (by omega) ?_ ?_
      · intro c hc
        rcases List.mem_cons.mp (show c ∈ L' :: framesOf outer from hc) with rfl | hc
        · exact none_ge F2.above
        · exact GR.hg c hc
      · intro c hc hc'
        rcases List.mem_cons.mp (show c ∈ L' :: framesOf outer from hc') with rfl | hc'
        · exact (f1 _ hc).1.1 rfl
        · exact (f1 _ hc).1.2.2 hc'
      · intro h3 tk3 RD hfine S3 k3 u3 hRD
        replace k3 : Sub (b.D :: L' :: framesOf outer) h2 h3 := k3
        replace u3 : UpTo (L' :: framesOf outer) h2 h3 := u3
        obtain ⟨z1, z2, z3, z4, z5⟩ := hRf RD hRD
        dsimp only
        iterate 2 walk_at "w"
        refine hq1 _ _ ?_
        exact ⟨rfl, h3, mm, _, RD, false, rfl, ⟨u3.ns (by simp) F2.ns, fun c o e => k3 c o (hgD c o e) (F2.keep c o e), F2.above⟩, n1, n3, n4, by obtain ⟨o, ho, hd'⟩ := c2; exact ⟨o, k3 _ _ hL1 ho, hd'⟩, U2.trans (fun c hc o e hn => u3 c (List.mem_cons_of_mem _ hc) o e hn), S3, .inr ⟨rfl, hfine⟩, z1, z2, z3, z4, z5⟩
      · intro B h3 tk3 e a0 RD hring S3 fl k3 u3 hRD
        replace k3 : Sub (b.D :: L' :: framesOf outer) h2 B := k3
        replace u3 : UpTo (L' :: framesOf outer) h2 h3 := u3
        obtain ⟨z1, z2, z3, z4, z5⟩ := hRf RD hRD
        have gB : Ext g B := fun c o e => k3 c o (hgD c o e) (F2.keep c o e)
        dsimp only
        refine caught_cycle (L := L') (C := 82) (x := Str.ofString "CycleError") (bmB := [.type "ValueError", .type "Exception", .type "BaseException", .type "object"]) (newId := "ValueError.__new__") (mg := mg) (Around.frames_deeper hfr) rfl fl
          ((own_of_in Xg (by k_asm) (by k_is) (by k_exc)).keeps gB) rfl ?hname ?hsuite
        case hname =>
          intro h4 E4 Q4 st4 u4 z
          have F4 : Fr g L' h4 mm := ⟨u4.ns (u3.ns (by simp) F2.ns), fun c o e => st4 c o (gB c o e), F2.above⟩
          walk1
          exact z
        case hsuite =>
          intro h4 E4 st4 u4
          have F4 : Fr g L' h4 mm := ⟨u4.ns (u3.ns (by simp) F2.ns), fun c o e => st4 c o (gB c o e), F2.above⟩
          have S4 := S3.keep fun c _ o e => st4 c o e
          have U4 : UpTo (framesOf outer) s.heap h4 := (U2.trans (fun c hc o e hn => u3 c (List.mem_cons_of_mem _ hc) o e hn)).trans fun c _ o e hn => u4 c o e hn
          have c4 : h4.IsCell (L' + 1) (some (.ref kl)) := by obtain ⟨o, ho, hd'⟩ := c2; exact ⟨o, st4 _ _ (k3 _ _ hL1 ho), hd'⟩
          iterate 3 walk_at "w"
          refine sto_local rfl rfl F4 fun h5 F5 k5 => ?_
          replace k5 : Sub [L'] h4 h5 := k5
          have S5 := S4.keep fun a ha o e => k5 a o (by
            rcases at_mem ha with rfl | ha
            · simpa using z1
            · simpa using (f1 a ha).1.1) e
          have U5 := U4.trans (UpTo.of_keeps (fs := framesOf outer) fun a ha o e => k5 a o (by simpa using GR.hL a ha) e)
          have c5 : h5.IsCell (L' + 1) (some (.ref kl)) := by obtain ⟨o, ho, hd'⟩ := c4; exact ⟨o, k5 _ _ (by simp) ho, hd'⟩
          dsimp only
          walk_at "w"
          refine hq1 _ _ ?_
          exact ⟨rfl, h5, _, _, RD, true, rfl, F5, hcons n1 (by decide), hcons n3 (by decide), if_pos rfl, c5, U5, S5, .inl ⟨rfl, hring⟩, z1, z2, z3, z4, z5⟩
    case second =>
      rintro f s3 ⟨rfl, h3, m3, tk3, RD, rg, rfl, F3, p1, p2, p3, c3, U3, S3, hrg, r1, r2, r3, r4, r5⟩
      clear F2 P2 U2 c2 n1 n3 n4
      have f3 : ∀ a ∈ (b.at_ RD).addrs (addAll G).dom, (a ≠ L' ∧ a ≠ L' + 1 ∧ a ∉ framesOf outer) ∧ g.get? a = none ∧ s.heap.get? a = none := fun a ha => by
        rcases at_mem ha with rfl | ha
        · exact ⟨⟨r1, r2, r3⟩, r4, r5⟩
        · exact f1 a ha
      have hN2 : (b.at_ RD).S = b.S := rfl
      have bsys : ((b.at_ RD).N2 == sysModules) = false := hbsys
      clear f1 r1 r2 r3 r4 r5
      generalize b.at_ RD = bb at S3 f3 hN2 bsys
      rw [← hN2] at p1
      dsimp only
      iterate 4 walk_at "w"
      refine wpAny_newList ?_
      have k4 : Ext h3 (h3.push { cls := .type "list", data := .seq ([] : List Value).toArray }) := fun a o e => Heap.get?_push_of_some _ e
      have e4 : (h3.push { cls := .type "list", data := .seq ([] : List Value).toArray }).PlainList h3.objs.size (([] : List Value)).toArray := ⟨0, Heap.get?_push_size _ rfl⟩
      have nR : h3.get? h3.objs.size = none := none_ge (Nat.le_refl _)
      dsimp only
      generalize h3.push { cls := .type "list", data := .seq ([] : List Value).toArray } = h4 at k4 e4 ⊢
      generalize h3.objs.size = R at *
      have rR : RG g (framesOf outer) L' R (bb.addrs (addAll G).dom) := by
        refine ⟨?_, ?_, ?_, gn F3 nR, ?_, fun a ha => (f3 a ha).1.1, fun a ha => (f3 a ha).1.2.1, fun a ha => (f3 a ha).1.2.2, fun a ha => (f3 a ha).2.1, GR.hL⟩
        · rintro rfl; obtain ⟨o, e⟩ := fr_alive F3; rw [nR] at e; cases e
        · rintro rfl; obtain ⟨o, e, _⟩ := c3; rw [nR] at e; cases e
        · intro z; obtain ⟨o, e⟩ := S3.alive R z; rw [nR] at e; cases e
        · intro z
          obtain ⟨o, ho, hnf⟩ := hfun.alive R z
          obtain ⟨sl, e⟩ := U3 R z o ho hnf
          rw [nR] at e; cases e
      have hR0 : s.heap.get? R = none := by
        cases e : s.heap.get? R with
        | none => rfl
        | some o => have := GR.sub _ _ F3 R o rR.rf e; rw [nR] at this; cases this
      refine sto_local rfl rfl (Fr.grownK F3 k4) fun h5 F5 k5 => ?_
      replace k5 : Sub [L'] h4 h5 := k5
      replace F5 : Fr g L' h5 (upd m3 (Str.ofString "run") (.ref R)) := F5
      have kp5 : ∀ a o, a ≠ L' → h3.get? a = some o → h5.get? a = some o := fun a o ha e => k5 a o (by simpa using ha) (k4 a o e)
      have c5 := cellAt c3 fun o e => kp5 _ o (Nat.succ_ne_self L') e
      have U5 := U3.trans (UpTo.of_keeps (fs := framesOf outer) fun a ha o e => kp5 a o (GR.hL a ha) e)
      have S5 := S3.keep fun a ha o e => kp5 a o (f3 a ha).1.1 e
      have e5 := PlainList.keep e4 fun o e => k5 _ o (by simpa using rR.rL) e
      have o1 := hcons (v := .ref R) (y := Str.ofString "run") p1 (by decide)
      have o2 := hcons (v := .ref R) (y := Str.ofString "run") p2 (by decide)
      have o3 := hcons (v := .ref R) (y := Str.ofString "run") p3 (by decide)
      have o4 : upd m3 (Str.ofString "run") (.ref R) (Str.ofString "run") = some (.ref R) := if_pos rfl
      generalize upd m3 (Str.ofString "run") (.ref R) = m5 at F5 o1 o2 o3 o4
      clear F3 c3 U3 S3 k4 e4 k5 kp5 p1 p2 p3
      dsimp only
      iterate 4 walk_at "w"
      refine wpAny_newList ?_
      have k6 : Ext h5 (h5.push { cls := .type "list", data := .seq ([] : List Value).toArray }) := fun a o e => Heap.get?_push_of_some _ e
      have e6 : (h5.push { cls := .type "list", data := .seq ([] : List Value).toArray }).PlainList h5.objs.size (([] : List Value)).toArray := ⟨0, Heap.get?_push_size _ rfl⟩
      have nW : h5.get? h5.objs.size = none := none_ge (Nat.le_refl _)
      dsimp only
      generalize h5.push { cls := .type "list", data := .seq ([] : List Value).toArray } = h6 at k6 e6 ⊢
      generalize h5.objs.size = W at *
      have fW : W ≠ L' ∧ W ≠ R ∧ W ∉ bb.addrs (addAll G).dom := by
        refine ⟨?_, ?_, ?_⟩
        · rintro rfl; obtain ⟨o, e⟩ := fr_alive F5; rw [nW] at e; cases e
        · rintro rfl; obtain ⟨n, e⟩ := e5; rw [nW] at e; cases e
        · intro z; obtain ⟨o, e⟩ := S5.alive W z; rw [nW] at e; cases e
      have I6 : RI PySem.Challenge.rw_nb0259_01.row.prog w g (framesOf outer) s.heap L' R kl bb (addAll G).dom (keyOf ks) h6 m5 (prepSt (addAll G)) [] [] W :=
        ⟨Fr.grownK F5 k6, cellAt c5 fun o e => k6 _ o e, U5.trans (UpTo.of_keeps fun a _ o e => k6 a o e), S5.keep fun a _ o e => k6 a o e, rfl, ⟨[], PlainList.keep e5 fun o e => k6 _ o e, IntsAre.nil⟩, e6, by simp, fW, by simp⟩
      clear F5 c5 U5 S5 e5 k6 e6 nW fW nR f3
      refine sto_local rfl rfl I6.fr fun h7 F7 k7 => ?_
      have I7 := I6.loc rR F7 k7
      have q1 := hcons (v := .ref W) (y := Str.ofString "waits") o1 (by decide)
      have q2 := hcons (v := .ref W) (y := Str.ofString "waits") o2 (by decide)
      have q3 := hcons (v := .ref W) (y := Str.ofString "waits") o3 (by decide)
      have q4 := hcons (v := .ref W) (y := Str.ofString "waits") o4 (by decide)
      have q5 : upd m5 (Str.ofString "waits") (.ref W) (Str.ofString "waits") = some (.ref W) := if_pos rfl
      generalize upd m5 (Str.ofString "waits") (.ref W) = m7 at I7 q1 q2 q3 q4 q5
      clear F7 k7 I6 o1 o2 o3 o4
      dsimp only
      iterate 3 walk_at "w"
      refine sto_local rfl rfl I7.fr fun h8 F8 k8 => ?_
      have I8 := I7.loc rR F8 k8
      have t1 := hcons (v := .bool true) (y := Str.ofString "sound") q1 (by decide)
      have t2 := hcons (v := .bool true) (y := Str.ofString "sound") q2 (by decide)
      have t3 := hcons (v := .bool true) (y := Str.ofString "sound") q3 (by decide)
      have t4 := hcons (v := .bool true) (y := Str.ofString "sound") q4 (by decide)
      have t5 := hcons (v := .bool true) (y := Str.ofString "sound") q5 (by decide)
      have t6 : upd m7 (Str.ofString "sound") (.bool true) (Str.ofString "sound") = some (.bool true) := if_pos rfl
      generalize upd m7 (Str.ofString "sound") (.bool true) = m8 at I8 t1 t2 t3 t4 t5 t6
      clear F8 k8 I7 q1 q2 q3 q4 q5
      dsimp only
      walk1
      refine wpAny_While (codeAny_whileLoop (fun n s' => ∃ h m tk run ps Z W pk tpk, s' = { s with heap := h, toks := tk } ∧ RI PySem.Challenge.rw_nb0259_01.row.prog w g (framesOf outer) s.heap L' R kl bb (addAll G).dom (keyOf ks) h m Z run ps W ∧ Pend G run (nms ps) Z ∧
          m (Str.ofString "sorter") = some (.ref bb.S) ∧ m (Str.ofString "pick") = some (.int pk tpk) ∧ m (Str.ofString "ring") = some (.bool rg) ∧ m (Str.ofString "run") = some (.ref R) ∧ m (Str.ofString "waits") = some (.ref W) ∧ m (Str.ofString "sound") = some (.bool true) ∧
          0 ≤ pk ∧ runK G (keyOf ks) (5 - run.length) run pk = runK G (keyOf ks) 5 [] pick ∧ n = 6 - run.length) ?turn 6 ⟨h8, m8, _, [], [], prepSt (addAll G), W, pick, tp, rfl, I8, Pend.start hG5, t1, t2, t3, t4, t5, t6, hp, rfl, rfl⟩)
      case turn =>
        clear I8 t1 t2 t3 t4 t5 t6
        rintro n s1 ⟨h, m, tk, run, ps, Z, W, pk, tpk, rfl, I, hPe, v1, v2, v3, v4, v5, v6, hpk, hgo, rfl⟩
        iterate 3 walk1
        simp only [if_true]
        refine wp_hide fun QW EW hqW _ => ?_
        have Fh := I.fr
        have Xh := Xg.keeps Fh.keep
        have hi := I.st.inst
        obtain ⟨aa, tt, nn, tt3, tt4, hD⟩ := I.st.attrs
        iterate 4 walk_at "w"
        refine ts_m133 Xh hi hD ?_
        walk_at "w"
        refine is_active_c Xh (Tg.keeps Fh.keep) (show A.depth + 1 < recursionLimit by omega) I.st fun h1 tk1 k1 => ?_
        rw [hPe.active]
        have I1 := I.ext k1
        clear I Fh Xh hi hD
        refine sto_local rfl rfl I1.fr fun h2 F2 k2 => ?_
        have I2 := I1.loc rR F2 k2
        have w1 := hcons (v := .bool (decide (nms ps ++ Z.ready ≠ []))) (y := Str.ofString "active") v1 (by decide)
        have w2 := hcons (v := .bool (decide (nms ps ++ Z.ready ≠ []))) (y := Str.ofString "active") v2 (by decide)
        have w3 := hcons (v := .bool (decide (nms ps ++ Z.ready ≠ []))) (y := Str.ofString "active") v3 (by decide)
        have w4 := hcons (v := .bool (decide (nms ps ++ Z.ready ≠ []))) (y := Str.ofString "active") v4 (by decide)
        have w5 := hcons (v := .bool (decide (nms ps ++ Z.ready ≠ []))) (y := Str.ofString "active") v5 (by decide)
        have w6 := hcons (v := .bool (decide (nms ps ++ Z.ready ≠ []))) (y := Str.ofString "active") v6 (by decide)
        have w7 : upd m (Str.ofString "active") (.bool (decide (nms ps ++ Z.ready ≠ []))) (Str.ofString "active") = some (.bool (decide (nms ps ++ Z.ready ≠ []))) := if_pos rfl
        generalize upd m (Str.ofString "active") (.bool (decide (nms ps ++ Z.ready ≠ []))) = m2 at I2 w1 w2 w3 w4 w5 w6 w7
        clear F2 k2 I1 v1 v2 v3 v4 v5 v6 k1
        have F2 := I2.fr
        have X2 := Xg.keeps F2.keep
        have hi := I2.st.inst
        obtain ⟨aa, tt, nn, tt3, tt4, hD⟩ := I2.st.attrs
        dsimp only
        iterate 4 walk_at "w"
        refine ts_m126 X2 hi hD ?_
        walk_at "w"
        have hdD := I2.dm
        refine get_ready_c (hb := g) Xg Tg F2.keep (fun a ha => rR.ag a (hdD ▸ ha)) (show A.depth + 1 < recursionLimit by omega) hh I2.st hPe.rdy fun t0 h3 tk3 gs ht3 hgs S3 k3 ht0 => ?_
        rw [hdD] at k3
        have I3 := I2.srt rR S3 hdD k3
        have nt := I2.new ht0
        clear I2 F2 X2 hi hD S3 k3
        refine sto_local rfl rfl I3.fr fun h4 F4 k4 => ?_
        replace k4 : Sub [L'] h3 h4 := k4
        have I4 := I3.loc rR F4 k4
        have ht4 := k4 _ _ (by simpa using nt.1) ht3
        have x1 := hcons (v := .ref t0) (y := Str.ofString "given") w1 (by decide)
        have x2 := hcons (v := .ref t0) (y := Str.ofString "given") w2 (by decide)
        have x3 := hcons (v := .ref t0) (y := Str.ofString "given") w3 (by decide)
        have x4 := hcons (v := .ref t0) (y := Str.ofString "given") w4 (by decide)
        have x5 := hcons (v := .ref t0) (y := Str.ofString "given") w5 (by decide)
        have x6 := hcons (v := .ref t0) (y := Str.ofString "given") w6 (by decide)
        have x7 := hcons (v := .ref t0) (y := Str.ofString "given") w7 (by decide)
        have x8 : upd m2 (Str.ofString "given") (.ref t0) (Str.ofString "given") = some (.ref t0) := if_pos rfl
        generalize upd m2 (Str.ofString "given") (.ref t0) = m4 at I4 x1 x2 x3 x4 x5 x6 x7 x8
        clear F4 k4 I3 w1 w2 w3 w4 w5 w6 w7 ht3
        have F4 := I4.fr
        have c4 := I4.cell
        dsimp only
        iterate 8 walk_at "w"
        have hr5 : Z.ready.length ≤ 5 := by have := hPe.five; rw [List.length_append] at this; omega
        refine LC_pairs (cl := [(Str.ofString "keys", L' + 1)]) (key := keyOf ks) (ns := Z.ready) (by with_unfolding_all rfl) (by decide) rfl (by decide) (by decide) (by omega) ?hit ?hel ?hQ
        case hit =>
          intro Q' hq
          walk_at "nm"
          refine wpAny_pyIter_tuple ⟨_, ht4, rfl, _, rfl⟩ ?_
          refine hq t0 gs _ _ _ (Walks.tuple (A := A.deeper _) hh _ t0 (Nat.ne_of_lt (Heap.lt_size ht4)) gs.toArray) hgs ⟨⟨_, Heap.get?_push_size _ rfl, rfl, rfl⟩, ⟨_, Heap.get?_push_of_some _ ht4, rfl, _, rfl⟩⟩ (fun b o e => Heap.get?_push_of_some _ e) (Heap.size_push ..) (Heap.lt_size ht4) fun i h st => ?_
          obtain ⟨⟨o, ho, _⟩, _⟩ := st
          exact ⟨o, ho⟩
        case hel =>
          intro n t h5 tk5 m5 E5 C Q' hn F5 hm5 hq
          have cc := IsCell.keep c4 F5.keep
          have hnr := (hPe.sim _ (List.Perm.refl _))
          have hn5 : 0 ≤ n ∧ n < 5 := (mem_frees.mp ((hnr.wts n).mp (List.mem_append_right _ hn))).1
          have hkh : h5.IsList kl kvs.toArray := hkg.at fun o e => F5.keep _ o (F4.keep _ o e)
          have hni : ks[n.toNat]? = some (keyOf ks n) := by
            unfold keyOf
            rw [List.getD_eq_getElem?_getD, List.getElem?_eq_getElem (by omega)]; rfl
          obtain ⟨tq, htq⟩ := hks.get n.toNat _ hni
          iterate 5 walk_at "w"
          refine item_list hkh hn5.1 (by omega) (by simpa using htq) ?_
          iterate 3 walk_at "w"
          exact wpAny_newTuple (hq _ _ _)
        case hQ =>
          intro D h5 tk5 ps5 hD5 hn5 hp5 k5 nD np
          replace k5 : Ext h4 h5 := k5
          replace nD : h4.get? D = none := nD
          replace np : ∀ p ∈ ps5, h4.get? p.1 = none := np
          have I5 := I4.ext k5
          obtain ⟨nW, eW⟩ := I5.wl
          obtain ⟨nDd, eD⟩ := hD5
          have hlen5 : (nms (ps ++ ps5)).length ≤ 5 := by
            have := hPe.five
            rw [← hn5] at this
            simpa using this
          rw [List.length_map] at hlen5
          have hl2 : ps.length + ps5.length ≤ 5 := by rw [← List.length_append]; exact hlen5
          refine PySem.P.add_list eW eD ?_ (by rw [List.size_toArray, List.size_toArray, List.length_map, List.length_map, sizeLine_eq]; omega)
          have k6 : Ext h5 (h5.push { cls := .type "list", data := .seq ((refs ps).toArray ++ (refs ps5).toArray) }) := fun a o e => Heap.get?_push_of_some _ e
          have e6 : (h5.push { cls := .type "list", data := .seq ((refs ps).toArray ++ (refs ps5).toArray) }).IsList h5.objs.size (refs (ps ++ ps5)).toArray := ⟨_, Heap.get?_push_size _ rfl, rfl, 0, by simp⟩
          dsimp only
          generalize h5.push { cls := .type "list", data := .seq ((refs ps).toArray ++ (refs ps5).toArray) } = h6 at k6 e6 ⊢
          generalize h5.objs.size = D6 at e6 ⊢
          have I6 := I5.ext k6
          have hp6 : ∀ p ∈ ps ++ ps5, PairAt h6 (keyOf ks) p := fun p hp => by
            rcases List.mem_append.mp hp with q | q
            · exact I6.pa p q
            · exact (hp5 p q).keep fun o e => k6 _ o e
          have hf6 : ∀ p ∈ ps ++ ps5, p.1 ≠ L' ∧ p.1 ≠ R ∧ p.1 ∉ bb.addrs (addAll G).dom := fun p hp => by
            rcases List.mem_append.mp hp with q | q
            · exact I6.fp p q
            · exact I4.new (np p q)
          clear I5
          walk_at "w"
          have hnm : nms (ps ++ ps5) = nms ps ++ Z.ready := by rw [← hn5]; simp
          refine sorted_pairs I6.fr e6 hp6 (fun p hp => (hf6 p hp).1) (by rw [hnm]; exact hPe.names) hlen5 fun D7 h7 tk7 ps7 hD7 hperm hpw hin F7 k7 nD7 => ?_
          rw [hnm] at hperm
          have I7' := I6.loc rR F7 k7
          have I7 := I7'.wts (W' := D7) (ps' := ps7) hD7 (fun p hp => (hp6 p (hin p hp)).keep fun o e => k7 _ o (by simpa using (hf6 p (hin p hp)).1) e) (I6.new nD7) (fun p hp => hf6 p (hin p hp))
          have S7 := hPe.sim _ hperm
          have hord : nms ps7 = ordK (keyOf ks) (frees G run) := ordK_unique (frees_nodup G run) hpw S7.wts
          have hact : nms ps ++ Z.ready ≠ [] ↔ ps7 ≠ [] := by
            have := hperm.length_eq
            rw [List.length_map] at this
            rw [← List.length_pos_iff, ← List.length_pos_iff, ← this]
          have ht7 := k7 _ _ (by simpa using nt.1) (k6 _ _ (k5 _ _ ht4))
          clear I4 I6 I7' F7 k7 e6 hp6 hf6 hn5 hp5 k5 nD np eW eD k6 F4 c4 hD7 hin ht4
          refine sto_local rfl rfl I7.fr fun h8 F8 k8 => ?_
          replace k8 : Sub [L'] h7 h8 := k8
          have I8 := I7.loc rR F8 k8
          have ht8 := k8 _ _ (by simpa using nt.1) ht7
          have y1 := hcons (v := .ref D7) (y := Str.ofString "waits") x1 (by decide)
          have y2 := hcons (v := .ref D7) (y := Str.ofString "waits") x2 (by decide)
          have y3 := hcons (v := .ref D7) (y := Str.ofString "waits") x3 (by decide)
          have y4 := hcons (v := .ref D7) (y := Str.ofString "waits") x4 (by decide)
          have y6 := hcons (v := .ref D7) (y := Str.ofString "waits") x6 (by decide)
          have y7 := hcons (v := .ref D7) (y := Str.ofString "waits") x7 (by decide)
          have y8 := hcons (v := .ref D7) (y := Str.ofString "waits") x8 (by decide)
          have y5 : upd m4 (Str.ofString "waits") (.ref D7) (Str.ofString "waits") = some (.ref D7) := if_pos rfl
          generalize upd m4 (Str.ofString "waits") (.ref D7) = m8 at I8 y1 y2 y3 y4 y5 y6 y7 y8
          clear F8 k8 I7 x1 x2 x3 x4 x5 x6 x7 x8 ht7
          have F8 := I8.fr
          have l8 := I8.wl.isList
          dsimp only
          iterate 10 walk_at "w"
          refine kto_cont (T := "tuple") ⟨_, ht8, rfl⟩ (by decide) ?_
          iterate 11 walk_at "w"
          refine wpAny_newList ?_
          have k9 : Ext h8 (h8.push { cls := .type "list", data := .seq ([] : List Value).toArray }) := fun a o e => Heap.get?_push_of_some _ e
          have I9 := I8.ext k9
          have l9 : (h8.push { cls := .type "list", data := .seq ([] : List Value).toArray }).IsList h8.objs.size #[] := ⟨_, Heap.get?_push_size _ rfl, rfl, _, rfl⟩
          refine ne_nil I9.wl.isList l9 (show A.units + 3 < cLine by rw [cLine_is]; omega) ?_
          dsimp only
          generalize h8.push { cls := .type "list", data := .seq ([] : List Value).toArray } = h9 at k9 I9 l9 ⊢
          clear F8 l8 I8 l9 k9
          have F9 := I9.fr
          iterate 2 walk_at "w"
          have hq : (decide (nms ps ++ Z.ready ≠ []) != decide ((refs ps7).toArray.size ≠ 0)) = false := by
            rw [bne_eq_false_iff_eq]
            refine decide_eq_decide.mpr (hact.trans ?_)
            rw [List.size_toArray, List.length_map]
            exact (not_congr List.length_eq_zero_iff).symm
          rw [if_neg (by rw [hq]; decide)]
          iterate 10 walk_at "w"
          refine wpAny_newList ?_
          have k10 : Ext h9 (h9.push { cls := .type "list", data := .seq ([] : List Value).toArray }) := fun a o e => Heap.get?_push_of_some _ e
          have I10 := I9.ext k10
          have l10 : (h9.push { cls := .type "list", data := .seq ([] : List Value).toArray }).IsList h9.objs.size #[] := ⟨_, Heap.get?_push_size _ rfl, rfl, _, rfl⟩
          refine eq_nil I10.wl.isList l10 (show A.units + 3 < cLine by rw [cLine_is]; omega) ?_
          dsimp only
          generalize h9.push { cls := .type "list", data := .seq ([] : List Value).toArray } = h10 at k10 I10 l10 ⊢
          clear F9 I9 l10 k10 hq hact
          have F10 := I10.fr
          have hsz10 : (refs ps7).toArray.size = (frees G run).length := by rw [List.size_toArray, List.length_map, ← ordK_len (keyOf ks), ← hord, List.length_map]
          iterate 1 walk_at "w"
          by_cases hfe : frees G run = []
          · rw [if_pos (decide_eq_true (by rw [hsz10, hfe]; rfl))]
            iterate 10 walk_at "w"
            refine wpAny_newTuple ?_
            have k11 : Ext h10 (h10.push { cls := .type "tuple", data := .seq [Value.ref R, .bool rg, .bool true].toArray }) := fun a o e => Heap.get?_push_of_some _ e
            have I11 := I10.ext k11
            obtain ⟨us, hus, hui⟩ := I11.rl
            have hrun : run = runK G (keyOf ks) 5 [] pick := by rw [← hgo, runK_stop hfe]
            refine hqW _ _ ?_
            refine hqF _ _ ?_
            refine hQ _ _ _ R us rg (Heap.get?_push_size _ rfl) hus (hrun ▸ hui) hrg ⟨GR.sub _ _ I11.fr, I11.up⟩ (none_ge ?_) hR0
            exact Nat.le_trans hsz0 (Nat.le_of_lt F10.ns.lt)
          · rw [if_neg (fun q => hfe (List.length_eq_zero_iff.mp (by rw [← hsz10]; exact of_decide_eq_true q)))]
            have l10 := I10.wl.isList
            have hfit : ((refs ps7).toArray.size : Int) < 2 ^ 63 := by
              have := hPe.five
              have h7 := hperm.length_eq
              rw [List.length_map] at h7
              rw [List.size_toArray, List.length_map]; omega
            have hflp : 0 < (frees G run).length := List.length_pos_iff.mpr hfe
            have hszc : ((refs ps7).toArray.size : Int) = ((frees G run).length : Int) := by rw [hsz10]
            iterate 13 walk_at "w"
            rw [hszc]
            obtain ⟨pl, hpl⟩ : ∃ pl, pl = Int.fmod pk (frees G run).length := ⟨_, rfl⟩
            rw [← hpl]
            have hple := Int.fmod_eq_emod_of_nonneg pk (b := ((frees G run).length : Int)) (by omega)
            have hpl0 : 0 ≤ pl := by rw [hpl, hple]; exact Int.emod_nonneg _ (by omega)
            have hpl1 : pl < (frees G run).length := by rw [hpl, hple]; exact Int.emod_lt_of_pos _ (by omega)
            refine sto_any rfl rfl I10.fr fun h11 m11 F11 tr z9 k11 => ?_
            have I11 := I10.loc rR F11 k11
            clear F11 k11 I10 F10 l10
            have z1 := tr _ _ y1 (by decide)
            have z2 := tr _ _ y2 (by decide)
            have z3 := tr _ _ y3 (by decide)
            have z4 := tr _ _ y4 (by decide)
            have z5 := tr _ _ y5 (by decide)
            have z6 := tr _ _ y6 (by decide)
            clear tr y1 y2 y3 y4 y5 y6 y7 y8
            have F11 := I11.fr
            have l11 := I11.wl.isList
            dsimp only
            iterate 11 walk_at "w"
            rw [hszc]
            have hfl5 : (frees G run).length ≤ 5 := by have := List.length_filter_le (isFree G run) (upto 5); rwa [upto_len] at this
            refine PyProof.Rows.floordiv_int (by omega) ?_ (.inl (PyProof.noPylong_small (by omega)))
            refine sto_any rfl rfl I11.fr fun h12 m12 F12 tr u2 k12 => ?_
            have I12 := I11.loc rR F12 k12
            clear F12 k12 I11 F11 l11
            have u1 := tr _ _ z1 (by decide)
            have u3 := tr _ _ z3 (by decide)
            have u4 := tr _ _ z4 (by decide)
            have u5 := tr _ _ z5 (by decide)
            have u6 := tr _ _ z6 (by decide)
            have u9 := tr _ _ z9 (by decide)
            clear tr z1 z2 z3 z4 z5 z6 z9
            have F12 := I12.fr
            have l12 := I12.wl.isList
            have hl7 : ps7.length = (frees G run).length := by rw [List.size_toArray, List.length_map] at hsz10; exact hsz10
            have hlt7 : pl.toNat < ps7.length := by omega
            obtain ⟨p7, hp7⟩ : ∃ p7, p7 = ps7[pl.toNat] := ⟨_, rfl⟩
            have hg7 : ps7[pl.toNat]? = some p7 := by rw [hp7]; exact List.getElem?_eq_getElem hlt7
            have hm7 : p7 ∈ ps7 := List.mem_of_getElem? hg7
            have hc7 : p7.2 = pickOf (ordK (keyOf ks) (frees G run)) pk := by
              unfold pickOf
              rw [ordK_len, ← hpl, ← hord, List.getD_eq_getElem?_getD, List.getElem?_map, hg7]; rfl
            obtain ⟨tq1, tq2, nq, eq7⟩ := I12.pa p7 hm7
            dsimp only
            iterate 6 walk_at "w"
            refine item_list (x := .ref p7.1) l12 hpl0 (by omega) (by simp [hg7]) ?_
            iterate 1 walk_at "w"
            refine item_tupT (j := 1) (x := .int p7.2 tq2) (items := #[.int (keyOf ks p7.2) tq1, .int p7.2 tq2]) ⟨_, eq7, rfl, _, rfl⟩ (by decide) (by decide) rfl rfl ?_
            refine sto_any rfl rfl I12.fr fun h13 m13 F13 tr u7 k13 => ?_
            have I13 := I12.loc rR F13 k13
            clear F13 k13 I12 F12 l12 eq7
            replace u1 := tr _ _ u1 (by decide)
            replace u2 := tr _ _ u2 (by decide)
            replace u3 := tr _ _ u3 (by decide)
            replace u4 := tr _ _ u4 (by decide)
            replace u5 := tr _ _ u5 (by decide)
            replace u6 := tr _ _ u6 (by decide)
            replace u9 := tr _ _ u9 (by decide)
            clear tr
            have F13 := I13.fr
            have l13 := I13.wl.isList
            dsimp only
            iterate 10 walk_at "w"
            have hz7 : (refs ps7).toArray.size ≤ sizeLine := by rw [hsz10, sizeLine_eq]; omega
            have epl : pl = (pl.toNat : Int) := by omega
            refine slice_own (s := { s with heap := h13, toks := _ }) l13 .none (.int _ _) (fun h14 D14 k14 hD14 nD14 _ _ => ?_) hz7
            replace k14 : Ext h13 h14 := k14
            replace nD14 : h13.get? D14 = none := nD14
            rw [epl, slicePick_upto'] at hD14
            have I14 := I13.ext k14
            have F14 := I14.fr
            have l14 := I14.wl.isList
            dsimp only
            iterate 10 walk_at "w"
            refine slice_own (s := { s with heap := h14, toks := _ }) l14 (.int _ _) .none (fun h15 D15 k15 hD15 nD15 _ _ => ?_) hz7
            replace k15 : Ext h14 h15 := k15
            replace nD15 : h14.get? D15 = none := nD15
            have epl1 : pl + 1 = ((pl.toNat + 1 : Nat) : Int) := by omega
            rw [epl1, slicePick_from'] at hD15
            have I15 := I14.ext k15
            obtain ⟨n14, e14⟩ := PlainList.keep hD14 fun o e => k15 _ o e
            obtain ⟨n15, e15⟩ := hD15
            refine PySem.P.add_list e14 e15 ?_ (by simp only [List.size_toArray, List.length_take, List.length_drop, List.length_map]; rw [sizeLine_eq]; omega)
            have k16 : Ext h15 (h15.push { cls := .type "list", data := .seq (((refs ps7).toArray.toList.take pl.toNat).toArray ++ ((refs ps7).toArray.toList.drop (pl.toNat + 1)).toArray) }) := fun a o e => Heap.get?_push_of_some _ e
            have e16 : (h15.push { cls := .type "list", data := .seq (((refs ps7).toArray.toList.take pl.toNat).toArray ++ ((refs ps7).toArray.toList.drop (pl.toNat + 1)).toArray) }).PlainList h15.objs.size (refs (ps7.eraseIdx pl.toNat)).toArray := ⟨0, by
              have := Heap.get?_push_size h15 (o := { cls := .type "list", data := .seq (((refs ps7).toArray.toList.take pl.toNat).toArray ++ ((refs ps7).toArray.toList.drop (pl.toNat + 1)).toArray) }) rfl
              rw [this, List.eraseIdx_eq_take_drop_succ]
              simp⟩
            have nD16 : h15.get? h15.objs.size = none := none_ge (Nat.le_refl _)
            dsimp only
            generalize h15.push { cls := .type "list", data := .seq (((refs ps7).toArray.toList.take pl.toNat).toArray ++ ((refs ps7).toArray.toList.drop (pl.toNat + 1)).toArray) } = h16 at k16 e16 ⊢
            generalize h15.objs.size = D16 at e16 nD16 ⊢
            have I16' := I15.ext k16
            have I16 := I16'.wts (W' := D16) (ps' := ps7.eraseIdx pl.toNat) e16 (fun p hp => I16'.pa p (List.mem_of_mem_eraseIdx hp)) (I15.new nD16) (fun p hp => I16'.fp p (List.mem_of_mem_eraseIdx hp))
            clear I13 I14 I15 I16' F13 F14 l13 l14 k14 k15 k16 e14 e15 e16 nD14 nD15 nD16 hD14
            refine sto_any rfl rfl I16.fr fun h17 m17 F17 tr u5' k17 => ?_
            have I17 := I16.loc rR F17 k17
            clear F17 k17 I16
            replace u1 := tr _ _ u1 (by decide)
            replace u2 := tr _ _ u2 (by decide)
            replace u3 := tr _ _ u3 (by decide)
            replace u4 := tr _ _ u4 (by decide)
            replace u6 := tr _ _ u6 (by decide)
            replace u7 := tr _ _ u7 (by decide)
            clear tr u5 u9
            have hstep := hPe.step (i := pl.toNat) (c := p7.2) hperm (by rw [List.getElem?_map, hg7]; rfl)
            have hcw : p7.2 ∈ nms ps7 := List.mem_map_of_mem hm7
            have hcf : p7.2 ∈ frees G run := (S7.wts _).mp hcw
            have hcd : p7.2 ∈ (addAll G).dom := (addAll_dom hG5 _).mpr (mem_frees.mp hcf).1
            have F17 := I17.fr
            have X17 := Xg.keeps F17.keep
            have hi := I17.st.inst
            obtain ⟨aa, tt, nn, tt3, tt4, hD⟩ := I17.st.attrs
            dsimp only
            iterate 4 walk_at "w"
            refine ts_m147 X17 hi hD ?_
            iterate 4 walk_at "w"
            have hsucl : ((addAll G).succ p7.2).length ≤ 50 := by
              have := (addN_ok hG5 hG10 5 (by omega)).2.2.2.2 p7.2 hcd
              exact this
            refine ⟨X17, done_c (hb := g) (Z := got Z) Xg Tg F17.keep (fun a ha => rR.ag a (hdD ▸ ha)) (show A.depth + 1 < recursionLimit by omega) hh I17.st (by show p7.2 ∈ Z.dom; rw [hPe.dm]; exact hcd) (S7.npw _ hcw) (fun r hr => ?_) ?_ bsys fun h18 tk18 S18 k18 => ?_⟩
            · replace hr : r ∈ Z.succ p7.2 := hr
              rw [hPe.sc] at hr
              show r ∈ Z.dom
              rw [hPe.dm]
              exact (addAll_dom hG5 r).mpr (addAll_in hG5 (mem_frees.mp hcf).1 r hr)
            · show ([] : List Int).length + (Z.succ p7.2).length ≤ 1000
              rw [hPe.sc]; simp; omega
            replace k18 : Sub (bb.addrs Z.dom) h17 h18 := k18
            rw [hdD] at k18
            have I18 := I17.srt rR S18 hdD k18
            clear I17 F17 X17 hi hD k18 S18
            obtain ⟨rv, hrv, hri⟩ := I18.rl
            have F18 := I18.fr
            obtain ⟨hlt5, hgo5⟩ := runK_go (key := keyOf ks) (S7.goes.names) hfe hpk
            dsimp only
            iterate 4 walk_at "w"
            refine meth_list PySem.F.slot_list_append PySem.F.type_list_append hrv ?_
            iterate 4 walk_at "w"
            refine wpAny_list_append_plain hrv (fun h19 e19 s19 => ?_) (by rw [List.size_toArray, hri.length, sizeLine_eq]; omega)
            have I19 := I18.grow (run' := run ++ [p7.2]) (vs := rv ++ [.int p7.2 tq2]) rR s19 (by simpa using e19) (IntsAre.append hri (IntsAre.cons _ _ IntsAre.nil))
            walk_at "w"
            refine hqW _ _ ?_
            refine ⟨6 - (run ++ [p7.2]).length, by rw [List.length_append, List.length_singleton]; omega, h19, m17, _, run ++ [p7.2], ps7.eraseIdx pl.toNat, _, D16, Int.fdiv pk (frees G run).length, _, rfl, I19, ?_, u1, u2, u3, u4, u5', u6, fdiv_nonneg' hpk, ?_, rfl⟩
            · have e : (nms ps7).eraseIdx pl.toNat = nms (ps7.eraseIdx pl.toNat) := by
                rw [List.eraseIdx_eq_take_drop_succ, List.eraseIdx_eq_take_drop_succ]; simp [nms, List.map_take, List.map_drop]
              rw [← e]; exact hstep
            · rw [hc7, ← hgo5]; exact hgo
end Mine
end
section
open PySem PySem.W PyProof.Rows
set_option Elab.async false
set_option maxRecDepth 100000
set_option maxHeartbeats 4000000
namespace Mine
/-- the law's call of _law_run -/
theorem law_run {w : World} {env : Env} {mean : ExcName → Option Value} {mg mb : Str → Option Value} {s : Shared} {Q : Value → Shared → Prop} {E : Value → Shared → Prop} {g : Heap} {L N kl : Addr} {G : Nat → List Int} {kvs : List Value} {ks : List Int} {pick pk0 : Int} {tp : Tok} {m : Str → Option Value} {c n r k : Option Value}
    (X : (hd.heap_1 w.params).In g) (T : Top Mine.view (looseW Mine.view [Str.ofString "_NodeInfo"]) mean mg mb g) (q : LawSt g L s.heap m c n r k) (hfr : env.frame = some L) (hk : env.scope.kind = .function)
    (hG : NeedsAt s.heap N G) (hG5 : ∀ n, n < 5 → ∀ o ∈ G n, 0 ≤ o ∧ o < 5) (hG10 : ∀ n, (G n).length ≤ 10) (hkl : s.heap.IsList kl kvs.toArray) (hks : IntsAre kvs ks) (hk5 : ks.length = 5) (hp : 0 ≤ pick) (hp0 : 0 ≤ pk0)
    (hQ : ∀ h' tk T R us, h'.get? T = some { cls := .type "tuple", data := .seq #[.ref R, .bool (decide ((plainRun G pk0).length < 5)), .bool true] } → h'.PlainList R us.toArray → IntsAre us (runK G (keyOf ks) 5 [] pick) →
      FKeep [L] s.heap h' → s.heap.get? T = none → s.heap.get? R = none → Q (.ref T) { s with heap := h', toks := tk }) :
    wpAny (model PySem.Challenge.rw_nb0259_01.row.prog w) (callerA.deeper env) (call (.ref 192) [.ref N, .ref kl, .int pick tp]) Q E s := by
  have gL : ∀ a ∈ [L], g.get? a = none := fun a ha => q.gnone a (by simp at ha; simp [ha])
  have kb : Ext g (hideAll s.heap [L]) := hide_base q.F.keep gL
  have up : Sub (FX L) s.heap (hideAll s.heap [L]) := fun a o ha e => hideAll_get [L] e (fun z => ha (by simp at z; simp [z]))
  have efr : framesOf [env] = [L] := by simp [framesOf, hfr]
  obtain ⟨g1, g2⟩ := plainRun_end (G := G) hp0
  refine run_c (hb := hideAll s.heap [L]) (outer := [env]) (X.keeps kb) (T.keeps kb) (hide_ext _ _) (by rw [efr]; exact fun a ha => hideAll_none _ ha) (by show 1 + claimMargin + 1 + 20 < recursionLimit; decide) (by k_units) rfl rfl (FunOk.cons (fun _ h => by cases h) hk hfr q.F.ns) (q.needs hG up) hG5 hG10 (q.list hkl up) hks hk5 hp fun h' tk T R us rg e1 e2 e3 e4 e5 e6 e7 => ?_
  rw [efr] at e5
  have : rg = decide ((plainRun G pk0).length < 5) := by
    rcases e4 with ⟨rfl, z⟩ | ⟨rfl, z⟩
    · exact (decide_eq_true (ring_lt hG5 z g1)).symm
    · have := fine_five hG5 z g1 g2
      exact (decide_eq_false (by omega)).symm
  subst this
  exact hQ h' tk T R us e1 e2 e3 e5 e6 e7
end Mine
end
section
open PySem PySem.W PyProof.Rows
set_option Elab.async false
set_option maxRecDepth 100000
set_option maxHeartbeats 4000000
namespace Mine
/-- all lists are kept -/
def KeepL (h h' : Heap) : Prop := ∀ a items o, h.IsList a items → h.get? a = some o → h'.get? a = some o
theorem KeepL.of_ext {h h' : Heap} (e : Ext h h') : KeepL h h' := fun a _ o _ x => e a o x
theorem KeepL.list {h h' : Heap} {a : Addr} {items : Array Value} (k : KeepL h h') (x : h.IsList a items) : h'.IsList a items := x.at fun o e => k a _ o x e
theorem KeepL.plain {h h' : Heap} {a : Addr} {items : Array Value} (k : KeepL h h') (x : h.PlainList a items) : h'.PlainList a items := x.at fun o e => k a _ o x.isList e
theorem KeepL.trans {a b c : Heap} (x : KeepL a b) (y : KeepL b c) : KeepL a c := fun p i o h e => y p i o (x.list h) (x p i o h e)
theorem KeepL.range {h h' : Heap} {I : Addr} {a b c : Int} (x : IsRangeIter h I a b c) (e : Sub [I] h h') : KeepL h h' := fun p i o ⟨o', ho', hc, n, hd⟩ z => e p o (fun y => by
  rw [List.mem_singleton.mp y] at ho'
  have := x.symm.trans ho'
  cases this; simp at hc) z
section
variable {g g' : Heap} {L a : Addr} {h h' : Heap} {m m' : Str → Option Value} {c n r k v : Option Value}
theorem LawSt.keepL (q : LawSt g L h m c n r k) (e : Sub (FX L) h h') : KeepL h h' := fun a _ o hl x => e a o (q.off hl) x
theorem LawSt.keepI (q : LawSt g L h m c n r k) (e : Sub [L] h h') : KeepL h h' := q.keepL (sub_L e)
theorem LawSt.offR (q : LawSt g L h m c n r k) {a b d : Int} {I : Addr} (x : IsRangeIter h I a b d) : I ∉ FX L := by
  intro ha
  have cl : ∀ {b' : Addr} {v : Option Value}, h.IsCell b' v → I = b' → False := fun ⟨o', ho', hd'⟩ e => by
    subst e
    have := x.symm.trans ho'
    cases this; cases hd'
  simp only [List.mem_cons, List.not_mem_nil, or_false] at ha
  rcases ha with ha | ha | ha | ha | ha
  · obtain ⟨o', es, ep', ho', hd', _⟩ := q.F.ns
    subst ha
    have := x.symm.trans ho'
    cases this; cases hd'
  · exact cl q.c ha
  · exact cl q.n ha
  · exact cl q.r ha
  · exact cl q.k ha
/-- the law's state once the runs are known -/
structure LawB (g : Heap) (L N RS P : Addr) (G : Nat → List Int) (pk : Nat → Int) (np : Nat) (rs : List Addr) (g' : Heap) (ring : Bool) (h : Heap) (m : Str → Option Value) (c k : Option Value) : Prop where
  q : LawSt g L h m c (some (.ref N)) (some (.ref RS)) k
  hG : NeedsAt h N G
  hP : ∃ ps : List Value, h.PlainList P ps.toArray ∧ IntsAre ps ((List.range np).map pk)
  hR : Lists g' h RS np (fun i => plainRun G (pk i)) rs
  mp : m (Str.ofString "picks") = some (.ref P)
  mr : m (Str.ofString "ring") = some (.bool ring)
variable {N RS P : Addr} {G : Nat → List Int} {pk : Nat → Int} {np : Nat} {rs : List Addr} {ring : Bool}
theorem KeepL.needs (e : KeepL h h') (x : NeedsAt h a G) : NeedsAt h' a G := by
  obtain ⟨as, hl, ha, hi⟩ := x.at_
  refine ⟨⟨as, hl, e.list ha, fun i a z => ?_⟩, x.len⟩
  obtain ⟨vs, h1, h2⟩ := hi i a z
  exact ⟨vs, e.list h1, h2⟩
theorem KeepL.lists {z : Nat} {as : List Addr} (e : KeepL h h') (x : Lists g' h a z G as) : Lists g' h' a z G as := by
  obtain ⟨ha, hn, hi⟩ := x
  refine ⟨e.plain ha, hn, fun i a z => ?_⟩
  obtain ⟨⟨us, h1, h2⟩, h3⟩ := hi i a z
  exact ⟨⟨us, e.plain h1, h2⟩, h3⟩
theorem LawB.keep {c' k' : Option Value} (b : LawB g L N RS P G pk np rs g' ring h m c k) (q : LawSt g L h' m' c' (some (.ref N)) (some (.ref RS)) k') (e : KeepL h h') (mp : m' (Str.ofString "picks") = some (.ref P)) (mr : m' (Str.ofString "ring") = some (.bool ring)) : LawB g L N RS P G pk np rs g' ring h' m' c' k' :=
  ⟨q, e.needs b.hG, let ⟨ps, p1, p2⟩ := b.hP; ⟨ps, e.plain p1, p2⟩, e.lists b.hR, mp, mr⟩
theorem LawB.grow (b : LawB g L N RS P G pk np rs g' ring h m c k) (e : Ext h h') : LawB g L N RS P G pk np rs g' ring h' m c k :=
  b.keep (b.q.grow e) (.of_ext e) b.mp b.mr
theorem LawB.fkeep (b : LawB g L N RS P G pk np rs g' ring h m c k) (e : FKeep [L] h h') : LawB g L N RS P G pk np rs g' ring h' m c k :=
  b.keep (b.q.fkeep e) (b.q.keepI e.sub) b.mp b.mr
theorem LawB.loc {m' : Str → Option Value} (b : LawB g L N RS P G pk np rs g' ring h m c k) (F : Fr g L h' m') (e : Sub [L] h h') (mp : m' (Str.ofString "picks") = some (.ref P)) (mr : m' (Str.ofString "ring") = some (.bool ring)) : LawB g L N RS P G pk np rs g' ring h' m' c k :=
  b.keep (b.q.loc F e) (b.q.keepI e) mp mr
theorem LawB.rg {I : Addr} {x y z : Int} (b : LawB g L N RS P G pk np rs g' ring h m c k) (st : IsRangeIter h I x y z) (gI : g.get? I = none) (e : Sub [I] h h') : LawB g L N RS P G pk np rs g' ring h' m c k := by
  have off := b.q.offR st
  have kp : ∀ a ∈ FX L, ∀ o, h.get? a = some o → h'.get? a = some o := fun a ha o x => e a o (fun y => off (by rw [← List.mem_singleton.mp y]; exact ha)) x
  refine b.keep ⟨Fr_sub b.q.F e (fun y => off (by rw [← List.mem_singleton.mp y]; simp)) (by intro a ha; rw [List.mem_singleton.mp ha]; exact gI), cell_keep b.q.c (kp _ (by simp)), cell_keep b.q.n (kp _ (by simp)), cell_keep b.q.r (kp _ (by simp)), cell_keep b.q.k (kp _ (by simp))⟩ (KeepL.range st e) b.mp b.mr
end
end Mine
end
section
open PySem PySem.W PyProof.Rows
set_option Elab.async false
set_option maxRecDepth 100000
set_option maxHeartbeats 4000000
namespace Mine
section
variable {g g' : Heap} {L a I T : Addr} {h h' : Heap} {m m' : Str → Option Value} {c n r k v : Option Value} {N RS P : Addr} {G : Nat → List Int} {pk : Nat → Int} {np : Nat} {rs : List Addr} {ring : Bool}
theorem KeepL.tup {i : Nat} (x : h.IsTupleIter I T i) (e : Sub [I] h h') : KeepL h h' := fun p it o ⟨o', ho', hc, _⟩ z => e p o (fun y => by
  rw [List.mem_singleton.mp y] at ho'
  obtain ⟨q, hq, hqc, _⟩ := x
  rw [hq] at ho'
  cases ho'
  rw [hc] at hqc
  simp at hqc) z
theorem LawSt.lt (q : LawSt g L h m c n r k) : ∀ a ∈ FX L, a < h.objs.size := fun a ha => by
  have cl : ∀ {b : Addr} {v : Option Value}, h.IsCell b v → b < h.objs.size := fun ⟨_, ho, _⟩ => Heap.lt_size ho
  simp only [List.mem_cons, List.not_mem_nil, or_false] at ha
  rcases ha with rfl | rfl | rfl | rfl | rfl
  · exact q.F.ns.lt
  · exact cl q.c
  · exact cl q.n
  · exact cl q.r
  · exact cl q.k
theorem LawSt.offN (q : LawSt g L h m c n r k) (ha : h.objs.size ≤ a) : a ∉ FX L := fun z => Nat.lt_irrefl _ (Nat.lt_of_lt_of_le (q.lt a z) ha)
theorem LawB.one (b : LawB g L N RS P G pk np rs g' ring h m c k) (off : I ∉ FX L) (gI : g.get? I = none) (kl : KeepL h h') (e : Sub [I] h h') : LawB g L N RS P G pk np rs g' ring h' m c k := by
  have kp : ∀ a ∈ FX L, ∀ o, h.get? a = some o → h'.get? a = some o := fun a ha o x => e a o (fun y => off (by rw [← List.mem_singleton.mp y]; exact ha)) x
  exact b.keep ⟨Fr_sub b.q.F e (fun y => off (by rw [← List.mem_singleton.mp y]; simp)) (by intro a ha; rw [List.mem_singleton.mp ha]; exact gI), cell_keep b.q.c (kp _ (by simp)), cell_keep b.q.n (kp _ (by simp)), cell_keep b.q.r (kp _ (by simp)), cell_keep b.q.k (kp _ (by simp))⟩ kl b.mp b.mr
theorem LawB.stoK {k' : Option Value} (b : LawB g L N RS P G pk np rs g' ring h m c k) (q : LawSt g L h' m c (some (.ref N)) (some (.ref RS)) k') (e : Sub [L + 4] h h') : LawB g L N RS P G pk np rs g' ring h' m c k' :=
  b.keep q (b.q.keepL (e.mono fun x hx => by simp at hx; simp [hx])) b.mp b.mr
end
/-- the keys of five names -/
theorem key_med {med : List Int → Int} {RU : List (List Int)} {x : Int} (h : 0 ≤ x ∧ x < 5) : keyOf ((List.range 5).map fun i : Nat => med (rowOf RU (i : Int))) x = med (rowOf RU x) := by
  have h1 : x.toNat < 5 := by omega
  have h2 : ((x.toNat : Nat) : Int) = x := by omega
  unfold keyOf
  rw [List.getD_eq_getElem?_getD, List.getElem?_map, List.getElem?_range h1]
  simp [h2]
/-- always the least by key and name: the names in that order -/
theorem due_run {G : Nat → List Int} {key : Int → Int} {r0 due : List Int} (hr : Goes G r0) (hend : frees G r0 = []) (hkey : ∀ y ∈ r0, ∀ x ∈ G y.toNat, key x < key y) (hperm : due.Perm r0) (hpw : due.Pairwise (Ahead key)) : runK G key 5 [] 0 = due := by
  obtain ⟨g1, g2⟩ := greedy hr hend hkey (fun n => hperm.mem_iff) hpw
  exact runK_first g1 g2 due [] 5 rfl (by rw [hperm.length_eq]; exact hr.names.le)
end Mine
end
section
open PySem PySem.W PyProof.Rows
set_option Elab.async false
set_option maxRecDepth 100000
namespace Mine
section
variable {prog : Program} {w : World} {A : Around} {E : Value → Shared → Prop} {s : Shared}
theorem meth_index {D : Addr} {us : List Value} {pl : Sem Bool} {Q : Value × List Value → Shared → Prop} (hl : s.heap.PlainList D us.toArray) (h : Q (.builtin "list.index", [.ref D]) s) :
    wpAny (model prog w) A (getMethod (.ref D) (Str.ofString "index") pl) Q E s := by
  obtain ⟨n, e⟩ := hl
  exact getMethod_builtin ⟨_, e, rfl⟩ PySem.F.plainAttrs_list PySem.F.slot_list_index PySem.F.type_list_index (fun a z => by cases z; exact ⟨_, e, rfl⟩) h
theorem isInt_at {k : Int} : ∀ {us : List Value} {run : List Int} (_ : IntsAre us run) (i : Nat) (h : i < us.length) (h' : i < run.length), isInt k us[i] = (run[i] == k)
  | _, _, .nil, i, h, _ => by simp at h
  | _, _, .cons n t r, i, h, h' => by
    cases i with
    | zero => simp [isInt]
    | succ i => simpa using isInt_at r i (by simpa using h) (by simpa using h')
theorem call_index {D : Addr} {us : List Value} {run : List Int} {k : Int} {t : Tok} {Q : Value → Shared → Prop} (hl : s.heap.PlainList D us.toArray) (hi : IntsAre us run) (hk : k ∈ run) (hz : run.length ≤ 1000)
    (h : ∀ u tk, Q (.int (run.idxOf k : Nat) u) { s with toks := tk }) : wpAny (model prog w) A (call (.builtin "list.index") [.ref D, .int k t]) Q E s := by
  obtain ⟨n, e⟩ := hl
  have hj : run.idxOf k < run.length := List.idxOf_lt_length_iff.mpr hk
  have hlen : us.length = run.length := hi.length
  refine call_meets PySem.F.slot_list_index ⟨_, e, rfl⟩ PySem.F.entry_list_index (PySem.F.args_list_index_2 _ _)
    (MeetsSeq.list_index D us.toArray n (.int k t) (isInt k) (fun y hy => eq_isInt k t hi y (by simpa using hy)) (run.idxOf k) (by rw [List.size_toArray]; omega) (by omega) ?_ ?_) ⟨e, h _ _⟩
  · rw [List.getElem_toArray, isInt_at hi _ (by omega) hj]
    simp
  · intro i h1 h2
    rw [List.getElem_toArray, isInt_at hi _ (by simpa using h1) (by omega)]
    have := List.not_of_lt_findIdx (p := fun x => x == k) (xs := run) h2
    simpa using this
end
end Mine
end
section
open PySem PySem.W PyProof.Rows
set_option Elab.async false
set_option maxRecDepth 100000
set_option maxHeartbeats 4000000
namespace Mine
theorem ints_one_more {us : List Value} {ps : List (Addr × Int)} {i : Nat} {p : Addr × Int} {t : Tok} (h : IntsAre us (nms (ps.take i))) (e : ps[i]? = some p) : IntsAre (us ++ [.int p.2 t]) (nms (ps.take (i + 1))) := by
  have : ps.take (i + 1) = ps.take i ++ [p] := by rw [List.take_add_one, e]; rfl
  rw [this]
  simp only [nms, List.map_append, List.map_cons, List.map_nil]
  exact IntsAre.append h (IntsAre.cons _ _ IntsAre.nil)
/-- y = [b for a, b in (a list of pairs)] -/
theorem LC_names_to {prog : Program} {w : World} {A : Around} {E : Value → Shared → Prop} {env : Env} {s : Shared} {iter : Expr} {a b y : Str} {pa pb pe tp py : Pos} {kk : Nat} {scope : Scope} {cl : List (Str × Addr)} {pos spos : Pos} {Q : Flow → Shared → Prop} {h₀ : Heap} {m₀ : Str → Option Value}
    (hh : A.handled = none)
    (hsw : swapsWith (.ListComp (.Name b pe) [⟨.Tuple [.Name a pa, .Name b pb] kk tp, iter, [], 0⟩] scope pos) (some (.Name y py)) spos.line env = pure true)
    (hclos : closureFor scope env = pure cl) (hcell : ∀ z ∈ scope.names, z.2 ≠ .cell) (hkind : scope.kind = .function)
    (hnames : ∀ z ∈ scope.names, z.2 = .local → scope.names.lookup z.1 = some .local) (ha : scope.names.lookup a = some .local) (hb : scope.names.lookup b = some .local) (hdb : (b == ("__debug__" : Str)) = false)
    (hy : env.kindOf y = some .local) (hp : (env.scope.kind == .class || (env.scope.kind == .module && env.locals != env.globals)) = false)
    (h : wpAny (model prog w) A (eval iter env) (fun xv s₁ => ∃ D h₁ tk₁ key ps, xv = .ref D ∧ s₁ = { s with heap := h₁, toks := tk₁ } ∧ h₁.PlainList D (refs ps).toArray ∧ (∀ p ∈ ps, PairAt h₁ key p) ∧ ps.length ≤ 1000 ∧ Fr h₀ env.locals h₁ m₀ ∧
      (∀ D' h' tk us, h'.PlainList D' us.toArray → IntsAre us (nms ps) → Fr h₀ env.locals h' (fun z => if z = y then some (.ref D') else m₀ z) → Sub [env.locals] h₁ h' → h₁.get? D' = none → Q .next { s with heap := h', toks := tk })) E s)
    (hs : ∀ x, foldedSetIterable iter env x = pure x := by intro _; rfl) :
    wpAny (model prog w) A (exec (.Assign [.Name y py] (.ListComp (.Name b pe) [⟨.Tuple [.Name a pa, .Name b pb] kk tp, iter, [], 0⟩] scope pos) spos) env) Q E s := by
  rw [exec_Assign_Name_used _ _ _ _ hsw]
  refine wpAny_bind (wpAny_standAt (wpAny_bind ?_))
  show wpAny _ A (do let _ ← comprehension (.ListComp (.Name b pe) [⟨.Tuple [.Name a pa, .Name b pb] kk tp, iter, [], 0⟩] scope pos) scope env _ (newList []) false (eval iter env) (some (assign (.Name y py) env))) _ _ s
  refine wpAny_bind (wpAny_mono (wpAny_comprehension_free (use := some (assign (.Name y py) env)) (Q := fun _ s' => Q .next s') rfl hs hclos hkind hnames
    (wpAny_mono h (fun xv s₁ h₁ => ?_) fun _ _ e => e)) (fun _ s' hq => wpAny_pure (wpAny_pure hq)) fun _ _ e => e)
  obtain ⟨D, h₁, tk₁, key, ps, rfl, rfl, hD, hps, hlen, F₁, fin⟩ := h₁
  refine wpAny_pyIter_list hD.isList ?_
  generalize hH2 : h₁.push { cls := .type "list_iterator", data := .fields #[.ref D, .int 0 0] } = h₂
  have up2 : Ext h₁ h₂ := fun b o e => hH2 ▸ Heap.get?_push_of_some _ e
  have sz2 : h₂.objs.size = h₁.objs.size + 1 := by rw [← hH2, Heap.size_push]
  have it2 : h₂.IsListIter h₁.objs.size D 0 := ⟨_, hH2 ▸ Heap.get?_push_size _ rfl, rfl, rfl⟩
  refine wpAny_newObj_type (wpAny_newFunctionEnv hcell (by intro y hy; simp at hy) (fun h₃ hns₃ hsb₃ => ?_) hkind)
  dsimp only at hns₃ hsb₃ ⊢
  generalize hH3 : h₂.push { cls := .type "list", dict := none, data := .seq ([] : List Value).toArray } = H3 at hns₃ hsb₃ ⊢
  have hC : H3.objs.size = h₁.objs.size + 2 := by rw [← hH3, Heap.size_push, sz2]
  rw [hC] at hns₃ hsb₃ ⊢
  rw [sz2]
  have old : ∀ b o, h₂.get? b = some o → h₃.get? b = some o := fun b o e => hsb₃.extBut b o (Nat.ne_of_lt (Nat.lt_of_lt_of_eq (Nat.lt_succ_of_lt (Heap.lt_size e)) (by rw [sz2]))) (Heap.get?_push_of_some _ (hH3 ▸ Heap.get?_push_of_some _ e))
  have hacc : h₃.PlainList (h₁.objs.size + 1) #[] := ⟨_, hsb₃.extBut _ _ (Nat.ne_of_lt (Nat.lt_succ_self _)) (Heap.get?_push_of_some _ (hH3 ▸ sz2 ▸ Heap.get?_push_size _ rfl))⟩
  have it3 : h₃.IsListIter h₁.objs.size D 0 := it2.at fun o e => old _ o e
  have up3 : Ext h₁ h₃ := fun b o e => old b o (up2 b o e)
  clear old hsb₃ hH3 hC H3 it2 up2 sz2 hH2 h₂
  have hnone : ∀ k, h₁.get? (h₁.objs.size + k) = none := fun k => none_ge (Nat.le_add_right _ _)
  have hnI : h₁.get? h₁.objs.size = none := hnone 0
  have nz : ∀ b o k, h₁.get? b = some o → b ≠ h₁.objs.size + k := fun b o k e q => by rw [q, hnone k] at e; cases e
  generalize h₁.objs.size = I at *
  have loop : ∀ s₃ : Shared, s₃ = { s with heap := h₃, toks := tk₁ + ([] : List (Str × Value)).length } →
      codeAny (model prog w) A (.compLoop (.ListComp (.Name b pe) [⟨.Tuple [.Name a pa, .Name b pb] kk tp, iter, [], 0⟩] scope pos) 0 (.ref I) (.ref (I + 1)) (compEnvC scope cl (I + 2) env))
        (compPost (model prog w) A E (some (assign (.Name y py) env)) (fun _ s' => Q .next s') (.ref (I + 1)) (I + 2)) s₃ := by
    rintro s₃ rfl
    refine kcp_loop (fun k s' => ∃ h' tk i m', s' = { s with heap := h', toks := tk } ∧ i ≤ ps.length ∧ k = ps.length + 1 - i ∧ h'.IsListIter I D i ∧ (∃ us : List Value, h'.PlainList (I + 1) us.toArray ∧ IntsAre us (nms (ps.take i))) ∧ h'.Ns (I + 2) m' ∧ Ext h₁ h') ?_ (ps.length + 1)
      ⟨h₃, _, 0, _, rfl, Nat.zero_le _, rfl, it3, ⟨[], hacc, IntsAre.nil⟩, hns₃, up3⟩
    rintro k s' ⟨h', tk, i, m', rfl, hi, rfl, hit, ⟨us, hus, hui⟩, hn, hx⟩
    have hD' : h'.IsList D (refs ps).toArray := hD.isList.at fun o e => hx _ o e
    by_cases hlt : i < ps.length
    · refine wpAny_pyNext_list_item hit hD' (x := .ref (ps[i]).1) (by simp [hlt]) fun h4 it4 hs4 => ?_
      have k4 : Ext h₁ h4 := fun b o e => hs4.extBut b o (nz b o 0 e) (hx b o e)
      obtain ⟨t1, t2, n, hpair⟩ := hps ps[i] (List.getElem_mem hlt)
      refine wpAny_letOwnedTupleGo_listiter it4 ?_
      have hn4 : h4.Ns (I + 2) m' := hn.at' fun o e => hs4.extBut _ o (by simp) e
      refine kcp_assign (x := .int (key ps[i].2) t1) (y := .int ps[i].2 t2) (env := compEnvC scope cl (I + 2) env) hh ⟨_, k4 _ _ hpair, rfl, _, rfl⟩ (lookup_relabel_local ha) (lookup_relabel_local hb) (by simp [compEnvC, relabel, hkind]) hn4 fun h5 tk5 hn5 k5 => ?_
      replace k5 : ∀ c o, c ≠ I + 2 → h4.get? c = some o → h5.get? c = some o := k5
      replace hn5 : h5.Ns (I + 2) _ := hn5
      have x5 : Ext h₁ h5 := fun b o e => k5 b o (nz b o 2 e) (k4 b o e)
      refine wpAny_Name (wpAny_loadName_local (by simp [compEnvC, relabel, hkind]) (lookup_relabel_local hb) hn5 (if_pos rfl) ?_) hdb
      have hus5 : h5.PlainList (I + 1) us.toArray := PlainList.keep hus fun o e => k5 _ o (by simp) (hs4.extBut _ o (by simp) e)
      refine wpAny_list_append_plain (hsz := by rw [List.size_toArray, hui.length, sizeLine_eq]; simp [nms]; omega) hus5 fun h6 hl6 hs6 => ?_
      refine ⟨ps.length + 1 - (i + 1), by omega, h6, tk5, i + 1, _, rfl, by omega, rfl, ?_, ⟨us ++ [.int ps[i].2 t2], by simpa using hl6, ints_one_more hui (List.getElem?_eq_getElem hlt)⟩, hn5.sameBut hs6 (by simp), fun b o e => hs6.extBut b o (nz b o 1 e) (x5 b o e)⟩
      exact it4.at fun o e => hs6.extBut _ o (by simp) (k5 _ o (by simp) e)
    · have hin : i = ps.length := by omega
      subst hin
      rw [List.take_length] at hui
      refine wpAny_pyNext_list_end hh hit hD' (by simp) fun h4 he4 => ?_
      have k4 : Ext h₁ h4 := fun b o e => he4 b o (nz b o 0 e) (hx b o e)
      show wpAny _ A (assign (.Name y py) env (.ref (I + 1))) _ _ _
      obtain ⟨oL, _, _, hoL, _⟩ := id F₁.ns
      have hL : ∀ k, env.locals ≠ I + k := fun k => nz _ _ k hoL
      refine wpAny_assign_Name (wpAny_storeName_local hy (F₁.ns.at' fun o e => k4 _ o e) (fun h5 hn5 hs5 => ?_) hp)
      refine ⟨m', (hn.at' fun o e => he4 _ o (by simp) e).sameBut hs5 (Ne.symm (hL 2)), fun h6 hs6 => ?_⟩
      have k6 : Sub [env.locals] h₁ h6 := fun b o hb e => hs6.extBut b o (nz b o 2 e) (hs5.extBut b o (fun z => hb (by simp [z])) (k4 b o e))
      refine fin (I + 1) h6 _ us ?_ hui ⟨hn5.sameBut hs6 (hL 2), fun b o e => k6 b o (fun z => ?_) (F₁.keep b o e), F₁.above⟩ k6 (hnone 1)
      · exact PlainList.keep hus fun o e => hs6.extBut _ o (by simp) (hs5.extBut _ o (Ne.symm (hL 1)) (he4 _ o (by simp) e))
      · rw [List.mem_singleton.mp z] at e; exact absurd (Heap.lt_size e) (Nat.not_lt.mpr F₁.above)
  exact codeAny_compStart_list (loop _ rfl) (wpAny_pyIter_listiter it3 (loop _ rfl))
end Mine
end
section
open PySem PySem.W PyProof.Rows
set_option Elab.async false
set_option maxRecDepth 100000
set_option maxHeartbeats 8000000
namespace Mine
local macro_rules | `(tactic| walk_at "nm") => `(tactic| (with_reducible show wpAny _ _ (eval (Expr.Name _ _) _) _ _ _); first
  | (with_unfolding_all refine nm_local (by assumption) (by assumption) ?_ rfl rfl (by decide))
  | (with_unfolding_all refine nm_cell (by assumption) ?_ rfl rfl rfl (by decide))
  | (with_unfolding_all refine nm_cell (IsCell.keep (by assumption) (Fr.keep (by assumption))) ?_ rfl rfl rfl (by decide))
  | (refine nm_built (by assumption) (by k_asm) (by k_asm) (by k_is) (by boot_by_name) (by decide) ?_ rfl rfl rfl rfl (by decide)))
local macro_rules | `(tactic| walk_at "w") => `(tactic| first | walk_at "nm" | walk1)
theorem ref_at {rs : List Addr} {j : Nat} {v : Value} (hv : (rs.map Value.ref).toArray[j]? = some v) : ∃ r, rs[j]? = some r ∧ v = .ref r := by
  cases e : rs[j]? with
  | none => simp [e] at hv
  | some r => simp [e] at hv; exact ⟨r, rfl, hv.symm⟩
theorem least_low {ns : List Int} {M : Int} (h : 0 < ns.length) (h1 : M ∈ enoughs ns ns.length) (h2 : ∀ a ∈ enoughs ns ns.length, M ≤ a) : M = medLow ns := by
  obtain ⟨a, b⟩ := low_least h
  have := h2 _ a
  have := b _ h1
  omega
theorem least_high {ns : List Int} {M : Int} (h : 0 < ns.length) (h1 : M ∈ enoughs ns (ns.length + 1)) (h2 : ∀ a ∈ enoughs ns (ns.length + 1), M ≤ a) : M = medHigh ns := by
  obtain ⟨a, b⟩ := high_least h
  have := h2 _ a
  have := b _ h1
  omega
theorem tupIter_keep {h h' : Heap} {a t : Addr} {i : Nat} (x : h.IsTupleIter a t i) (k : ∀ o, h.get? a = some o → h'.get? a = some o) : h'.IsTupleIter a t i := let ⟨o, e, r⟩ := x; ⟨o, k o e, r⟩
theorem tup_keep {h h' : Heap} {a : Addr} {its : Array Value} (x : h.IsTuple a its) (k : ∀ o, h.get? a = some o → h'.get? a = some o) : h'.IsTuple a its := let ⟨o, e, r⟩ := x; ⟨o, k o e, r⟩
theorem it_zero {h : Heap} {r : Addr} : (h.push { cls := .type "list_iterator", data := .fields #[.ref r, .int 0 0] }).IsListIter h.objs.size r 0 := ⟨_, Heap.get?_push_size _ rfl, rfl, rfl⟩
theorem law_c {w : World} {mean : ExcName → Option Value} {mg mb : Str → Option Value} {s : Shared} {R : Result → Shared → Prop} {l : Addr} {vs : List Value} {ns : List Int}
    (X : (hd.heap_1 w.params).In s.heap) (T : Top Mine.view (looseW Mine.view [Str.ofString "_NodeInfo"]) mean mg mb s.heap)
    (hl : s.heap.IsList l vs.toArray) (hI : IntsAre vs ns) (hn : ns.length ≤ 63)
    (hR : ∀ h' tk, Ext s.heap h' → R (.ok (.ret (.bool true))) { s with heap := h', toks := tk }) :
    codeAny (model PySem.Challenge.rw_nb0259_01.row.prog w) callerA (.call (.ref 202) ⟨[.ref l], []⟩) R s := by
  have Xs := X
  have Ts := T
  revert Xs; k_fill; intro Xs
  (refine' code_baseC (K := hd.heap_1 w.params) ?k3 ?k5 ?k6 ?k7 ?k8 ?k9 ?kB ?kD ?_ ?c2 ?c3 ?c4; (case k3 => exact Xs); (case k5 => exact Ts); (case k6 => k_is); (case k7 => k_is); (case k8 => k_room); (case k9 => exact BindsTo.of_eq rfl); (case kB => exact rfl); (case kD => decide +kernel); (case c2 => exact rfl); (case c3 => exact rfl); (case c4 => exact rfl); k_whole; intro L' h' tk' cells' F' N' Y'; k_cells Y'; (try simp only [List.cons_append, List.nil_append] at N'); (try dsimp only))
  rename_i ok or_ on oc dk dr dn dc
  have hck : h'.IsCell (L' + 4) none := ⟨ok, (N' _ (.head _)).1, dk⟩
  have hcr : h'.IsCell (L' + 3) none := ⟨or_, (N' _ (.tail _ (.head _))).1, dr⟩
  have hcn : h'.IsCell (L' + 2) none := ⟨on, (N' _ (.tail _ (.tail _ (.head _)))).1, dn⟩
  have hcc : h'.IsCell (L' + 1) none := ⟨oc, (N' _ (.tail _ (.tail _ (.tail _ (.head _))))).1, dc⟩
  clear N' dk dr dn dc
  obtain ⟨m0, F0, hm0⟩ : ∃ m, Fr s.heap L' h' m ∧ m (Str.ofString "script") = some (.ref l) := ⟨_, F', by with_unfolding_all rfl⟩
  clear F'
  have q0 : LawSt s.heap L' h' m0 none none none none := ⟨F0, hcc, hcn, hcr, hck⟩
  clear hck hcr hcn hcc
  refine wp_hide fun QF EF hqF _ => ?_
  iterate 8 walk_at "w"
  refine ⟨X.keeps F0.keep, ?_⟩
  refine cells_c (s := ⟨h', _, _, _, _⟩) (X.keeps F0.keep) (T.keeps F0.keep) (hl.at fun o e => F0.keep _ o e) hI (by omega) fun D1 h1 tk1 cs' cs hD1 hcs hc5 k1 _ => ?_
  replace k1 : Ext h' h1 := k1
  have q1 := q0.grow k1
  clear q0 F0
  refine LawSt.stoC rfl rfl rfl rfl q1 fun h2 q2 k2 => ?_
  replace k2 : Sub [L' + 1] h1 h2 := k2
  have hD2 := q1.list hD1 (k2.mono fun x hx => by simp at hx; simp [hx])
  have F2 := q2.F
  have c2 := q2.c
  clear q1 k1 k2 hD1
  iterate 8 walk_at "w"
  refine ⟨X.keeps F2.keep, ?_⟩
  refine needs_c (s := ⟨h2, _, _, _, _⟩) (X.keeps F2.keep) (T.keeps F2.keep) hD2 hcs hc5 fun N h3 tk3 G hG hG5 hG10 k3 => ?_
  replace k3 : Ext h2 h3 := k3
  have q3 := q2.grow k3
  have hD3 := hD2.at fun o e => k3 _ o e
  clear q2 F2 hD2 c2 k3
  refine LawSt.stoN rfl rfl rfl rfl q3 fun h4 q4 k4 => ?_
  replace k4 : Sub [L' + 2] h3 h4 := k4
  have k4' : Sub (FX L') h3 h4 := k4.mono fun x hx => by simp at hx; simp [hx]
  have hD4 := q3.list hD3 k4'
  have hG4 := q3.needs hG k4'
  have F4 := q4.F
  have c4 := q4.c
  clear q3 k4 k4' hD3 hG
  obtain ⟨np, hnp⟩ : ∃ np, np = 2 + ns.length % 3 := ⟨_, rfl⟩
  obtain ⟨pk, hpk⟩ : ∃ pk : Nat → Int, pk = fun i => Int.fmod (Int.fdiv (cs.getD i 0) 7) 1000 := ⟨_, rfl⟩
  have hpk0 : ∀ i, 0 ≤ pk i := fun i => by rw [hpk]; exact Int.fmod_nonneg_of_pos _ (by decide)
  have hl4 : h4.IsList l vs.toArray := hl.at fun o e => F4.keep _ o e
  have X4 := X.keeps F4.keep
  have T4 := T.keeps F4.keep
  walk1
  refine LCI_to (n := np) (f := pk) (cl := [(Str.ofString "cells", L' + 1)]) (by with_unfolding_all rfl) (by with_unfolding_all rfl) (by decide) rfl (by decide) (by decide) (by with_unfolding_all rfl) (by with_unfolding_all rfl) F4 (by omega) (SrcOk.range (k := np) rfl (by omega) ?hname ?he (by with_unfolding_all rfl)) ?hel ?hQ
  case hname => intro Q' q; walk_at "nm"; exact q
  case he =>
    intro Q' q
    iterate 13 walk_at "w"
    have e : (2 + Int.fmod (ns.length : Int) 3) = (np : Int) := by rw [Int.fmod_eq_emod_of_nonneg _ (by decide)]; omega
    rw [e]
    exact q _ _
  case hel =>
    rintro i v h tk m E' C Q' hi ⟨t, rfl⟩ F hm hq
    iterate 10 walk_at "w"
    have e : pk i = ((cs.getD ((i : Int)).toNat 0).fdiv 7).fmod 1000 := by rw [hpk]; rfl
    rw [← e]
    exact hq _ _ _ fun _ _ e => e
  intro P h5 tk5 ps hP hps F5 k5 _
  replace k5 : Sub [L'] h4 h5 := k5
  have k5' := sub_L k5
  have q5 := q4.loc F5 k5
  have hG5' := q4.needs hG4 k5'
  generalize hm5 : (fun z => if z = Str.ofString "picks" then some (Value.ref P) else m0 z) = m5 at F5 q5
  have p5 : m5 (Str.ofString "picks") = some (.ref P) := by rw [← hm5]; exact if_pos rfl
  have n5 := q5.n
  clear q4 F4 c4 hD4 hG4 hl4 X4 T4 k5 k5' hm5
  have X5 := X.keeps F5.keep
  have T5 := T.keeps F5.keep
  dsimp only
  walk1
  walk1
  refine LCL (n := np) (P := fun i v => ps.toArray[i]? = some v) (g := fun i => plainRun G (pk i)) (cl := [(Str.ofString "needs", L' + 2)]) (by with_unfolding_all rfl) (by decide) rfl (by decide) (by decide) (by omega) ?hsrc ?hel2 ?hQ2
  case hsrc =>
    walk_at "nm"
    have e : ps.toArray.size = np := by rw [List.size_toArray, hps.length]; simp
    rw [← e]
    exact SrcOk.list rfl hP.isList
  case hel2 =>
    intro i v h tk m E' C Q' hi hv F hm hq
    obtain ⟨n, t, hn, rfl⟩ := ints_at hps hv
    have en : n = pk i := by simpa [hi] using hn.symm
    subst en
    iterate 6 walk_at "w"
    iterate 2 walk_at "w"
    refine ⟨X5.keeps F.keep, ?_⟩
    exact plain_c (s := ⟨h, _, _, _, _⟩) (X5.keeps F.keep) (T5.keeps F.keep) (hG5'.keep F.keep) (hpk0 i) fun a h' tk us p r k z => hq a us h' tk p r z k
  intro RS h6 tk6 rs hRS k6 _
  replace k6 : Ext h5 h6 := k6
  have q6 := q5.grow k6
  have hP6 := hP.at fun o e => k6 _ o e
  have hG6 := hG5'.keep k6
  refine LawSt.stoR rfl rfl rfl rfl q6 fun h7 q7 k7 => ?_
  replace k7 : Sub [L' + 3] h6 h7 := k7
  have k7' : Sub (FX L') h6 h7 := k7.mono fun x hx => by simp at hx; simp [hx]
  have hP7 := q6.plain hP6 k7'
  have hG7 := q6.needs hG6 k7'
  have hRS7 := q6.lists hRS k7'
  clear q5 q6 F5 n5 hP hG5' X5 T5 k6 hP6 hG6 hRS k7 k7'
  have F7 := q7.F
  have c7 := q7.r
  have X7 := X.keeps F7.keep
  have T7 := T.keeps F7.keep
  dsimp only
  have hlen5 : ∀ p : Int, 0 ≤ p → (plainRun G p).length ≤ 5 := fun p hp => (plainRun_end (G := G) hp).1.names.le
  obtain ⟨r0, hr0⟩ : ∃ r0, rs[0]? = some r0 := ⟨rs[0]'(by rw [hRS7.2.1]; omega), List.getElem?_eq_getElem _⟩
  obtain ⟨⟨us0, hu0, hus0⟩, _⟩ := hRS7.2.2 0 r0 hr0
  have hRl := hRS7.1.isList
  have hu0l := hu0.isList
  iterate 10 walk_at "w"
  refine item_list (x := .ref r0) hRl (by omega) (by omega) (by simp [hr0]) ?_
  walk_at "w"
  refine PyProof.Rows.len_list hu0l (by rw [List.size_toArray, show us0.length = (plainRun G (pk 0)).length from hus0.length]; have := hlen5 (pk 0) (hpk0 0); omega) ?_
  iterate 2 walk_at "w"
  have hring : decide (((us0.toArray.size : Nat) : Int) < 5) = decide ((plainRun G (pk 0)).length < 5) := by
    have : us0.length = (plainRun G (pk 0)).length := hus0.length
    rw [List.size_toArray, this]
    simp only [decide_eq_decide]; omega
  rw [hring]
  clear hRl hu0l hu0 hus0 hring
  refine sto_any rfl rfl F7 fun h8 m8 F8 tr mr8 k8 => ?_
  replace k8 : Sub [L'] h7 h8 := k8
  replace F8 : Fr s.heap L' h8 m8 := F8
  obtain ⟨ring, hring⟩ : ∃ ring, ring = decide ((plainRun G (pk 0)).length < 5) := ⟨_, rfl⟩
  rw [← hring] at mr8
  have e8 := q7.keepI k8
  have b8 : LawB s.heap L' N RS P G pk np rs h5 ring h8 m8 _ _ := ⟨q7.loc F8 k8, e8.needs hG7, ⟨ps, e8.plain hP7, hps⟩, e8.lists hRS7, tr _ _ p5 (by decide), mr8⟩
  clear q7 F7 c7 X7 T7 tr k8 hP7 hG7 hRS7
  have F8' := b8.q.F
  have c8 := b8.q.r
  have X8 := X.keeps F8.keep
  have T8 := T.keeps F8.keep
  have hRl := b8.hR.1.isList
  dsimp only
  walk1
  refine wpAny_For (src_range (k := np) (by omega) ?hname3 ?he3 (by with_unfolding_all rfl) fun a1 a2 a3 tk9 => ?_)
  case hname3 => intro Q' q; walk_at "nm"; exact q
  case he3 =>
    intro Q' q
    iterate 6 walk_at "w"
    refine PyProof.Rows.len_list hRl (by rw [List.size_toArray, List.length_map, b8.hR.2.1]; omega) ?_
    rw [List.size_toArray, List.length_map, b8.hR.2.1]
    exact q _ _
  obtain ⟨z1, z2, z3⟩ := rg_ok (k := np) (a := a1) (b := a2) (c := a3) (h := h8)
  generalize hH : (h8.push (rgObj np a1 a2 a3)).push (riObj np) = h9 at z1 z2 z3 ⊢
  have b9 := b8.grow z2
  have gI : s.heap.get? (h8.objs.size + 1) = none := none_ge (Nat.le_trans F8.above (Nat.le_trans (Nat.le_of_lt F8.ns.lt) (Nat.le_succ _)))
  clear b8 F8 F8' c8 X8 T8 hRl z1 z2 hH
  generalize h8.objs.size + 1 = I at *
  refine for_own (s := ⟨h9, _, _, _, _⟩) (Walks.range (A := callerA.deeper _) rfl I 0 1 np)
    (fun i s' => ∃ h m tk, s' = { s with heap := h, toks := tk } ∧ LawB s.heap L' N RS P G pk np rs h5 ring h m (some (.ref D1)) none ∧ ∃ x y z, IsRangeIter h I x y z) z3 ⟨h9, _, _, rfl, b9, _, _, _, z3⟩ ?turn ?fin
  case turn =>
    rintro i v s1 h1 tk1 E' hi ⟨t0, rfl⟩ ⟨h, m, tk, rfl, b, x, y, z, hst0⟩ hst hs1
    have ei : (0 + (i : Int) * 1) = (i : Int) := by omega
    rw [ei]
    have b1 := b.rg hst0 gI hs1
    have oI := b1.q.offR hst
    clear b hst0 hs1 b9 z3
    refine asg_any (s := { s with heap := h1, toks := tk1 }) rfl rfl b1.q.F fun h2 m2 F2 tr mk k2 => ?_
    replace k2 : Sub [L'] h1 h2 := k2
    replace F2 : Fr s.heap L' h2 m2 := F2
    have b2 := b1.loc F2 k2 (tr _ _ b1.mp (by decide)) (tr _ _ b1.mr (by decide))
    have st2 := k2 _ _ (fun y => oI (by rw [List.mem_singleton.mp y]; simp)) hst
    clear b1 tr k2 hst
    have mp2 := b2.mp
    have mr2 := b2.mr
    have n2 := b2.q.n
    have r2 := b2.q.r
    have X2 := X.keeps F2.keep
    have T2 := T.keeps F2.keep
    dsimp only
    refine wp_hide fun QT ET hqT _ => ?_
    iterate 22 walk_at "w"
    refine newList_ints (ns := [0, 0, 0, 0, 0]) (.cons _ _ (.cons _ _ (.cons _ _ (.cons _ _ (.cons _ _ .nil))))) (by simp) fun h3 K kvs k3 eK hkv nK => ?_
    replace k3 : Ext h2 h3 := k3
    have b3 := b2.grow k3
    have st3 := k3 _ _ st2
    have F3 := b3.q.F
    obtain ⟨ps3, pl3, pi3⟩ := b3.hP
    have pl3' := pl3.isList
    have X3 := X.keeps F3.keep
    have T3 := T.keeps F3.keep
    clear b2 F2 n2 r2 X2 T2 st2 k3 nK
    dsimp only
    iterate 7 walk_at "w"
    have epk : ((List.range np).map pk).getD ((i : Int)).toNat 0 = pk i := by simp [List.getD_eq_getElem?_getD, hi]
    rw [epk]
    refine law_run (s := ⟨h3, _, _, _, _⟩) (pk0 := pk 0) X T b3.q rfl rfl b3.hG hG5 hG10 eK.isList hkv rfl (hpk0 i) (hpk0 0) fun h4 tk4 T1 R1 us1 e1 e2 e3 k4 nT nR => ?_
    rw [← hring] at e1
    have hrk : runK G (keyOf [0, 0, 0, 0, 0]) 5 [] (pk i) = plainRun G (pk i) := by
      have ek : keyOf [0, 0, 0, 0, 0] = fun _ => 0 := funext fun i => by unfold keyOf; rcases i.toNat with _ | _ | _ | _ | _ | _ <;> rfl
      rw [ek, runK_plain]; rfl
    rw [hrk] at e3
    replace k4 : FKeep [L'] h3 h4 := k4
    have b4 := b3.fkeep k4
    have st4 := k4.sub _ _ (fun y => oI (by rw [List.mem_singleton.mp y]; simp)) st3
    obtain ⟨ri, hri⟩ : ∃ ri, rs[i]? = some ri := ⟨rs[i]'(by rw [b3.hR.2.1]; omega), List.getElem?_eq_getElem _⟩
    obtain ⟨⟨usi, hui, husi⟩, _⟩ := b3.hR.2.2 i ri hri
    have hR1 : R1 ≠ ri := by rintro rfl; obtain ⟨_, z⟩ := hui; rw [show h3.get? R1 = none from nR] at z; cases z
    have hui4 := (b3.q.keepI k4.sub).plain hui
    have F4 := b4.q.F
    have r4 := b4.q.r
    have mr4 := b4.mr
    have hRl := b4.hR.1.isList
    have X4 := X.keeps F4.keep
    have T4 := T.keeps F4.keep
    clear b3 F3 pl3 pl3' X3 T3 st3 k4 nT nR hui
    dsimp only
    iterate 5 walk_at "w"
    refine item_list (x := .ref ri) hRl (by omega) (by omega) (by simp [hri]) ?_
    iterate 5 walk_at "w"
    refine wpAny_newTuple ?_
    generalize hH5 : Heap.push h4 _ = h5
    have k5 : Ext h4 h5 := fun a o e => hH5 ▸ Heap.get?_push_of_some _ e
    have t5 : h5.get? h4.objs.size = some { cls := .type "tuple", data := .seq #[.ref ri, .bool ring, .bool true] } := hH5 ▸ Heap.get?_push_size _ rfl
    refine ne_triple (T1 := T1) (T2 := h4.objs.size) (R1 := R1) (R2 := ri) (p := ring) (q := true) hR1 ⟨_, k5 _ _ e1, rfl, _, rfl⟩ ⟨_, t5, rfl, _, rfl⟩ (e2.isList.at fun o e => k5 _ o e) (hui4.isList.at fun o e => k5 _ o e) e3 husi (by k_units) ?_
    have b5 := b4.grow k5
    iterate 5 walk_at "w"
    have st5 := k5 _ _ st4
    refine hqT _ _ ?_
    exact ⟨⟨h5, _, _, rfl, b5, _, _, _, st5⟩, st5⟩
  case fin =>
    rintro s1 h1 tk1 ⟨h, m, tk, rfl, b, x, y, z, hst0⟩ hs1
    have b1 := b.rg hst0 gI hs1
    clear b hst0 hs1 b9 z3
    obtain ⟨gR, b1⟩ : ∃ gR, LawB s.heap L' N RS P G pk np rs gR ring h1 m (some (.ref D1)) none := ⟨_, b1⟩
    have F1 := b1.q.F
    have r1 := b1.q.r
    have X1 := X.keeps F1.keep
    have T1 := T.keeps F1.keep
    have hRl := b1.hR.1.isList
    show wpAny _ _ (execs _ _) _ _ _
    walk1
    refine LCLC_to (n := 5) (g := fun i => rowOf ((List.range np).map fun j => plainRun G (pk j)) (i : Int)) (cl := [(Str.ofString "runs", L' + 3)]) (by with_unfolding_all rfl) (by with_unfolding_all rfl) (fun _ => by with_unfolding_all rfl) (fun _ => by with_unfolding_all rfl) rfl (by decide) (by decide) (by with_unfolding_all rfl) (by with_unfolding_all rfl) F1 (by omega) (SrcOk.range (k := 5) rfl (by omega) ?hname4 ?he4 (by with_unfolding_all rfl)) ?hel4 ?hQ4
    case hname4 => intro Q' q; walk_at "nm"; exact q
    case he4 => intro Q' q; walk1; exact q _ _
    case hel4 =>
      rintro i v h2 tk2 m2 E2 C2 K2 Q2 hi ⟨t, rfl⟩ F2 hc2 hq2
      refine LCI (n := np) (P := fun i v => (rs.map Value.ref).toArray[i]? = some v) (f := fun j => place (plainRun G (pk j)) (i : Int)) (cl := [(Str.ofString "name", K2)]) (by with_unfolding_all rfl) (by decide) rfl (by decide) (by decide) (by omega) ?hsrc5 ?hel5 ?hQ5
      case hsrc5 =>
        walk_at "nm"
        have e : (rs.map Value.ref).toArray.size = np := by rw [List.size_toArray, List.length_map, b1.hR.2.1]
        rw [← e]
        exact SrcOk.list rfl (hRl.at fun o e => F2.keep _ o e)
      case hel5 =>
        intro j v h3 tk3 m3 E3 C3 Q3 hj hv F3 hm3 hq3
        obtain ⟨r, hr, rfl⟩ := ref_at hv
        obtain ⟨⟨us, hu, hus⟩, _⟩ := b1.hR.2.2 j r hr
        replace hus : IntsAre us (plainRun G (pk j)) := hus
        have hu3 : h3.PlainList r us.toArray := hu.at fun o e => F3.keep _ o (F2.keep _ o e)
        iterate 4 walk_at "w"
        refine in_list_ints hu3.isList hus ?_
        walk1
        split
        · rename_i hin
          have hmem : (i : Int) ∈ plainRun G (pk j) := by simpa using hin
          have epl : place (plainRun G (pk j)) (i : Int) = ((plainRun G (pk j)).idxOf (i : Int) : Nat) := if_pos hmem
          iterate 2 walk_at "w"
          refine meth_index hu3 ?_
          iterate 4 walk_at "w"
          refine call_index hu3 hus hmem (by have := hlen5 (pk j) (hpk0 j); omega) fun u tk => ?_
          rw [← epl]
          exact hq3 _ _ _ fun _ _ e => e
        · rename_i hin
          have hmem : (i : Int) ∉ plainRun G (pk j) := by simpa using hin
          have epl : place (plainRun G (pk j)) (i : Int) = 5 := if_neg hmem
          walk_at "w"
          rw [← epl]
          exact hq3 _ _ _ fun _ _ e => e
      intro D h3 tk3 us hD hus k3 nD
      exact hq2 D us h3 tk3 hD (by rw [rowOf, List.map_map]; exact hus) nD k3
    intro W h2 tk2 ws hW F2 k2 _
    replace k2 : Sub [L'] h1 h2 := k2
    generalize hm2 : (fun z => if z = Str.ofString "rows" then some (Value.ref W) else m z) = m2 at F2
    have p2 : m2 (Str.ofString "picks") = some (.ref P) := by rw [← hm2]; exact b1.mp
    have q2 : m2 (Str.ofString "ring") = some (.bool ring) := by rw [← hm2]; exact b1.mr
    have w2 : m2 (Str.ofString "rows") = some (.ref W) := by rw [← hm2]; exact if_pos rfl
    have b2 := b1.loc F2 k2 p2 q2
    clear b1 F1 r1 X1 T1 hRl k2 hm2
    obtain ⟨RU, hRU⟩ : ∃ RU, RU = (List.range np).map fun j => plainRun G (pk j) := ⟨_, rfl⟩
    have hrow : ∀ z, (rowOf RU z).length = np := fun z => by rw [hRU]; simp [rowOf]
    simp only [← hRU] at hW
    have X2 := X.keeps F2.keep
    have T2 := T.keeps F2.keep
    have hWl := hW.1.isList
    dsimp only
    walk1
    refine LCI_to (n := 5) (P := fun i v => (ws.map Value.ref).toArray[i]? = some v) (f := fun i => medLow (rowOf RU (i : Int))) (cl := []) (by with_unfolding_all rfl) (by with_unfolding_all rfl) (by decide) rfl (by decide) (by decide) (by with_unfolding_all rfl) (by with_unfolding_all rfl) F2 (by omega) ?hsrc6 ?hel6 ?hQ6
    case hsrc6 =>
      walk_at "nm"
      have e : (ws.map Value.ref).toArray.size = 5 := by rw [List.size_toArray, List.length_map, hW.2.1]
      rw [← e]
      exact SrcOk.list rfl hWl
    case hel6 =>
      intro j v h3 tk3 m3 E3 C3 Q3 hj hv F3 hm3 hq3
      obtain ⟨r, hr, rfl⟩ := ref_at hv
      obtain ⟨⟨us, hu, hus⟩, _⟩ := hW.2.2 j r hr
      replace hus : IntsAre us (rowOf RU (j : Int)) := hus
      have := hrow (j : Int)
      iterate 7 walk_at "w"
      refine median_low_c (s := ⟨h3, _, _, _, _⟩) (X2.keeps F3.keep) (T2.keeps F3.keep) (hu.isList.at fun o e => F3.keep _ o e) hus (by omega) (by omega) fun t h' tk k => ?_
      exact hq3 _ _ _ k
    intro W3 h3 tk3 lo hlo hlo' F3 k3 _
    replace k3 : Sub [L'] h2 h3 := k3
    generalize hm3 : (fun z => if z = Str.ofString "low" then some (Value.ref W3) else m2 z) = m3 at F3
    have b3 := b2.loc F3 k3 (by rw [← hm3]; exact p2) (by rw [← hm3]; exact q2)
    have w3 : m3 (Str.ofString "rows") = some (.ref W) := by rw [← hm3]; exact w2
    have l3 : m3 (Str.ofString "low") = some (.ref W3) := by rw [← hm3]; exact if_pos rfl
    have hW3 := (b2.q.keepI k3).lists hW
    have hWl3 := hW3.1.isList
    clear b2 F2 p2 q2 w2 X2 T2 hW hWl k3 hm3
    have X3 := X.keeps F3.keep
    have T3 := T.keeps F3.keep
    dsimp only
    walk1
    refine LCI_to (n := 5) (P := fun i v => (ws.map Value.ref).toArray[i]? = some v) (f := fun i => medHigh (rowOf RU (i : Int))) (cl := []) (by with_unfolding_all rfl) (by with_unfolding_all rfl) (by decide) rfl (by decide) (by decide) (by with_unfolding_all rfl) (by with_unfolding_all rfl) F3 (by omega) ?hsrc7 ?hel7 ?hQ7
    case hsrc7 =>
      walk_at "nm"
      have e : (ws.map Value.ref).toArray.size = 5 := by rw [List.size_toArray, List.length_map, hW3.2.1]
      rw [← e]
      exact SrcOk.list rfl hWl3
    case hel7 =>
      intro j v h4 tk4 m4 E4 C4 Q4 hj hv F4 hm4 hq4
      obtain ⟨r, hr, rfl⟩ := ref_at hv
      obtain ⟨⟨us, hu, hus⟩, _⟩ := hW3.2.2 j r hr
      replace hus : IntsAre us (rowOf RU (j : Int)) := hus
      have := hrow (j : Int)
      iterate 7 walk_at "w"
      refine median_high_c (s := ⟨h4, _, _, _, _⟩) (X3.keeps F4.keep) (T3.keeps F4.keep) (hu.isList.at fun o e => F4.keep _ o e) hus (by omega) (by omega) fun t h' tk k => ?_
      exact hq4 _ _ _ k
    intro W4 h4 tk4 hi hhi hhi' F4 k4 _
    replace k4 : Sub [L'] h3 h4 := k4
    generalize hm4 : (fun z => if z = Str.ofString "high" then some (Value.ref W4) else m3 z) = m4 at F4
    have b4 := b3.loc F4 k4 (by rw [← hm4]; exact b3.mp) (by rw [← hm4]; exact b3.mr)
    have w4 : m4 (Str.ofString "rows") = some (.ref W) := by rw [← hm4]; exact w3
    have l4 : m4 (Str.ofString "low") = some (.ref W3) := by rw [← hm4]; exact l3
    have g4 : m4 (Str.ofString "high") = some (.ref W4) := by rw [← hm4]; exact if_pos rfl
    have hW4 := (b3.q.keepI k4).lists hW3
    have hlo4 := (b3.q.keepI k4).plain hlo
    have hWl4 := hW4.1.isList
    clear b3 F3 w3 l3 X3 T3 hW3 hWl3 k4 hm4 hlo
    have X4 := X.keeps F4.keep
    have T4 := T.keeps F4.keep
    dsimp only
    iterate 4 walk_at "w"
    refine LCI (n := 5) (P := fun i v => (ws.map Value.ref).toArray[i]? = some v) (f := fun i => medLow (rowOf RU (i : Int))) (cl := []) (by with_unfolding_all rfl) (by decide) rfl (by decide) (by decide) (by omega) ?hsrc8 ?hel8 ?hQ8
    case hsrc8 =>
      walk_at "nm"
      have e : (ws.map Value.ref).toArray.size = 5 := by rw [List.size_toArray, List.length_map, hW4.2.1]
      rw [← e]
      exact SrcOk.list rfl hWl4
    case hel8 =>
      intro j v h5 tk5 m5 E5 C5 Q5 hj hv F5 hm5 hq5
      obtain ⟨r, hr, rfl⟩ := ref_at hv
      obtain ⟨⟨us, hu, hus⟩, _⟩ := hW4.2.2 j r hr
      replace hus : IntsAre us (rowOf RU (j : Int)) := hus
      have hnj := hrow (j : Int)
      have hul := hu.isList.at fun o e => F5.keep _ o e
      iterate 12 walk_at "w"
      refine PyProof.Rows.len_list hul (by rw [List.size_toArray, hus.length]; omega) ?_
      rw [List.size_toArray, hus.length]
      iterate 2 walk_at "w"
      refine least_c (s := ⟨h5, _, _, _, _⟩) (X4.keeps F5.keep) (T4.keeps F5.keep) hul hus (by omega) (by omega) (by omega) fun M t h' tk c1 c2 k => ?_
      rw [least_low (by omega) c1 c2]
      exact hq5 _ _ _ k
    intro D5 h5 tk5 lo5 hD5 hlo5 k5 _
    replace k5 : Ext h4 h5 := k5
    refine ne_intsK (hlo4.isList.at fun o e => k5 _ o e) hlo' hD5.isList hlo5 (by k_units) ?_
    simp only [decide_true, Bool.not_true]
    have b5 := b4.grow k5
    have F5 := b5.q.F
    have hW5 := (KeepL.of_ext k5).lists hW4
    have hhi5 := (KeepL.of_ext k5).plain hhi
    have hlo5 := (KeepL.of_ext k5).plain hlo4
    have hWl5 := hW5.1.isList
    clear b4 F4 X4 T4 hW4 hWl4 hlo4 hhi k5 hD5
    have X5 := X.keeps F5.keep
    have T5 := T.keeps F5.keep
    iterate 7 walk_at "w"
    refine LCI (n := 5) (P := fun i v => (ws.map Value.ref).toArray[i]? = some v) (f := fun i => medHigh (rowOf RU (i : Int))) (cl := []) (by with_unfolding_all rfl) (by decide) rfl (by decide) (by decide) (by omega) ?hsrc9 ?hel9 ?hQ9
    case hsrc9 =>
      walk_at "nm"
      have e : (ws.map Value.ref).toArray.size = 5 := by rw [List.size_toArray, List.length_map, hW5.2.1]
      rw [← e]
      exact SrcOk.list rfl hWl5
    case hel9 =>
      intro j v h6 tk6 m6 E6 C6 Q6 hj hv F6 hm6 hq6
      obtain ⟨r, hr, rfl⟩ := ref_at hv
      obtain ⟨⟨us, hu, hus⟩, _⟩ := hW5.2.2 j r hr
      replace hus : IntsAre us (rowOf RU (j : Int)) := hus
      have hnj := hrow (j : Int)
      have hul := hu.isList.at fun o e => F6.keep _ o e
      iterate 13 walk_at "w"
      refine PyProof.Rows.len_list hul (by rw [List.size_toArray, hus.length]; omega) ?_
      rw [List.size_toArray, hus.length]
      iterate 4 walk_at "w"
      refine least_c (s := ⟨h6, _, _, _, _⟩) (X5.keeps F6.keep) (T5.keeps F6.keep) hul hus (by omega) (by omega) (by omega) fun M t h' tk c1 c2 k => ?_
      rw [least_high (by omega) c1 c2]
      exact hq6 _ _ _ k
    intro D6 h6 tk6 hi6 hD6 hhi6 k6 _
    replace k6 : Ext h5 h6 := k6
    refine ne_intsK (hhi5.isList.at fun o e => k6 _ o e) hhi' hD6.isList hhi6 (by k_units) ?_
    simp only [decide_true, Bool.not_true]
    have b6 := b5.grow k6
    have F6 := b6.q.F
    have hhi6 := (KeepL.of_ext k6).plain hhi5
    have hlo6 := (KeepL.of_ext k6).plain hlo5
    clear b5 F5 X5 T5 hW5 hWl5 hlo5 hhi5 k6 hD6 w4
    have X6 := X.keeps F6.keep
    have T6 := T.keeps F6.keep
    iterate 4 walk_at "w"
    refine wpAny_For ?_
    iterate 6 walk_at "w"
    refine wpAny_newTuple ?_
    generalize hH7 : Heap.push h6 _ = h7
    have k7 : Ext h6 h7 := fun a o e => hH7 ▸ Heap.get?_push_of_some _ e
    have t7 : h7.IsTuple h6.objs.size #[.ref W3, .ref W4] := ⟨_, hH7 ▸ Heap.get?_push_size _ rfl, rfl, _, rfl⟩
    have oT : h6.objs.size ∉ FX L' := b6.q.offN (Nat.le_refl _)
    have b7 := b6.grow k7
    have hlo7 := (KeepL.of_ext k7).plain hlo6
    have hhi7 := (KeepL.of_ext k7).plain hhi6
    clear b6 F6 X6 T6 hlo6 hhi6 k7 hH7 l4 g4
    dsimp only
    generalize h6.objs.size = TT at t7 oT ⊢
    refine wpAny_pyIter_tuple t7 ?_
    dsimp only
    have oI : h7.objs.size ∉ FX L' := b7.q.offN (Nat.le_refl _)
    have gI2 : s.heap.get? h7.objs.size = none := none_ge (Nat.le_trans b7.q.F.above (Nat.le_of_lt b7.q.F.ns.lt))
    have hne : TT ≠ h7.objs.size := by obtain ⟨o, ho, _⟩ := t7; exact Nat.ne_of_lt (Heap.lt_size ho)
    generalize hH8 : Heap.push h7 _ = h8
    have k8 : Ext h7 h8 := fun a o e => hH8 ▸ Heap.get?_push_of_some _ e
    have it8 : h8.IsTupleIter h7.objs.size TT 0 := ⟨_, hH8 ▸ Heap.get?_push_size _ rfl, rfl, rfl⟩
    have t8 := tup_keep t7 (k8 _)
    have b8 := b7.grow k8
    have hlo8 := (KeepL.of_ext k8).plain hlo7
    have hhi8 := (KeepL.of_ext k8).plain hhi7
    clear b7 hlo7 hhi7 k8 hH8 t7
    generalize h7.objs.size = I2 at it8 oI gI2 hne ⊢
    have hRUl : 0 < RU.length := by rw [hRU, List.length_map, List.length_range]; omega
    have hRUg : ∀ r ∈ RU, Goes G r ∧ frees G r = [] := fun r hr => by
      rw [hRU] at hr
      obtain ⟨j, _, rfl⟩ := List.mem_map.mp hr
      exact plainRun_end (hpk0 j)
    have hRU0 : plainRun G (pk 0) ∈ RU := by rw [hRU]; exact List.mem_map.mpr ⟨0, List.mem_range.mpr (by omega), rfl⟩
    refine for_own (s := ⟨h8, _, _, _, _⟩) (Walks.tuple (A := callerA.deeper _) rfl I2 TT hne #[.ref W3, .ref W4])
      (fun i s' => ∃ h m tk kv, s' = { s with heap := h, toks := tk } ∧ LawB s.heap L' N RS P G pk np rs gR ring h m (some (.ref D1)) kv ∧ h.PlainList W3 lo.toArray ∧ h.PlainList W4 hi.toArray ∧ h.IsTupleIter I2 TT i) ⟨it8, t8⟩ ⟨h8, m4, _, none, rfl, b8, hlo8, hhi8, it8⟩ ?turn2 ?fin2
    case turn2 =>
      rintro i v s1 h9 tk9 E9 hi2 hv ⟨h, mm, tk, kv, rfl, b, lo9, hi9, st0⟩ ⟨st, tp⟩ hs1
      replace hs1 : Sub [I2] h h9 := hs1
      have kl := KeepL.tup st0 hs1
      have b9 := b.one oI gI2 kl hs1
      replace lo9 := kl.plain lo9
      replace hi9 := kl.plain hi9
      clear b kl hs1 st0 b8 hlo8 hhi8 it8 t8
      obtain ⟨med, K, kvs, rfl, hK, hKi, hmed⟩ : ∃ (med : List Int → Int) (K : Addr) (kvs : List Value), v = .ref K ∧ h9.PlainList K kvs.toArray ∧ IntsAre kvs ((List.range 5).map fun i : Nat => med (rowOf RU (i : Int))) ∧ (∀ y ∈ plainRun G (pk 0), ∀ x ∈ G y.toNat, med (rowOf RU x) < med (rowOf RU y)) := by
        have : i = 0 ∨ i = 1 := by simp at hi2; omega
        rcases this with rfl | rfl
        · exact ⟨medLow, W3, lo, by simpa using hv.symm, lo9, hlo', fun y hy x hx => low_lt hRUl hRUg hRU0 hy hx⟩
        · exact ⟨medHigh, W4, hi, by simpa using hv.symm, hi9, hhi', fun y hy x hx => high_lt hRUl hRUg hRU0 hy hx⟩
      obtain ⟨ks, hks⟩ : ∃ ks, ks = ((List.range 5).map fun i : Nat => med (rowOf RU (i : Int))) := ⟨_, rfl⟩
      have hk5 : ks.length = 5 := by rw [hks]; simp
      have hkey : ∀ y ∈ plainRun G (pk 0), ∀ x ∈ G y.toNat, keyOf ks x < keyOf ks y := fun y hy x hx => by
        have hy5 := (plainRun_end (G := G) (hpk0 0)).1.needs y hy
        rw [hks, key_med hy5.1, key_med (hG5 y.toNat (by omega) x hx)]
        exact hmed y hy x hx
      rw [← hks] at hKi
      refine wpAny_assign_Name (LawSt.stoK (s := { s with heap := h9, toks := tk9 }) rfl rfl rfl rfl b9.q fun h10 q10 k10 => ?_)
      replace k10 : Sub [L' + 4] h9 h10 := k10
      have n10 : ∀ a, a ∉ FX L' → a ∉ [L' + 4] := fun a ha z => ha (by rw [List.mem_singleton.mp z]; simp)
      have kl := b9.q.keepL (k10.mono fun x hx => by simp at hx; simp [hx])
      have b10 := b9.stoK q10 k10
      have K10 := kl.plain hK
      have lo10 := kl.plain lo9
      have hi10 := kl.plain hi9
      have st10 := tupIter_keep st fun o e => k10 _ o (n10 _ oI) e
      have tp10 := tup_keep tp fun o e => k10 _ o (n10 _ oT) e
      clear b9 q10 k10 kl hK lo9 hi9 st tp n10
      have F10 := b10.q.F
      have X10 := X.keeps F10.keep
      have T10 := T.keeps F10.keep
      dsimp only
      refine wp_hide fun QU EU hqU _ => ?_
      walk1
      refine LC_names_to (h₀ := s.heap) (m₀ := mm) (cl := []) rfl (by with_unfolding_all rfl) (by with_unfolding_all rfl) (by decide) rfl (by decide) (by decide) (by decide) (by decide) (by with_unfolding_all rfl) (by with_unfolding_all rfl) ?_
      walk1
      walk_at "nm"
      iterate 2 walk1
      have c10 := b10.q.k
      have r10 := b10.q.r
      have hRl10 := b10.hR.1.isList
      obtain ⟨⟨us1, hu1, hus1⟩, _⟩ := b10.hR.2.2 0 r0 hr0
      replace hus1 : IntsAre us1 (plainRun G (pk 0)) := hus1
      replace hu1 : h10.PlainList r0 us1.toArray := hu1
      have hp5 := hlen5 (pk 0) (hpk0 0)
      have hlen1 := hus1.length
      have hgo := plainRun_end (G := G) (hpk0 0)
      have hnm := hgo.1.names
      have hlt0 : (r0 : Nat) < h10.objs.size := by obtain ⟨_, e⟩ := hu1; exact Heap.lt_size e
      refine LC_pairs (cl := [(Str.ofString "keys", L' + 4)]) (key := keyOf ks) (ns := plainRun G (pk 0)) (by with_unfolding_all rfl) (by decide) rfl (by decide) (by decide) (by omega) ?hitX ?helX ?hQX
      case hitX =>
        intro Q' hq
        iterate 3 walk_at "w"
        refine item_list (x := .ref r0) hRl10 (by omega) (by omega) (by simp [hr0]) ?_
        refine wpAny_pyIter_list hu1.isList ?_
        refine hq r0 us1 _ _ _ (Walks.list (A := callerA.deeper _) rfl _ r0 (Nat.ne_of_lt hlt0) us1.toArray) hus1 ⟨it_zero, hu1.isList.at fun o e => Heap.get?_push_of_some _ e⟩ (fun b o e => Heap.get?_push_of_some _ e) (Heap.size_push ..) hlt0 fun i h st => ?_
        obtain ⟨⟨o, ho, _⟩, _⟩ := st
        exact ⟨o, ho⟩
      case helX =>
        intro n t h5 tk5 m5 E5 C Q' hn F5 hm5 hq
        have cc := cell_keep c10 (F5.keep _)
        have hn5 := hnm.2 n hn
        have hkh : h5.IsList K kvs.toArray := K10.isList.at fun o e => F5.keep _ o e
        have hni : ks[n.toNat]? = some (keyOf ks n) := by
          unfold keyOf
          rw [List.getD_eq_getElem?_getD, List.getElem?_eq_getElem (by omega)]; rfl
        obtain ⟨tq, htq⟩ := hKi.get n.toNat _ hni
        iterate 5 walk_at "w"
        refine item_list hkh hn5.1 (by omega) (by simpa using htq) ?_
        iterate 3 walk_at "w"
        exact wpAny_newTuple (hq _ _ _)
      case hQX =>
        intro D h5 tk5 ps5 hD5 hn5 hpp5 k5 nD npp
        replace k5 : Ext h10 h5 := k5
        replace nD : h10.get? D = none := nD
        replace npp : ∀ p ∈ ps5, h10.get? p.1 = none := npp
        have b5 := b10.grow k5
        have F5 := b5.q.F
        have hlp : ps5.length = (plainRun G (pk 0)).length := by rw [← hn5, List.length_map]
        dsimp only
        iterate 1 walk_at "w"
        refine sorted_pairs F5 hD5.isList hpp5 (fun p hp z => ?_) (by rw [hn5]; exact hnm.1) (by omega) fun D7 h7 tk7 ps7 hD7 hperm hpw hin F7 k7 nD7 => ?_
        · obtain ⟨o, e⟩ := fr_alive F10
          rw [← z, npp p hp] at e; cases e
        rw [hn5] at hperm
        replace k7 : Sub [L'] h5 h7 := k7
        have hoff : ∀ p ∈ ps7, p.1 ≠ L' := fun p hp z => by
          obtain ⟨o, e⟩ := fr_alive F10
          rw [← z, npp p (hin p hp)] at e; cases e
        have hlen7 := hperm.length_eq
        rw [List.length_map] at hlen7
        refine ⟨D7, h7, tk7, keyOf ks, ps7, rfl, rfl, hD7, fun p hp => (hpp5 p (hin p hp)).keep fun o e => k7 _ o (by simpa using hoff p hp) e, by omega, F7, fun D8 h8 tk8 us8 hD8 hus8 F8 k8 nD8 => ?_⟩
        replace k8 : Sub [L'] h7 h8 := k8
        have b7 := b5.loc F7 k7 b5.mp b5.mr
        have hdue := due_run hgo.1 hgo.2 hkey hperm hpw
        have kl7 := (KeepL.of_ext k5).trans (b5.q.keepI k7)
        have mp8 : (fun z => if z = Str.ofString "due" then some (Value.ref D8) else mm z) (Str.ofString "picks") = some (.ref P) := (if_neg (by decide)).trans b10.mp
        have mr8 : (fun z => if z = Str.ofString "due" then some (Value.ref D8) else mm z) (Str.ofString "ring") = some (.bool ring) := (if_neg (by decide)).trans b10.mr
        have md8 : (fun z => if z = Str.ofString "due" then some (Value.ref D8) else mm z) (Str.ofString "due") = some (.ref D8) := if_pos rfl
        have b8 := b7.loc F8 k8 mp8 mr8
        have kl8 := kl7.trans (b7.q.keepI k8)
        have K8 := kl8.plain K10
        have lo8 := kl8.plain lo10
        have hi8 := kl8.plain hi10
        have n1 : ∀ a, a ∉ FX L' → a ∉ [L'] := fun a ha z => ha (by rw [List.mem_singleton.mp z]; simp)
        have st8 := tupIter_keep st10 fun o e => k8 _ o (n1 _ oI) (k7 _ o (n1 _ oI) (k5 _ o e))
        have tp8 := tup_keep tp10 fun o e => k8 _ o (n1 _ oT) (k7 _ o (n1 _ oT) (k5 _ o e))
        generalize (fun z => if z = Str.ofString "due" then some (Value.ref D8) else mm z) = m8 at F8 mp8 mr8 md8 b8
        clear b10 K10 lo10 hi10 st10 tp10 F10 X10 T10 c10 r10 hRl10 hu1 hD5 hpp5 k5 nD npp b5 F5 F7 k7 nD7 hoff k8 nD8 b7 kl7 kl8 n1 hin hD7
        have F8 := b8.q.F
        have n8 := b8.q.n
        have c8 := b8.q.k
        have X8 := X.keeps F8.keep
        have T8 := T.keeps F8.keep
        iterate 13 walk_at "w"
        refine ⟨X8, ?_⟩
        refine law_run (s := ⟨h8, _, _, _, _⟩) (pk0 := pk 0) X T b8.q rfl rfl b8.hG hG5 hG10 K8.isList hKi hk5 (Int.le_refl 0) (hpk0 0) fun h9 tk9 T1 R1 us9 e1 e2 e3 k9 nT nR => ?_
        rw [← hring] at e1
        rw [hdue] at e3
        replace k9 : FKeep [L'] h8 h9 := k9
        have b9 := b8.fkeep k9
        have kl9 := b8.q.keepI k9.sub
        have hR1 : R1 ≠ D8 := by rintro rfl; obtain ⟨_, z⟩ := hD8; rw [show h8.get? R1 = none from nR] at z; cases z
        have D9 := kl9.plain hD8
        have lo9 := kl9.plain lo8
        have hi9 := kl9.plain hi8
        have n1 : ∀ a, a ∉ FX L' → a ∉ [L'] := fun a ha z => ha (by rw [List.mem_singleton.mp z]; simp)
        have st9 := tupIter_keep st8 fun o e => k9.sub _ o (n1 _ oI) e
        have tp9 := tup_keep tp8 fun o e => k9.sub _ o (n1 _ oT) e
        clear b8 K8 lo8 hi8 st8 tp8 F8 n8 c8 X8 T8 hD8 k9 kl9 n1 nT nR
        have F9 := b9.q.F
        dsimp only
        iterate 8 walk_at "w"
        refine wpAny_newTuple ?_
        generalize hHA : Heap.push h9 _ = hA
        have kA : Ext h9 hA := fun a o e => hHA ▸ Heap.get?_push_of_some _ e
        have tA : hA.get? h9.objs.size = some { cls := .type "tuple", data := .seq #[.ref D8, .bool ring, .bool true] } := hHA ▸ Heap.get?_push_size _ rfl
        refine ne_triple (T1 := T1) (T2 := h9.objs.size) (R1 := R1) (R2 := D8) (p := ring) (q := true) hR1 ⟨_, kA _ _ e1, rfl, _, rfl⟩ ⟨_, tA, rfl, _, rfl⟩ (e2.isList.at fun o e => kA _ o e) (D9.isList.at fun o e => kA _ o e) e3 hus8 (by k_units) ?_
        have bA := b9.grow kA
        have klA := KeepL.of_ext kA
        iterate 5 walk_at "w"
        have stA := tupIter_keep st9 (kA _)
        have tpA := tup_keep tp9 (kA _)
        refine hqU _ _ ?_
        exact ⟨⟨hA, _, _, some (.ref K), rfl, bA, klA.plain lo9, klA.plain hi9, stA⟩, stA, tpA⟩
    case fin2 =>
      rintro s1 h9 tk9 ⟨h, mm, tk, kv, rfl, b, lo9, hi9, st0⟩ hs1
      replace hs1 : Sub [I2] h h9 := hs1
      have kl := KeepL.tup st0 hs1
      have b9 := b.one oI gI2 kl hs1
      have F9 := b9.q.F
      show wpAny _ _ (execs _ _) _ _ _
      iterate 3 walk_at "w"
      refine hqF _ _ ?_
      exact hR _ _ F9.keep
end Mine
end
open PySem PySem.W PyProof.Rows
set_option Elab.async false
set_option maxRecDepth 100000
set_option maxHeartbeats 8000000
open Mine in
theorem PySem.Challenge.cw_nb0259_01_holds : PySem.Challenge.rw_nb0259_01.Holds := by
  refine Mine.hd ?_
  k_fill
  intro w s₀ s₁ mg mb G Y fa o pm cd doc dV kV ho hdd hcd hD hmg hg args vals as hpre hlay hrd hwl hlo
  have KX := kIn_of Y
  refine Ground.open G ?_
  intro T B D TE TW
  have hfa : fa = 202 := by
    have e := mg_of KX T.g (show nsIn (Mine.hd.heap_1 w.params) mainGlobals (Str.ofString "law") = some (some (.ref 202)) by k_is)
    have e2 : mg (Str.ofString "law") = some (.ref fa) := hmg
    rw [e] at e2
    exact (Value.ref.inj (Option.some.inj e2)).symm
  subst hfa
  wrow_args hpre hlay hrd hwl hlo
  refine enter_call ?_
  w_top on
  refine law_c KX T (by assumption) (by assumption) (by omega) fun h' tk k => ?_
  refine ⟨.inl ⟨.bool true, .bool true, [], rfl, fun _ => rfl, .bool _, ?_, fun _ => ⟨List.nodup_nil, by simp⟩⟩, ?_, rfl, ?_⟩
  · exact (postW_of (by wrow_shape) (by wtm_val) (by str_meet; first | done | w_fin))
  · exact .of_keep k
  · exact .of_eq hg
