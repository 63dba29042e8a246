import PyProof.Rows.All
import Wide.All
import OpenK.AllK
import Wide.FinOn
import Lean
import PySem.Challenge.RW_aa0050_02
set_option Elab.async false
set_option linter.unusedVariables false
set_option linter.unusedSimpArgs false
set_option bootstrap.genMatcherCode false
set_option genSizeOf false
set_option genSizeOfSpec false
set_option genInjectivity false
section
namespace Mine
theorem qfl {a b : Nat} (h : b < a → False) : a ≤ b := Nat.le_of_not_lt h
theorem qft {a b : Nat} (h : b ≤ a → False) : a < b := Nat.lt_of_not_le h
theorem qfa2 {a b c d : Nat} (h1 : a ≤ b) (h2 : c ≤ d) (n : (a + c ≤ b + d) = False) : False := n.mp (Nat.add_le_add h1 h2)
theorem qfa3 {a b c d e f : Nat} (h1 : a ≤ b) (h2 : c ≤ d) (h3 : e ≤ f) (n : (a + c + e ≤ b + d + f) = False) : False := n.mp (Nat.add_le_add (Nat.add_le_add h1 h2) h3)
theorem qfa4 {a b c d e f g i : Nat} (h1 : a ≤ b) (h2 : c ≤ d) (h3 : e ≤ f) (h4 : g ≤ i) (n : (a + c + e + g ≤ b + d + f + i) = False) : False := n.mp (Nat.add_le_add (Nat.add_le_add (Nat.add_le_add h1 h2) h3) h4)
theorem qfa5 {a b c d e f g i j k : Nat} (h1 : a ≤ b) (h2 : c ≤ d) (h3 : e ≤ f) (h4 : g ≤ i) (h5 : j ≤ k) (n : (a + c + e + g + j ≤ b + d + f + i + k) = False) : False := n.mp (Nat.add_le_add (Nat.add_le_add (Nat.add_le_add (Nat.add_le_add h1 h2) h3) h4) h5)
theorem qfg {a b : Nat} (h : a = b) : b ≤ a := Nat.le_of_eq h.symm
theorem qfs1 (a b : Nat) : a ≤ a - b + b := by omega
theorem qfs2 (a b : Nat) (h : b ≤ a) : a - b + b ≤ a := Nat.le_of_eq (Nat.sub_add_cancel h)
end Mine
end
section
namespace Mine
theorem oMid1 {l r : Nat} (h : l ≤ r) : l ≤ (l + r) / 2 := (Nat.le_div_iff_mul_le Nat.two_pos).mpr (Nat.mul_two l ▸ Nat.add_le_add_left h l)
theorem oMid2 {l r : Nat} (h : l < r) : (l + r) / 2 < r := (Nat.div_lt_iff_lt_mul Nat.two_pos).mpr (Nat.mul_two r ▸ Nat.add_lt_add_right h r)
theorem oFuel {a b f : Nat} (h : a ≤ f + 1) (g : b < a) : b ≤ f := Nat.le_of_lt_succ (Nat.lt_of_lt_of_le g h)
theorem oLo {l m r : Nat} (h : l ≤ m) (g : l < r) : r - (m + 1) < r - l := Nat.sub_lt_sub_left g (Nat.lt_succ_of_le h)
theorem oHi {l m r : Nat} (h : l ≤ m) (g : m < r) : m - l < r - l := Nat.sub_lt_sub_right h g
theorem oMinL {k n a : Nat} (h : k < min n a) : k < n := Nat.lt_of_lt_of_le h (Nat.min_le_left _ _)
theorem oAdd {z m i : Nat} (h : z < m - i) : i + z < m := Nat.add_comm i z ▸ Nat.add_lt_of_lt_sub h
theorem oIns {x e : Nat} (h : x ≤ e) : min x e + (e - x + 1) = e + 1 := by rw [Nat.min_eq_left h, ← Nat.add_assoc, Nat.add_sub_cancel' h]
theorem oInit (n : Nat) : (max (-1 + (n : Int)) 0 - 0).toNat = n - 1 := by
  cases n with
  | zero => rfl
  | succ k =>
    have e : (-1 : Int) + ((k + 1 : Nat) : Int) = (k : Int) := by rw [Int.natCast_succ, Int.add_comm]; exact Int.add_neg_cancel_right _ _
    rw [e, Int.max_eq_left (Int.natCast_nonneg k), Int.sub_zero]
    rfl
theorem oPred (n : Nat) : (-1 : Int) + (n : Int) < (n : Int) := by
  have := Int.sub_lt_self (n : Int) (show (0 : Int) < 1 by decide)
  rw [Int.sub_eq_add_neg, Int.add_comm] at this
  exact this
end Mine
end
section
open PySem PySem.W PySem.Calls PyProof.Rows
set_option maxRecDepth 100000
namespace Mine
 def tOne (t : Lean.Syntax) : Lean.Syntax := .node .none `Lean.Parser.Tactic.tacticSeq #[.node .none `Lean.Parser.Tactic.tacticSeq1Indented #[.node .none `null #[t]]]
 def tRfl : Lean.Syntax := tOne (.node .none `Lean.Parser.Tactic.tacticRfl #[.atom .none "rfl"])
 def tDec : Lean.Syntax := tOne (.node .none `Lean.Parser.Tactic.decide #[.atom .none "decide", .node .none `Lean.Parser.Tactic.optConfig #[.node .none `null #[]]])
 def tWur : Lean.Syntax := tOne (.node .none `Lean.Parser.Tactic.withUnfoldingAll #[.atom .none "with_unfolding_all", tRfl])
 def tSz : Lean.Syntax := tOne (.node .none `tacticSize_fits #[.atom .none "size_fits"])

noncomputable abbrev Lg := List (Addr × Obj)

@[irreducible] noncomputable def W {α : Type} (M : Model) (A : Around) (t : Sem α) (Q : α → Shared → Prop) (E : Value → Shared → Prop) (s : Shared) : Prop := wpAny M A t Q E s
theorem hold {p : Prop} (h : p) : p := h
theorem mem1 {α : Type} {p : α} {l : List α} (h : p ∈ l) : ∀ x ∈ [p], x ∈ l := fun x hx => List.mem_singleton.mp hx ▸ h
theorem ite_t {b : Bool} {P Q : Prop} (h : b = true) (p : P) : if b = true then P else Q := by rw [if_pos h]; exact p
theorem ite_f {b : Bool} {P Q : Prop} (h : b = false) (q : Q) : if b = true then P else Q := by rw [h, if_neg Bool.false_ne_true]; exact q
theorem ite_n {b : Bool} {P Q : Prop} (h : ¬ b = true) (q : Q) : if b = true then P else Q := by rw [if_neg h]; exact q
theorem W.eq : @W = @wpAny := by
  funext α M A t Q E s
  unfold W; rfl
theorem W.mk {α : Type} {M : Model} {A : Around} {t : Sem α} {Q : α → Shared → Prop} {E : Value → Shared → Prop} {s : Shared} (h : wpAny M A t Q E s) : W M A t Q E s := by rw [W.eq]; exact h
theorem W.out {α : Type} {M : Model} {A : Around} {t : Sem α} {Q : α → Shared → Prop} {E : Value → Shared → Prop} {s : Shared} (h : W M A t Q E s) : wpAny M A t Q E s := by rw [W.eq] at h; exact h
theorem W.gen {α : Type} {M : Model} {A : Around} {t : Sem α} {Q : α → Shared → Prop} {E : Value → Shared → Prop} {s : Shared} (h : ∀ QB : α → Shared → Prop, (∀ a s, Q a s → QB a s) → W M A t QB E s) : W M A t Q E s := h Q fun _ _ q => q
theorem W.mono {α : Type} {M : Model} {A : Around} {t : Sem α} {Q Q' : α → Shared → Prop} {E : Value → Shared → Prop} {s : Shared} (h : W M A t Q E s) (hQ : ∀ a s, Q a s → Q' a s) : W M A t Q' E s := .mk (wpAny_mono h.out hQ fun _ _ e => e)

noncomputable def locOf : List Str → List (Option Value) → Str → Option Value
  | [], _, _ => none
  | _ :: _, [], _ => none
  | n :: ns, v :: vs, y => if y = n then v else locOf ns vs y

theorem locOf_cons (n : Str) (ns : List Str) (v : Option Value) (vs : List (Option Value)) (y : Str) : locOf (n :: ns) (v :: vs) y = if y = n then v else locOf ns vs y := rfl
theorem locOf_not : ∀ {ns : List Str} {vs : List (Option Value)} {x : Str}, x ∉ ns → locOf ns vs x = none := by
  intro ns
  induction ns with
  | nil => exact fun _ => rfl
  | cons n ns ih =>
    intro vs x h
    cases vs with
    | nil => rfl
    | cons v vs => exact (if_neg fun (e : x = n) => h (e ▸ .head _)).trans (ih fun q => h (.tail _ q))

theorem locOf_get : ∀ {ns : List Str} {vs : List (Option Value)} {i : Nat} {x : Str} {v : Option Value}, ns.Nodup → ns[i]? = some x → vs[i]? = some v → locOf ns vs x = v := by
  intro ns
  induction ns with
  | nil => intro vs i x v _ h _; cases h
  | cons n ns ih =>
    intro vs i x v hd h h'
    cases vs with
    | nil => cases h'
    | cons u vs =>
      cases i with
      | zero => cases h; cases h'; exact if_pos rfl
      | succ i =>
        have hx : x ∈ ns := List.mem_of_getElem? h
        exact (if_neg fun (e : x = n) => (List.nodup_cons.mp hd).1 (e ▸ hx)).trans (ih (List.nodup_cons.mp hd).2 h h')

theorem locOf_set : ∀ {ns : List Str} {vs : List (Option Value)} {i : Nat} {x : Str} {v : Option Value}, ns.Nodup → ns[i]? = some x → i < vs.length →
    (fun y => if y = x then v else locOf ns vs y) = locOf ns (vs.set i v) := by
  intro ns
  induction ns with
  | nil => intro vs i x v _ h _; cases h
  | cons n ns ih =>
    intro vs i x v hd h hl
    cases vs with
    | nil => cases hl
    | cons u vs =>
      funext y
      cases i with
      | zero =>
        cases h
        show (if y = n then v else if y = n then u else locOf ns vs y) = if y = n then v else locOf ns vs y
        by_cases e : y = n
        · rw [if_pos e, if_pos e]
        · rw [if_neg e, if_neg e, if_neg e]
      | succ i =>
        have hx : x ∈ ns := List.mem_of_getElem? h
        have ih := congrFun (ih (v := v) (List.nodup_cons.mp hd).2 h (Nat.lt_of_succ_lt_succ hl)) y
        show (if y = x then v else if y = n then u else locOf ns vs y) = if y = n then u else locOf ns (vs.set i v) y
        rw [← ih]
        by_cases e : y = x
        · subst e
          rw [if_pos rfl, if_pos rfl, if_neg fun (e : y = n) => (List.nodup_cons.mp hd).1 (e ▸ hx)]
        · rw [if_neg e, if_neg e]

theorem locOf_binds : ∀ {binds : List (Str × Value)} {rest : List Str}, (binds.map (·.1) ++ rest).Nodup →
    (fun y => binds.reverse.lookup y) = locOf (binds.map (·.1) ++ rest) (binds.map (fun b => some b.2) ++ rest.map fun _ => none) := by
  intro binds rest hd
  funext y
  induction binds with
  | nil =>
    simp only [List.reverse_nil, List.map_nil, List.nil_append]
    show none = _
    clear hd
    induction rest with
    | nil => rfl
    | cons r rest ih =>
      show none = if y = r then none else _
      by_cases e : y = r
      · rw [if_pos e]
      · rw [if_neg e]; exact ih
  | cons b binds ih =>
    obtain ⟨n, v⟩ := b
    simp only [List.map_cons, List.cons_append, List.nodup_cons] at hd
    have ih := ih hd.2
    simp only [List.reverse_cons, List.map_cons, List.cons_append, locOf_cons]
    by_cases e : y = n
    · subst e
      rw [if_pos rfl]
      have hnone : binds.reverse.lookup y = none := by
        rw [ih]
        exact locOf_not hd.1
      rw [List.lookup_append, hnone]
      simp [List.lookup]
    · rw [if_neg e, ← ih, List.lookup_append]
      cases binds.reverse.lookup y with
      | some _ => rfl
      | none =>
        have e' : (y == n) = false := beq_eq_false_iff_ne.mpr e
        simp [List.lookup, e']

structure Fn (env : Env) (ns : List Str) : Prop where
  kind : env.scope.kind = .function
  nodup : ns.Nodup
  loc : ∀ x ∈ ns, env.kindOf x = some .local
  frame : env.frame = some env.locals
  dbg : ∀ x ∈ ns, (x == ("__debug__" : Str)) = false
  glob : env.globals = mainGlobals
  bis : env.builtins = builtinsNs

structure S (env : Env) (ns : List Str) (h₀ : Heap) (vs : List (Option Value)) (l : Lg) (s₀ s : Shared) : Prop where
  same : s = { s₀ with heap := s.heap, toks := s.toks, drawn := s.drawn }
  fr : Fr h₀ env.locals s.heap (locOf ns vs)
  nw : News h₀ env.locals s.heap l
  nd : (l.map (·.1)).Nodup

section
variable {prog : Program} {w : World} {A : Around} {E : Value → Shared → Prop} {env : Env} {ns : List Str} {h₀ : Heap} {vs : List (Option Value)} {l : Lg} {s₀ s : Shared}

theorem S.tok (st : S env ns h₀ vs l s₀ s) (t : Nat) : S env ns h₀ vs l s₀ { s with toks := t } :=
  ⟨by have e := st.same; obtain ⟨_, _, _, _, _⟩ := s; simp only [Shared.mk.injEq] at e ⊢; exact ⟨trivial, e.2.1, trivial, trivial, e.2.2.2.2⟩, st.fr, st.nw, st.nd⟩
theorem S.draw (st : S env ns h₀ vs l s₀ s) (d : Drawn) : S env ns h₀ vs l s₀ { s with drawn := d } :=
  ⟨by have e := st.same; obtain ⟨_, _, _, _, _⟩ := s; simp only [Shared.mk.injEq] at e ⊢; exact ⟨trivial, e.2.1, trivial, trivial, e.2.2.2.2⟩, st.fr, st.nw, st.nd⟩
theorem S.to {vs' : List (Option Value)} {l' : Lg} {h : Heap} {t : Nat} (st : S env ns h₀ vs l s₀ s) (F : Fr h₀ env.locals h (locOf ns vs')) (N : News h₀ env.locals h l') (D : (l'.map (·.1)).Nodup) : S env ns h₀ vs' l' s₀ { s with heap := h, toks := t } :=
  ⟨by have e := st.same; obtain ⟨_, _, _, _, _⟩ := s; simp only [Shared.mk.injEq] at e ⊢; exact ⟨trivial, e.2.1, trivial, trivial, e.2.2.2.2⟩, F, N, D⟩
theorem S.toH {vs' : List (Option Value)} {l' : Lg} {h : Heap} (st : S env ns h₀ vs l s₀ s) (F : Fr h₀ env.locals h (locOf ns vs')) (N : News h₀ env.locals h l') (D : (l'.map (·.1)).Nodup) : S env ns h₀ vs' l' s₀ { s with heap := h } :=
  ⟨by have e := st.same; obtain ⟨_, _, _, _, _⟩ := s; simp only [Shared.mk.injEq] at e ⊢; exact ⟨trivial, e.2.1, trivial, trivial, e.2.2.2.2⟩, F, N, D⟩
theorem S.perm {l' : Lg} (st : S env ns h₀ vs l s₀ s) (p : List.Perm l l') : S env ns h₀ vs l' s₀ s :=
  ⟨st.same, st.fr, fun q hq => st.nw q (p.mem_iff.mpr hq), (p.map _).nodup_iff.mp st.nd⟩
theorem S.sub {l' : Lg} (st : S env ns h₀ vs l s₀ s) (p : List.Sublist l' l) : S env ns h₀ vs l' s₀ s :=
  ⟨st.same, st.fr, fun q hq => st.nw q (p.mem hq), st.nd.sublist (p.map _)⟩
theorem S.drop {a : Addr × Obj} (st : S env ns h₀ vs (a :: l) s₀ s) : S env ns h₀ vs l s₀ s := st.sub (List.sublist_cons_self _ _)
theorem S.dropL {a : Lg} (st : S env ns h₀ vs (a ++ l) s₀ s) : S env ns h₀ vs l s₀ s := st.sub (List.sublist_append_right _ _)
theorem S.mid {a : Addr × Obj} {x : Lg} (st : S env ns h₀ vs (a :: (x ++ l)) s₀ s) : S env ns h₀ vs (x ++ a :: l) s₀ s := st.perm List.perm_middle.symm
theorem S.at {a : Addr} {o : Obj} (st : S env ns h₀ vs l s₀ s) (h : (a, o) ∈ l) : s.heap.get? a = some o := (st.nw _ h).1
theorem S.fun {a : Addr} {o o' : Obj} (st : S env ns h₀ vs l s₀ s) (h : (a, o) ∈ l) (h' : (a, o') ∈ l) : o = o' := Option.some.inj ((st.at h).symm.trans (st.at h'))
theorem S.push (st : S env ns h₀ vs l s₀ s) (o : Obj) (hf : o.isFreed = false) : S env ns h₀ vs ((s.heap.objs.size, o) :: l) s₀ { s with heap := s.heap.push o } :=
  st.toH (st.fr.push o) (st.nw.push st.fr o hf) (List.nodup_cons.mpr ⟨fun q => by
    obtain ⟨p, hp, e⟩ := List.mem_map.mp q
    exact absurd (Heap.lt_size (st.nw p hp).1) (by rw [e]; exact Nat.lt_irrefl _), st.nd⟩)

inductive UpdL (d : Addr) (o o' : Obj) : Lg → Lg → Prop
  | head {l : Lg} : UpdL d o o' ((d, o) :: l) ((d, o') :: l)
  | tail {p : Addr × Obj} {l l' : Lg} : UpdL d o o' l l' → UpdL d o o' (p :: l) (p :: l')
  | app {a l l' : Lg} : UpdL d o o' l l' → UpdL d o o' (a ++ l) (a ++ l')
  | left {a a' l : Lg} : UpdL d o o' a a' → UpdL d o o' (a ++ l) (a' ++ l)
theorem UpdL.split {d : Addr} {o o' : Obj} {l l' : Lg} (h : UpdL d o o' l l') : ∃ x y, l = x ++ (d, o) :: y ∧ l' = x ++ (d, o') :: y := by
  induction h with
  | head => exact ⟨[], _, rfl, rfl⟩
  | @tail p l l' _ ih => obtain ⟨x, y, rfl, rfl⟩ := ih; exact ⟨p :: x, y, rfl, rfl⟩
  | @app a l l' _ ih => obtain ⟨x, y, rfl, rfl⟩ := ih; exact ⟨a ++ x, y, by simp, by simp⟩
  | @left a a' l _ ih => obtain ⟨x, y, rfl, rfl⟩ := ih; exact ⟨x, y ++ l, by simp, by simp⟩
theorem UpdL.mem {d : Addr} {o o' : Obj} {l l' : Lg} (h : UpdL d o o' l l') : (d, o) ∈ l := by
  obtain ⟨x, y, rfl, _⟩ := h.split; simp
theorem S.upd {d : Addr} {o o' : Obj} {l' : Lg} {h : Heap} {t : Nat} (st : S env ns h₀ vs l s₀ s) (u : UpdL d o o' l l') (hs : Heap.SameBut d s.heap h) (ho : h.get? d = some o') : S env ns h₀ vs l' s₀ { s with heap := h, toks := t } := by
  obtain ⟨x, y, rfl, rfl⟩ := u.split
  have D := st.nw (d, o) (by simp)
  have hnd := st.nd
  have hne : ∀ p, p ∈ x ++ y → p.1 ≠ d := fun p hp e => by
    have e1 : ((x ++ (d, o) :: y).map (·.1)).Perm ((((d, o) :: (x ++ y))).map (·.1)) := (List.perm_middle).map _
    have := (e1.nodup_iff.mp hnd)
    rw [List.map_cons, List.nodup_cons] at this
    exact this.1 (List.mem_map.mpr ⟨p, hp, e⟩)
  refine st.to (st.fr.change hs D.2.1 D.2.2) (fun p hp => ?_) (by simpa using hnd)
  rcases List.mem_append.mp hp with q | q
  · have P := st.nw p (List.mem_append_left _ q)
    exact ⟨(hs.2 _ (hne p (List.mem_append_left _ q))).trans P.1, P.2⟩
  · rcases List.mem_cons.mp q with rfl | q
    · exact ⟨ho, D.2⟩
    · have P := st.nw p (List.mem_append_right _ (.tail _ q))
      exact ⟨(hs.2 _ (hne p (List.mem_append_right _ q))).trans P.1, P.2⟩

theorem g_name {x : Str} {pos : Pos} {v : Value} {Q : Value → Shared → Prop} (i : Nat) (fn : Fn env ns) (st : S env ns h₀ vs l s₀ s) (hn : ns[i]? = some x) (hv : vs[i]? = some (some v)) (h : Q v s) :
    wpAny (model prog w) A (eval (.Name x pos) env) Q E s :=
  wpAny_Name (wpAny_loadName_local fn.kind (fn.loc x (List.mem_of_getElem? hn)) st.fr.ns (locOf_get fn.nodup hn hv) h) (fn.dbg x (List.mem_of_getElem? hn))

theorem g_store {x : Str} {v : Value} {Q : Unit → Shared → Prop} (i : Nat) (fn : Fn env ns) (st : S env ns h₀ vs l s₀ s) (hn : ns[i]? = some x) (hi : i < vs.length)
    (h : ∀ s', S env ns h₀ (vs.set i (some v)) l s₀ s' → Q () s') : wpAny (model prog w) A (storeName env x v) Q E s :=
  wpAny_storeName_local (fn.loc x (List.mem_of_getElem? hn)) st.fr.ns (fun h' hn' hs => h _ (st.to (locOf_set fn.nodup hn hi ▸ st.fr.set hn' hs) (st.nw.set hs) st.nd))
    (by rw [fn.kind]; rfl)

theorem g_assign {x : Str} {pos' pos : Pos} {value : Expr} {Q : Flow → Shared → Prop} (i : Nat) (fn : Fn env ns) (hn : ns[i]? = some x)
    (h : wpAny (model prog w) A (eval value env) (fun v s₁ => ∃ vs l, S env ns h₀ vs l s₀ s₁ ∧ i < vs.length ∧ ∀ s', S env ns h₀ (vs.set i (some v)) l s₀ s' → Q .next s') E s)
    (hs : autoParam (swapsWith value (some (.Name x pos')) pos.line env = pure false) tRfl) : wpAny (model prog w) A (exec (.Assign [.Name x pos'] value pos) env) Q E s :=
  wpAny_Assign_Name (wpAny_mono h (fun v s₁ z => by obtain ⟨vs, l, st, hi, k⟩ := z; exact g_store i fn st hn hi k) fun _ _ e => e) hs

theorem g_int {i : Int} {k pos} {Q : Value → Shared → Prop} (st : S env ns h₀ vs l s₀ s) (h : ∀ t s', S env ns h₀ vs l s₀ s' → Q (.int i t) s') : wpAny (model prog w) A (eval (.Constant (.int i) k pos) env) Q E s :=
  wpAny_Constant_int (h _ _ (st.tok _))
theorem g_str {x : Str} {k pos} {Q : Value → Shared → Prop} (st : S env ns h₀ vs l s₀ s) (h : ∀ t s', S env ns h₀ vs l s₀ s' → Q (.str x t) s') : wpAny (model prog w) A (eval (.Constant (.str x) k pos) env) Q E s :=
  wpAny_Constant_str (h _ _ (st.tok _))
theorem g_bool {b : Bool} {k pos} {Q : Value → Shared → Prop} (h : Q (.bool b) s) : wpAny (model prog w) A (eval (.Constant (.bool b) k pos) env) Q E s := wpAny_Constant_bool h
theorem g_none {k pos} {Q : Value → Shared → Prop} (h : Q .none s) : wpAny (model prog w) A (eval (.Constant .none k pos) env) Q E s := wpAny_Constant_none h

theorem g_add {a b : Int} {t u : Tok} {Q : Value → Shared → Prop} (st : S env ns h₀ vs l s₀ s) (h : ∀ t s', S env ns h₀ vs l s₀ s' → Q (.int (a + b) t) s') : wpAny (model prog w) A (binaryOp .Add (.int a t) (.int b u)) Q E s := PyProof.Rows.add_int (h _ _ (st.tok _))
theorem g_sub {a b : Int} {t u : Tok} {Q : Value → Shared → Prop} (st : S env ns h₀ vs l s₀ s) (h : ∀ t s', S env ns h₀ vs l s₀ s' → Q (.int (a - b) t) s') : wpAny (model prog w) A (binaryOp .Sub (.int a t) (.int b u)) Q E s := PyProof.Rows.sub_int' (h _ _ (st.tok _))
theorem g_mod {a b : Int} {t u : Tok} {Q : Value → Shared → Prop} (hb : b ≠ 0) (st : S env ns h₀ vs l s₀ s) (h : ∀ t s', S env ns h₀ vs l s₀ s' → Q (.int (a.fmod b) t) s') : wpAny (model prog w) A (binaryOp .Mod (.int a t) (.int b u)) Q E s := mod_int' hb (h _ _ (st.tok _))
theorem g_div {a b : Int} {t u : Tok} {Q : Value → Shared → Prop} (hb : b ≠ 0) (hp : Builtin.divisionGoesByPylong a b = false) (st : S env ns h₀ vs l s₀ s) (h : ∀ t s', S env ns h₀ vs l s₀ s' → Q (.int (a.fdiv b) t) s') : wpAny (model prog w) A (binaryOp .FloorDiv (.int a t) (.int b u)) Q E s := floordiv_int hb (h _ _ (st.tok _)) (Or.inl hp)

theorem g_tuple {es : List Value} {Q : Value → Shared → Prop} (st : S env ns h₀ vs l s₀ s) (h : ∀ a s', S env ns h₀ vs ((a, { cls := .type "tuple", data := .seq es.toArray }) :: l) s₀ s' → Q (.ref a) s') (hsz : autoParam (es.length ≤ sizeLine) tSz) :
    wpAny (model prog w) A (newTuple es) Q E s := wpAny_newObj_type (h _ _ (st.push _ rfl)) (by show es.toArray.size ≤ sizeLine; rw [List.size_toArray]; exact hsz)
theorem g_list {es : List Value} {Q : Value → Shared → Prop} (st : S env ns h₀ vs l s₀ s) (h : ∀ a s', S env ns h₀ vs ((a, { cls := .type "list", data := .seq es.toArray }) :: l) s₀ s' → Q (.ref a) s') (hsz : autoParam (es.length ≤ sizeLine) tSz) :
    wpAny (model prog w) A (newList es) Q E s := wpAny_newObj_type (h _ _ (st.push _ rfl)) (by show es.toArray.size ≤ sizeLine; rw [List.size_toArray]; exact hsz)
end
end Mine
end
section
open PySem PySem.W PySem.Calls PyProof.Rows
set_option maxRecDepth 100000
namespace Mine

structure Cx (K : Frag) (p : Program) (loose : List Str) (mean : ExcName → Option Value) (mg mb : Str → Option Value) (d u : Nat) (A : Around) (env : Env) (g : Heap) : Prop where
  below : ∃ A₀ base outer, Below A₀ base outer g ∧ A.frames = some (env :: outer)
  x : K.In g
  top : Top p loose mean mg mb g
  room : A.depth + d < recursionLimit
  units : A.units + u < cLine
  hand : A.handled = none

section
variable {prog : Program} {w : World} {A : Around} {E : Value → Shared → Prop} {env : Env} {ns : List Str} {h₀ : Heap} {vs : List (Option Value)} {l : Lg} {s₀ s : Shared}
  {K : Frag} {p : Program} {loose : List Str} {mean : ExcName → Option Value} {mg mb : Str → Option Value} {d u : Nat}

theorem Cx.le {d' u' : Nat} (cx : Cx K p loose mean mg mb d u A env h₀) (hd : d' ≤ d) (hu : u' ≤ u) : Cx K p loose mean mg mb d' u' A env h₀ :=
  ⟨cx.below, cx.x, cx.top, by have := cx.room; exact Nat.lt_of_le_of_lt (Nat.add_le_add_left hd _) this, by have := cx.units; exact Nat.lt_of_le_of_lt (Nat.add_le_add_left hu _) this, cx.hand⟩

structure SRet (env' : Env) (ns' : List Str) (g : Heap) (env : Env) (ns : List Str) (h₀ : Heap) (vs : List (Option Value)) (s₀ : Shared) (R : Result → Shared → Prop) (fl : Flow) (s' : Shared) : Prop where
  at_ : ∃ vs' l', S env' ns' g vs' l' s₀ s' ∧ (S env ns h₀ vs l' s₀ s' → R (.ok (.ret (match fl with | .ret v => v | _ => .none))) s')
theorem SRet.intro {env' : Env} {ns' : List Str} {g : Heap} {R : Result → Shared → Prop} {fl : Flow} {s' : Shared} {vs'} {l'} (st : S env' ns' g vs' l' s₀ s') (h : S env ns h₀ vs l' s₀ s' → R (.ok (.ret (match fl with | .ret v => v | _ => .none))) s') :
    SRet env' ns' g env ns h₀ vs s₀ R fl s' := ⟨⟨vs', l', st, h⟩⟩

theorem S_callE {R : Result → Shared → Prop} {name qual : Str} {params : Arguments} {body : List Stmt} {scope : Scope} {dV kV doc pm cdv ct oc : Value} {an od : Option Addr} {osl : Array (Option Value)} {f : Addr} {args : Args} {binds : List (Str × Value)} {ns' rest : List Str}
    (fn : Fn env ns) (cx : Cx K p loose mean mg mb (d + 1) (u + 3) A env h₀) (st : S env ns h₀ vs l s₀ s)
    (ho : K.lookup f = some ⟨oc, od, .func (fnOf name qual params body scope dV kV doc pm an cdv ct), osl⟩) (hcd : codeIn K cdv qual = true)
    (hbind : BindsTo s (fnOf name qual params body scope dV kV doc pm an cdv ct) args binds) (hns : ns' = binds.map (·.1) ++ rest) (hfn : ∀ L', Fn (envOf qual scope L' f cdv) ns')
    (h : ∀ L' g s₁, Cx K p loose mean mg mb d u (A.deeper (envOf qual scope L' f cdv)) (envOf qual scope L' f cdv) g →
      S (envOf qual scope L' f cdv) ns' g (binds.map (fun b => some b.2) ++ rest.map fun _ => none) l s₀ s₁ →
      wpAny (model prog w) (A.deeper (envOf qual scope L' f cdv)) (execs body (envOf qual scope L' f cdv)) (SRet (envOf qual scope L' f cdv) ns' g env ns h₀ vs s₀ R)
        (fun e s' => wpAny (model prog w) (A.deeper (envOf qual scope L' f cdv)) («leaving» (envOf qual scope L' f cdv) e) (fun _ s'' => R (.error e) s'') (fun e' s'' => R (.error e') s'') s') s₁)
    (hcell : ∀ x ∈ scope.names, x.2 ≠ .cell) (hco : autoParam (scope.isCoroutine = false) tRfl) (hgen : autoParam (scope.isGenerator = false) tRfl) (hk : autoParam (scope.kind = .function) tRfl) :
    codeAny (model prog w) A (.call (.ref f) args) R s := by
  obtain ⟨A₀, base, outer, B, hA⟩ := cx.below
  subst hns
  have hloc : ∀ y ∈ binds, scope.names.lookup y.1 = some .local := fun y hy => (hfn 0).loc y.1 (List.mem_append_left _ (List.mem_map.mpr ⟨y, hy, rfl⟩))
  have hroom := cx.room
  refine code_def B st.fr cx.x st.nw cx.top hA fn.frame fn.kind ho hcd (by exact Nat.lt_of_le_of_lt (Nat.le_add_right _ _) hroom) hbind hloc (fun g L' h₁ FG F' N' B' X' T' => ?_) hco hgen hk hcell
  have hd := (hfn L').nodup
  rw [locOf_binds hd] at F'
  have cx' : Cx K p loose mean mg mb d u (A.deeper (envOf qual scope L' f cdv)) (envOf qual scope L' f cdv) g :=
    ⟨⟨A, base, _, B', by show A.frames.map _ = _; rw [hA]; rfl⟩, X', T', by show A.depth + 1 + d < _; exact qft fun x => qfa2 x hroom (by simp +arith only), by have := cx.units; show A.units + 3 + u < _; exact qft fun x => qfa2 x this (by simp +arith only), cx.hand⟩
  refine wpAny_mono (h L' g { s with heap := h₁, toks := s.toks + binds.length } cx' ⟨by have e := st.same; obtain ⟨_, _, _, _, _⟩ := s; simp only [Shared.mk.injEq] at e ⊢; exact ⟨trivial, e.2.1, trivial, trivial, e.2.2.2.2⟩, F', N', st.nd⟩) (fun fl s' hr => ?_) fun _ _ e => e
  obtain ⟨vs', l', st', k⟩ := hr.at_
  exact leaveK_ st'.fr st'.nw fun F N => k ⟨by have e := st'.same; exact e, F, N, st'.nd⟩

theorem S_call {R : Result → Shared → Prop} {name qual : Str} {params : Arguments} {body : List Stmt} {scope : Scope} {dV kV doc pm cdv ct oc : Value} {an od : Option Addr} {osl : Array (Option Value)} {f : Addr} {args : Args} (binds : List (Str × Value)) (rest : List Str) {ns' : List Str} {vs' : List (Option Value)}
    (fn : Fn env ns) (cx : Cx K p loose mean mg mb (d + 1) (u + 3) A env h₀) (st : S env ns h₀ vs l s₀ s)
    (ho : K.lookup f = some ⟨oc, od, .func (fnOf name qual params body scope dV kV doc pm an cdv ct), osl⟩) (hcd : codeIn K cdv qual = true)
    (hbind : BindsTo s (fnOf name qual params body scope dV kV doc pm an cdv ct) args binds) (hns : ns' = binds.map (·.1) ++ rest) (hvs : vs' = binds.map (fun b => some b.2) ++ rest.map fun _ => none)
    (hfn : ∀ L', Fn (envOf qual scope L' f cdv) ns') (hcell : ∀ x ∈ scope.names, x.2 ≠ .cell)
    (h : ∀ (env' : Env) (g : Heap) (A' : Around) (s₁ : Shared) (E' : Value → Shared → Prop), (∃ L', env' = envOf qual scope L' f cdv) → Fn env' ns' → Cx K p loose mean mg mb d u A' env' g → S env' ns' g vs' l s₀ s₁ →
      W (model prog w) A' (execs body env') (SRet env' ns' g env ns h₀ vs s₀ R) E' s₁)
    (hco : autoParam (scope.isCoroutine = false) tRfl) (hgen : autoParam (scope.isGenerator = false) tRfl) (hk : autoParam (scope.kind = .function) tRfl) :
    codeAny (model prog w) A (.call (.ref f) args) R s :=
  S_callE (rest := rest) fn cx st ho hcd hbind hns hfn (fun L' g s₁ cx' st' => (h _ g _ s₁ _ ⟨L', rfl⟩ (hfn L') cx' (hvs ▸ st')).out) hcell hco hgen hk

theorem fn_of {ns : List Str} {qual : Str} {scope : Scope} {f : Addr} {cdv : Value} (h : (ns.all fun x => scope.names.lookup x == some .local && !(x == ("__debug__" : Str))) = true) (hn : ns.Nodup) (hk : scope.kind = .function) (L' : Addr) : Fn (envOf qual scope L' f cdv) ns :=
  ⟨hk, hn, fun x hx => by have := List.all_eq_true.mp h x hx; simp only [Bool.and_eq_true, beq_iff_eq] at this; exact this.1, rfl, fun x hx => by have := List.all_eq_true.mp h x hx; simp only [Bool.and_eq_true, Bool.not_eq_true'] at this; exact this.2, rfl, rfl⟩
end
end Mine
end
section
open PySem PySem.W PySem.Calls PyProof.Rows
set_option maxRecDepth 100000
namespace Mine

noncomputable abbrev tupO (vs : List Value) : Obj := { cls := .type "tuple", data := .seq vs.toArray }
noncomputable abbrev listO (vs : List Value) (n : Nat) : Obj := { cls := .type "list", data := .seq vs.toArray n }

noncomputable def sl {α : Type} (lo hi : Option Int) (xs : List α) : List α :=
  (xs.drop (Builtin.Slice.sliceAdjust lo hi 1 (xs.length : Int)).1.toNat).take (Builtin.Slice.slicePlaces (Builtin.Slice.sliceAdjust lo hi 1 (xs.length : Int)).1 (Builtin.Slice.sliceAdjust lo hi 1 (xs.length : Int)).2 1)

theorem adj_lo (lo hi : Option Int) (n : Nat) : 0 ≤ (Builtin.Slice.sliceAdjust lo hi 1 (n : Int)).1 := by
  unfold Builtin.Slice.sliceAdjust
  have h1 : ¬ ((1 : Int) < 0) := by lia
  cases lo with
  | none => simp only [h1, if_false]; exact Int.le_refl _
  | some v =>
    simp only [h1, if_false]
    split <;> lia

theorem places_one (p q : Int) : Builtin.Slice.slicePlaces p q 1 = (q - p).toNat := by
  unfold Builtin.Slice.slicePlaces
  have h1 : (1 : Int) > 0 := by lia
  simp only [h1, if_true, Int.ediv_one]
  split <;> lia

theorem sl_init {α : Type} (xs : List α) : sl none (some (-1)) xs = xs.dropLast := by
  unfold sl
  rw [places_one]
  unfold Builtin.Slice.sliceAdjust
  have h1 : ¬ ((1 : Int) < 0) := by lia
  have h2 : ((-1 : Int) < 0) := by lia
  simp only [h1, h2, if_false, if_true]
  rw [List.dropLast_eq_take]
  simp only [Int.toNat_zero, List.drop_zero]
  congr 1
  exact oInit _
theorem sl_to {α : Type} (k : Nat) (xs : List α) : sl none (some (k : Int)) xs = xs.take k := by
  unfold sl
  rw [places_one]
  unfold Builtin.Slice.sliceAdjust
  have h1 : ¬ ((1 : Int) < 0) := by lia
  have h2 : ¬ ((k : Int) < 0) := by lia
  simp only [h1, h2, if_false]
  simp only [Int.toNat_zero, List.drop_zero]
  by_cases h : k ≤ xs.length
  · congr 1; rw [Int.min_eq_left (Int.ofNat_le.mpr h), Int.sub_zero]; rfl
  · rw [List.take_of_length_le (by lia), List.take_of_length_le (by exact Nat.le_of_lt (Nat.lt_of_not_le h))]
theorem sl_from {α : Type} (k : Nat) (xs : List α) : sl (some (k : Int)) none xs = xs.drop k := by
  unfold sl
  rw [places_one]
  unfold Builtin.Slice.sliceAdjust
  have h1 : ¬ ((1 : Int) < 0) := by lia
  have h2 : ¬ ((k : Int) < 0) := by lia
  simp only [h1, h2, if_false]
  by_cases h : k ≤ xs.length
  · have e : (min (k : Int) (xs.length : Int)).toNat = k := by rw [Int.min_eq_left (Int.ofNat_le.mpr h)]; rfl
    rw [e, List.take_of_length_le (by rw [List.length_drop, Int.min_eq_left (Int.ofNat_le.mpr h), Int.toNat_sub]; exact Nat.le_refl _)]
  · rw [List.drop_of_length_le (by lia), List.drop_of_length_le (by exact Nat.le_of_lt (Nat.lt_of_not_le h))]; simp

theorem pick_sl (xs : List Value) (lo hi : Option Int) :
    ((List.range (Builtin.Slice.slicePlaces (Builtin.Slice.sliceAdjust lo hi 1 (xs.length : Int)).1 (Builtin.Slice.sliceAdjust lo hi 1 (xs.length : Int)).2 1)).filterMap
      fun (k : Nat) => xs.toArray[((Builtin.Slice.sliceAdjust lo hi 1 (xs.length : Int)).1 + (k : Int) * 1).toNat]?).toArray = (sl lo hi xs).toArray := by
  unfold sl
  have h0 := adj_lo lo hi xs.length
  generalize (Builtin.Slice.sliceAdjust lo hi 1 (xs.length : Int)).1 = p at h0 ⊢
  generalize Builtin.Slice.slicePlaces p _ 1 = c
  obtain ⟨a, rfl⟩ : ∃ a : Nat, p = a := ⟨p.toNat, by lia⟩
  have e : (fun (k : Nat) => xs.toArray[((a : Int) + (k : Int) * 1).toNat]?) = fun k => xs.toArray[a + k]? := by
    funext k
    have : ((a : Int) + (k : Int) * 1).toNat = a + k := by rw [Int.mul_one]; rfl
    rw [this]
  rw [e]
  have := pick_run xs.toArray a c
  rw [List.filterMap_map] at this
  have e2 : ((fun x => xs.toArray[x]?) ∘ fun x => a + x) = fun k => xs.toArray[a + k]? := rfl
  rw [e2] at this
  rw [this]
  simp

section
variable {prog : Program} {w : World} {A : Around} {E : Value → Shared → Prop} {env : Env} {ns : List Str} {h₀ : Heap} {vs : List (Option Value)} {l : Lg} {s₀ s : Shared}
  {K : Frag} {p : Program} {loose : List Str} {mean : ExcName → Option Value} {mg mb : Str → Option Value} {d u : Nat}

theorem part_of {v : Value} {k : Option Int} (hv : IsPart v k) {Q : Option Int → Shared → Prop} (h : Q k s) : wpAny (model prog w) A (Builtin.Slice.slicePartIndex v) Q E s := by
  cases hv with
  | none => exact slicePart_none h
  | int i t => exact slicePart_int h

theorem sliceApplied_gen {a : Addr} {x y : Value} {lo hi : Option Int} {n : Nat} {Q : Int × Int × Nat → Shared → Prop} (hs : s.heap.IsSliceOf a x y .none) (hx : IsPart x lo) (hy : IsPart y hi)
    (h : Q ((Builtin.Slice.sliceAdjust lo hi 1 (n : Int)).1, 1, Builtin.Slice.slicePlaces (Builtin.Slice.sliceAdjust lo hi 1 (n : Int)).1 (Builtin.Slice.sliceAdjust lo hi 1 (n : Int)).2 1) s) :
    wpAny (model prog w) A (Builtin.Slice.sliceApplied (.ref a) (pure (n : Int))) Q E s := by
  obtain ⟨os, hos, hcs, hds⟩ := id hs
  unfold Builtin.Slice.sliceApplied Builtin.Slice.sliceFields
  refine wpAny_bind (wpAny_bind (wpAny_field hos hds (x := x) rfl (wpAny_bind (wpAny_field hos hds (x := y) rfl (wpAny_bind (wpAny_field hos hds (x := .none) rfl (wpAny_pure ?_)))))))
  refine wpAny_bind (slicePart_none ?_)
  show wpAny _ _ (if ((1 : Int) == 0) = true then _ else _) _ _ s
  rw [if_neg (by decide)]
  exact wpAny_bind (part_of hx (wpAny_bind (part_of hy (wpAny_bind (wpAny_pure (wpAny_pure h))))))

theorem getItem_tuple_sl {t a : Addr} {items : List Value} {x y : Value} {lo hi : Option Int} {Q : Value → Shared → Prop} (ht : IsTup s.heap t items.toArray) (hs : s.heap.IsSliceOf a x y .none) (hx : IsPart x lo) (hy : IsPart y hi)
    (h1 : sl lo hi items = items → Q (.ref t) s)
    (h2 : Q (.ref s.heap.objs.size) { s with heap := s.heap.push (tupO (sl lo hi items)) })
    (hsz : items.length ≤ sizeLine) : wpAny (model prog w) A (getItem (.ref t) (.ref a)) Q E s := by
  have hpk := pick_sl items lo hi
  have hall : (Builtin.Slice.sliceAdjust lo hi 1 (items.length : Int)).1 = 0 → Builtin.Slice.slicePlaces (Builtin.Slice.sliceAdjust lo hi 1 (items.length : Int)).1 (Builtin.Slice.sliceAdjust lo hi 1 (items.length : Int)).2 1 = items.length → sl lo hi items = items := by
    intro e1 e2
    unfold sl
    rw [e2, e1]
    simp
  have hok : sizeOk (.seq (sl lo hi items).toArray) := by
    show (sl lo hi items).toArray.size ≤ sizeLine
    rw [List.size_toArray]
    unfold sl
    rw [List.length_take, List.length_drop]
    exact Nat.le_trans (Nat.min_le_right _ _) (Nat.le_trans (Nat.sub_le _ _) hsz)
  obtain ⟨os, hos, hcs, hds⟩ := id hs
  have hTs : s.TypeIs (.ref a) "slice" := ⟨os, hos, hcs⟩
  unfold getItem
  try with_reducible refine wpAny_holding ?_
  first | refine wpAny_bind (wpAny_pure ?_) | skip
  refine wpAny_bind (wpAny_sequenceKey ht.typeIs (by decide) ?_)
  refine wpAny_bind (wpAny_callSpecial?_slot (name := Str.ofString "__getitem__") ht.typeIs slot_tuple_getitem
    (wpAny_call_entry slot_tuple_getitem ht.typeIs entry_tuple_getitem ?_ (args_tuple_getitem _ _)))
  show wpAny _ _ (Builtin.Tuple.tupleItemsOf (.ref t) >>= _) _ _ s
  refine wpAny_bind (tupleItemsOf_ ht ?_)
  refine wpAny_bind (wpAny_typeOf hTs ?_)
  rw [if_pos (by decide)]
  have hsize : items.toArray.size = items.length := List.size_toArray
  rw [show (pure (items.toArray.size : Int) : Sem Int) = pure (items.length : Int) by rw [hsize]]
  refine wpAny_bind (sliceApplied_gen hs hx hy ?_)
  generalize hlo : (Builtin.Slice.sliceAdjust lo hi 1 (items.length : Int)).1 = pl at hpk hall ⊢
  generalize hc : Builtin.Slice.slicePlaces pl (Builtin.Slice.sliceAdjust lo hi 1 (items.length : Int)).2 1 = c at hpk hall ⊢
  have new : wpAny (model prog w) A.in1 (Builtin.Tuple.tupleExact ((List.range c).filterMap fun (k : Nat) => items.toArray[(pl + (k : Int) * 1).toNat]?).toArray) (fun v s' => Q v s') E s := by
    rw [hpk]
    exact wpAny_newObj_type h2 hok
  show wpAny _ _ (if (pl == 0 && (1 : Int) == 1 && c == items.toArray.size) = true then _ else _) _ _ s
  by_cases hw : (pl == 0 && (1 : Int) == 1 && c == items.toArray.size) = true
  · rw [if_pos hw]
    have hq : Q (.ref t) s := by
      simp only [Bool.and_eq_true, beq_iff_eq] at hw
      exact h1 (hall hw.1.1 (by rw [hw.2, hsize]))
    refine wpAny_bind (wpAny_bind (m := typeOf (.ref t)) (wpAny_typeOf ht.typeIs (wpAny_pure ?_)))
    rw [if_pos (by decide)]
    exact wpAny_bind (wpAny_rule (wpAny_pure ⟨_, rfl, wpAny_pure hq⟩))
  · rw [if_neg hw]
    refine wpAny_bind (wpAny_mono new (fun v s' hv => ?_) fun _ _ e => e)
    exact wpAny_pure ⟨_, rfl, wpAny_pure hv⟩
end
end Mine
end
section
open PySem PySem.W PySem.Calls PyProof.Rows
set_option maxRecDepth 100000
namespace Mine

noncomputable abbrev emptyD : Obj := { cls := .type "dict", data := .dict #[] }
noncomputable abbrev freshSet (led : Bool) : Obj := { cls := .type "set", dict := none, data := .set #[] 0 (.fresh 0 0 led) }

section
variable {prog : Program} {w : World} {A : Around} {E : Value → Shared → Prop} {env : Env} {ns : List Str} {h₀ : Heap} {vs : List (Option Value)} {l : Lg} {s₀ s : Shared}
  {K : Frag} {p : Program} {loose : List Str} {mean : ExcName → Option Value} {mg mb : Str → Option Value} {d u : Nat}

theorem S.dict {a : Addr} {o : Obj} {kvs : List (Str × Value)} (st : S env ns h₀ vs l s₀ s) (hm : (a, o) ∈ l) (hd : o.IsDictOf (strKind prog w) kvs) : s.heap.DictOf (strKind prog w) a kvs := Heap.dictOf_iff.mpr ⟨o, st.at hm, hd⟩

theorem S.big (st : S env ns h₀ vs l s₀ s) (cx : Cx K p loose mean mg mb d u A env h₀) : (s.heap.objs.size == sysModules) = false := st.fr.notModules (modules_low cx.top.nolimit)

theorem g_tail_dict {value slice : Expr} {a : Addr} {o : Obj} {kvs : List (Str × Value)} {k : Str} {t : Tok} {v : Value} {Q : Value → Shared → Prop} (st : S env ns h₀ vs l s₀ s) (hm : (a, o) ∈ l) (hd : o.IsDictOf (strKind prog w) kvs) (hl : valueAt kvs k = some v)
    (h : ∀ s', S env ns h₀ vs l s₀ s' → Q v s') (hs : autoParam (subscripted slice false (.ref a) (.str k t) = operate [.ref a, .str k t] (getItem (.ref a) (.str k t))) tWur) :
    wpAny (model prog w) A (subscriptTail value slice (.ref a) (.str k t)) Q E s :=
  kdt_tail st.nw hm hd (kdt_getItem st.nw hm hd (strKind_is prog w k t) hl (h _ (st.tok _))) hs

theorem g_in_dict {a : Addr} {o : Obj} {kvs : List (Str × Value)} {k : Str} {t : Tok} {Q : Value → Shared → Prop} (st : S env ns h₀ vs l s₀ s) (hm : (a, o) ∈ l) (hd : o.IsDictOf (strKind prog w) kvs) (ha : (a == sysModules) = false)
    (h : ∀ s', S env ns h₀ vs l s₀ s' → Q (.bool (valueAt kvs k).isSome) s') : wpAny (model prog w) A (compareOp .In (.str k t) (.ref a)) Q E s :=
  kda_in st.nw hm hd ha (strKind_is prog w k t) _ rfl (h _ (st.tok _))
theorem g_notin_dict {a : Addr} {o : Obj} {kvs : List (Str × Value)} {k : Str} {t : Tok} {Q : Value → Shared → Prop} (st : S env ns h₀ vs l s₀ s) (hm : (a, o) ∈ l) (hd : o.IsDictOf (strKind prog w) kvs) (ha : (a == sysModules) = false)
    (h : ∀ s', S env ns h₀ vs l s₀ s' → Q (.bool !(valueAt kvs k).isSome) s') : wpAny (model prog w) A (compareOp .NotIn (.str k t) (.ref a)) Q E s :=
  kdg_notin st.nw hm hd ha (strKind_is prog w k t) _ rfl (h _ (st.tok _))

theorem g_setitem {a : Addr} {o : Obj} {l' : Obj → Lg} {kvs : List (Str × Value)} {k : Str} {t : Tok} {v : Value} {Q : Unit → Shared → Prop} (st : S env ns h₀ vs l s₀ s) (U : ∀ o', UpdL a o o' l (l' o')) (hd : o.IsDictOf (strKind prog w) kvs) (hsz : kvs.length ≤ sizeLine)
    (h : ∀ o' s', o'.IsDictOf (strKind prog w) (stored kvs k v) → S env ns h₀ vs (l' o') s₀ s' → Q () s') : wpAny (model prog w) A (setItem (.ref a) (.str k t) v) Q E s := by
  refine wpAny_setItem_pairs (hsz := hsz) (strKind_is prog w k t) (st.dict (U o).mem hd) fun h' hmm hs => ?_
  obtain ⟨o', ho', hd'⟩ := Heap.dictOf_iff.mp hmm
  exact h o' _ hd' (st.upd (U o') hs ho')

theorem isDict_nil : emptyD.IsDictOf (strKind prog w) [] := by
  obtain ⟨o, ho, hd⟩ := Heap.dictOf_iff.mp (Heap.DictOf.new (knd := strKind prog w) (default : Heap))
  rw [Heap.get?_push_size _ rfl] at ho
  cases ho
  exact hd

theorem g_newdict {pos : Pos} {Q : Value → Shared → Prop} (st : S env ns h₀ vs l s₀ s) (cx : Cx K p loose mean mg mb d u A env h₀)
    (h : ∀ a s', (a == sysModules) = false → S env ns h₀ vs ((a, emptyD) :: l) s₀ s' → Q (.ref a) s') : wpAny (model prog w) A (eval (.Dict [] [] pos) env) Q E s :=
  wpAny_Dict_empty (h _ _ (st.big cx) (st.push _ rfl))

theorem g_back {e : Expr} {pos : Pos} {Q : Value → Shared → Prop} (h : wpAny (model prog w) A (eval e env) Q E s) : wpAny (model prog w) A (do let x ← eval e env; standAt pos; pure x) Q E s :=
  wpAny_bind (wpAny_mono h (fun _ _ h1 => wpAny_bind (wpAny_standAt (wpAny_pure h1))) fun _ _ e => e)

theorem g_dict3 {k1 k2 k3 : Str} {e1 e2 e3 : Expr} {p1 p2 p3 pos : Pos} {c1 c2 c3 : Nat} {Q : Value → Shared → Prop} (st : S env ns h₀ vs l s₀ s) (cx : Cx K p loose mean mg mb d u A env h₀) (hk : [k1, k2, k3].Nodup)
    (h : ∀ a s1, (a == sysModules) = false → S env ns h₀ vs ((a, emptyD) :: l) s₀ s1 → wpAny (model prog w) A (eval e1 env) (fun v1 s2 => ∃ l2, S env ns h₀ vs l2 s₀ s2 ∧ ∀ s2', S env ns h₀ vs l2 s₀ s2' →
      wpAny (model prog w) A (eval e2 env) (fun v2 s3 => ∃ l3, S env ns h₀ vs l3 s₀ s3 ∧ ∀ s3', S env ns h₀ vs l3 s₀ s3' → wpAny (model prog w) A (eval e3 env) (fun v3 s4 =>
        ∃ (l4 : Lg) (l5 : Obj → Lg), S env ns h₀ vs l4 s₀ s4 ∧ (∀ o', UpdL a emptyD o' l4 (l5 o')) ∧ ∀ o' s5, o'.IsDictOf (strKind prog w) [(k1, v1), (k2, v2), (k3, v3)] → S env ns h₀ vs (l5 o') s₀ s5 → Q (.ref a) s5) E s3') E s2') E s1) :
    wpAny (model prog w) A (eval (.Dict [some (.Constant (.str k1) c1 p1), some (.Constant (.str k2) c2 p2), some (.Constant (.str k3) c3 p3)] [e1, e2, e3] pos) env) Q E s := by
  refine wpAny_Dict_walk (knd := strKind prog w) rfl rfl (by simp) (by show 3 ≤ 15; decide) ?_
  refine evalPairs_cons (g_str (st.push emptyD rfl) fun t1 s1 st1 => ?_)
  refine g_back (wpAny_mono (h _ s1 (st.big cx) st1) (fun v1 s2 h2 => ?_) fun _ _ e => e)
  obtain ⟨l2, st2, h2⟩ := h2
  refine evalPairs_cons (g_str st2 fun t2 s2' st2' => ?_)
  refine g_back (wpAny_mono (h2 _ st2') (fun v2 s3 h3 => ?_) fun _ _ e => e)
  obtain ⟨l3, st3, h3⟩ := h3
  refine evalPairs_cons (g_str st3 fun t3 s3' st3' => ?_)
  refine g_back (wpAny_mono (h3 _ st3') (fun v3 s4 h4 => ?_) fun _ _ e => e)
  obtain ⟨l4, l5, st4, U, k⟩ := h4
  refine evalPairs_nil ⟨[(k1, v1), (k2, v2), (k3, v3)], ⟨strKind_is prog w k1 t1, rfl, strKind_is prog w k2 t2, rfl, strKind_is prog w k3 t3, rfl, trivial⟩, st4.dict (U emptyD).mem isDict_nil, fun h' hm' hs' => ?_⟩
  obtain ⟨o', ho', hd'⟩ := Heap.dictOf_iff.mp hm'
  have e : merged [] [(k1, v1), (k2, v2), (k3, v3)] = [(k1, v1), (k2, v2), (k3, v3)] := by
    simp only [List.nodup_cons, List.mem_cons, List.not_mem_nil, or_false, not_or] at hk
    have a12 : k1 ≠ k2 := hk.1.1
    have a13 : k1 ≠ k3 := hk.1.2
    have a23 : k2 ≠ k3 := hk.2.1
    simp [merged, stored, a12, a13, a23]
  rw [e] at hd'
  exact k o' _ hd' (st4.upd (U o') hs' ho')

theorem g_pop_meth {a : Addr} {o : Obj} {kvs : List (Str × Value)} {pl : Sem Bool} {Q : Value × List Value → Shared → Prop} (st : S env ns h₀ vs l s₀ s) (hm : (a, o) ∈ l) (hd : o.IsDictOf (strKind prog w) kvs) (h : Q (.builtin "dict.pop", [.ref a]) s) : wpAny (model prog w) A (getMethod (.ref a) "pop" pl) Q E s :=
  have hD := st.dict hm hd
  getMethod_builtin hD.typeIs PySem.F.plainAttrs_dict PySem.F.slot_dict_pop PySem.F.type_dict_pop hD.mapOf.noDict h

theorem g_pop {a : Addr} {o : Obj} {l' : Obj → Lg} {kvs : List (Str × Value)} {k : Str} {t : Tok} {v dflt : Value} {Q : Value → Shared → Prop} (st : S env ns h₀ vs l s₀ s) (U : ∀ o', UpdL a o o' l (l' o')) (hd : o.IsDictOf (strKind prog w) kvs) (hsz : kvs.length ≤ sizeLine) (hl : valueAt kvs k = some v)
    (h : ∀ o' s', o'.IsDictOf (strKind prog w) (without kvs k) → S env ns h₀ vs (l' o') s₀ s' → Q v s') : wpAny (model prog w) A (call (.builtin "dict.pop") [.ref a, .str k t, dflt]) Q E s := by
  have hD := st.dict (U o).mem hd
  refine call_meetsIn PySem.F.slot_dict_pop hD.typeIs PySem.F.entry_dict_pop (PySem.F.args_dict_pop_3 _ _ _) (meets_dict_pop_there (strKind prog w) a (strKind_is prog w k t) [dflt] (.inr ⟨_, rfl⟩) rfl) ⟨kvs, v, hD, hsz, hl, fun h' hmm hs => ?_⟩
  obtain ⟨o', ho', hd'⟩ := Heap.dictOf_iff.mp hmm
  exact h o' _ hd' (st.upd (U o') hs ho')
theorem g_pop_none {a : Addr} {o : Obj} {kvs : List (Str × Value)} {k : Str} {t : Tok} {dflt : Value} {Q : Value → Shared → Prop} (st : S env ns h₀ vs l s₀ s) (hm : (a, o) ∈ l) (hd : o.IsDictOf (strKind prog w) kvs) (ha : (a == sysModules) = false) (hl : valueAt kvs k = none)
    (h : ∀ s', S env ns h₀ vs l s₀ s' → Q dflt s') : wpAny (model prog w) A (call (.builtin "dict.pop") [.ref a, .str k t, dflt]) Q E s := by
  have hD := st.dict hm hd
  exact call_meetsIn PySem.F.slot_dict_pop hD.typeIs PySem.F.entry_dict_pop (PySem.F.args_dict_pop_3 _ _ _) (meets_dict_pop_default (strKind prog w) a (strKind_is prog w k t) ha rfl dflt) ⟨kvs, hD, hl, h _ (st.tok _)⟩

theorem g_newset {Q : Value → Shared → Prop} (st : S env ns h₀ vs l s₀ s) (h : ∀ a led s', S env ns h₀ vs ((a, freshSet led) :: l) s₀ s' → Q (.ref a) s') : wpAny (model prog w) A (call (.type "set") []) Q E s :=
  newSet_N st.fr st.nw fun h' led F' N' => h _ led { s with heap := h' } (st.toH F' N' (List.nodup_cons.mpr ⟨fun q => by
    obtain ⟨p, hp, e⟩ := List.mem_map.mp q
    exact absurd (Heap.lt_size (st.nw p hp).1) (by rw [e]; exact Nat.lt_irrefl _), st.nd⟩))
theorem freshSet_is (led : Bool) : (freshSet led).SetObjOf (intKind prog w) (fun _ => false) 0 := setObjOf_fresh led

theorem g_in_set {a : Addr} {o : Obj} {X : Int → Bool} {n : Nat} {k : Int} {t : Tok} {Q : Value → Shared → Prop} (st : S env ns h₀ vs l s₀ s) (hm : (a, o) ∈ l) (hd : o.SetObjOf (intKind prog w) X n) (hn : n < scanBound)
    (h : ∀ s', S env ns h₀ vs l s₀ s' → Q (.bool (X k)) s') : wpAny (model prog w) A (compareOp .In (.int k t) (.ref a)) Q E s :=
  wpAny_inSet_of (intKind_is prog w k t) rfl (hd.setOf (st.at hm) hn) (h _ (st.tok _))
theorem g_add_meth {K : Type} [DecidableEq K] [BEq K] [LawfulBEq K] {knd : KeyKind prog w K} {X : K → Bool} {a : Addr} {o : Obj} {n : Nat} {pl : Sem Bool} {Q : Value × List Value → Shared → Prop} (st : S env ns h₀ vs l s₀ s) (hm : (a, o) ∈ l) (hd : o.SetObjOf knd X n) (hn : n < scanBound)
    (h : Q (.builtin "set.add", [.ref a]) s) : wpAny (model prog w) A (getMethod (.ref a) "add" pl) Q E s := getMethod_set_add (hd.setOf (st.at hm) hn) h
theorem g_add_int {a : Addr} {o : Obj} {l' : Obj → Lg} {X : Int → Bool} {n : Nat} {k : Int} {t : Tok} {Q : Value → Shared → Prop} (st : S env ns h₀ vs l s₀ s) (U : ∀ o', UpdL a o o' l (l' o')) (hd : o.SetObjOf (intKind prog w) X n) (hn : n + 1 < scanBound)
    (h : ∀ o' s', o'.SetObjOf (intKind prog w) (fun k' => X k' || decide (k' = k)) (if X k then n else n + 1) → S env ns h₀ vs (l' o') s₀ s' → Q .none s') : wpAny (model prog w) A (call (.builtin "set.add") [.ref a, .int k t]) Q E s := by
  refine call_set_add (intKind_is prog w k t) rfl (hd.setOf (st.at (U o).mem) (by exact Nat.le_of_lt hn)) hn fun h' hsb hS' => ?_
  obtain ⟨so', ho', hso'⟩ := hS'.objOf
  exact h so' _ hso' (st.upd (U so') hsb ho')

theorem S.keep {h : Heap} {t : Nat} (st : S env ns h₀ vs l s₀ s) (hk : ∀ b o, b < s.heap.objs.size → s.heap.get? b = some o → h.get? b = some o) : S env ns h₀ vs l s₀ { s with heap := h, toks := t } :=
  st.to ⟨st.fr.ns.at' fun o e => hk _ o (Heap.lt_size e) e, fun b o e => hk _ _ (Heap.lt_size (st.fr.keep b o e)) (st.fr.keep b o e), st.fr.above⟩ (fun p hp => ⟨hk _ _ (Heap.lt_size (st.nw p hp).1) (st.nw p hp).1, (st.nw p hp).2⟩) st.nd
end
end Mine
end
section
open PySem PySem.W PySem.Calls PyProof.Rows
set_option maxRecDepth 100000
namespace Mine

structure Iter (prog : Program) (w : World) (A : Around) (I : Addr) (n : Nat) (P : Nat → Value → Prop) (Ok : Nat → Obj → Prop) (Need : Heap → Prop) : Prop where
  next : ∀ (i : Nat) (s : Shared) (o : Obj) (Q : Option Value → Shared → Prop) (E : Value → Shared → Prop), i < n → s.heap.get? I = some o → Ok i o → Need s.heap →
    (∀ v h' tk o', P i v → h'.get? I = some o' → Ok (i + 1) o' → Heap.SameBut I s.heap h' → Q (some v) { s with heap := h', toks := tk }) → wpAny (model prog w) A (pyNext (.ref I)) Q E s
  stop : ∀ (s : Shared) (o : Obj) (Q : Option Value → Shared → Prop) (E : Value → Shared → Prop), s.heap.get? I = some o → Ok n o → Need s.heap →
    (∀ h' tk, Heap.ExtBut I s.heap h' → Q none { s with heap := h', toks := tk }) → wpAny (model prog w) A (pyNext (.ref I)) Q E s
  go : ∀ (i : Nat) (s : Shared) (o : Obj) (target : Expr) (v : Value) (Q : Unit → Shared → Prop) (E : Value → Shared → Prop), s.heap.get? I = some o → Ok i o → Q () s → wpAny (model prog w) A (letOwnedTupleGo target (.ref I) v) Q E s

section
variable {prog : Program} {w : World} {A : Around} {E : Value → Shared → Prop} {env : Env} {ns : List Str} {h₀ : Heap} {vs : List (Option Value)} {l : Lg} {s₀ s : Shared}
  {K : Frag} {p : Program} {loose : List Str} {mean : ExcName → Option Value} {mg mb : Str → Option Value} {d u : Nat}

theorem iter_list (hh : A.handled = none) {I t : Addr} (hne : t ≠ I) (us : List Value) : Iter prog w A I us.length (fun i v => us[i]? = some v) (fun i o => o.cls = .type "list_iterator" ∧ o.data = .fields #[.ref t, .int i 0]) (fun h => h.IsList t us.toArray) where
  next := fun i s o Q E hi ho hok hn hQ => by
    refine wpAny_pyNext_list_item (i := i) ⟨o, ho, hok⟩ hn (x := us[i]) (by simp [hi]) fun h' hit' hs' => ?_
    obtain ⟨o', ho', hok'⟩ := hit'
    exact hQ _ h' s.toks o' (by simp [hi]) ho' hok' hs'
  stop := fun s o Q E ho hok hn hQ => wpAny_pyNext_list_end hh (i := us.length) ⟨o, ho, hok⟩ hn (by simp) fun h' he' => hQ h' s.toks he'
  go := fun i s o target v Q E ho hok hQ => letGo_listiter ⟨o, ho, hok⟩ hQ

theorem iter_tuple (hh : A.handled = none) {I t : Addr} (hne : t ≠ I) (us : List Value) : Iter prog w A I us.length (fun i v => us[i]? = some v) (fun i o => o.cls = .type "tuple_iterator" ∧ o.data = .fields #[.ref t, .int i 0]) (fun h => h.IsTuple t us.toArray) where
  next := fun i s o Q E hi ho hok hn hQ => by
    refine wpAny_pyNext_tuple_item (i := i) ⟨o, ho, hok⟩ hn (x := us[i]) (by simp [hi]) fun h' hit' hs' => ?_
    obtain ⟨o', ho', hok'⟩ := hit'
    exact hQ _ h' s.toks o' (by simp [hi]) ho' hok' hs'
  stop := fun s o Q E ho hok hn hQ => wpAny_pyNext_tuple_end hh (i := us.length) ⟨o, ho, hok⟩ hn (by simp) fun h' he' => hQ h' s.toks he'
  go := fun i s o target v Q E ho hok hQ => by
    obtain ⟨hc, hd⟩ := hok
    unfold letOwnedTupleGo
    cases target <;> first
      | exact wpAny_pure hQ
      | (cases v <;> first
          | exact wpAny_pure hQ
          | (refine wpAny_bind (wpAny_load ho ?_)
             rw [hc, hd]
             exact wpAny_pure hQ))

theorem S.extBut {I : Addr} {oI : Obj} {h : Heap} {t : Nat} (st : S env ns h₀ vs ((I, oI) :: l) s₀ s) (he : Heap.ExtBut I s.heap h) : S env ns h₀ vs l s₀ { s with heap := h, toks := t } := by
  have D := st.nw (I, oI) (.head _)
  have hnd := List.nodup_cons.mp st.nd
  refine st.to ⟨st.fr.ns.at' fun o e => he _ o (Ne.symm D.2.1) e, fun b o e => he b o (fun q => by have := D.2.2; rw [← q, e] at this; cases this) (st.fr.keep b o e), st.fr.above⟩ (fun p hp => ?_) hnd.2
  have P := st.nw p (.tail _ hp)
  exact ⟨he _ _ (fun q => hnd.1 (List.mem_map.mpr ⟨p, hp, q⟩)) P.1, P.2⟩

noncomputable def LPost (env : Env) (ns : List Str) (h₀ : Heap) (s₀ : Shared) (I : Addr) (oI : Obj) (Jn : List (Option Value) → Lg → Prop) (Q : Flow → Shared → Prop) (f : Flow) (s' : Shared) : Prop :=
  match f with
  | .next | .cont => ∃ vs' l', S env ns h₀ vs' ((I, oI) :: l') s₀ s' ∧ Jn vs' l'
  | .brk => False
  | .ret v => Q (.ret v) s'

theorem g_forLoop {target : Expr} {body : List Stmt} {I : Addr} {n : Nat} {P : Nat → Value → Prop} {Ok : Nat → Obj → Prop} {Need : Heap → Prop} {oI : Obj} {R : Result → Shared → Prop} {Q : Flow → Shared → Prop}
    (Wi : Iter prog w A I n P Ok Need) (J : Nat → List (Option Value) → Lg → Prop) (st : S env ns h₀ vs ((I, oI) :: l) s₀ s) (hok : Ok 0 oI) (h0 : J 0 vs l)
    (need : ∀ i vs' l' s' o, J i vs' l' → S env ns h₀ vs' ((I, o) :: l') s₀ s' → Need s'.heap)
    (turn : ∀ i v vs' l' o s' E', i < n → P i v → J i vs' l' → S env ns h₀ vs' ((I, o) :: l') s₀ s' →
      wpAny (model prog w) A (assign target env v) (fun _ s2 => wpAny (model prog w) A (execs body env) (LPost env ns h₀ s₀ I o (J (i + 1)) Q) E' s2) E' s')
    (done : ∀ vs' l' s', J n vs' l' → S env ns h₀ vs' l' s₀ s' → R (.ok .next) s')
    (hR : ∀ v s', Q (.ret v) s' → R (.ok (.ret v)) s') :
    codeAny (model prog w) A (.forLoop target (.ref I) body [] env) R s := by
  refine codeAny_forLoop_any (fun k s' => ∃ i vs' l' o, S env ns h₀ vs' ((I, o) :: l') s₀ s' ∧ Ok i o ∧ J i vs' l' ∧ i ≤ n ∧ k = n + 1 - i) ?_ (n + 1) ⟨0, vs, l, oI, st, hok, h0, Nat.zero_le _, rfl⟩
  rintro k s' ⟨i, vs', l', o, st', hok', hJ, hi, rfl⟩
  have ho := st'.at (.head _)
  by_cases hlt : i < n
  · refine Wi.next i s' o _ _ hlt ho hok' (need i vs' l' s' o hJ st') fun v h' tk o' hP ho' hok'' hs' => ?_
    have st2 : S env ns h₀ vs' ((I, o') :: l') s₀ { s' with heap := h', toks := tk } := st'.upd .head hs' ho'
    refine Wi.go (i + 1) _ o' target v _ _ ho' hok'' ?_
    refine wpAny_mono (turn i v vs' l' o' _ _ hlt hP hJ st2) (fun _ s2 h2 => wpAny_mono h2 (fun f s3 h3 => ?_) fun _ _ e => e) fun _ _ e => e
    cases f with
    | next => obtain ⟨vs3, l3, st3, hJ3⟩ := h3; exact ⟨n + 1 - (i + 1), by exact (by exact Nat.lt_of_add_lt_add_right (Nat.lt_of_lt_of_le (qfs2 (n + 1) (i + 1) (qfl fun x => qfa2 x hi (by simp +arith only))) (qfs1 (n + 1) (i)))), i + 1, vs3, l3, o', st3, hok'', hJ3, hlt, rfl⟩
    | cont => obtain ⟨vs3, l3, st3, hJ3⟩ := h3; exact ⟨n + 1 - (i + 1), by exact (by exact Nat.lt_of_add_lt_add_right (Nat.lt_of_lt_of_le (qfs2 (n + 1) (i + 1) (qfl fun x => qfa2 x hi (by simp +arith only))) (qfs1 (n + 1) (i)))), i + 1, vs3, l3, o', st3, hok'', hJ3, hlt, rfl⟩
    | brk => exact h3.elim
    | ret v => exact hR v s3 h3
  · have hin : i = n := by exact Nat.le_antisymm hi (Nat.le_of_not_lt hlt)
    subst hin
    refine Wi.stop s' o _ _ ho hok' (need i vs' l' s' o hJ st') fun h' tk he => wpAny_execs_nil ?_
    exact done vs' l' _ hJ (st'.extBut he)

noncomputable abbrev ForRest (prog : Program) (w : World) (A : Around) (env : Env) (E : Value → Shared → Prop) (target : Expr) (body : List Stmt) (Q : Flow → Shared → Prop) (it : Value) (s₂ : Shared) : Prop :=
  codeAny (model prog w) A (.forLoop target it body [] env) (fun r s' => match r with | .ok f => Q f s' | .error e => cameBackBy (model prog w) A env E e s') s₂

theorem g_for_list {target : Expr} {body : List Stmt} {t : Addr} {us : List Value} {n : Nat} {Q : Flow → Shared → Prop} (hh : A.handled = none) (st : S env ns h₀ vs l s₀ s) (hm : (t, listO us n) ∈ l)
    (J : Nat → List (Option Value) → Lg → Prop) (h0 : J 0 vs l) (keep : ∀ i vs' l', J i vs' l' → (t, listO us n) ∈ l')
    (turn : ∀ i v vs' l' I o s' E', us[i]? = some v → J i vs' l' → S env ns h₀ vs' ((I, o) :: l') s₀ s' →
      wpAny (model prog w) A (assign target env v) (fun _ s2 => wpAny (model prog w) A (execs body env) (LPost env ns h₀ s₀ I o (J (i + 1)) Q) E' s2) E' s')
    (done : ∀ vs' l' s', J us.length vs' l' → S env ns h₀ vs' l' s₀ s' → Q .next s') :
    wpAny (model prog w) A (pyIter (.ref t)) (ForRest prog w A env E target body Q) E s := by
  have hl : s.heap.IsList t us.toArray := ⟨_, st.at hm, rfl, _, rfl⟩
  refine wpAny_pyIter_list hl ?_
  have hne : t ≠ s.heap.objs.size := Nat.ne_of_lt (Heap.lt_size (st.at hm))
  refine g_forLoop (iter_list hh hne us) J (st.push _ rfl) ⟨rfl, rfl⟩ h0 (fun i vs' l' s' o hJ st' => ⟨_, st'.at (.tail _ (keep i vs' l' hJ)), rfl, _, rfl⟩) (fun i v vs' l' o s' E' _ hP hJ st' => turn i v vs' l' _ o s' E' hP hJ st') done fun v s' h => h

theorem g_for_tuple {target : Expr} {body : List Stmt} {t : Addr} {us : List Value} {Q : Flow → Shared → Prop} (hh : A.handled = none) (st : S env ns h₀ vs l s₀ s) (hm : (t, tupO us) ∈ l)
    (J : Nat → List (Option Value) → Lg → Prop) (h0 : J 0 vs l) (keep : ∀ i vs' l', J i vs' l' → (t, tupO us) ∈ l')
    (turn : ∀ i v vs' l' I o s' E', us[i]? = some v → J i vs' l' → S env ns h₀ vs' ((I, o) :: l') s₀ s' →
      wpAny (model prog w) A (assign target env v) (fun _ s2 => wpAny (model prog w) A (execs body env) (LPost env ns h₀ s₀ I o (J (i + 1)) Q) E' s2) E' s')
    (done : ∀ vs' l' s', J us.length vs' l' → S env ns h₀ vs' l' s₀ s' → Q .next s') :
    wpAny (model prog w) A (pyIter (.ref t)) (ForRest prog w A env E target body Q) E s := by
  have hl : s.heap.IsTuple t us.toArray := ⟨_, st.at hm, rfl, _, rfl⟩
  refine wpAny_pyIter_tuple hl ?_
  have hne : t ≠ s.heap.objs.size := Nat.ne_of_lt (Heap.lt_size (st.at hm))
  refine g_forLoop (iter_tuple hh hne us) J (st.push _ rfl) ⟨rfl, rfl⟩ h0 (fun i vs' l' s' o hJ st' => ⟨_, st'.at (.tail _ (keep i vs' l' hJ)), rfl, _, rfl⟩) (fun i v vs' l' o s' E' _ hP hJ st' => turn i v vs' l' _ o s' E' hP hJ st') done fun v s' h => h
end
end Mine
end
section
open PySem PySem.W PySem.Calls PyProof.Rows
set_option maxRecDepth 100000
namespace Mine
section
variable {prog : Program} {w : World} {A : Around} {E : Value → Shared → Prop} {env : Env} {ns : List Str} {h₀ : Heap} {vs : List (Option Value)} {l : Lg} {s₀ s : Shared}
  {K : Frag} {p : Program} {loose : List Str} {mean : ExcName → Option Value} {mg mb : Str → Option Value} {d u : Nat}

theorem S.tup {t : Addr} {us : List Value} (st : S env ns h₀ vs l s₀ s) (hm : (t, tupO us) ∈ l) : IsTup s.heap t us.toArray := ⟨_, st.at hm, rfl, _, rfl⟩
theorem S.list {t : Addr} {us : List Value} {n : Nat} (st : S env ns h₀ vs l s₀ s) (hm : (t, listO us n) ∈ l) : s.heap.IsList t us.toArray := ⟨_, st.at hm, rfl, _, rfl⟩

theorem g_truthy_tuple {t : Addr} {us : List Value} {Q : Bool → Shared → Prop} (st : S env ns h₀ vs l s₀ s) (hm : (t, tupO us) ∈ l) (hz : us.length ≤ sizeLine) (h : ∀ s', S env ns h₀ vs l s₀ s' → Q (!us.isEmpty) s') : wpAny (model prog w) A (truthy (.ref t)) Q E s := by
  refine truthy_tuple (st.tup hm) ?_ ?_
  · rw [List.size_toArray]; rw [sizeLine_eq] at hz; lia
  · have e : (!us.toArray.isEmpty) = !us.isEmpty := by cases us <;> rfl
    rw [e]; exact h _ (st.tok _)

theorem g_subslice {value : Expr} {lower upper : Option Expr} {p pos : Pos} {Q : Value → Shared → Prop}
    (h : wpAny (model prog w) A (eval value env) (fun o s₁ => wpAny (model prog w) A (evalPart lower env) (fun x s₂ => wpAny (model prog w) A (evalPart upper env) (fun y s₃ =>
      wpAny (model prog w) A (subscriptTail value (.Slice lower upper none p) o (.ref s₃.heap.objs.size)) Q E { s₃ with heap := s₃.heap.push { cls := .type "slice", data := .fields #[x, y, .none] } }) E s₂) E s₁) E s) :
    wpAny (model prog w) A (eval (.Subscript value (.Slice lower upper none p) pos) env) Q E s :=
  Subscript_ (wpAny_mono h (fun o s₁ h₁ => wpAny_Slice (wpAny_mono h₁ (fun x s₂ h₂ => wpAny_mono h₂ (fun y s₃ h₃ => by
    rw [evalPart_none]; exact wpAny_pure h₃) fun _ _ e => e) fun _ _ e => e)) fun _ _ e => e)
theorem part_e {e : Expr} {Q : Value → Shared → Prop} (h : wpAny (model prog w) A (eval e env) Q E s) : wpAny (model prog w) A (evalPart (some e) env) Q E s := by rw [evalPart_some]; exact h
theorem part_0 {Q : Value → Shared → Prop} (h : Q .none s) : wpAny (model prog w) A (evalPart none env) Q E s := by rw [evalPart_none]; exact wpAny_pure h

theorem g_slice_tup {value : Expr} {lower upper : Option Expr} {p : Pos} {t : Addr} {us : List Value} {x y : Value} {lo hi : Option Int} {Q : Value → Shared → Prop} (st : S env ns h₀ vs l s₀ s) (hm : (t, tupO us) ∈ l) (hx : IsPart x lo) (hy : IsPart y hi) (hz : us.length ≤ sizeLine)
    (h : ∀ z a s', S env ns h₀ vs (z ++ l) s₀ s' → (∀ l' : Lg, (t, tupO us) ∈ l' → (a, tupO (sl lo hi us)) ∈ z ++ l') → Q (.ref a) s') :
    wpAny (model prog w) A (subscriptTail value (.Slice lower upper none p) (.ref t) (.ref s.heap.objs.size)) Q E { s with heap := s.heap.push { cls := .type "slice", data := .fields #[x, y, .none] } } := by
  have st1 : S env ns h₀ vs l s₀ { s with heap := s.heap.push { cls := .type "slice", data := .fields #[x, y, .none] } } := (st.push { cls := .type "slice", data := .fields #[x, y, .none] } rfl).drop
  have hsl : (s.heap.push { cls := .type "slice", data := .fields #[x, y, .none] }).IsSliceOf s.heap.objs.size x y .none := Heap.IsSliceOf.new ..
  refine tail_any (st1.tup hm).typeIs slot_tuple_getitem.lookup (getItem_tuple_sl (st1.tup hm) hsl hx hy (fun e => h [] t _ st1 (fun l' hl => by rw [e]; exact hl)) (h [_] _ _ (st1.push _ rfl) fun l' _ => .head _) hz) rfl

theorem g_item_tup {value slice : Expr} {t : Addr} {us : List Value} {k : Int} {u : Tok} {j : Nat} {x : Value} {Q : Value → Shared → Prop} (st : S env ns h₀ vs l s₀ s) (hm : (t, tupO us) ∈ l) (hlo : -(2 ^ 63) ≤ k) (hhi : k < 2 ^ 63) (hj : seqIndex? k us.length = some j) (hx : us[j]? = some x) (h : Q x s)
    (hs : autoParam (subscripted slice false (.ref t) (.int k u) = operate [.ref t, .int k u] (getItem (.ref t) (.int k u))) tWur) :
    wpAny (model prog w) A (subscriptTail value slice (.ref t) (.int k u)) Q E s :=
  tail_any (st.tup hm).typeIs slot_tuple_getitem.lookup (PyProof.Rows.getItem_tuple (st.tup hm) hlo hhi (by simpa using hj) (by simpa using hx) h) hs

theorem g_neg1 {i : Int} {k pos pos'} {Q : Value → Shared → Prop} (st : S env ns h₀ vs l s₀ s) (h : ∀ t s', S env ns h₀ vs l s₀ s' → Q (.int (-i) t) s') : wpAny (model prog w) A (eval (.UnaryOp .USub (.Constant (.int i) k pos) pos') env) Q E s :=
  wpAny_UnaryOp (g_int st fun t s' st' => neg_int (h _ _ (st'.tok _)))

theorem seqIndex_last {n : Nat} (h : 0 < n) : seqIndex? (-1) n = some (n - 1) := by
  unfold seqIndex?
  have e : ((-1 : Int) < 0) := by lia
  simp only [e, if_true]
  have h1 : (0 : Int) ≤ -1 + (n : Int) := by lia
  have h2 : -1 + (n : Int) < (n : Int) := oPred n
  simp only [h1, h2, decide_true, Bool.and_self, if_true]
  congr 1
  lia
end
end Mine
end
section
open PySem PySem.W PySem.Calls PyProof.Rows
set_option maxRecDepth 100000
namespace Mine
section
variable {prog : Program} {w : World} {A : Around} {E : Value → Shared → Prop} {env : Env} {ns : List Str} {h₀ : Heap} {vs : List (Option Value)} {l : Lg} {s₀ s : Shared}
  {K : Frag} {p : Program} {loose : List Str} {mean : ExcName → Option Value} {mg mb : Str → Option Value} {d u : Nat}

theorem g_builtin {x : Str} {pos : Pos} {v : Value} {Q : Value → Shared → Prop} (fn : Fn env ns) (cx : Cx K p loose mean mg mb d u A env h₀) (st : S env ns h₀ vs l s₀ s) (e : nsIn K mainGlobals x = some none) (hv : bootBuiltins x = some v) (hn : x ≠ "__name__")
    (hx : env.kindOf x = some .globalImplicit) (hd : (x == ("__debug__" : Str)) = false) (h : Q v s) : wpAny (model prog w) A (eval (.Name x pos) env) Q E s :=
  Name_function_global fn.kind hx (loadGlobal_builtin (by rw [fn.glob]; exact cx.top.g.keeps st.fr.keep) (mg_none_of cx.x cx.top.g e) (by rw [fn.bis]; exact cx.top.b.keeps st.fr.keep) ((cx.top.builtins x hn).trans hv) h) hd
theorem g_global {x : Str} {pos : Pos} {v : Value} {Q : Value → Shared → Prop} (fn : Fn env ns) (cx : Cx K p loose mean mg mb d u A env h₀) (st : S env ns h₀ vs l s₀ s) (e : nsIn K mainGlobals x = some (some v))
    (hx : env.kindOf x = some .globalImplicit) (hd : (x == ("__debug__" : Str)) = false) (h : Q v s) : wpAny (model prog w) A (eval (.Name x pos) env) Q E s :=
  Name_function_global fn.kind hx (loadGlobal_global (by rw [fn.glob]; exact cx.top.g.keeps st.fr.keep) (mg_of cx.x cx.top.g e) h) hd

theorem S.keepExt {h : Heap} {t : Nat} {z : Addr} (st : S env ns h₀ vs l s₀ s) (he : Heap.ExtBut z s.heap h) (hz : s.heap.objs.size ≤ z) : S env ns h₀ vs l s₀ { s with heap := h, toks := t } :=
  st.keep fun b o hb e => he b o (Nat.ne_of_lt (Nat.lt_of_lt_of_le hb hz)) e

theorem g_unpack {elts : List Expr} {x1} {pos : Pos} {t : Addr} {us : List Value} {Q : Unit → Shared → Prop} (hh : A.handled = none) (st : S env ns h₀ vs l s₀ s) (hm : (t, tupO us) ∈ l)
    (hn : (assignEach elts env).length = us.length) (hstar : (assignEach elts env).findIdx? (·.1) = none)
    (h : ∀ s', S env ns h₀ vs l s₀ s' → wpAny (model prog w) A (assignInOrder ((assignEach elts env).map (·.2)) us) Q E s') : wpAny (model prog w) A (assign (.Tuple elts x1 pos) env (.ref t)) Q E s :=
  assign_Tuple_tuple hh (st.tup hm) (by rw [List.size_toArray]; exact hn) hstar fun h' he => h _ (st.keepExt (t := s.toks) he (Nat.le_refl _))

theorem g_unpackItems {t : Addr} {us : List Value} {n : Nat} {Q : List Value → Shared → Prop} (hh : A.handled = none) (st : S env ns h₀ vs l s₀ s) (hm : (t, tupO us) ∈ l) (hn : n = us.length)
    (h : ∀ s', S env ns h₀ vs l s₀ s' → Q us s') : wpAny (model prog w) A (unpackItems (.ref t) n none) Q E s := by
  have hsz : us.toArray.size = us.length := List.size_toArray
  subst hn
  rw [← hsz]
  exact unpackItems_tuple hh (st.tup hm) fun h' he => h _ (st.keepExt (t := s.toks) he (Nat.le_refl _))

theorem g_set_call {pos fpos : Pos} {Q : Value → Shared → Prop} (fn : Fn env ns) (cx : Cx K p loose mean mg mb d u A env h₀) (st : S env ns h₀ vs l s₀ s) (e : nsIn K mainGlobals "set" = some none) (hx : env.kindOf "set" = some .globalImplicit)
    (h : ∀ a led s', S env ns h₀ vs ((a, freshSet led) :: l) s₀ s' → Q (.ref a) s') : wpAny (model prog w) A (eval (.Call (.Name "set" fpos) [] [] pos) env) Q E s :=
  Call_ (g_builtin fn cx st e boot_set (by decide) hx (by decide) (callWith_type0 (g_newset st h)))

end
end Mine
end
section
open PySem PySem.W PySem.Calls PyProof.Rows
set_option maxRecDepth 100000
namespace Mine
section
variable {M : Model} {prog : Program} {w : World} {A : Around} {E : Value → Shared → Prop} {env : Env} {ns : List Str} {h₀ : Heap} {vs : List (Option Value)} {l : Lg} {s₀ s : Shared}
  {K : Frag} {p : Program} {loose : List Str} {mean : ExcName → Option Value} {mg mb : Str → Option Value} {d u : Nat}

theorem w_nil {Q : Flow → Shared → Prop} (h : Q .next s) : W M A (execs [] env) Q E s := .mk (wpAny_execs_nil h)
theorem w_cons {st : Stmt} {rest : List Stmt} {Q : Flow → Shared → Prop} (h : W M A (exec st env) (fun f s' => match f with | .next => W M A (execs rest env) Q E s' | f => Q f s') E s) : W M A (execs (st :: rest) env) Q E s := by
  with_unfolding_all exact wpAny_execs_cons h
theorem w_if {test : Expr} {body orelse : List Stmt} {pos : Pos} {Q : Flow → Shared → Prop} (h : W M A (isTrue test env (eval test env)) (fun b s₂ => if b then W M A (execs body env) Q E s₂ else W M A (execs orelse env) Q E s₂) E s) :
    W M A (exec (.If test body orelse pos) env) Q E s := by with_unfolding_all exact wpAny_If h
theorem w_not {x : Expr} {pos : Pos} {whole : Sem Value} {Q : Bool → Shared → Prop} (h : W M A (isTrue x env (eval x env)) (fun b s₁ => Q (!b) s₁) E s) : W M A (isTrue (.UnaryOp .Not x pos) env whole) Q E s := by with_unfolding_all exact wpAny_isTrue_Not h
theorem w_plain {e : Expr} {whole : Sem Value} {Q : Bool → Shared → Prop} (h : W M A whole (fun v s₁ => W M A (truthy v) Q E s₁) E s)
    (he : autoParam (isTrue e env whole = (do let v ← whole; standAt e.pos; holding [v] (truthy v))) tRfl) : W M A (isTrue e env whole) Q E s := by with_unfolding_all exact isTrue_plain h he
theorem w_tbool {b : Bool} {Q : Bool → Shared → Prop} (h : Q b s) : W M A (truthy (.bool b)) Q E s := .mk (wpAny_truthy_bool h)
theorem w_testcmp {l r : Expr} {op : CmpOp} {pos : Pos} {whole : Sem Value} {Q : Bool → Shared → Prop} (h : W M A (eval l env) (fun a s₁ => W M A (eval r env) (fun b s₂ => W M A (compareOp op a b) (fun c s₃ => W M A (truthy c) Q E s₃) E s₂) E s₁) E s)
    (hm : autoParam (behindInMarks op r = false) tWur) : W M A (isTrue (.Compare l [op] [r] pos) env whole) Q E s := by with_unfolding_all exact wpAny_isTrue_Compare1 h hm
theorem w_cmp {l r : Expr} {op : CmpOp} {pos : Pos} {Q : Value → Shared → Prop} (h : W M A (eval l env) (fun a s₁ => W M A (eval r env) (fun b s₂ => W M A (compareOp op a b) Q E s₂) E s₁) E s)
    (hm : autoParam (behindInMarks op r = false) tWur) : W M A (eval (.Compare l [op] [r] pos) env) Q E s := by with_unfolding_all exact wpAny_Compare1 h hm
theorem w_binop {l r : Expr} {op : Operator} {pos : Pos} {Q : Value → Shared → Prop} (h : W M A (eval l env) (fun a s₁ => W M A (eval r env) (fun b s₂ => W M A (binaryOp op a b) Q E s₂) E s₁) E s) :
    W M A (eval (.BinOp l op r pos) env) Q E s := by with_unfolding_all exact wpAny_BinOp h
theorem w_ret {e : Expr} {pos : Pos} {Q : Flow → Shared → Prop} (h : W M A (eval e env) (fun v => Q (.ret v)) E s) : W M A (exec (.Return (some e) pos) env) Q E s := by with_unfolding_all exact wpAny_Return_some h
theorem w_ret0 {pos : Pos} {Q : Flow → Shared → Prop} (h : Q (.ret .none) s) : W M A (exec (.Return none pos) env) Q E s := .mk (wpAny_Return_none h)
theorem w_or {x y : Expr} {pos : Pos} {Q : Value → Shared → Prop} (h : W M A (eval x env) (fun v s₁ => W M A (truthy v) (fun t s₂ => if t then Q v s₂ else W M A (eval y env) Q E s₂) E s₁) E s) : W M A (eval (.BoolOp .Or [x, y] pos) env) Q E s := by
  with_unfolding_all exact wpAny_Or2 h
theorem w_and {x y : Expr} {pos : Pos} {Q : Value → Shared → Prop} (h : W M A (eval x env) (fun v s₁ => W M A (truthy v) (fun t s₂ => if t then W M A (eval y env) Q E s₂ else Q v s₂) E s₁) E s) : W M A (eval (.BoolOp .And [x, y] pos) env) Q E s := by
  with_unfolding_all exact wpAny_And2 h
theorem w_ifexp {test body orelse : Expr} {pos : Pos} {Q : Value → Shared → Prop} (h : W M A (isTrue test env (eval test env)) (fun b s₁ => if b then W M A (eval body env) Q E s₁ else W M A (eval orelse env) Q E s₁) E s) :
    W M A (eval (.IfExp test body orelse pos) env) Q E s := by with_unfolding_all exact wpAny_IfExp h
theorem w_subE {value slice : Expr} {pos : Pos} {Q : Value → Shared → Prop} (h : W M A (eval value env) (fun o s₁ => W M A (eval slice env) (fun i s₂ => W M A (subscriptTail value slice o i) Q E s₂) E s₁) E s) :
    W M A (eval (.Subscript value slice pos) env) Q E s := by with_unfolding_all exact Subscript_ h
theorem w_attr {n attr : Str} {np pos : Pos} {Q : Value → Shared → Prop} (h : W (model prog w) A (eval (.Name n np) env) (fun o s₁ => W (model prog w) A (getAttr o attr true) Q E s₁) E s) : W (model prog w) A (eval (.Attribute (.Name n np) attr pos) env) Q E s := by
  with_unfolding_all exact Attribute_name h
theorem w_aname {x : Str} {pos : Pos} {v : Value} {Q : Unit → Shared → Prop} (h : W M A (storeName env x v) Q E s) : W M A (assign (.Name x pos) env v) Q E s := by with_unfolding_all exact wpAny_assign_Name h
theorem w_bind {x : Str} {v : Value} {Q : Unit → Shared → Prop} (h : W M A (storeName env x v) Q E s) : W M A (bindName env x v) Q E s := by with_unfolding_all exact bindName_ h
theorem w_inorder0 {xs : List Value} {Q : Unit → Shared → Prop} (h : Q () s) : W M A (assignInOrder [] xs) Q E s := .mk (assignInOrder_nil h)
theorem w_inorder {t : Value → Sem Unit} {ts : List (Value → Sem Unit)} {x : Value} {xs : List Value} {Q : Unit → Shared → Prop} (h : W M A (t x) (fun _ s₁ => W M A (assignInOrder ts xs) Q E s₁) E s) : W M A (assignInOrder (t :: ts) (x :: xs)) Q E s := by
  with_unfolding_all exact assignInOrder_cons h
theorem w_swapped {elts : List Expr} {k : Nat} {tpos : Pos} {value : Expr} {pos : Pos} (names : List Str) {Q : Flow → Shared → Prop}
    (h : W M A (eval value env) (fun v s₁ => W M A (unpackItems v names.length none) (fun items s₂ => W M A (assignInOrder (names.reverse.map fun n => bindName env n) items.reverse) (fun _ => Q .next) E s₂) E s₁) E s)
    (hs : swapsWithSole [.Tuple elts k tpos] value pos.line env = pure false) (hw : swappedStores [.Tuple elts k tpos] value env = pure (some names)) : W M A (exec (.Assign [.Tuple elts k tpos] value pos) env) Q E s := by
  with_unfolding_all exact Assign_Tuple_swapped h hs hw
theorem w_tupleE {elts : List Expr} {k : Nat} {pos : Pos} {Q : Value → Shared → Prop} (h : W M A (spliced (backTo pos (starEach elts env))) (fun vs s₁ => W M A (newTuple vs) Q E s₁) E s) : W M A (eval (.Tuple elts k pos) env) Q E s := by
  with_unfolding_all exact Tuple_ h
theorem w_listE {elts : List Expr} {pos : Pos} {Q : Value → Shared → Prop} (h : W M A (spliced (backTo pos (starEach elts env))) (fun vs s₁ => W M A (newList vs) Q E s₁) E s) : W M A (eval (.List elts pos) env) Q E s := by
  with_unfolding_all exact List_ h
theorem w_args0 {pos : Pos} {Q : List Value → Shared → Prop} (h : Q [] s) : W M A (spliced (backTo pos (starEach [] env))) Q E s := .mk (args_nil h)
theorem w_args {e : Expr} {rest : List Expr} {pos : Pos} {Q : List Value → Shared → Prop} (h : W M A (eval e env) (fun v s₁ => W M A (spliced (backTo pos (starEach rest env))) (fun vs s₂ => Q (v :: vs) s₂) E s₁) E s)
    (he : autoParam (starEach (e :: rest) env = (false, eval e env) :: starEach rest env) tRfl) : W M A (spliced (backTo pos (starEach (e :: rest) env))) Q E s := by
  with_unfolding_all exact args_cons h he
theorem w_exprS {e : Expr} {pos : Pos} {Q : Flow → Shared → Prop} (hi : interactive env = false) (h : W M A (eval e env) (fun v s' => match v with | .ref _ => False | _ => Q .next s') E s) (hs : autoParam (swapsWith e none pos.line env = pure false) tRfl) :
    W M A (exec (.Expr e pos) env) Q E s := by with_unfolding_all exact wpAny_Expr h hi hs
theorem w_meth {o : Expr} {name : Str} {apos pos : Pos} {args : List Expr} {pl : Sem Bool} {Q : Value → Shared → Prop}
    (h : W M A (eval o env) (fun ov s₁ => W M A (getMethod ov name pl) (fun fx s₂ => W M A (callWith pos fx.1 fx.2 (backTo pos (starEach args env)) []) Q E s₂) E s₁) E s)
    (he : autoParam (eval (.Call (.Attribute o name apos) args [] pos) env = (do
      let ov ← eval o env
      standAt apos.atName
      let (f, first) ← holding [ov] (getMethod ov name pl)
      callWith pos f first (backTo pos (starEach args env)) [])) tRfl) : W M A (eval (.Call (.Attribute o name apos) args [] pos) env) Q E s := by with_unfolding_all exact MethodCall_ h he
theorem w_methKW {o : Expr} {name : Str} {apos pos : Pos} {args : List Expr} {kws : List Keyword} {pl : Sem Bool} {Q : Value → Shared → Prop}
    (h : W M A (eval o env) (fun ov s₁ => W M A (getMethod ov name pl) (fun fx s₂ => W M A (callWith pos fx.1 fx.2 (backTo pos (starEach args env)) (backToKw pos (keywordEach kws env))) Q E s₂) E s₁) E s)
    (he : autoParam (eval (.Call (.Attribute o name apos) args kws pos) env = (do
      let ov ← eval o env
      standAt apos.atName
      let (f, first) ← holding [ov] (getMethod ov name pl)
      callWith pos f first (backTo pos (starEach args env)) (backToKw pos (keywordEach kws env)))) tRfl) : W M A (eval (.Call (.Attribute o name apos) args kws pos) env) Q E s := by with_unfolding_all exact methodCall_KW h he
theorem w_callE {func : Expr} {args : List Expr} {pos : Pos} {Q : Value → Shared → Prop} (h : W M A (eval func env) (fun f s₁ => W M A (callWith pos f [] (backTo pos (starEach args env)) []) Q E s₁) E s)
    (he : autoParam (eval (.Call func args [] pos) env = (do callWith pos (← eval func env) [] (backTo pos (starEach args env)) (backToKw pos (keywordEach [] env)))) tRfl) : W M A (eval (.Call func args [] pos) env) Q E s := by with_unfolding_all exact Call_ h he
theorem w_cwBuiltin0 {pos : Pos} {id : String} {first : List Value} {Q : Value → Shared → Prop} (h : W M A (call (.builtin id) first) Q E s) : W M A (callWith pos (.builtin id) first (backTo pos (starEach [] env)) []) Q E s := by with_unfolding_all exact callWith_method0 h
theorem w_cwBuiltin {pos : Pos} {id : String} {first : List Value} {e : Expr} {rest : List Expr} {Q : Value → Shared → Prop} (h : W M A (spliced (backTo pos (starEach (e :: rest) env))) (fun vs s₁ => W M A (call (.builtin id) (first ++ vs)) Q E s₁) E s)
    (he : autoParam (starEach (e :: rest) env = (false, eval e env) :: starEach rest env) tRfl) (hplain : autoParam ((backTo pos (starEach rest env)).any (·.1) = false) tRfl) : W M A (callWith pos (.builtin id) first (backTo pos (starEach (e :: rest) env)) []) Q E s := by
  with_unfolding_all exact callWith_method1 h he hplain
theorem w_cwType {pos : Pos} {T : String} {e : Expr} {rest : List Expr} {Q : Value → Shared → Prop} (h : W M A (spliced (backTo pos (starEach (e :: rest) env))) (fun vs s₁ => W M A (call (.type T) vs) Q E s₁) E s)
    (he : autoParam (starEach (e :: rest) env = (false, eval e env) :: starEach rest env) tRfl) (hplain : autoParam ((backTo pos (starEach rest env)).any (·.1) = false) tRfl) : W M A (callWith pos (.type T) [] (backTo pos (starEach (e :: rest) env)) []) Q E s := by
  with_unfolding_all exact PyProof.Rows.callWith_type1 h he hplain
theorem w_for {target iter : Expr} {body : List Stmt} {pos : Pos} {Q : Flow → Shared → Prop} (h : W (model prog w) A (eval iter env) (fun x s₁ => W (model prog w) A (pyIter x) (ForRest prog w A env E target body Q) E s₁) E s)
    (hs : ∀ x, foldedSetIterable iter env x = pure x := by intro _; rfl) : W (model prog w) A (exec (.For target iter body [] pos) env) Q E s := by
  with_unfolding_all exact wpAny_For h hs

theorem w_assignSub {o i value : Expr} {pos' pos : Pos} {Q : Flow → Shared → Prop}
    (h : W M A (eval value env) (fun v s₁ => W M A (eval o env) (fun ov s₂ => W M A (eval i env) (fun iv s₃ => W M A (setItem ov iv v) (fun _ => Q .next) E s₃) E s₂) E s₁) E s)
    (hs : autoParam (swapsWith value (some (.Subscript o i pos')) pos.line env = pure false) tRfl) : W M A (exec (.Assign [.Subscript o i pos'] value pos) env) Q E s := by with_unfolding_all exact wpAny_Assign_Subscript h hs
theorem w_assignAttr {o : Expr} {attr : Str} {value : Expr} {pos' pos : Pos} {Q : Flow → Shared → Prop}
    (h : W M A (eval value env) (fun v s₁ => W M A (eval o env) (fun ov s₂ => W M A (setAttr ov attr v) (fun _ => Q .next) E s₂) E s₁) E s)
    (hs : autoParam (swapsWith value (some (.Attribute o attr pos')) pos.line env = pure false) tRfl) : W M A (exec (.Assign [.Attribute o attr pos'] value pos) env) Q E s := by with_unfolding_all exact plainObj_wpAny_Assign_Attribute h hs
theorem w_name {x : Str} {pos : Pos} {v : Value} {Q : Value → Shared → Prop} (i : Nat) (fn : Fn env ns) (st : S env ns h₀ vs l s₀ s) (hn : ns[i]? = some x) (hv : vs[i]? = some (some v)) (h : Q v s) :
    W (model prog w) A (eval (.Name x pos) env) Q E s := by
  with_unfolding_all exact g_name i fn st hn hv h
theorem w_store {x : Str} {v : Value} {Q : Unit → Shared → Prop} (i : Nat) (fn : Fn env ns) (st : S env ns h₀ vs l s₀ s) (hn : ns[i]? = some x) (hi : i < vs.length)
    (h : ∀ s', S env ns h₀ (vs.set i (some v)) l s₀ s' → Q () s') : W (model prog w) A (storeName env x v) Q E s := by
  with_unfolding_all exact g_store i fn st hn hi h
theorem w_assign {x : Str} {pos' pos : Pos} {value : Expr} {Q : Flow → Shared → Prop} (i : Nat) (fn : Fn env ns) (hn : ns[i]? = some x)
    (h : W (model prog w) A (eval value env) (fun v s₁ => ∃ vs l, S env ns h₀ vs l s₀ s₁ ∧ i < vs.length ∧ ∀ s', S env ns h₀ (vs.set i (some v)) l s₀ s' → Q .next s') E s)
    (hs : autoParam (swapsWith value (some (.Name x pos')) pos.line env = pure false) tRfl) : W (model prog w) A (exec (.Assign [.Name x pos'] value pos) env) Q E s := by
  with_unfolding_all exact g_assign i fn hn h hs
theorem w_int {i : Int} {k pos} {Q : Value → Shared → Prop} (st : S env ns h₀ vs l s₀ s) (h : ∀ t s', S env ns h₀ vs l s₀ s' → Q (.int i t) s') : W (model prog w) A (eval (.Constant (.int i) k pos) env) Q E s := by
  with_unfolding_all exact g_int st h
theorem w_str {x : Str} {k pos} {Q : Value → Shared → Prop} (st : S env ns h₀ vs l s₀ s) (h : ∀ t s', S env ns h₀ vs l s₀ s' → Q (.str x t) s') : W (model prog w) A (eval (.Constant (.str x) k pos) env) Q E s := by
  with_unfolding_all exact g_str st h
theorem w_bool {b : Bool} {k pos} {Q : Value → Shared → Prop} (h : Q (.bool b) s) : W (model prog w) A (eval (.Constant (.bool b) k pos) env) Q E s := by
  with_unfolding_all exact g_bool h
theorem w_none {k pos} {Q : Value → Shared → Prop} (h : Q .none s) : W (model prog w) A (eval (.Constant .none k pos) env) Q E s := by
  with_unfolding_all exact g_none h
theorem w_add {a b : Int} {t u : Tok} {Q : Value → Shared → Prop} (st : S env ns h₀ vs l s₀ s) (h : ∀ t s', S env ns h₀ vs l s₀ s' → Q (.int (a + b) t) s') : W (model prog w) A (binaryOp .Add (.int a t) (.int b u)) Q E s := by
  with_unfolding_all exact g_add st h
theorem w_sub {a b : Int} {t u : Tok} {Q : Value → Shared → Prop} (st : S env ns h₀ vs l s₀ s) (h : ∀ t s', S env ns h₀ vs l s₀ s' → Q (.int (a - b) t) s') : W (model prog w) A (binaryOp .Sub (.int a t) (.int b u)) Q E s := by
  with_unfolding_all exact g_sub st h
theorem w_mod {a b : Int} {t u : Tok} {Q : Value → Shared → Prop} (hb : b ≠ 0) (st : S env ns h₀ vs l s₀ s) (h : ∀ t s', S env ns h₀ vs l s₀ s' → Q (.int (a.fmod b) t) s') : W (model prog w) A (binaryOp .Mod (.int a t) (.int b u)) Q E s := by
  with_unfolding_all exact g_mod hb st h
theorem w_div {a b : Int} {t u : Tok} {Q : Value → Shared → Prop} (hb : b ≠ 0) (hp : Builtin.divisionGoesByPylong a b = false) (st : S env ns h₀ vs l s₀ s) (h : ∀ t s', S env ns h₀ vs l s₀ s' → Q (.int (a.fdiv b) t) s') : W (model prog w) A (binaryOp .FloorDiv (.int a t) (.int b u)) Q E s := by
  with_unfolding_all exact g_div hb hp st h
theorem w_tuple {es : List Value} {Q : Value → Shared → Prop} (st : S env ns h₀ vs l s₀ s) (h : ∀ a s', S env ns h₀ vs ((a, { cls := .type "tuple", data := .seq es.toArray }) :: l) s₀ s' → Q (.ref a) s') (hsz : autoParam (es.length ≤ sizeLine) tSz) :
    W (model prog w) A (newTuple es) Q E s := by
  with_unfolding_all exact g_tuple st h hsz
theorem w_list {es : List Value} {Q : Value → Shared → Prop} (st : S env ns h₀ vs l s₀ s) (h : ∀ a s', S env ns h₀ vs ((a, { cls := .type "list", data := .seq es.toArray }) :: l) s₀ s' → Q (.ref a) s') (hsz : autoParam (es.length ≤ sizeLine) tSz) :
    W (model prog w) A (newList es) Q E s := by
  with_unfolding_all exact g_list st h hsz
theorem w_tail_dict {value slice : Expr} {a : Addr} {o : Obj} {kvs : List (Str × Value)} {k : Str} {t : Tok} {v : Value} {Q : Value → Shared → Prop} (st : S env ns h₀ vs l s₀ s) (hm : (a, o) ∈ l) (hd : o.IsDictOf (strKind prog w) kvs) (hl : valueAt kvs k = some v)
    (h : ∀ s', S env ns h₀ vs l s₀ s' → Q v s') (hs : autoParam (subscripted slice false (.ref a) (.str k t) = operate [.ref a, .str k t] (getItem (.ref a) (.str k t))) tWur) :
    W (model prog w) A (subscriptTail value slice (.ref a) (.str k t)) Q E s := by
  with_unfolding_all exact g_tail_dict st hm hd hl h hs
theorem w_in_dict {a : Addr} {o : Obj} {kvs : List (Str × Value)} {k : Str} {t : Tok} {Q : Value → Shared → Prop} (st : S env ns h₀ vs l s₀ s) (hm : (a, o) ∈ l) (hd : o.IsDictOf (strKind prog w) kvs) (ha : (a == sysModules) = false)
    (h : ∀ s', S env ns h₀ vs l s₀ s' → Q (.bool (valueAt kvs k).isSome) s') : W (model prog w) A (compareOp .In (.str k t) (.ref a)) Q E s := by
  with_unfolding_all exact g_in_dict st hm hd ha h
theorem w_notin_dict {a : Addr} {o : Obj} {kvs : List (Str × Value)} {k : Str} {t : Tok} {Q : Value → Shared → Prop} (st : S env ns h₀ vs l s₀ s) (hm : (a, o) ∈ l) (hd : o.IsDictOf (strKind prog w) kvs) (ha : (a == sysModules) = false)
    (h : ∀ s', S env ns h₀ vs l s₀ s' → Q (.bool !(valueAt kvs k).isSome) s') : W (model prog w) A (compareOp .NotIn (.str k t) (.ref a)) Q E s := by
  with_unfolding_all exact g_notin_dict st hm hd ha h
theorem w_setitem {a : Addr} {o : Obj} {l' : Obj → Lg} {kvs : List (Str × Value)} {k : Str} {t : Tok} {v : Value} {Q : Unit → Shared → Prop} (st : S env ns h₀ vs l s₀ s) (U : ∀ o', UpdL a o o' l (l' o')) (hd : o.IsDictOf (strKind prog w) kvs) (hsz : kvs.length ≤ sizeLine)
    (h : ∀ o' s', o'.IsDictOf (strKind prog w) (stored kvs k v) → S env ns h₀ vs (l' o') s₀ s' → Q () s') : W (model prog w) A (setItem (.ref a) (.str k t) v) Q E s := by
  with_unfolding_all exact g_setitem st U hd hsz h
theorem w_newdict {pos : Pos} {Q : Value → Shared → Prop} (st : S env ns h₀ vs l s₀ s) (cx : Cx K p loose mean mg mb d u A env h₀)
    (h : ∀ a s', (a == sysModules) = false → S env ns h₀ vs ((a, emptyD) :: l) s₀ s' → Q (.ref a) s') : W (model prog w) A (eval (.Dict [] [] pos) env) Q E s := by
  with_unfolding_all exact g_newdict st cx h
theorem w_dict3 {k1 k2 k3 : Str} {e1 e2 e3 : Expr} {p1 p2 p3 pos : Pos} {c1 c2 c3 : Nat} {Q : Value → Shared → Prop} (st : S env ns h₀ vs l s₀ s) (cx : Cx K p loose mean mg mb d u A env h₀) (hk : [k1, k2, k3].Nodup)
    (h : ∀ a s1, (a == sysModules) = false → S env ns h₀ vs ((a, emptyD) :: l) s₀ s1 → W (model prog w) A (eval e1 env) (fun v1 s2 => ∃ l2, S env ns h₀ vs l2 s₀ s2 ∧ ∀ s2', S env ns h₀ vs l2 s₀ s2' →
      W (model prog w) A (eval e2 env) (fun v2 s3 => ∃ l3, S env ns h₀ vs l3 s₀ s3 ∧ ∀ s3', S env ns h₀ vs l3 s₀ s3' → W (model prog w) A (eval e3 env) (fun v3 s4 =>
        ∃ (l4 : Lg) (l5 : Obj → Lg), S env ns h₀ vs l4 s₀ s4 ∧ (∀ o', UpdL a emptyD o' l4 (l5 o')) ∧ ∀ o' s5, o'.IsDictOf (strKind prog w) [(k1, v1), (k2, v2), (k3, v3)] → S env ns h₀ vs (l5 o') s₀ s5 → Q (.ref a) s5) E s3') E s2') E s1) :
    W (model prog w) A (eval (.Dict [some (.Constant (.str k1) c1 p1), some (.Constant (.str k2) c2 p2), some (.Constant (.str k3) c3 p3)] [e1, e2, e3] pos) env) Q E s := by
  with_unfolding_all exact g_dict3 st cx hk h
theorem w_pop_meth {a : Addr} {o : Obj} {kvs : List (Str × Value)} {pl : Sem Bool} {Q : Value × List Value → Shared → Prop} (st : S env ns h₀ vs l s₀ s) (hm : (a, o) ∈ l) (hd : o.IsDictOf (strKind prog w) kvs) (h : Q (.builtin "dict.pop", [.ref a]) s) : W (model prog w) A (getMethod (.ref a) "pop" pl) Q E s := by
  with_unfolding_all exact g_pop_meth st hm hd h
theorem w_pop {a : Addr} {o : Obj} {l' : Obj → Lg} {kvs : List (Str × Value)} {k : Str} {t : Tok} {v dflt : Value} {Q : Value → Shared → Prop} (st : S env ns h₀ vs l s₀ s) (U : ∀ o', UpdL a o o' l (l' o')) (hd : o.IsDictOf (strKind prog w) kvs) (hsz : kvs.length ≤ sizeLine) (hl : valueAt kvs k = some v)
    (h : ∀ o' s', o'.IsDictOf (strKind prog w) (without kvs k) → S env ns h₀ vs (l' o') s₀ s' → Q v s') : W (model prog w) A (call (.builtin "dict.pop") [.ref a, .str k t, dflt]) Q E s := by
  with_unfolding_all exact g_pop st U hd hsz hl h
theorem w_pop_none {a : Addr} {o : Obj} {kvs : List (Str × Value)} {k : Str} {t : Tok} {dflt : Value} {Q : Value → Shared → Prop} (st : S env ns h₀ vs l s₀ s) (hm : (a, o) ∈ l) (hd : o.IsDictOf (strKind prog w) kvs) (ha : (a == sysModules) = false) (hl : valueAt kvs k = none)
    (h : ∀ s', S env ns h₀ vs l s₀ s' → Q dflt s') : W (model prog w) A (call (.builtin "dict.pop") [.ref a, .str k t, dflt]) Q E s := by
  with_unfolding_all exact g_pop_none st hm hd ha hl h
theorem w_in_set {a : Addr} {o : Obj} {X : Int → Bool} {n : Nat} {k : Int} {t : Tok} {Q : Value → Shared → Prop} (st : S env ns h₀ vs l s₀ s) (hm : (a, o) ∈ l) (hd : o.SetObjOf (intKind prog w) X n) (hn : n < scanBound)
    (h : ∀ s', S env ns h₀ vs l s₀ s' → Q (.bool (X k)) s') : W (model prog w) A (compareOp .In (.int k t) (.ref a)) Q E s := by
  with_unfolding_all exact g_in_set st hm hd hn h
theorem w_add_meth {K : Type} [DecidableEq K] [BEq K] [LawfulBEq K] {knd : KeyKind prog w K} {X : K → Bool} {a : Addr} {o : Obj} {n : Nat} {pl : Sem Bool} {Q : Value × List Value → Shared → Prop} (st : S env ns h₀ vs l s₀ s) (hm : (a, o) ∈ l) (hd : o.SetObjOf knd X n) (hn : n < scanBound)
    (h : Q (.builtin "set.add", [.ref a]) s) : W (model prog w) A (getMethod (.ref a) "add" pl) Q E s := by
  with_unfolding_all exact g_add_meth st hm hd hn h
theorem w_add_int {a : Addr} {o : Obj} {l' : Obj → Lg} {X : Int → Bool} {n : Nat} {k : Int} {t : Tok} {Q : Value → Shared → Prop} (st : S env ns h₀ vs l s₀ s) (U : ∀ o', UpdL a o o' l (l' o')) (hd : o.SetObjOf (intKind prog w) X n) (hn : n + 1 < scanBound)
    (h : ∀ o' s', o'.SetObjOf (intKind prog w) (fun k' => X k' || decide (k' = k)) (if X k then n else n + 1) → S env ns h₀ vs (l' o') s₀ s' → Q .none s') : W (model prog w) A (call (.builtin "set.add") [.ref a, .int k t]) Q E s := by
  with_unfolding_all exact g_add_int st U hd hn h
theorem w_for_list {target : Expr} {body : List Stmt} {t : Addr} {us : List Value} {n : Nat} {Q : Flow → Shared → Prop} (hh : A.handled = none) (st : S env ns h₀ vs l s₀ s) (hm : (t, listO us n) ∈ l)
    (J : Nat → List (Option Value) → Lg → Prop) (h0 : J 0 vs l) (keep : ∀ i vs' l', J i vs' l' → (t, listO us n) ∈ l')
    (turn : ∀ i v vs' l' I o s' E', us[i]? = some v → J i vs' l' → S env ns h₀ vs' ((I, o) :: l') s₀ s' →
      W (model prog w) A (assign target env v) (fun _ s2 => W (model prog w) A (execs body env) (LPost env ns h₀ s₀ I o (J (i + 1)) Q) E' s2) E' s')
    (done : ∀ vs' l' s', J us.length vs' l' → S env ns h₀ vs' l' s₀ s' → Q .next s') :
    W (model prog w) A (pyIter (.ref t)) (ForRest prog w A env E target body Q) E s := by
  with_unfolding_all exact g_for_list hh st hm J h0 keep turn done
theorem w_for_tuple {target : Expr} {body : List Stmt} {t : Addr} {us : List Value} {Q : Flow → Shared → Prop} (hh : A.handled = none) (st : S env ns h₀ vs l s₀ s) (hm : (t, tupO us) ∈ l)
    (J : Nat → List (Option Value) → Lg → Prop) (h0 : J 0 vs l) (keep : ∀ i vs' l', J i vs' l' → (t, tupO us) ∈ l')
    (turn : ∀ i v vs' l' I o s' E', us[i]? = some v → J i vs' l' → S env ns h₀ vs' ((I, o) :: l') s₀ s' →
      W (model prog w) A (assign target env v) (fun _ s2 => W (model prog w) A (execs body env) (LPost env ns h₀ s₀ I o (J (i + 1)) Q) E' s2) E' s')
    (done : ∀ vs' l' s', J us.length vs' l' → S env ns h₀ vs' l' s₀ s' → Q .next s') :
    W (model prog w) A (pyIter (.ref t)) (ForRest prog w A env E target body Q) E s := by
  with_unfolding_all exact g_for_tuple hh st hm J h0 keep turn done
theorem w_truthy_tuple {t : Addr} {us : List Value} {Q : Bool → Shared → Prop} (st : S env ns h₀ vs l s₀ s) (hm : (t, tupO us) ∈ l) (hz : us.length ≤ sizeLine) (h : ∀ s', S env ns h₀ vs l s₀ s' → Q (!us.isEmpty) s') : W (model prog w) A (truthy (.ref t)) Q E s := by
  with_unfolding_all exact g_truthy_tuple st hm hz h
theorem w_subslice {value : Expr} {lower upper : Option Expr} {p pos : Pos} {Q : Value → Shared → Prop}
    (h : W (model prog w) A (eval value env) (fun o s₁ => W (model prog w) A (evalPart lower env) (fun x s₂ => W (model prog w) A (evalPart upper env) (fun y s₃ =>
      W (model prog w) A (subscriptTail value (.Slice lower upper none p) o (.ref s₃.heap.objs.size)) Q E { s₃ with heap := s₃.heap.push { cls := .type "slice", data := .fields #[x, y, .none] } }) E s₂) E s₁) E s) :
    W (model prog w) A (eval (.Subscript value (.Slice lower upper none p) pos) env) Q E s := by
  with_unfolding_all exact g_subslice h
theorem wpart_e {e : Expr} {Q : Value → Shared → Prop} (h : W (model prog w) A (eval e env) Q E s) : W (model prog w) A (evalPart (some e) env) Q E s := by
  with_unfolding_all exact part_e h
theorem wpart_0 {Q : Value → Shared → Prop} (h : Q .none s) : W (model prog w) A (evalPart none env) Q E s := by
  with_unfolding_all exact part_0 h
theorem w_slice_tup {value : Expr} {lower upper : Option Expr} {p : Pos} {t : Addr} {us : List Value} {x y : Value} {lo hi : Option Int} {Q : Value → Shared → Prop} (st : S env ns h₀ vs l s₀ s) (hm : (t, tupO us) ∈ l) (hx : IsPart x lo) (hy : IsPart y hi) (hz : us.length ≤ sizeLine)
    (h : ∀ z a s', S env ns h₀ vs (z ++ l) s₀ s' → (∀ l' : Lg, (t, tupO us) ∈ l' → (a, tupO (sl lo hi us)) ∈ z ++ l') → Q (.ref a) s') :
    W (model prog w) A (subscriptTail value (.Slice lower upper none p) (.ref t) (.ref s.heap.objs.size)) Q E { s with heap := s.heap.push { cls := .type "slice", data := .fields #[x, y, .none] } } := by
  with_unfolding_all exact g_slice_tup st hm hx hy hz h
theorem w_item_tup {value slice : Expr} {t : Addr} {us : List Value} {k : Int} {u : Tok} {j : Nat} {x : Value} {Q : Value → Shared → Prop} (st : S env ns h₀ vs l s₀ s) (hm : (t, tupO us) ∈ l) (hlo : -(2 ^ 63) ≤ k) (hhi : k < 2 ^ 63) (hj : seqIndex? k us.length = some j) (hx : us[j]? = some x) (h : Q x s)
    (hs : autoParam (subscripted slice false (.ref t) (.int k u) = operate [.ref t, .int k u] (getItem (.ref t) (.int k u))) tWur) :
    W (model prog w) A (subscriptTail value slice (.ref t) (.int k u)) Q E s := by
  with_unfolding_all exact g_item_tup st hm hlo hhi hj hx h hs
theorem w_neg1 {i : Int} {k pos pos'} {Q : Value → Shared → Prop} (st : S env ns h₀ vs l s₀ s) (h : ∀ t s', S env ns h₀ vs l s₀ s' → Q (.int (-i) t) s') : W (model prog w) A (eval (.UnaryOp .USub (.Constant (.int i) k pos) pos') env) Q E s := by
  with_unfolding_all exact g_neg1 st h
theorem w_builtin {x : Str} {pos : Pos} {v : Value} {Q : Value → Shared → Prop} (fn : Fn env ns) (cx : Cx K p loose mean mg mb d u A env h₀) (st : S env ns h₀ vs l s₀ s) (e : nsIn K mainGlobals x = some none) (hv : bootBuiltins x = some v) (hn : x ≠ "__name__")
    (hx : env.kindOf x = some .globalImplicit) (hd : (x == ("__debug__" : Str)) = false) (h : Q v s) : W (model prog w) A (eval (.Name x pos) env) Q E s := by
  with_unfolding_all exact g_builtin fn cx st e hv hn hx hd h
theorem w_global {x : Str} {pos : Pos} {v : Value} {Q : Value → Shared → Prop} (fn : Fn env ns) (cx : Cx K p loose mean mg mb d u A env h₀) (st : S env ns h₀ vs l s₀ s) (e : nsIn K mainGlobals x = some (some v))
    (hx : env.kindOf x = some .globalImplicit) (hd : (x == ("__debug__" : Str)) = false) (h : Q v s) : W (model prog w) A (eval (.Name x pos) env) Q E s := by
  with_unfolding_all exact g_global fn cx st e hx hd h
theorem w_unpack {elts : List Expr} {x1} {pos : Pos} {t : Addr} {us : List Value} {Q : Unit → Shared → Prop} (hh : A.handled = none) (st : S env ns h₀ vs l s₀ s) (hm : (t, tupO us) ∈ l)
    (hn : (assignEach elts env).length = us.length) (hstar : (assignEach elts env).findIdx? (·.1) = none)
    (h : ∀ s', S env ns h₀ vs l s₀ s' → W (model prog w) A (assignInOrder ((assignEach elts env).map (·.2)) us) Q E s') : W (model prog w) A (assign (.Tuple elts x1 pos) env (.ref t)) Q E s := by
  with_unfolding_all exact g_unpack hh st hm hn hstar h
theorem w_unpackItems {t : Addr} {us : List Value} {n : Nat} {Q : List Value → Shared → Prop} (hh : A.handled = none) (st : S env ns h₀ vs l s₀ s) (hm : (t, tupO us) ∈ l) (hn : n = us.length)
    (h : ∀ s', S env ns h₀ vs l s₀ s' → Q us s') : W (model prog w) A (unpackItems (.ref t) n none) Q E s := by
  with_unfolding_all exact g_unpackItems hh st hm hn h
theorem w_set_call {pos fpos : Pos} {Q : Value → Shared → Prop} (fn : Fn env ns) (cx : Cx K p loose mean mg mb d u A env h₀) (st : S env ns h₀ vs l s₀ s) (e : nsIn K mainGlobals "set" = some none) (hx : env.kindOf "set" = some .globalImplicit)
    (h : ∀ a led s', S env ns h₀ vs ((a, freshSet led) :: l) s₀ s' → Q (.ref a) s') : W (model prog w) A (eval (.Call (.Name "set" fpos) [] [] pos) env) Q E s := by
  with_unfolding_all exact g_set_call fn cx st e hx h
end
end Mine
end
section
open PySem PySem.W PySem.Calls PyProof.Rows
set_option maxRecDepth 100000
namespace Mine

noncomputable abbrev Way := List Str

noncomputable def strOf : Value → Option Str
  | .str s _ => some s
  | _ => none

noncomputable def WayV (us : List Value) (way : Way) : Prop := us.map strOf = way.map some

theorem strOf_some {v : Value} {k : Str} (h : strOf v = some k) : ∃ t, v = .str k t := by
  cases v with
  | str k' t => cases h; exact ⟨_, rfl⟩
  | _ => exact absurd h (Option.some_ne_none k).symm
theorem WayV.ind {P : List Value → Way → Prop} (h0 : P [] []) (h1 : ∀ k t us way, P us way → P (.str k t :: us) (k :: way)) : ∀ {us : List Value} {way : Way}, WayV us way → P us way := by
  intro us
  induction us with
  | nil =>
    intro way e
    cases way with
    | nil => exact h0
    | cons => cases e
  | cons v us ih =>
    intro way e
    cases way with
    | nil => cases e
    | cons k way =>
      obtain ⟨t, rfl⟩ := strOf_some (List.cons.inj e).1
      exact h1 k t us way (ih (List.cons.inj e).2)
theorem WayV.length {us : List Value} {way : Way} (h : WayV us way) : us.length = way.length := by
  have := congrArg List.length h
  simpa using this
theorem WayV.nil : WayV [] [] := rfl
theorem WayV.get {us : List Value} {way : Way} (h : WayV us way) {i : Nat} {v : Value} (hv : us[i]? = some v) : ∃ k t, v = .str k t ∧ way[i]? = some k := by
  have e := congrArg (·[i]?) h
  simp only [List.getElem?_map, hv, Option.map_some] at e
  cases hw : way[i]? with
  | none => rw [hw] at e; simp at e
  | some k =>
    rw [hw] at e
    obtain ⟨t, rfl⟩ := strOf_some (Option.some.inj e)
    exact ⟨_, _, rfl, rfl⟩
theorem WayV.take {us : List Value} {way : Way} (h : WayV us way) (n : Nat) : WayV (us.take n) (way.take n) := by
  unfold WayV at h ⊢
  rw [List.map_take, List.map_take, h]
theorem WayV.dropLast {us : List Value} {way : Way} (h : WayV us way) : WayV us.dropLast way.dropLast := by
  rw [List.dropLast_eq_take, List.dropLast_eq_take, h.length]
  exact h.take _
theorem WayV.append {us vs : List Value} {x y : Way} (h : WayV us x) (h' : WayV vs y) : WayV (us ++ vs) (x ++ y) := by
  unfold WayV at h h' ⊢
  rw [List.map_append, List.map_append, h, h']
theorem WayV.one (k : Str) (t : Tok) : WayV [.str k t] [k] := rfl

noncomputable abbrev NS := (Int → Bool) × (Int → Bool)
noncomputable abbrev AbsT := Way → Option NS

noncomputable def isGo (τ : AbsT) : Way → List Str → Int → Bool
  | _, [], _ => false
  | pre, [k], f => match τ (pre ++ [k]) with | none => false | some (X, Y) => X f || Y f
  | pre, k :: k' :: r, f => match τ (pre ++ [k]) with | none => false | some (X, Y) => if Y f then true else isGo τ (pre ++ [k]) (k' :: r) f
noncomputable def isW (τ : AbsT) (way : Way) (f : Int) : Bool := isGo τ [] way f

structure Nd where
  n : Addr
  fl : Addr
  rc : Addr
  nd : Addr
  on : Obj
  ofl : Obj
  orc : Obj
  ond : Obj
noncomputable def Nd.cells (x : Nd) : Lg := [(x.n, x.on), (x.fl, x.ofl), (x.rc, x.orc), (x.nd, x.ond)]

structure FO where
  f : Addr
  fd : Addr
  root : Addr
  pd : Addr
  ofd : Obj
  oroot : Obj
  opd : Obj
  nodes : List (Way × Nd)
noncomputable def FO.cells (F : FO) : Lg := (F.f, instObj 66 F.fd) :: (F.fd, F.ofd) :: (F.root, F.oroot) :: (F.pd, F.opd) :: F.nodes.flatMap fun p => p.2.cells
noncomputable def FO.look (F : FO) (w : Way) : Option Nd := (F.nodes.find? fun p => decide (p.1 = w)).map (·.2)
noncomputable def FO.dictAt (F : FO) (w : Way) : Option (Addr × Obj) := if w = [] then some (F.root, F.oroot) else (F.look w).map fun x => (x.nd, x.ond)

noncomputable def cnt (X : Int → Bool) : Nat := (if X 0 then 1 else 0) + (if X 1 then 1 else 0)
theorem cnt_le (X : Int → Bool) : cnt X ≤ 2 := by unfold cnt; split <;> split <;> lia
noncomputable def IS (prog : Program) (w : World) (o : Obj) (X : Int → Bool) : Prop := o.SetObjOf (intKind prog w) X (cnt X) ∧ ∀ k, X k = true → k = 0 ∨ k = 1

noncomputable def nm : List Str := ["flags", "recursive_flags", "nested"]

structure FO.Is (prog : Program) (w : World) (M : List Str) (F : FO) (τ : AbsT) : Prop where
  fd : ∃ a0 t0 a1 t1 n, F.ofd = dictOf [⟨a0, .str "_flags" t0, .ref F.root⟩, ⟨a1, .str "_pending_flags" t1, .ref F.pd⟩] n
  low : ∀ v a o, F.dictAt v = some (a, o) → (a == sysModules) = false
  keys : (F.nodes.map (·.1)).Nodup
  nonil : ∀ p ∈ F.nodes, p.1 ≠ []
  menu : ∀ p ∈ F.nodes, ∀ k ∈ p.1, k ∈ M
  node : ∀ p ∈ F.nodes, p.2.on.IsDictOf (strKind prog w) [("flags", .ref p.2.fl), ("recursive_flags", .ref p.2.rc), ("nested", .ref p.2.nd)]
  nlow : ∀ p ∈ F.nodes, (p.2.n == sysModules) = false
  flags : ∀ p ∈ F.nodes, ∃ X Y, τ p.1 = some (X, Y) ∧ IS prog w p.2.ofl X ∧ IS prog w p.2.orc Y
  gone : ∀ v, F.look v = Option.none → τ v = Option.none
  kids : ∀ v a o, F.dictAt v = some (a, o) → ∃ kvs, o.IsDictOf (strKind prog w) kvs ∧ ∀ k x, valueAt kvs k = some x ↔ ∃ y, F.look (v ++ [k]) = some y ∧ x = .ref y.n
  closed : ∀ v k, F.look (v ++ [k]) ≠ Option.none → v = [] ∨ F.look v ≠ Option.none

theorem FO.look_mem {F : FO} {v : Way} {x : Nd} (h : F.look v = some x) : (v, x) ∈ F.nodes := by
  unfold FO.look at h
  obtain ⟨q, hq, rfl⟩ := Option.map_eq_some_iff.mp h
  have h1 := List.mem_of_find?_eq_some hq
  have h2 := List.find?_some hq
  simp at h2
  subst h2
  exact h1
theorem FO.look_of_mem {F : FO} (hk : (F.nodes.map (·.1)).Nodup) {v : Way} {x : Nd} (h : (v, x) ∈ F.nodes) : F.look v = some x := by
  unfold FO.look
  have : ∀ (l : List (Way × Nd)), (l.map (·.1)).Nodup → (v, x) ∈ l → l.find? (fun p => decide (p.1 = v)) = some (v, x) := by
    intro l
    induction l with
    | nil => intro _ h; cases h
    | cons q l ih =>
      intro hn hm
      rw [List.map_cons, List.nodup_cons] at hn
      rcases List.mem_cons.mp hm with e | hm
      · subst e; simp
      · have hne : q.1 ≠ v := fun e => hn.1 (List.mem_map.mpr ⟨(v, x), hm, e.symm⟩)
        rw [List.find?_cons]
        simp only [decide_eq_false hne]
        exact ih hn.2 hm
  rw [this _ hk h]; rfl

theorem mem_cells {F : FO} {v : Way} {x : Nd} (h : F.look v = some x) {c : Addr × Obj} (hc : c ∈ x.cells) : c ∈ F.cells := by
  unfold FO.cells
  refine .tail _ (.tail _ (.tail _ (.tail _ ?_)))
  exact List.mem_flatMap.mpr ⟨(v, x), FO.look_mem h, hc⟩
theorem dict_mem {F : FO} {v : Way} {a : Addr} {o : Obj} (h : F.dictAt v = some (a, o)) : (a, o) ∈ F.cells := by
  unfold FO.dictAt at h
  split at h
  · cases h
    exact .tail _ (.tail _ (.head _))
  · obtain ⟨x, hx, e⟩ := Option.map_eq_some_iff.mp h
    cases e
    exact mem_cells hx (.tail _ (.tail _ (.tail _ (.head _))))
theorem FO.Is.node_at {prog w M} {F : FO} {τ : AbsT} (H : F.Is prog w M τ) {v : Way} {x : Nd} (h : F.look v = some x) : x.on.IsDictOf (strKind prog w) [("flags", .ref x.fl), ("recursive_flags", .ref x.rc), ("nested", .ref x.nd)] := H.node _ (FO.look_mem h)
theorem FO.Is.flags_at {prog w M} {F : FO} {τ : AbsT} (H : F.Is prog w M τ) {v : Way} {x : Nd} (h : F.look v = some x) : ∃ X Y, τ v = some (X, Y) ∧ IS prog w x.ofl X ∧ IS prog w x.orc Y := H.flags _ (FO.look_mem h)
theorem FO.Is.dict_of {prog w M} {F : FO} {τ : AbsT} (H : F.Is prog w M τ) {v : Way} {x : Nd} (h : F.look v = some x) : F.dictAt v = some (x.nd, x.ond) := by
  unfold FO.dictAt
  rw [if_neg (H.nonil _ (FO.look_mem h)), h]; rfl
end Mine
end
section
open PySem PySem.W PySem.Calls PyProof.Rows
set_option maxRecDepth 100000
namespace Mine
section
variable {M : Model} {prog : Program} {w : World} {A : Around} {E : Value → Shared → Prop} {env : Env} {ns : List Str} {h₀ : Heap} {vs : List (Option Value)} {l : Lg} {s₀ s : Shared}
  {K : Frag} {p : Program} {loose : List Str} {mean : ExcName → Option Value} {mg mb : Str → Option Value} {d u : Nat}

theorem S.inK (st : S env ns h₀ vs l s₀ s) (cx : Cx K p loose mean mg mb d u A env h₀) : K.In s.heap := cx.x.keeps st.fr.keep

theorem w_exprA {e : Expr} {pos : Pos} {Q : Flow → Shared → Prop} (hi : interactive env = false) (h : W (model prog w) A (eval e env) (fun _ => Q .next) E s) (hs : autoParam (swapsWith e none pos.line env = pure false) tRfl) :
    W (model prog w) A (exec (.Expr e pos) env) Q E s := by with_unfolding_all exact wpAny_Expr_any h hi hs
theorem w_cwK {pos : Pos} {f : Value} {first : List Value} {e : Expr} {rest : List Expr} {Q : Value → Shared → Prop} (cx : Cx K p loose mean mg mb d u A env h₀) (hk : keepIn K f = true)
    (h : W M A (spliced (backTo pos (starEach (e :: rest) env))) (fun vs s₁ => K.In s₁.heap ∧ W M A (call f (first ++ vs)) Q E s₁) E s)
    (he : autoParam (starEach (e :: rest) env = (false, eval e env) :: starEach rest env) tRfl) (hplain : autoParam ((backTo pos (starEach rest env)).any (·.1) = false) tRfl) :
    W M A (callWith pos f first (backTo pos (starEach (e :: rest) env)) []) Q E s := by with_unfolding_all exact callWith_K cx.x hk h he hplain
theorem w_cwK0 {pos : Pos} {f : Value} {first : List Value} {Q : Value → Shared → Prop} (cx : Cx K p loose mean mg mb d u A env h₀) (st : S env ns h₀ vs l s₀ s) (hk : keepIn K f = true)
    (h : W M A (call f (first ++ [])) Q E s) : W M A (callWith pos f first (backTo pos (starEach [] env)) []) Q E s := by with_unfolding_all exact callWith_K0 (st.inK cx) hk h
theorem w_cwKW {pos : Pos} {f : Value} {first : List Value} {Q : Value → Shared → Prop} {e : Expr} {rest : List Expr} {kws : List Keyword} (cx : Cx K p loose mean mg mb d u A env h₀) (hk : keepIn K f = true)
    (h : W M A (spliced (backTo pos (starEach (e :: rest) env))) (fun vs s₁ => W M A (evalAll ((backToKw pos (keywordEach kws env)).map (·.2)))
      (fun ks s₂ => K.In s₂.heap ∧ W M A (call f (first ++ vs) (((backToKw pos (keywordEach kws env)).filterMap (·.1)).zip ks)) Q E s₂) E s₁) E s)
    (hall : autoParam ((backToKw pos (keywordEach kws env)).all (·.1.isSome) = true) tRfl)
    (hplain : autoParam (((backTo pos (starEach (e :: rest) env)).any (·.1) || (backToKw pos (keywordEach kws env)).any (·.1.isNone)) = false) tRfl) (he : autoParam (starEach (e :: rest) env = (false, eval e env) :: starEach rest env) tRfl) :
    W M A (callWith pos f first (backTo pos (starEach (e :: rest) env)) (backToKw pos (keywordEach kws env))) Q E s := by with_unfolding_all exact callWith_KW cx.x hk hall h hplain he
theorem w_kw {pos p : Pos} {name : Str} {value : Expr} {rest : List Keyword} {Q : List Value → Shared → Prop}
    (h : W M A (eval value env) (fun v s₁ => W M A (evalAll ((backToKw pos (keywordEach rest env)).map (·.2))) (fun vs s₂ => Q (v :: vs) s₂) E s₁) E s) :
    W M A (evalAll ((backToKw pos (keywordEach (⟨some name, value, p⟩ :: rest) env)).map (·.2))) Q E s := by with_unfolding_all exact kwAll_cons h
theorem w_kw0 {pos : Pos} {Q : List Value → Shared → Prop} (h : Q [] s) : W M A (evalAll ((backToKw pos (keywordEach [] env)).map (·.2))) Q E s := .mk (kwAll_nil h)
theorem w_callF {f : Value} {pos : List Value} {kw : List (Str × Value)} {Q : Value → Shared → Prop} (h : codeAny M A (.call f ⟨pos, kw⟩) (fun r s' => match r with | .ok (.ret v) => Q v s' | .ok _ => False | .error e => E e s') s) : W M A (call f pos kw) Q E s := .mk (wpAny_call h)
theorem UpdL.fst {a : Addr} {o o' : Obj} {l l' : Lg} (U : UpdL a o o' l l') : l.map (·.1) = l'.map (·.1) := by
  obtain ⟨x, y, rfl, rfl⟩ := U.split
  simp
theorem Upd.of_app {a : Addr} {o o' : Obj} : ∀ {x y : Lg}, ((x ++ (a, o) :: y).map (·.1)).Nodup → Upd a o o' (x ++ (a, o) :: y) (x ++ (a, o') :: y)
  | [], y, hn => by
    rw [List.nil_append, List.map_cons, List.nodup_cons] at hn
    exact .head fun p hp e => hn.1 (List.mem_map.mpr ⟨p, hp, e⟩)
  | q :: x, y, hn => by
    rw [List.cons_append, List.map_cons, List.nodup_cons] at hn
    exact .tail (fun e => hn.1 (List.mem_map.mpr ⟨(a, o), by simp, e.symm⟩)) (Upd.of_app hn.2)
theorem UpdL.toUpd {a : Addr} {o o' : Obj} {l l' : Lg} (U : UpdL a o o' l l') (hn : (l.map (·.1)).Nodup) : Upd a o o' l l' := by
  obtain ⟨x, y, rfl, rfl⟩ := U.split
  exact Upd.of_app hn
theorem w_setattr {x C dx : Addr} {es : List DictEntry} {n n' : Nat} {name : Str} {v : Value} {l' : Nat → Lg} {Q : Unit → Shared → Prop} (cx : Cx K p loose mean mg mb d u A env h₀) (st : S env ns h₀ vs l s₀ s)
    (hx : (x, instObj C dx) ∈ l) (es' : Nat → List DictEntry)
    (hs : findIn K (.ref C) "__setattr__" = some (some (.builtin "object.__setattr__"))) (hp : plainOver K C = true) (ht : takerIn K C name = some none) (hh : hasDictIn K C = true) (hl : (getL name es).isSome = true)
    (e : ∀ t, (putL name (PyData.keyHash w.params name) (.str name t) v es, putN name es n) = (es' t, n')) (U : ∀ t, UpdL dx (dictOf es n) (dictOf (es' t) n') l (l' t)) (hz : ∀ t, (es' t).length ≤ 1000)
    (h : ∀ t s', S env ns h₀ vs (l' t) s₀ s' → Q () s') : W (model prog w) A (setAttr (.ref x) name v) Q E s := by
  have hI : InstAt s.heap x (instObj C dx) C (some (dictOf es n)) := ⟨st.at hx, rfl, rfl, st.at (U 0).mem⟩
  exact .mk (set_dict st.fr cx.x st.nw hI rfl hs hp ht hh hl (e (s.toks + 1)) ((U _).toUpd st.nd) (hz _) fun h' F' N' => h _ _ (st.to F' N' ((U _).fst ▸ st.nd)))
theorem Cx.under {C : Addr} {vals : List Value} {kw : List (Str × Value)} (cx : Cx K p loose mean mg mb (d + 1) (u + 3) A env h₀) : Cx K p loose mean mg mb d u (A.under (.builtin "type.__call__" ⟨.ref C :: vals, kw⟩)) env h₀ := by
  obtain ⟨A₀, base, outer, B, hA⟩ := cx.below
  refine ⟨⟨A₀, base, outer, B, ?_⟩, cx.x, cx.top, ?_, ?_, cx.hand⟩
  · exact hA
  · rw [depth_under_kw]
    have := cx.room; exact qft fun x => qfa2 x this (by simp +arith only)
  · have := cx.units
    show A.units + 1 + u < _
    exact qft fun x => qfa2 x this (by simp +arith only)
end
end Mine
end
section
open PySem PySem.W PySem.Calls PyProof.Rows
set_option maxRecDepth 100000
namespace Mine

noncomputable abbrev rgO (i n : Nat) : Obj := { cls := .type "range_iterator", data := .fields #[rawInt (i : Nat), rawInt ((n : Int) - (i : Nat)), rawInt 1] }

theorem rangeSize_n (n : Nat) : Builtin.Range.rangeSize 0 n 1 = n := by
  unfold Builtin.Range.rangeSize
  rw [if_pos (by decide)]
  by_cases h : (0 : Int) < n
  · rw [if_pos h, Int.ediv_one]; lia
  · rw [if_neg h]; lia
theorem range_small {n : Nat} (hn : n ≤ 2 ^ 30) : Builtin.Range.small 0 n 1 = true := by
  have e : (0 : Int) ≤ n ∧ (n : Int) ≤ 2 ^ 30 := by lia
  have f : ∀ i : Int, 0 ≤ i → i ≤ 2 ^ 31 → Builtin.Range.rangeFitsLong i = true := by
    intro i h1 h2
    unfold Builtin.Range.rangeFitsLong
    simp only [Bool.and_eq_true, decide_eq_true_eq]
    lia
  unfold Builtin.Range.small
  rw [rangeSize_n, f 0 (by decide) (by decide), f n e.1 (by lia), f 1 (by decide) (by decide), if_pos (by decide), f (n + (1 - 1)) (by lia) (by lia)]
  simp

section
variable {prog : Program} {w : World} {A : Around} {E : Value → Shared → Prop} {env : Env} {ns : List Str} {h₀ : Heap} {vs : List (Option Value)} {l : Lg} {s₀ s : Shared}
  {K : Frag} {p : Program} {loose : List Str} {mean : ExcName → Option Value} {mg mb : Str → Option Value} {d u : Nat}

theorem iter_range (hh : A.handled = none) {I : Addr} (n : Nat) : Iter prog w A I n (fun i v => ∃ t, v = .int i t) (fun i o => o = rgO i n) (fun _ => True) where
  next := fun i s o Q E hi ho hok _ hQ => by
    subst hok
    refine wpAny_pyNext_range_item (x := (i : Nat)) (left := (n : Int) - (i : Nat)) (step := 1) ho (by lia) fun h' hI hs => ?_
    refine hQ _ h' _ _ ⟨_, rfl⟩ hI ?_ hs
    have e1 : ((i : Int) + 1) = ((i + 1 : Nat) : Int) := by lia
    have e2 : ((n : Int) - (i : Nat) - 1) = (n : Int) - ((i + 1 : Nat) : Int) := by lia
    rw [e1, e2]
  stop := fun s o Q E ho hok _ hQ => by
    subst hok
    exact wpAny_pyNext_range_end hh (x := (n : Nat)) (left := (n : Int) - (n : Nat)) (step := 1) ho (by lia) fun h' he => hQ h' s.toks he
  go := fun i s o target v Q E ho hok hQ => by
    subst hok
    unfold letOwnedTupleGo
    cases target <;> first
      | exact wpAny_pure hQ
      | (cases v <;> first
          | exact wpAny_pure hQ
          | (refine wpAny_bind (wpAny_load ho ?_)
             exact wpAny_pure hQ))

theorem g_range {n : Nat} {t : Tok} {Q : Value → Shared → Prop} (st : S env ns h₀ vs l s₀ s) (h : ∀ a t1 t2 s', S env ns h₀ vs ((a, { cls := .type "range", data := .fields #[.int 0 t1, .int n t, .int 1 t2] }) :: l) s₀ s' → Q (.ref a) s') : wpAny (model prog w) A (call (.type "range") [.int n t]) Q E s :=
  call_range_1 (h _ _ _ _ ((st.push _ rfl).tok _))

theorem g_for_range {target : Expr} {body : List Stmt} {a : Addr} {n : Nat} {t t1 t2 : Tok} {Q : Flow → Shared → Prop} (hh : A.handled = none) (st : S env ns h₀ vs l s₀ s) (hm : (a, { cls := .type "range", data := .fields #[.int 0 t1, .int n t, .int 1 t2] }) ∈ l) (hn : n ≤ 2 ^ 30)
    (J : Nat → List (Option Value) → Lg → Prop) (h0 : J 0 vs l)
    (turn : ∀ (i : Nat) tk vs' l' I o s' E', i < n → J i vs' l' → S env ns h₀ vs' ((I, o) :: l') s₀ s' →
      wpAny (model prog w) A (assign target env (.int i tk)) (fun _ s2 => wpAny (model prog w) A (execs body env) (LPost env ns h₀ s₀ I o (J (i + 1)) Q) E' s2) E' s')
    (done : ∀ vs' l' s', J n vs' l' → S env ns h₀ vs' l' s₀ s' → Q .next s') :
    wpAny (model prog w) A (pyIter (.ref a)) (ForRest prog w A env E target body Q) E s := by
  refine wpAny_pyIter_range (st.at hm) (range_small hn) ?_
  rw [rangeSize_n]
  refine g_forLoop (iter_range hh n) J (st.push (rgO 0 n) rfl) rfl h0 (fun _ _ _ _ _ _ _ => trivial) (fun i v vs' l' o s' E' hi hP hJ st' => ?_) done fun v s' h => h
  obtain ⟨tk, rfl⟩ := hP
  exact turn i tk vs' l' _ o s' E' hi hJ st'

theorem g_item_list {value slice : Expr} {t : Addr} {us : List Value} {n : Nat} {k : Int} {u : Tok} {x : Value} {Q : Value → Shared → Prop} (st : S env ns h₀ vs l s₀ s) (hm : (t, listO us n) ∈ l) (h0 : 0 ≤ k) (hhi : k < 2 ^ 63) (hx : us[k.toNat]? = some x) (h : Q x s)
    (hs : subscripted slice false (.ref t) (.int k u) = operate [.ref t, .int k u] (getItem (.ref t) (.int k u)) := by with_unfolding_all rfl) :
    wpAny (model prog w) A (subscriptTail value slice (.ref t) (.int k u)) Q E s :=
  tail_any (st.list hm).typeIs slot_list_getitem.lookup (wpAny_getItem_list (st.list hm) h0 hhi (by simpa using hx) h) hs

theorem g_addtup {a b : Addr} {us ws : List Value} {Q : Value → Shared → Prop} (st : S env ns h₀ vs l s₀ s) (ha : (a, tupO us) ∈ l) (hb : (b, tupO ws) ∈ l) (hz : us.length + ws.length ≤ sizeLine)
    (h : ∀ z c s', S env ns h₀ vs (z ++ l) s₀ s' → (∀ l' : Lg, (a, tupO us) ∈ l' → (b, tupO ws) ∈ l' → (c, tupO (us ++ ws)) ∈ z ++ l') → Q (.ref c) s') : wpAny (model prog w) A (binaryOp .Add (.ref a) (.ref b)) Q E s := by
  refine add_tuples st.fr st.nw (st.tup ha) (st.tup hb) (fun e => h [] b _ st (fun l' _ hb => by rw [e]; exact hb)) (fun _ e => h [] a _ st (fun l' ha _ => by rw [e, List.append_nil]; exact ha)) (fun _ _ h' F N => h [_] _ _ (st.toH F N ?_) (fun l' _ _ => .head _)) hz
  refine List.nodup_cons.mpr ⟨fun q => ?_, st.nd⟩
  obtain ⟨p, hp, e⟩ := List.mem_map.mp q
  exact absurd (Heap.lt_size (st.nw p hp).1) (by rw [e]; exact Nat.lt_irrefl _)
end
end Mine
end
section
open PySem PySem.W PySem.Calls PyProof.Rows PySem.Spec
set_option maxRecDepth 100000
namespace Mine
section
variable {prog : Program} {w : World} {A : Around} {E : Value → Shared → Prop} {env env2 : Env} {ns : List Str} {h₀ : Heap} {vs : List (Option Value)} {l : Lg} {s₀ s : Shared}
  {K : Frag} {p : Program} {loose : List Str} {mean : ExcName → Option Value} {mg mb : Str → Option Value} {d u : Nat} {scope : Scope} {cl : List (Str × Addr)} {At : Value → Way × Int → Prop}
theorem w_range {n : Nat} {t : Tok} {Q : Value → Shared → Prop} (st : S env ns h₀ vs l s₀ s) (h : ∀ a t1 t2 s', S env ns h₀ vs ((a, { cls := .type "range", data := .fields #[.int 0 t1, .int n t, .int 1 t2] }) :: l) s₀ s' → Q (.ref a) s') : W (model prog w) A (call (.type "range") [.int n t]) Q E s := by
  with_unfolding_all exact g_range st h
theorem w_for_range {target : Expr} {body : List Stmt} {a : Addr} {n : Nat} {t t1 t2 : Tok} {Q : Flow → Shared → Prop} (hh : A.handled = none) (st : S env ns h₀ vs l s₀ s) (hm : (a, { cls := .type "range", data := .fields #[.int 0 t1, .int n t, .int 1 t2] }) ∈ l) (hn : n ≤ 2 ^ 30)
    (J : Nat → List (Option Value) → Lg → Prop) (h0 : J 0 vs l)
    (turn : ∀ (i : Nat) tk vs' l' I o s' E', i < n → J i vs' l' → S env ns h₀ vs' ((I, o) :: l') s₀ s' →
      W (model prog w) A (assign target env (.int i tk)) (fun _ s2 => W (model prog w) A (execs body env) (LPost env ns h₀ s₀ I o (J (i + 1)) Q) E' s2) E' s')
    (done : ∀ vs' l' s', J n vs' l' → S env ns h₀ vs' l' s₀ s' → Q .next s') :
    W (model prog w) A (pyIter (.ref a)) (ForRest prog w A env E target body Q) E s := by
  with_unfolding_all exact g_for_range hh st hm hn J h0 turn done
theorem w_item_list {value slice : Expr} {t : Addr} {us : List Value} {n : Nat} {k : Int} {u : Tok} {x : Value} {Q : Value → Shared → Prop} (st : S env ns h₀ vs l s₀ s) (hm : (t, listO us n) ∈ l) (h0 : 0 ≤ k) (hhi : k < 2 ^ 63) (hx : us[k.toNat]? = some x) (h : Q x s)
    (hs : autoParam (subscripted slice false (.ref t) (.int k u) = operate [.ref t, .int k u] (getItem (.ref t) (.int k u))) tWur) :
    W (model prog w) A (subscriptTail value slice (.ref t) (.int k u)) Q E s := by
  with_unfolding_all exact g_item_list st hm h0 hhi hx h hs
theorem w_addtup {a b : Addr} {us ws : List Value} {Q : Value → Shared → Prop} (st : S env ns h₀ vs l s₀ s) (ha : (a, tupO us) ∈ l) (hb : (b, tupO ws) ∈ l) (hz : us.length + ws.length ≤ sizeLine)
    (h : ∀ z c s', S env ns h₀ vs (z ++ l) s₀ s' → (∀ l' : Lg, (a, tupO us) ∈ l' → (b, tupO ws) ∈ l' → (c, tupO (us ++ ws)) ∈ z ++ l') → Q (.ref c) s') : W (model prog w) A (binaryOp .Add (.ref a) (.ref b)) Q E s := by
  with_unfolding_all exact g_addtup st ha hb hz h
end
end Mine
end
section
open PySem PySem.W PySem.Calls PyProof.Rows
set_option maxRecDepth 100000
namespace Mine

noncomputable def Rd (prog : Program) (w : World) (env2 : Env) (z : Lg) (x : Str) (v : Value) : Prop :=
  ∀ (A : Around) (E : Value → Shared → Prop) (s : Shared) (pos : Pos) (Q : Value → Shared → Prop), (∀ c ∈ z, s.heap.get? c.1 = some c.2) → Q v s → wpAny (model prog w) A (eval (.Name x pos) env2) Q E s
noncomputable def CellV (o : Obj) (v : Option Value) : Prop := o.data = .cell v

section
variable {prog : Program} {w : World} {A : Around} {E : Value → Shared → Prop} {env env2 : Env} {ns : List Str} {h₀ : Heap} {vs : List (Option Value)} {l : Lg} {s₀ s : Shared}
  {K : Frag} {p : Program} {loose : List Str} {mean : ExcName → Option Value} {mg mb : Str → Option Value} {d u : Nat}

theorem Rd.mono {z z' : Lg} {x : Str} {v : Value} (r : Rd prog w env2 z x v) (hz : ∀ c ∈ z, c ∈ z') : Rd prog w env2 z' x v := fun A E s pos Q h hQ => r A E s pos Q (fun c hc => h c (hz c hc)) hQ
theorem Rd.cell {z : Lg} {x : Str} {v : Value} {c : Addr} {oc : Obj} (hk : env2.scope.kind = .function) (hl : env2.kindOf x = some .cell) (hc : env2.cells.lookup x = some c) (hm : (c, oc) ∈ z) (hd : CellV oc (some v)) (hb : autoParam ((x == ("__debug__" : Str)) = false) tDec) : Rd prog w env2 z x v :=
  fun _ _ _ _ _ h hQ => wpAny_Name (wpAny_loadName_cell hk hl hc ⟨oc, h _ hm, hd⟩ hQ) hb
theorem Rd.free {z : Lg} {x : Str} {v : Value} {c : Addr} {oc : Obj} (hk : env2.scope.kind = .function) (hl : env2.kindOf x = some .free) (hc : env2.cells.lookup x = some c) (hm : (c, oc) ∈ z) (hd : CellV oc (some v)) (hb : autoParam ((x == ("__debug__" : Str)) = false) tDec) (hn : autoParam ((x == ("__classdict__" : Str)) = false) tDec) : Rd prog w env2 z x v :=
  fun _ _ _ _ _ h hQ => wpAny_Name (wpAny_loadName_free hk hl hc ⟨oc, h _ hm, hd⟩ hQ hn) hb
theorem Rd.loc {z : Lg} {x : Str} {v : Value} {oC : Obj} {m : Str → Option Value} (hk : env2.scope.kind = .function) (hl : env2.kindOf x = some .local) (hm : (env2.locals, oC) ∈ z) (hN : LCg.NsObj oC m) (hv : m x = some v) (hb : autoParam ((x == ("__debug__" : Str)) = false) tDec) : Rd prog w env2 z x v :=
  fun _ _ _ _ _ h hQ => wpAny_Name (wpAny_loadName_local hk hl (hN.ns (h _ hm)) hv hQ) hb

theorem g_rd {z : Lg} {x : Str} {pos : Pos} {v : Value} {Q : Value → Shared → Prop} (r : Rd prog w env2 z x v) (st : S env ns h₀ vs l s₀ s) (hz : ∀ c ∈ z, c ∈ l) (h : Q v s) : wpAny (model prog w) A (eval (.Name x pos) env2) Q E s :=
  r _ _ _ _ _ (fun c hc => st.at (hz c hc)) h

structure Gl (env2 : Env) : Prop where
  kind : env2.scope.kind = .function
  glob : env2.globals = mainGlobals
  bis : env2.builtins = builtinsNs
theorem Fn.gl (fn : Fn env ns) : Gl env := ⟨fn.kind, fn.glob, fn.bis⟩

theorem g_cint {i : Int} {k pos} {Q : Value → Shared → Prop} (st : S env ns h₀ vs l s₀ s) (h : ∀ t s', S env ns h₀ vs l s₀ s' → Q (.int i t) s') : wpAny (model prog w) A (eval (.Constant (.int i) k pos) env2) Q E s :=
  wpAny_Constant_int (h _ _ (st.tok _))
theorem g_cbuiltin {x : Str} {pos : Pos} {v : Value} {Q : Value → Shared → Prop} (gl : Gl env2) (cx : Cx K p loose mean mg mb d u A env h₀) (st : S env ns h₀ vs l s₀ s) (e : nsIn K mainGlobals x = some none) (hv : bootBuiltins x = some v) (hn : x ≠ "__name__")
    (hx : env2.kindOf x = some .globalImplicit) (hd : (x == ("__debug__" : Str)) = false) (h : Q v s) : wpAny (model prog w) A (eval (.Name x pos) env2) Q E s :=
  Name_function_global gl.kind hx (loadGlobal_builtin (by rw [gl.glob]; exact cx.top.g.keeps st.fr.keep) (mg_none_of cx.x cx.top.g e) (by rw [gl.bis]; exact cx.top.b.keeps st.fr.keep) ((cx.top.builtins x hn).trans hv) h) hd
theorem g_cglobal {x : Str} {pos : Pos} {v : Value} {Q : Value → Shared → Prop} (gl : Gl env2) (cx : Cx K p loose mean mg mb d u A env h₀) (st : S env ns h₀ vs l s₀ s) (e : nsIn K mainGlobals x = some (some v))
    (hx : env2.kindOf x = some .globalImplicit) (hd : (x == ("__debug__" : Str)) = false) (h : Q v s) : wpAny (model prog w) A (eval (.Name x pos) env2) Q E s :=
  Name_function_global gl.kind hx (loadGlobal_global (by rw [gl.glob]; exact cx.top.g.keeps st.fr.keep) (mg_of cx.x cx.top.g e) h) hd
theorem g_cunpack {elts : List Expr} {x1} {pos : Pos} {t : Addr} {us : List Value} {Q : Unit → Shared → Prop} (hh : A.handled = none) (st : S env ns h₀ vs l s₀ s) (hm : (t, tupO us) ∈ l)
    (hn : (assignEach elts env2).length = us.length) (hstar : (assignEach elts env2).findIdx? (·.1) = none)
    (h : ∀ s', S env ns h₀ vs l s₀ s' → wpAny (model prog w) A (assignInOrder ((assignEach elts env2).map (·.2)) us) Q E s') : wpAny (model prog w) A (assign (.Tuple elts x1 pos) env2 (.ref t)) Q E s :=
  assign_Tuple_tuple hh (st.tup hm) (by rw [List.size_toArray]; exact hn) hstar fun h' he => h _ (st.keepExt (t := s.toks) he (Nat.le_refl _))

theorem g_setcell {x : Str} {v : Value} {v₀ : Option Value} {c : Addr} {oc : Obj} {l' : Obj → Lg} {Q : Unit → Shared → Prop} (gl : Gl env2) (st : S env ns h₀ vs l s₀ s) (hl : env2.kindOf x = some .cell) (hc : env2.cells.lookup x = some c) (U : ∀ o', UpdL c oc o' l (l' o')) (hd : CellV oc v₀)
    (h : ∀ o' s', CellV o' (some v) → S env ns h₀ vs (l' o') s₀ s' → Q () s') : wpAny (model prog w) A (storeName env2 x v) Q E s := by
  refine wpAny_storeName_cell gl.kind hl hc ⟨oc, st.at (U oc).mem, hd⟩ fun h' hcell hs => ?_
  obtain ⟨o', ho', hd'⟩ := hcell
  exact h o' _ hd' (st.upd (U o') hs ho')
theorem g_setloc {x : Str} {v : Value} {oC : Obj} {m : Str → Option Value} {l' : Obj → Lg} {Q : Unit → Shared → Prop} (gl : Gl env2) (st : S env ns h₀ vs l s₀ s) (hl : env2.kindOf x = some .local) (U : ∀ o', UpdL env2.locals oC o' l (l' o')) (hN : LCg.NsObj oC m)
    (h : ∀ o' s', LCg.NsObj o' (fun y => if y = x then some v else m y) → S env ns h₀ vs (l' o') s₀ s' → Q () s') : wpAny (model prog w) A (storeName env2 x v) Q E s := by
  refine wpAny_storeName_local hl (hN.ns (st.at (U oC).mem)) (fun h' hn hs => ?_) (by rw [gl.kind]; rfl)
  obtain ⟨o', ho', hN'⟩ := LCg.ns_obj hn
  exact h o' _ hN' (st.upd (U o') hs ho')

theorem g_append {D : Addr} {ys : List Value} {n : Nat} {y : Value} {l' : Obj → Lg} {Q : Value → Shared → Prop} (st : S env ns h₀ vs l s₀ s) (U : ∀ o', UpdL D (listO ys n) o' l (l' o')) (hsz : ys.length ≤ sizeLine)
    (h : ∀ n' s', S env ns h₀ vs (l' (listO (ys ++ [y]) n')) s₀ s' → Q .none s') : wpAny (model prog w) A (call (.builtin "list.append") [.ref D, y]) Q E s := by
  have ho := st.at (U (listO ys n)).mem
  refine wpAny_call_entry slot_list_append ⟨_, ho, rfl⟩ entry_list_append ?_ (args_list_append _ _)
  show wpAny _ _ (updateSeq D (·.push y) >>= fun _ => ret .none) _ _ s
  refine wpAny_bind ?_
  refine wpAny_updateSeq ho rfl (wpAny_pure ⟨.none, rfl, ?_⟩) (by simpa using hsz)
  have hs := Heap.SameBut.update s.heap D (Obj.mapSeq (·.push y))
  have hg := Heap.get?_update_self (Obj.mapSeq (·.push y)) ho rfl
  refine h (n + 1) _ (st.upd (U _) hs (hg.trans ?_))
  show some _ = some _
  congr 1
  simp [Obj.mapSeq]
end
end Mine
end
section
open PySem PySem.W PySem.Calls PyProof.Rows
set_option maxRecDepth 100000
namespace Mine

noncomputable def turnOf (target : Expr) (ifs : List Expr) (p : Pos) (e : Expr) (depth : Nat) (it acc : Value) (env : Env) (body : Sem Unit) : Sem Fin := do
  standAt p
  match ← pyNext it with
  | none => pure (.done .next)
  | some v =>
    letOwnedTupleGo target it v
    assign target env v
    let mut ok := true
    for c in ifs do
      if ok then ok ← isTrue c env (eval c env)
    if ok then body
    again (.compLoop e depth it acc env)

theorem turn_one (elt target iter : Expr) (ifs : List Expr) (scope : Scope) (pos : Pos) (it acc : Value) (env : Env) :
    compTurn (.ListComp elt [⟨target, iter, ifs, 0⟩] scope pos) 0 it acc env = turnOf target ifs iter.pos (.ListComp elt [⟨target, iter, ifs, 0⟩] scope pos) 0 it acc env (do let _ ← call (.builtin "list.append") [acc, ← eval elt env]) := by rfl
theorem turn_two1 (elt t0 i0 t1 i1 : Expr) (f0 f1 : List Expr) (scope : Scope) (pos : Pos) (it acc : Value) (env : Env) :
    compTurn (.ListComp elt [⟨t0, i0, f0, 0⟩, ⟨t1, i1, f1, 0⟩] scope pos) 1 it acc env = turnOf t1 f1 i1.pos (.ListComp elt [⟨t0, i0, f0, 0⟩, ⟨t1, i1, f1, 0⟩] scope pos) 1 it acc env (do let _ ← call (.builtin "list.append") [acc, ← eval elt env]) := by rfl
noncomputable def turnTwo (target : Expr) (ifs : List Expr) (p : Pos) (i1 : Expr) (e : Expr) (it acc : Value) (env : Env) : Sem Fin := do
  standAt p
  match ← pyNext it with
  | none => pure (.done .next)
  | some v =>
    letOwnedTupleGo target it v
    assign target env v
    let mut ok := true
    for c in ifs do
      if ok then ok ← isTrue c env (eval c env)
    if ok then
      let x ← eval i1 env
      standAt i1.pos
      let x ← foldedSetIterable i1 env x
      let _ ← runOwn (.compStart e 1 (← holding [x] (pyIter x)) acc env) env
    again (.compLoop e 0 it acc env)
theorem turn_two0 (elt t0 i0 t1 i1 : Expr) (f0 f1 : List Expr) (scope : Scope) (pos : Pos) (it acc : Value) (env : Env) :
    compTurn (.ListComp elt [⟨t0, i0, f0, 0⟩, ⟨t1, i1, f1, 0⟩] scope pos) 0 it acc env = turnTwo t0 f0 i0.pos i1 (.ListComp elt [⟨t0, i0, f0, 0⟩, ⟨t1, i1, f1, 0⟩] scope pos) it acc env := by rfl

noncomputable def testsOf (ifs : List Expr) (env : Env) : Sem Bool := forIn ifs true fun c r => if r = true then do let ok ← isTrue c env (eval c env); pure (ForInStep.yield ok) else pure (ForInStep.yield r)

section
variable {prog : Program} {w : World} {A : Around} {E : Value → Shared → Prop} {env env2 : Env} {ns : List Str} {h₀ : Heap} {vs : List (Option Value)} {l : Lg} {s₀ s : Shared}
  {K : Frag} {p : Program} {loose : List Str} {mean : ExcName → Option Value} {mg mb : Str → Option Value} {d u : Nat}

theorem g_tests0 {Q : Bool → Shared → Prop} (h : Q true s) : wpAny (model prog w) A (testsOf [] env2) Q E s := wpAny_tests_nil h
theorem g_tests1 {c : Expr} {Q : Bool → Shared → Prop} (h : wpAny (model prog w) A (isTrue c env2 (eval c env2)) Q E s) : wpAny (model prog w) A (testsOf [c] env2) Q E s := wpAny_tests_one h

noncomputable def CP (env : Env) (ns : List Str) (h₀ : Heap) (vs : List (Option Value)) (s₀ : Shared) (z : Lg) (Jn : Lg → Prop) (s' : Shared) : Prop := ∃ l', S env ns h₀ vs (z ++ l') s₀ s' ∧ Jn l'

theorem g_compLoop {target : Expr} {ifs : List Expr} {pp : Pos} {elt : Expr} {gens : List Comprehension} {scope : Scope} {pos : Pos} {depth : Nat} {acc : Value} {body : Sem Unit} {I : Addr} {n : Nat} {P : Nat → Value → Prop} {Ok : Nat → Obj → Prop} {Need : Heap → Prop} {oI : Obj} {R : Result → Shared → Prop}
    (heq : compTurn (.ListComp elt gens scope pos) depth (.ref I) acc env2 = turnOf target ifs pp (.ListComp elt gens scope pos) depth (.ref I) acc env2 body)
    (Wi : Iter prog w A I n P Ok Need) (J : Nat → Lg → Prop) (st : S env ns h₀ vs ((I, oI) :: l) s₀ s) (hok : Ok 0 oI) (h0 : J 0 l)
    (need : ∀ i l' s' o, J i l' → S env ns h₀ vs ((I, o) :: l') s₀ s' → Need s'.heap)
    (turn : ∀ i v l' z s' E', i < n → P i v → J i l' → S env ns h₀ vs (z ++ l') s₀ s' →
      wpAny (model prog w) A (assign target env2 v) (fun _ s2 => wpAny (model prog w) A (testsOf ifs env2) (fun ok s3 => if ok = true then wpAny (model prog w) A body (fun _ s4 => CP env ns h₀ vs s₀ z (J (i + 1)) s4) E' s3 else CP env ns h₀ vs s₀ z (J (i + 1)) s3) E' s2) E' s')
    (done : ∀ l' s', J n l' → S env ns h₀ vs l' s₀ s' → R (.ok .next) s') :
    codeAny (model prog w) A (.compLoop (.ListComp elt gens scope pos) depth (.ref I) acc env2) R s := by
  refine codeAny_loop rfl (fun k s' => ∃ i l' o, S env ns h₀ vs ((I, o) :: l') s₀ s' ∧ Ok i o ∧ J i l' ∧ i ≤ n ∧ k = n + 1 - i) ?_ (n + 1) ⟨0, l, oI, st, hok, h0, Nat.zero_le _, rfl⟩
  rintro k s' ⟨i, l', o, st', hok', hJ, hi, rfl⟩
  show wpAny _ A ((compTurn (.ListComp elt gens scope pos) depth (.ref I) acc env2).onRaise (fun x => do noteFrame x env2; theTreesLotGoes x)) _ _ s'
  refine wpAny_noted ?_
  rw [heq]
  unfold turnOf
  refine wpAny_bind (wpAny_standAt (wpAny_bind ?_))
  have ho := st'.at (.head _)
  by_cases hlt : i < n
  · refine Wi.next i s' o _ _ hlt ho hok' (need i l' s' o hJ st') fun v h' tk o' hP ho' hok'' hs' => ?_
    have st2 : S env ns h₀ vs ((I, o') :: l') s₀ { s' with heap := h', toks := tk } := st'.upd .head hs' ho'
    refine wpAny_bind (Wi.go (i + 1) _ o' target v _ _ ho' hok'' ?_)
    have back : ∀ s4, CP env ns h₀ vs s₀ [(I, o')] (J (i + 1)) s4 → ∃ m, m < n + 1 - i ∧ ∃ i l' o, S env ns h₀ vs ((I, o) :: l') s₀ s4 ∧ Ok i o ∧ J i l' ∧ i ≤ n ∧ m = n + 1 - i := by
      rintro s4 ⟨l4, st4, hJ4⟩
      exact ⟨n + 1 - (i + 1), by exact (by exact Nat.lt_of_add_lt_add_right (Nat.lt_of_lt_of_le (qfs2 (n + 1) (i + 1) (qfl fun x => qfa2 x hi (by simp +arith only))) (qfs1 (n + 1) (i)))), i + 1, l4, o', st4, hok'', hJ4, hlt, rfl⟩
    refine wpAny_bind (wpAny_mono (turn i v l' [(I, o')] _ _ hlt hP hJ st2) (fun _ s2 h2 => ?_) fun _ _ e => e)
    refine wpAny_bind (wpAny_mono h2 (fun ok s3 h3 => ?_) fun _ _ e => e)
    cases ok with
    | true =>
      rw [if_pos rfl] at h3
      simp -iota only [if_true]
      exact wpAny_bind (wpAny_mono h3 (fun _ s4 h4 => wpAny_pure ⟨rfl, back s4 h4⟩) fun _ _ e => e)
    | false =>
      rw [if_neg Bool.false_ne_true] at h3
      simp -iota only [Bool.false_eq_true, if_false]
      exact wpAny_pure ⟨rfl, back s3 h3⟩
  · have hin : i = n := by exact Nat.le_antisymm hi (Nat.le_of_not_lt hlt)
    subst hin
    refine Wi.stop s' o _ _ ho hok' (need i l' s' o hJ st') fun h' tk he => wpAny_pure ?_
    exact done l' _ hJ (st'.extBut he)

theorem g_compLoop2 {t0 i0 t1 i1 : Expr} {f0 f1 : List Expr} {elt : Expr} {scope : Scope} {pos : Pos} {acc : Value} {I : Addr} {n : Nat} {P : Nat → Value → Prop} {Ok : Nat → Obj → Prop} {Need : Heap → Prop} {oI : Obj} {R : Result → Shared → Prop}
    (Wi : Iter prog w A I n P Ok Need) (J : Nat → Lg → Prop) (st : S env ns h₀ vs ((I, oI) :: l) s₀ s) (hok : Ok 0 oI) (h0 : J 0 l)
    (need : ∀ i l' s' o, J i l' → S env ns h₀ vs ((I, o) :: l') s₀ s' → Need s'.heap) (hs : ∀ x, foldedSetIterable i1 env2 x = pure x)
    (turn : ∀ i v l' z s' E', i < n → P i v → J i l' → S env ns h₀ vs (z ++ l') s₀ s' →
      wpAny (model prog w) A (assign t0 env2 v) (fun _ s2 => wpAny (model prog w) A (testsOf f0 env2) (fun ok s3 => if ok = true then wpAny (model prog w) A (eval i1 env2) (fun x s4 => wpAny (model prog w) A (pyIter x) (fun it2 s5 =>
        codeAny (model prog w) (A.mark none) (.compStart (.ListComp elt [⟨t0, i0, f0, 0⟩, ⟨t1, i1, f1, 0⟩] scope pos) 1 it2 acc env2) (fun r s6 => match r with | .ok _ => CP env ns h₀ vs s₀ z (J (i + 1)) s6 | .error e => cameBackBy (model prog w) A env2 E' e s6) s5) E' s4) E' s3 else CP env ns h₀ vs s₀ z (J (i + 1)) s3) E' s2) E' s')
    (done : ∀ l' s', J n l' → S env ns h₀ vs l' s₀ s' → R (.ok .next) s') :
    codeAny (model prog w) A (.compLoop (.ListComp elt [⟨t0, i0, f0, 0⟩, ⟨t1, i1, f1, 0⟩] scope pos) 0 (.ref I) acc env2) R s := by
  refine codeAny_loop rfl (fun k s' => ∃ i l' o, S env ns h₀ vs ((I, o) :: l') s₀ s' ∧ Ok i o ∧ J i l' ∧ i ≤ n ∧ k = n + 1 - i) ?_ (n + 1) ⟨0, l, oI, st, hok, h0, Nat.zero_le _, rfl⟩
  rintro k s' ⟨i, l', o, st', hok', hJ, hi, rfl⟩
  show wpAny _ A ((compTurn (.ListComp elt [⟨t0, i0, f0, 0⟩, ⟨t1, i1, f1, 0⟩] scope pos) 0 (.ref I) acc env2).onRaise (fun x => do noteFrame x env2; theTreesLotGoes x)) _ _ s'
  refine wpAny_noted ?_
  rw [turn_two0]
  unfold turnTwo
  refine wpAny_bind (wpAny_standAt (wpAny_bind ?_))
  have ho := st'.at (.head _)
  by_cases hlt : i < n
  · refine Wi.next i s' o _ _ hlt ho hok' (need i l' s' o hJ st') fun v h' tk o' hP ho' hok'' hs' => ?_
    have st2 : S env ns h₀ vs ((I, o') :: l') s₀ { s' with heap := h', toks := tk } := st'.upd .head hs' ho'
    refine wpAny_bind (Wi.go (i + 1) _ o' t0 v _ _ ho' hok'' ?_)
    have back : ∀ s4, CP env ns h₀ vs s₀ [(I, o')] (J (i + 1)) s4 → ∃ m, m < n + 1 - i ∧ ∃ i l' o, S env ns h₀ vs ((I, o) :: l') s₀ s4 ∧ Ok i o ∧ J i l' ∧ i ≤ n ∧ m = n + 1 - i := by
      rintro s4 ⟨l4, st4, hJ4⟩
      exact ⟨n + 1 - (i + 1), by exact (by exact Nat.lt_of_add_lt_add_right (Nat.lt_of_lt_of_le (qfs2 (n + 1) (i + 1) (qfl fun x => qfa2 x hi (by simp +arith only))) (qfs1 (n + 1) (i)))), i + 1, l4, o', st4, hok'', hJ4, hlt, rfl⟩
    refine wpAny_bind (wpAny_mono (turn i v l' [(I, o')] _ _ hlt hP hJ st2) (fun _ s2 h2 => ?_) fun _ _ e => e)
    refine wpAny_bind (wpAny_mono h2 (fun ok s3 h3 => ?_) fun _ _ e => e)
    cases ok with
    | true =>
      rw [if_pos rfl] at h3
      simp -iota only [if_true]
      refine wpAny_bind (wpAny_mono h3 (fun x s4 h4 => ?_) fun _ _ e => e)
      refine wpAny_bind (wpAny_standAt (wpAny_bind ?_))
      rw [hs]
      refine wpAny_pure (wpAny_bind (wpAny_holding (wpAny_mono h4 (fun it2 s5 h5 => ?_) fun _ _ e => e)))
      refine wpAny_bind (wpAny_runOwn (codeAny_mono h5 fun r s6 h6 => ?_))
      cases r with
      | ok f => exact wpAny_pure ⟨rfl, back s6 h6⟩
      | error e => exact h6
    | false =>
      rw [if_neg Bool.false_ne_true] at h3
      simp -iota only [Bool.false_eq_true, if_false]
      exact wpAny_pure ⟨rfl, back s3 h3⟩
  · have hin : i = n := by exact Nat.le_antisymm hi (Nat.le_of_not_lt hlt)
    subst hin
    refine Wi.stop s' o _ _ ho hok' (need i l' s' o hJ st') fun h' tk he => wpAny_pure ?_
    exact done l' _ hJ (st'.extBut he)

theorem g_compStart1 {t0 i0 t1 i1 : Expr} {f0 f1 : List Expr} {elt : Expr} {scope : Scope} {pos : Pos} {it acc : Value} {R : Result → Shared → Prop}
    (h0 : codeAny (model prog w) A (.compLoop (.ListComp elt [⟨t0, i0, f0, 0⟩, ⟨t1, i1, f1, 0⟩] scope pos) 1 it acc env2) R s)
    (hself : ∀ (Q : Value → Shared → Prop) (E : Value → Shared → Prop), Q it s → wpAny (model prog w) A (pyIter it) Q E s) :
    codeAny (model prog w) A (.compStart (.ListComp elt [⟨t0, i0, f0, 0⟩, ⟨t1, i1, f1, 0⟩] scope pos) 1 it acc env2) R s := by
  refine codeAny_of_tree ?_
  show wpAny _ _ ((compStart (.ListComp elt [⟨t0, i0, f0, 0⟩, ⟨t1, i1, f1, 0⟩] scope pos) 1 it acc env2).onRaise (fun x => do noteFrame x env2; standAt theWindowsPlace)) _ _ s
  refine wpAny_notedAt ?_
  unfold compStart
  show wpAny _ _ (ask >>= _) _ _ s
  refine wpAny_bind (wpAny_askSetting (wpAny_ite ?_))
  split
  · first
      | exact wpAny_bind (wpAny_pure (wpAny_pure (And.intro rfl h0)))
      | exact wpAny_pure (And.intro rfl h0)
  · refine wpAny_bind (wpAny_rule ?_)
    show wpAny _ _ (standAt i1.pos >>= _) _ _ s
    exact wpAny_bind (wpAny_standAt (wpAny_bind (hself _ _ (wpAny_pure (And.intro rfl h0)))))

theorem g_compStart {elt target iter : Expr} {ifs : List Expr} {rest : List Comprehension} {scope : Scope} {pos : Pos} {it acc : Value} {R : Result → Shared → Prop}
    (h0 : codeAny (model prog w) A (.compLoop (.ListComp elt (⟨target, iter, ifs, 0⟩ :: rest) scope pos) 0 it acc env2) R s)
    (hself : ∀ (Q : Value → Shared → Prop) (E : Value → Shared → Prop), Q it s → wpAny (model prog w) A (pyIter it) Q E s) :
    codeAny (model prog w) A (.compStart (.ListComp elt (⟨target, iter, ifs, 0⟩ :: rest) scope pos) 0 it acc env2) R s :=
  codeAny_compStart_list h0 (hself _ _ h0)
end

noncomputable def closL (cells : List (Str × Addr)) : List (Str × NameKind) → List (Str × Addr) → List (Str × Addr)
  | [], acc => acc
  | (n, k) :: r, acc => if k == .free then (match cells.lookup n with | some c => closL cells r ((n, c) :: acc) | none => closL cells r acc) else closL cells r acc
theorem closureFor_go {env : Env} (f : Str × NameKind → List (Str × Addr) → Sem (ForInStep (List (Str × Addr)))) (hf : ∀ name kind cells, f (name, kind) cells = if kind == .free then (do let c ← cellOf env name; pure (.yield ((name, c) :: cells))) else pure (.yield cells)) :
    ∀ (names : List (Str × NameKind)) (acc : List (Str × Addr)), (∀ x ∈ names, x.2 = .free → (env.cells.lookup x.1).isSome = true) → forIn names acc f = pure (closL env.cells names acc)
  | [], acc, _ => rfl
  | (n, k) :: r, acc, hx => by
    have ih := fun acc => closureFor_go f hf r acc fun y hy => hx y (.tail _ hy)
    rw [List.forIn_cons, hf]
    unfold closL
    by_cases hk : (k == NameKind.free) = true
    · obtain ⟨c, hc⟩ := Option.isSome_iff_exists.mp (hx (n, k) (.head _) (by simpa using hk))
      have hc : env.cells.lookup n = some c := hc
      simp -iota only [hk, if_true, hc]
      unfold cellOf
      rw [hc]
      exact ih _
    · rw [if_neg hk, if_neg hk]
      exact ih _
theorem closureFor_eq {scope : Scope} {env : Env} (h : ∀ x ∈ scope.names, x.2 = .free → (env.cells.lookup x.1).isSome = true) : closureFor scope env = pure (closL env.cells scope.names []) := by
  unfold closureFor
  show (forIn scope.names [] _ >>= _) = _
  rw [closureFor_go (env := env) _ (fun name kind cells => by cases hkc : kind == NameKind.free <;> simp [hkc]) scope.names [] h]
  rfl
end Mine
end
section
open PySem PySem.W PySem.Calls PyProof.Rows
set_option maxRecDepth 100000
namespace Mine

noncomputable abbrev cellO : Obj := { cls := .type "cell", data := .cell none }
noncomputable def cellL (n : Nat) : List (Str × NameKind) → Lg
  | [] => []
  | (_, k) :: r => if k == .cell then cellL (n + 1) r ++ [(n, cellO)] else cellL n r
noncomputable abbrev cE (scope : Scope) (cl : List (Str × Addr)) (env2 : Env) (C : Addr) : Env := compEnvC scope (cellsFrom (C + 1) scope.names cl) C env2

theorem relabel_lookup {env : Env} (x : Str) : ∀ (names : List (Str × NameKind)), (names.map fun (n, k) => if (k == NameKind.free && env.scope.kind == .function && env.kindOf n == some .cell) then (n, NameKind.cell) else (n, k)).lookup x =
    match names.lookup x with | none => none | some k => some (if (k == NameKind.free && env.scope.kind == .function && env.kindOf x == some .cell) then NameKind.cell else k)
  | [] => rfl
  | (n, k) :: r => by
    have ih := relabel_lookup (env := env) x r
    rw [List.map_cons]
    by_cases hx : x = n
    · subst hx
      by_cases hc : (k == NameKind.free && env.scope.kind == .function && env.kindOf x == some .cell) = true
      · simp [hc, List.lookup_cons]
      · simp [hc, List.lookup_cons]
    · have hb : (x == n) = false := beq_eq_false_iff_ne.mpr hx
      by_cases hc : (k == NameKind.free && env.scope.kind == .function && env.kindOf n == some .cell) = true
      · simp only [hc, if_true, List.lookup_cons, hb]; exact ih
      · rw [Bool.not_eq_true] at hc
        simp only [hc, Bool.false_eq_true, if_false, List.lookup_cons, hb]; exact ih
theorem kind_other {scope : Scope} {cl : List (Str × Addr)} {env2 : Env} {C : Addr} {x : Str} {k : NameKind} (h : scope.names.lookup x = some k) (hk : (k == NameKind.free) = false) : (cE scope cl env2 C).kindOf x = some k := by
  show (relabel scope env2).names.lookup x = _
  unfold relabel
  rw [relabel_lookup, h]
  simp [hk]
theorem kind_free {scope : Scope} {cl : List (Str × Addr)} {env2 : Env} {C : Addr} {x : Str} (h : scope.names.lookup x = some .free) : (cE scope cl env2 C).kindOf x = some .free ∨ (cE scope cl env2 C).kindOf x = some .cell := by
  show (relabel scope env2).names.lookup x = _ ∨ (relabel scope env2).names.lookup x = _
  unfold relabel
  rw [relabel_lookup, h]
  dsimp only
  split
  · exact .inr rfl
  · exact .inl rfl

section
variable {prog : Program} {w : World} {A : Around} {E : Value → Shared → Prop} {env env2 : Env} {ns : List Str} {h₀ : Heap} {vs : List (Option Value)} {l : Lg} {s₀ s : Shared}
  {K : Frag} {p : Program} {loose : List Str} {mean : ExcName → Option Value} {mg mb : Str → Option Value} {d u : Nat}

theorem Gl.comp {scope : Scope} {cl : List (Str × Addr)} {C : Addr} (gl : Gl env2) (hk : scope.kind = .function) : Gl (cE scope cl env2 C) := ⟨hk, gl.glob, gl.bis⟩
theorem Rd.up {scope : Scope} {cl : List (Str × Addr)} {C c : Addr} {oc : Obj} {z : Lg} {x : Str} {v : Value} (hk : scope.kind = .function) (h : scope.names.lookup x = some .free) (hc : (cE scope cl env2 C).cells.lookup x = some c) (hm : (c, oc) ∈ z) (hd : CellV oc (some v))
    (hb : autoParam ((x == ("__debug__" : Str)) = false) tDec) (hn : autoParam ((x == ("__classdict__" : Str)) = false) tDec) : Rd prog w (cE scope cl env2 C) z x v := by
  rcases kind_free (cl := cl) (env2 := env2) (C := C) h with e | e
  · exact Rd.free hk e hc hm hd hb hn
  · exact Rd.cell hk e hc hm hd hb

theorem S.pushCells (names : List (Str × NameKind)) : ∀ {l : Lg} {s : Shared}, S env ns h₀ vs l s₀ s → S env ns h₀ vs (cellL s.heap.objs.size names ++ l) s₀ { s with heap := PySem.pushCells s.heap names } := by
  induction names with
  | nil => intro l s st; exact st
  | cons x r ih =>
    intro l s st
    obtain ⟨n, k⟩ := x
    unfold PySem.pushCells cellL
    by_cases hk : (k == NameKind.cell) = true
    · rw [if_pos hk, if_pos hk]
      have := ih (st.push cellO rfl)
      have e : (s.heap.push cellO).objs.size = s.heap.objs.size + 1 := Heap.size_push ..
      have e2 : ({ s with heap := s.heap.push cellO } : Shared).heap.objs.size = s.heap.objs.size + 1 := e
      rw [e2] at this
      rw [List.append_assoc]
      exact this
    · rw [if_neg hk, if_neg hk]
      exact ih st

theorem g_newEnvC {scope : Scope} {cl : List (Str × Addr)} {Q : Env → Shared → Prop} (st : S env ns h₀ vs l s₀ s)
    (h : ∀ C s', S env ns h₀ vs (cellL (C + 1) scope.names ++ ((C, emptyD) :: l)) s₀ s' → Q { cE scope cl env2 C with scope := scope } s') :
    wpAny (model prog w) A (newFunctionEnv scope env2.globals cl [] env2.qual none .none (some env2)) Q E s := by
  simp only [newFunctionEnv, Option.isSome_some, if_true]
  refine wpAny_bind (wpAny_alloc ?_)
  refine wpAny_bind (wpAny_layCells _ (fun name kind cells => by cases hkc : kind == NameKind.cell <;> simp [hkc]) _ _ _ _ ?_)
  have st1 := (st.push emptyD rfl).pushCells scope.names
  have e2 : ({ s with heap := s.heap.push emptyD } : Shared).heap.objs.size = s.heap.objs.size + 1 := Heap.size_push ..
  rw [e2] at st1 ⊢
  simp only [List.forIn_nil]
  exact wpAny_bind (wpAny_pure (wpAny_pure (h _ _ st1)))

noncomputable def RRn (prog : Program) (w : World) (A : Around) (E : Value → Shared → Prop) (Q : Value → Shared → Prop) (acc : Value) (C : Addr) : Result → Shared → Prop := compPost (model prog w) A E none Q acc C
noncomputable def RRu (prog : Program) (w : World) (A : Around) (E : Value → Shared → Prop) (y : Str) (py : Pos) (env : Env) (Q : Flow → Shared → Prop) (acc : Value) (C : Addr) : Result → Shared → Prop := compPost (model prog w) A E (some (assign (.Name y py) env)) (fun _ s' => Q .next s') acc C
noncomputable abbrev CompRest (prog : Program) (w : World) (A : Around) (env2 : Env) (E : Value → Shared → Prop) (elt : Expr) (gens : List Comprehension) (scope : Scope) (pos : Pos) (RR : Value → Addr → Result → Shared → Prop) (it : Value) (s₂ : Shared) : Prop :=
  wpAny (model prog w) A (newList []) (fun acc s₃ => wpAny (model prog w) A (newFunctionEnv scope env2.globals (closL env2.cells scope.names []) [] env2.qual none .none (some env2)) (fun cenv s₄ =>
    codeAny (model prog w) A (.compStart (.ListComp elt gens scope pos) 0 it acc { cenv with scope := relabel scope env2 }) (RR acc cenv.locals) s₄) E s₃) E s₂

theorem g_comp {elt target iter : Expr} {ifs : List Expr} {rest : List Comprehension} {scope : Scope} {pos : Pos} {Q : Value → Shared → Prop}
    (h : wpAny (model prog w) A (eval iter env2) (fun x s₁ => wpAny (model prog w) A (pyIter x) (CompRest prog w A env2 E elt (⟨target, iter, ifs, 0⟩ :: rest) scope pos (RRn prog w A E Q)) E s₁) E s)
    (hfree : ∀ x ∈ scope.names, x.2 = .free → (env2.cells.lookup x.1).isSome = true) (hs : ∀ x, foldedSetIterable iter env2 x = pure x) (hkind : scope.kind = .function) (hnames : ∀ x ∈ scope.names, x.2 = .local → scope.names.lookup x.1 = some .local) :
    wpAny (model prog w) A (eval (.ListComp elt (⟨target, iter, ifs, 0⟩ :: rest) scope pos) env2) Q E s := by
  rw [eval_ListComp]
  exact wpAny_comprehension_free rfl hs (closureFor_eq hfree) hkind hnames h

theorem g_compAssign {elt target iter : Expr} {ifs : List Expr} {rest : List Comprehension} {scope : Scope} {pos spos py : Pos} {y : Str} {Q : Flow → Shared → Prop}
    (h : wpAny (model prog w) A (eval iter env2) (fun x s₁ => wpAny (model prog w) A (pyIter x) (CompRest prog w A env2 E elt (⟨target, iter, ifs, 0⟩ :: rest) scope pos (RRu prog w A E y py env2 Q)) E s₁) E s)
    (hsw : swapsWith (.ListComp elt (⟨target, iter, ifs, 0⟩ :: rest) scope pos) (some (.Name y py)) spos.line env2 = pure true)
    (hfree : ∀ x ∈ scope.names, x.2 = .free → (env2.cells.lookup x.1).isSome = true) (hs : ∀ x, foldedSetIterable iter env2 x = pure x) (hkind : scope.kind = .function) (hnames : ∀ x ∈ scope.names, x.2 = .local → scope.names.lookup x.1 = some .local) :
    wpAny (model prog w) A (exec (.Assign [.Name y py] (.ListComp elt (⟨target, iter, ifs, 0⟩ :: rest) scope pos) spos) env2) Q E s := by
  rw [exec_Assign_Name_used _ _ _ _ hsw]
  refine wpAny_bind (wpAny_standAt (wpAny_bind ?_))
  show wpAny _ A (do let _ ← comprehension (.ListComp elt (⟨target, iter, ifs, 0⟩ :: rest) scope pos) scope env2 _ (newList []) false (eval iter env2) (some (assign (.Name y py) env2))) _ _ s
  exact wpAny_bind (wpAny_mono (wpAny_comprehension_free (use := some (assign (.Name y py) env2)) (Q := fun _ s' => Q .next s') rfl hs (closureFor_eq hfree) hkind hnames h) (fun _ s' hq => wpAny_pure (wpAny_pure hq)) fun _ _ e => e)

theorem RRn_done {Q : Value → Shared → Prop} {C D : Addr} {o oC : Obj} {m : Str → Option Value} {l' : Lg} (st : S env ns h₀ vs ((C, oC) :: (D, o) :: l') s₀ s) (hN : LCg.NsObj oC m) (h : ∀ s', S env ns h₀ vs ((D, o) :: l') s₀ s' → Q (.ref D) s') : RRn prog w A E Q (.ref D) C (.ok .next) s :=
  ⟨m, hN.ns (st.at (.head _)), fun h' hs => h _ (st.extBut (t := s.toks) hs.extBut)⟩
theorem RRu_done {Q : Flow → Shared → Prop} {y : Str} {py : Pos} {C D : Addr} {o oC : Obj} {m : Str → Option Value} {l' : Lg} (i : Nat) (fn : Fn env ns) (st : S env ns h₀ vs ((C, oC) :: (D, o) :: l') s₀ s) (hN : LCg.NsObj oC m) (hn : ns[i]? = some y) (hi : i < vs.length)
    (h : ∀ s', S env ns h₀ (vs.set i (some (.ref D))) ((D, o) :: l') s₀ s' → Q .next s') : RRu prog w A E y py env Q (.ref D) C (.ok .next) s := by
  show wpAny _ A (assign (.Name y py) env (.ref D)) _ _ _
  refine wpAny_assign_Name (g_store i fn st hn hi fun s' st' => ?_)
  exact ⟨m, hN.ns (st'.at (.head _)), fun h' hs => h _ (st'.extBut (t := s'.toks) hs.extBut)⟩

theorem g_compOne {elt target iter : Expr} {ifs : List Expr} {scope : Scope} {pos : Pos} {RR : Value → Addr → Result → Shared → Prop} {I : Addr} {n : Nat} {P : Nat → Value → Prop} {Ok : Nat → Obj → Prop} {Need : Heap → Prop} {oI : Obj}
    (FI : Addr → Lg → Prop) (Fx : Addr → Value → Lg → Prop) (J : Nat → List Value → Lg → Prop)
    (Wi : Iter prog w A I n P Ok Need) (st : S env ns h₀ vs ((I, oI) :: l) s₀ s) (hok : Ok 0 oI) (h0 : J 0 [] l) (hn : n ≤ 2 ^ 20)
    (hself : ∀ (s : Shared) (Q : Value → Shared → Prop) (E : Value → Shared → Prop), s.heap.get? I = some oI → Need s.heap → Q (.ref I) s → wpAny (model prog w) A (pyIter (.ref I)) Q E s)
    (need : ∀ i ys l' s' z, J i ys l' → S env ns h₀ vs (z ++ l') s₀ s' → Need s'.heap)
    (hFI0 : ∀ C, FI C (cellL (C + 1) scope.names ++ [(C, emptyD)])) (hFI : ∀ C fr, FI C fr → ∃ cc oC m, fr = cc ++ [(C, oC)] ∧ LCg.NsObj oC m)
    (asg : ∀ C i v ys fr l' z s' E', i < n → P i v → J i ys l' → FI C fr → S env ns h₀ vs (z ++ (fr ++ l')) s₀ s' → wpAny (model prog w) A (assign target (cE scope (closL env2.cells scope.names []) env2 C) v) (fun _ s2 => ∃ fr', FI C fr' ∧ Fx C v fr' ∧ S env ns h₀ vs (z ++ (fr' ++ l')) s₀ s2) E' s')
    (turn : ∀ C i v ys fr l' z s' E', i < n → P i v → J i ys l' → Fx C v fr → S env ns h₀ vs (z ++ (fr ++ l')) s₀ s' →
      wpAny (model prog w) A (testsOf ifs (cE scope (closL env2.cells scope.names []) env2 C)) (fun ok s3 => if ok = true then wpAny (model prog w) A (eval elt (cE scope (closL env2.cells scope.names []) env2 C)) (fun y s4 => ∃ l'', S env ns h₀ vs (z ++ (fr ++ l'')) s₀ s4 ∧ J (i + 1) (ys ++ [y]) l'') E' s3
        else ∃ l'', S env ns h₀ vs (z ++ (fr ++ l'')) s₀ s3 ∧ J (i + 1) ys l'') E' s')
    (done : ∀ ys k D C oC m l' s', J n ys l' → ys.length ≤ n → LCg.NsObj oC m → S env ns h₀ vs ((C, oC) :: (D, listO ys k) :: l') s₀ s' → RR (.ref D) C (.ok .next) s') :
    CompRest prog w A env2 E elt [⟨target, iter, ifs, 0⟩] scope pos RR (.ref I) s := by
  refine g_list st (fun D s1 st1 => ?_) (by simp)
  refine g_newEnvC (env2 := env2) (scope := scope) (cl := closL env2.cells scope.names []) st1 fun C s2 st2 => ?_
  have st3 : S env ns h₀ vs ((I, oI) :: ((cellL (C + 1) scope.names ++ [(C, emptyD)]) ++ ((D, listO [] 0) :: l))) s₀ s2 := by
    refine st2.perm ?_
    have : (cellL (C + 1) scope.names ++ ((C, emptyD) :: (D, listO [] 0) :: (I, oI) :: l)).Perm ((I, oI) :: (cellL (C + 1) scope.names ++ ((C, emptyD) :: (D, listO [] 0) :: l))) := by
      have := List.perm_middle (a := (I, oI)) (l₁ := cellL (C + 1) scope.names ++ [(C, emptyD), (D, listO [] 0)]) (l₂ := l)
      simpa using this
    simpa using this
  refine g_compStart ?_ fun Q E hQ => hself s2 Q E (st3.at (.head _)) (need 0 [] l s2 ((I, oI) :: ((cellL (C + 1) scope.names ++ [(C, emptyD)]) ++ [(D, listO [] 0)])) h0 (by simpa using st3)) hQ
  refine g_compLoop (turn_one ..) Wi (fun i l1 => ∃ ys k fr l', l1 = fr ++ ((D, listO ys k) :: l') ∧ FI C fr ∧ J i ys l' ∧ ys.length ≤ i) st3 hok ⟨[], 0, _, l, rfl, hFI0 C, h0, Nat.le_refl _⟩ ?_ ?_ ?_
  · rintro i l1 s' o ⟨ys, k, fr, l', rfl, hfr, hJ, hle⟩ st'
    exact need i ys l' s' ((I, o) :: (fr ++ [(D, listO ys k)])) hJ (by simpa using st')
  · rintro i v l1 z s' E' hi hP ⟨ys, k, fr, l', rfl, hfr, hJ, hle⟩ st'
    have stA : S env ns h₀ vs ((z ++ [(D, listO ys k)]) ++ (fr ++ l')) s₀ s' := st'.perm (by
      have := List.perm_middle (a := (D, listO ys k)) (l₁ := z ++ fr) (l₂ := l')
      have h2 := List.perm_middle (a := (D, listO ys k)) (l₁ := z) (l₂ := fr ++ l')
      simpa using this.trans (by simpa using h2.symm))
    refine wpAny_mono (asg C i v ys fr l' _ s' E' hi hP hJ hfr stA) (fun _ s2 h2 => ?_) fun _ _ e => e
    obtain ⟨fr', hfr', hfx, stB⟩ := h2
    have fin : ∀ ys' k' l'' s4, J (i + 1) ys' l'' → ys'.length ≤ i + 1 → S env ns h₀ vs ((z ++ [(D, listO ys' k')]) ++ (fr' ++ l'')) s₀ s4 → CP env ns h₀ vs s₀ z (fun l1 => ∃ ys k fr l', l1 = fr ++ ((D, listO ys k) :: l') ∧ FI C fr ∧ J (i + 1) ys l' ∧ ys.length ≤ i + 1) s4 := by
      intro ys' k' l'' s4 hJ' hle' st4
      refine ⟨fr' ++ ((D, listO ys' k') :: l''), st4.perm ?_, ys', k', fr', l'', rfl, hfr', hJ', hle'⟩
      have := List.perm_middle (a := (D, listO ys' k')) (l₁ := z ++ fr') (l₂ := l'')
      have h2 := List.perm_middle (a := (D, listO ys' k')) (l₁ := z) (l₂ := fr' ++ l'')
      simpa using (by simpa using h2 : (z ++ (D, listO ys' k') :: (fr' ++ l'')).Perm ((D, listO ys' k') :: (z ++ (fr' ++ l'')))).trans (by simpa using this.symm)
    refine wpAny_mono (turn C i v ys fr' l' _ s2 E' hi hP hJ hfx stB) (fun ok s3 h3 => ?_) fun _ _ e => e
    cases ok with
    | true =>
      rw [if_pos rfl] at h3 ⊢
      refine wpAny_bind (wpAny_mono h3 (fun y s4 h4 => ?_) fun _ _ e => e)
      obtain ⟨l'', st4, hJ'⟩ := h4
      refine wpAny_bind (g_append (l' := fun o' => (z ++ [(D, o')]) ++ (fr' ++ l'')) st4 (fun o' => .left (.app .head)) (by have h1 : sizeLine = 2 ^ 24 := rfl; lia) fun k' s5 st5 => wpAny_pure ?_)
      exact fin _ _ _ _ hJ' (by simp; exact hle) st5
    | false =>
      rw [if_neg Bool.false_ne_true] at h3 ⊢
      obtain ⟨l'', st4, hJ'⟩ := h3
      exact fin _ _ _ _ hJ' (by exact Nat.le_succ_of_le hle) st4
  · rintro l1 s' ⟨ys, k, fr, l', rfl, hfr, hJ, hle⟩ st'
    obtain ⟨cc, oC, m, rfl, hN⟩ := hFI C fr hfr
    have st4 : S env ns h₀ vs ((C, oC) :: ((D, listO ys k) :: l')) s₀ s' := S.dropL (a := cc) (by simpa using st')
    exact done ys k D C oC m l' _ hJ hle hN st4
end
end Mine
end
section
open PySem PySem.W PySem.Calls PyProof.Rows
set_option maxRecDepth 100000
namespace Mine

noncomputable def FL (C : Addr) (fr : Lg) : Prop := ∃ oC m, fr = [(C, oC)] ∧ LCg.NsObj oC m
noncomputable def FC (C : Addr) (fr : Lg) : Prop := ∃ oc vo oC m, fr = [(C + 1, oc), (C, oC)] ∧ CellV oc vo ∧ LCg.NsObj oC m

theorem nsObj_empty : LCg.NsObj emptyD (fun _ => none) := ⟨#[], 0, rfl, fun e he => by simp at he, fun _ => rfl⟩
theorem FL.start {C : Addr} : FL C [(C, emptyD)] := ⟨_, _, rfl, nsObj_empty⟩
theorem FC.start {C : Addr} : FC C [(C + 1, cellO), (C, emptyD)] := ⟨_, none, _, _, rfl, rfl, nsObj_empty⟩
theorem FL.end_ {C : Addr} {fr : Lg} (h : FL C fr) : ∃ cc oC m, fr = cc ++ [(C, oC)] ∧ LCg.NsObj oC m := by
  obtain ⟨oC, m, rfl, hN⟩ := h
  exact ⟨[], oC, m, rfl, hN⟩
theorem FC.end_ {C : Addr} {fr : Lg} (h : FC C fr) : ∃ cc oC m, fr = cc ++ [(C, oC)] ∧ LCg.NsObj oC m := by
  obtain ⟨oc, vo, oC, m, rfl, hd, hN⟩ := h
  exact ⟨[(C + 1, oc)], oC, m, rfl, hN⟩

section
variable {prog : Program} {w : World} {A : Around} {E : Value → Shared → Prop} {env env2 : Env} {ns : List Str} {h₀ : Heap} {vs : List (Option Value)} {l : Lg} {s₀ s : Shared}
  {K : Frag} {p : Program} {loose : List Str} {mean : ExcName → Option Value} {mg mb : Str → Option Value} {d u : Nat} {scope : Scope} {cl : List (Str × Addr)}

theorem g_asgloc {x : Str} {px : Pos} {C : Addr} {v : Value} {fr l' z : Lg} (gl : Gl env2) (hk : scope.kind = .function) (hx : scope.names.lookup x = some .local) (hfr : FL C fr) (st : S env ns h₀ vs (z ++ (fr ++ l')) s₀ s) (hb : autoParam ((x == ("__debug__" : Str)) = false) tDec) :
    wpAny (model prog w) A (assign (.Name x px) (cE scope cl env2 C) v) (fun _ s2 => ∃ fr', FL C fr' ∧ Rd prog w (cE scope cl env2 C) fr' x v ∧ S env ns h₀ vs (z ++ (fr' ++ l')) s₀ s2) E s := by
  obtain ⟨oC, m, rfl, hN⟩ := hfr
  refine wpAny_assign_Name (g_setloc (l' := fun o' => z ++ ([(C, o')] ++ l')) (gl.comp hk) st (kind_other hx rfl) (fun o' => .app .head) hN fun o' s' hN' st' => ?_)
  exact ⟨[(C, o')], ⟨o', _, rfl, hN'⟩, Rd.loc hk (kind_other hx rfl) (.head _) hN' (by simp) hb, st'⟩

theorem g_asgcell {x : Str} {px : Pos} {C : Addr} {v : Value} {fr l' z : Lg} (gl : Gl env2) (hk : scope.kind = .function) (hx : scope.names.lookup x = some .cell) (hc : (cE scope cl env2 C).cells.lookup x = some (C + 1)) (hfr : FC C fr) (st : S env ns h₀ vs (z ++ (fr ++ l')) s₀ s) (hb : autoParam ((x == ("__debug__" : Str)) = false) tDec) :
    wpAny (model prog w) A (assign (.Name x px) (cE scope cl env2 C) v) (fun _ s2 => ∃ fr', FC C fr' ∧ (∃ oc oC, fr' = [(C + 1, oc), (C, oC)] ∧ CellV oc (some v)) ∧ S env ns h₀ vs (z ++ (fr' ++ l')) s₀ s2) E s := by
  obtain ⟨oc, vo, oC, m, rfl, hd, hN⟩ := hfr
  refine wpAny_assign_Name (g_setcell (l' := fun o' => z ++ ([(C + 1, o'), (C, oC)] ++ l')) (gl.comp hk) st (kind_other hx rfl) hc (fun o' => .app .head) hd fun o' s' hd' st' => ?_)
  exact ⟨[(C + 1, o'), (C, oC)], ⟨o', _, oC, m, rfl, hd', hN⟩, ⟨o', oC, rfl, hd'⟩, st'⟩

theorem g_asgtwo {x y : Str} {px py tp : Pos} {x1} {C a : Addr} {v1 v2 : Value} {fr l' z : Lg} (hh : A.handled = none) (gl : Gl env2) (hk : scope.kind = .function) (hx : scope.names.lookup x = some .local) (hy : scope.names.lookup y = some .local) (hxy : x ≠ y) (hfr : FL C fr) (st : S env ns h₀ vs (z ++ (fr ++ l')) s₀ s) (hm : (a, tupO [v1, v2]) ∈ l') (hb : autoParam ((x == ("__debug__" : Str)) = false) tDec) (hb2 : autoParam ((y == ("__debug__" : Str)) = false) tDec) :
    wpAny (model prog w) A (assign (.Tuple [.Name x px, .Name y py] x1 tp) (cE scope cl env2 C) (.ref a)) (fun _ s2 => ∃ fr', FL C fr' ∧ (Rd prog w (cE scope cl env2 C) fr' x v1 ∧ Rd prog w (cE scope cl env2 C) fr' y v2) ∧ S env ns h₀ vs (z ++ (fr' ++ l')) s₀ s2) E s := by
  obtain ⟨oC, m, rfl, hN⟩ := hfr
  refine g_cunpack hh st (List.mem_append_right _ (List.mem_append_right _ hm)) rfl rfl fun s1 st1 => ?_
  refine assignInOrder_cons (wpAny_assign_Name (g_setloc (l' := fun o' => z ++ ([(C, o')] ++ l')) (gl.comp hk) st1 (kind_other hx rfl) (fun o' => .app .head) hN fun o' s2 hN' st2 => ?_))
  refine assignInOrder_cons (wpAny_assign_Name (g_setloc (l' := fun o' => z ++ ([(C, o')] ++ l')) (gl.comp hk) st2 (kind_other hy rfl) (fun o' => .app .head) hN' fun o2 s3 hN2 st3 => ?_))
  refine assignInOrder_nil ?_
  exact ⟨[(C, o2)], ⟨o2, _, rfl, hN2⟩, ⟨Rd.loc hk (kind_other hx rfl) (.head _) hN2 (by simp [hxy]) hb, Rd.loc hk (kind_other hy rfl) (.head _) hN2 (by simp) hb2⟩, st3⟩

theorem g_compList {elt target iter : Expr} {ifs : List Expr} {pos : Pos} {RR : Value → Addr → Result → Shared → Prop} {t : Addr} {us : List Value} {n : Nat} (hh : A.handled = none)
    (FI : Addr → Lg → Prop) (Fx : Addr → Value → Lg → Prop) (J : Nat → List Value → Lg → Prop) (st : S env ns h₀ vs l s₀ s) (hm : (t, listO us n) ∈ l) (h0 : J 0 [] l) (hn : us.length ≤ 2 ^ 20)
    (keep : ∀ i ys l', J i ys l' → (t, listO us n) ∈ l')
    (hFI0 : ∀ C, FI C (cellL (C + 1) scope.names ++ [(C, emptyD)])) (hFI : ∀ C fr, FI C fr → ∃ cc oC m, fr = cc ++ [(C, oC)] ∧ LCg.NsObj oC m)
    (asg : ∀ C i v ys fr l' z s' E', us[i]? = some v → J i ys l' → FI C fr → S env ns h₀ vs (z ++ (fr ++ l')) s₀ s' → wpAny (model prog w) A (assign target (cE scope (closL env2.cells scope.names []) env2 C) v) (fun _ s2 => ∃ fr', FI C fr' ∧ Fx C v fr' ∧ S env ns h₀ vs (z ++ (fr' ++ l')) s₀ s2) E' s')
    (turn : ∀ C i v ys fr l' z s' E', us[i]? = some v → J i ys l' → Fx C v fr → S env ns h₀ vs (z ++ (fr ++ l')) s₀ s' →
      wpAny (model prog w) A (testsOf ifs (cE scope (closL env2.cells scope.names []) env2 C)) (fun ok s3 => if ok = true then wpAny (model prog w) A (eval elt (cE scope (closL env2.cells scope.names []) env2 C)) (fun y s4 => ∃ l'', S env ns h₀ vs (z ++ (fr ++ l'')) s₀ s4 ∧ J (i + 1) (ys ++ [y]) l'') E' s3
        else ∃ l'', S env ns h₀ vs (z ++ (fr ++ l'')) s₀ s3 ∧ J (i + 1) ys l'') E' s')
    (done : ∀ ys k D C oC m l' s', J us.length ys l' → ys.length ≤ us.length → LCg.NsObj oC m → S env ns h₀ vs ((C, oC) :: (D, listO ys k) :: l') s₀ s' → RR (.ref D) C (.ok .next) s') :
    wpAny (model prog w) A (pyIter (.ref t)) (CompRest prog w A env2 E elt [⟨target, iter, ifs, 0⟩] scope pos RR) E s := by
  refine wpAny_pyIter_list (st.list hm) ?_
  have hne : t ≠ s.heap.objs.size := Nat.ne_of_lt (Heap.lt_size (st.at hm))
  refine g_compOne FI Fx J (iter_list hh hne us) (st.push _ rfl) ⟨rfl, rfl⟩ h0 hn (fun s Q E ho _ hQ => wpAny_pyIter_listiter ⟨_, ho, rfl, rfl⟩ hQ) (fun i ys l' s' z hJ st' => st'.list (List.mem_append_right _ (keep i ys l' hJ))) hFI0 hFI (fun C i v ys fr l' z s' E' _ hP hJ => asg C i v ys fr l' z s' E' hP hJ) (fun C i v ys fr l' z s' E' _ hP hJ => turn C i v ys fr l' z s' E' hP hJ) done
end
end Mine
end
section
open PySem PySem.W PySem.Calls PyProof.Rows
set_option maxRecDepth 100000
namespace Mine

theorem cellsFrom_addrs : ∀ (names : List (Str × NameKind)) (n : Nat) (acc : List (Str × Addr)), (acc.map (·.2)).Nodup → (∀ a ∈ acc, a.2 < n) → ((cellsFrom n names acc).map (·.2)).Nodup ∧ ∀ a ∈ cellsFrom n names acc, a ∈ acc ∨ n ≤ a.2
  | [], n, acc, h1, h2 => ⟨h1, fun a ha => .inl ha⟩
  | (x, k) :: r, n, acc, h1, h2 => by
    unfold cellsFrom
    split
    · have := cellsFrom_addrs r (n + 1) ((x, n) :: acc) (by
        rw [List.map_cons, List.nodup_cons]
        refine ⟨fun q => ?_, h1⟩
        obtain ⟨y, hy, e⟩ := List.mem_map.mp q
        have h3 := h2 y hy
        have e : y.2 = n := e
        rw [e] at h3
        exact absurd h3 (Nat.lt_irrefl _)) (fun a ha => by
        rcases List.mem_cons.mp ha with rfl | ha
        · exact Nat.lt_succ_self _
        · exact Nat.lt_succ_of_lt (h2 a ha))
      refine ⟨this.1, fun a ha => ?_⟩
      rcases this.2 a ha with q | q
      · rcases List.mem_cons.mp q with rfl | q
        · exact .inr (Nat.le_refl _)
        · exact .inl q
      · exact .inr (by exact Nat.le_of_lt q)
    · exact cellsFrom_addrs r n acc h1 h2
theorem cellsAre_fst {cm : Str → Option Value} {cs : List (Str × Addr)} {cells : Lg} (h : CellsAre cm cs cells) : cells.map (·.1) = cs.map (·.2) := by
  induction h with
  | nil => rfl
  | cons _ _ ih => simp [ih]

section
variable {prog : Program} {w : World} {A : Around} {E : Value → Shared → Prop} {env : Env} {ns : List Str} {h₀ : Heap} {vs : List (Option Value)} {l : Lg} {s₀ s : Shared}
  {K : Frag} {p : Program} {loose : List Str} {mean : ExcName → Option Value} {mg mb : Str → Option Value} {d u : Nat}

theorem S_callC {R : Result → Shared → Prop} {name qual : Str} {params : Arguments} {body : List Stmt} {scope : Scope} {dV kV doc pm cdv ct oc : Value} {an od : Option Addr} {osl : Array (Option Value)} {f : Addr} {args : Args} (binds : List (Str × Value)) {ns' : List Str} {vs' : List (Option Value)}
    (fn : Fn env ns) (cx : Cx K p loose mean mg mb (d + 1) (u + 3) A env h₀) (st : S env ns h₀ vs l s₀ s)
    (ho : K.lookup f = some ⟨oc, od, .func (fnOf name qual params body scope dV kV doc pm an cdv ct), osl⟩) (hcd : codeIn K cdv qual = true)
    (hbind : BindsTo s (fnOf name qual params body scope dV kV doc pm an cdv ct) args binds) (hkind : (binds.all fun y => scope.names.lookup y.1 == some .local || scope.names.lookup y.1 == some .cell) = true)
    (hnd : ((cellsFrom 0 scope.names []).map (·.1)).Nodup)
    (hbl : ∀ L', bindL (envOfC qual scope L' f cdv).kindOf binds (fun _ => none) = locOf ns' vs')
    (hfn : ∀ L', Fn (envOfC qual scope L' f cdv) ns')
    (h : ∀ (L' : Addr) (g : Heap) (A' : Around) (s₁ : Shared) (E' : Value → Shared → Prop) (cells : Lg), Fn (envOfC qual scope L' f cdv) ns' → Cx K p loose mean mg mb d u A' (envOfC qual scope L' f cdv) g → CellsAre (bindC (envOfC qual scope L' f cdv).kindOf binds fun _ => none) (cellsFrom (L' + 1) scope.names []) cells →
      S (envOfC qual scope L' f cdv) ns' g vs' (cells ++ l) s₀ s₁ →
      W (model prog w) A' (execs body (envOfC qual scope L' f cdv)) (SRet (envOfC qual scope L' f cdv) ns' g env ns h₀ vs s₀ R) E' s₁)
    (hco : autoParam (scope.isCoroutine = false) tRfl) (hgen : autoParam (scope.isGenerator = false) tRfl) (hk : autoParam (scope.kind = .function) tRfl) :
    codeAny (model prog w) A (.call (.ref f) args) R s := by
  obtain ⟨A₀, base, outer, B, hA⟩ := cx.below
  have hroom := cx.room
  refine code_defC B st.fr cx.x st.nw cx.top hA fn.frame fn.kind ho hcd (by exact Nat.lt_of_le_of_lt (Nat.le_add_right _ _) hroom) hbind hkind hnd (fun g L' h₁ tk cells FG F' N' Y B' X' T' hlt => ?_) hco hgen hk
  rw [hbl] at F'
  have cx' : Cx K p loose mean mg mb d u (A.deeper (envOfC qual scope L' f cdv)) (envOfC qual scope L' f cdv) g :=
    ⟨⟨A, base, _, B', by show A.frames.map _ = _; rw [hA]; rfl⟩, X', T', by show A.depth + 1 + d < _; exact qft fun x => qfa2 x hroom (by simp +arith only), by have := cx.units; show A.units + 3 + u < _; exact qft fun x => qfa2 x this (by simp +arith only), cx.hand⟩
  have hD : ((cells ++ l).map (·.1)).Nodup := by
    rw [List.map_append, List.nodup_append]
    have hc := cellsFrom_addrs scope.names (L' + 1) [] List.nodup_nil (fun a ha => nomatch ha)
    have e := cellsAre_fst Y
    refine ⟨by rw [e]; exact hc.1, st.nd, fun a ha b hb q => ?_⟩
    rw [e] at ha
    obtain ⟨x, hx, rfl⟩ := List.mem_map.mp ha
    obtain ⟨y, hy, rfl⟩ := List.mem_map.mp hb
    rcases hc.2 x hx with q2 | q2
    · cases q2
    · have h3 := hlt y hy
      have q : x.2 = y.1 := q
      rw [← q] at h3
      exact absurd (Nat.lt_trans h3 (Nat.lt_of_succ_le q2)) (Nat.lt_irrefl _)
  refine wpAny_mono (h L' g _ { s with heap := h₁, toks := tk } _ cells (hfn L') cx' Y ⟨by have e := st.same; obtain ⟨_, _, _, _, _⟩ := s; simp only [Shared.mk.injEq] at e ⊢; exact ⟨trivial, e.2.1, trivial, trivial, e.2.2.2.2⟩, F', N', hD⟩).out (fun fl s' hr => ?_) fun _ _ e => e
  obtain ⟨vs', l', st', k⟩ := hr.at_
  exact leaveK_ st'.fr st'.nw fun F N => k ⟨by have e := st'.same; exact e, F, N, st'.nd⟩

theorem fn_ofC {ns : List Str} {qual : Str} {scope : Scope} {f : Addr} {cdv : Value} (h : (ns.all fun x => scope.names.lookup x == some .local && !(x == ("__debug__" : Str))) = true) (hn : ns.Nodup) (hk : scope.kind = .function) (L' : Addr) : Fn (envOfC qual scope L' f cdv) ns :=
  ⟨hk, hn, fun x hx => by have := List.all_eq_true.mp h x hx; simp only [Bool.and_eq_true, beq_iff_eq] at this; exact this.1, rfl, fun x hx => by have := List.all_eq_true.mp h x hx; simp only [Bool.and_eq_true, Bool.not_eq_true'] at this; exact this.2, rfl, rfl⟩
end
end Mine
end
section
open PySem PySem.W PySem.Calls PyProof.Rows PySem.Spec
set_option maxRecDepth 100000
namespace Mine
section
variable {prog : Program} {w : World} {A : Around} {E : Value → Shared → Prop} {env env2 : Env} {ns : List Str} {h₀ : Heap} {vs : List (Option Value)} {l : Lg} {s₀ s : Shared}
  {K : Frag} {p : Program} {loose : List Str} {mean : ExcName → Option Value} {mg mb : Str → Option Value} {d u : Nat} {scope : Scope} {cl : List (Str × Addr)} {At : Value → Way × Int → Prop}
theorem w_rd {z : Lg} {x : Str} {pos : Pos} {v : Value} {Q : Value → Shared → Prop} (r : Rd prog w env2 z x v) (st : S env ns h₀ vs l s₀ s) (hz : ∀ c ∈ z, c ∈ l) (h : Q v s) : W (model prog w) A (eval (.Name x pos) env2) Q E s := by
  with_unfolding_all exact g_rd r st hz h
theorem w_cint {i : Int} {k pos} {Q : Value → Shared → Prop} (st : S env ns h₀ vs l s₀ s) (h : ∀ t s', S env ns h₀ vs l s₀ s' → Q (.int i t) s') : W (model prog w) A (eval (.Constant (.int i) k pos) env2) Q E s := by
  with_unfolding_all exact g_cint st h
theorem w_cbuiltin {x : Str} {pos : Pos} {v : Value} {Q : Value → Shared → Prop} (gl : Gl env2) (cx : Cx K p loose mean mg mb d u A env h₀) (st : S env ns h₀ vs l s₀ s) (e : nsIn K mainGlobals x = some none) (hv : bootBuiltins x = some v) (hn : x ≠ "__name__")
    (hx : env2.kindOf x = some .globalImplicit) (hd : (x == ("__debug__" : Str)) = false) (h : Q v s) : W (model prog w) A (eval (.Name x pos) env2) Q E s := by
  with_unfolding_all exact g_cbuiltin gl cx st e hv hn hx hd h
theorem w_cglobal {x : Str} {pos : Pos} {v : Value} {Q : Value → Shared → Prop} (gl : Gl env2) (cx : Cx K p loose mean mg mb d u A env h₀) (st : S env ns h₀ vs l s₀ s) (e : nsIn K mainGlobals x = some (some v))
    (hx : env2.kindOf x = some .globalImplicit) (hd : (x == ("__debug__" : Str)) = false) (h : Q v s) : W (model prog w) A (eval (.Name x pos) env2) Q E s := by
  with_unfolding_all exact g_cglobal gl cx st e hx hd h
theorem w_setcell {x : Str} {v : Value} {v₀ : Option Value} {c : Addr} {oc : Obj} {l' : Obj → Lg} {Q : Unit → Shared → Prop} (gl : Gl env2) (st : S env ns h₀ vs l s₀ s) (hl : env2.kindOf x = some .cell) (hc : env2.cells.lookup x = some c) (U : ∀ o', UpdL c oc o' l (l' o')) (hd : CellV oc v₀)
    (h : ∀ o' s', CellV o' (some v) → S env ns h₀ vs (l' o') s₀ s' → Q () s') : W (model prog w) A (storeName env2 x v) Q E s := by
  with_unfolding_all exact g_setcell gl st hl hc U hd h
theorem w_append {D : Addr} {ys : List Value} {n : Nat} {y : Value} {l' : Obj → Lg} {Q : Value → Shared → Prop} (st : S env ns h₀ vs l s₀ s) (U : ∀ o', UpdL D (listO ys n) o' l (l' o')) (hsz : ys.length ≤ sizeLine)
    (h : ∀ n' s', S env ns h₀ vs (l' (listO (ys ++ [y]) n')) s₀ s' → Q .none s') : W (model prog w) A (call (.builtin "list.append") [.ref D, y]) Q E s := by
  with_unfolding_all exact g_append st U hsz h
theorem w_tests0 {Q : Bool → Shared → Prop} (h : Q true s) : W (model prog w) A (testsOf [] env2) Q E s := by
  with_unfolding_all exact g_tests0 h
theorem w_tests1 {c : Expr} {Q : Bool → Shared → Prop} (h : W (model prog w) A (isTrue c env2 (eval c env2)) Q E s) : W (model prog w) A (testsOf [c] env2) Q E s := by
  with_unfolding_all exact g_tests1 h
theorem w_comp {elt target iter : Expr} {ifs : List Expr} {rest : List Comprehension} {scope : Scope} {pos : Pos} {Q : Value → Shared → Prop}
    (h : W (model prog w) A (eval iter env2) (fun x s₁ => W (model prog w) A (pyIter x) (CompRest prog w A env2 E elt (⟨target, iter, ifs, 0⟩ :: rest) scope pos (RRn prog w A E Q)) E s₁) E s)
    (hfree : ∀ x ∈ scope.names, x.2 = .free → (env2.cells.lookup x.1).isSome = true) (hs : ∀ x, foldedSetIterable iter env2 x = pure x) (hkind : scope.kind = .function) (hnames : ∀ x ∈ scope.names, x.2 = .local → scope.names.lookup x.1 = some .local) :
    W (model prog w) A (eval (.ListComp elt (⟨target, iter, ifs, 0⟩ :: rest) scope pos) env2) Q E s := by
  with_unfolding_all exact g_comp h hfree hs hkind hnames
theorem w_compAssign {elt target iter : Expr} {ifs : List Expr} {rest : List Comprehension} {scope : Scope} {pos spos py : Pos} {y : Str} {Q : Flow → Shared → Prop}
    (h : W (model prog w) A (eval iter env2) (fun x s₁ => W (model prog w) A (pyIter x) (CompRest prog w A env2 E elt (⟨target, iter, ifs, 0⟩ :: rest) scope pos (RRu prog w A E y py env2 Q)) E s₁) E s)
    (hsw : swapsWith (.ListComp elt (⟨target, iter, ifs, 0⟩ :: rest) scope pos) (some (.Name y py)) spos.line env2 = pure true)
    (hfree : ∀ x ∈ scope.names, x.2 = .free → (env2.cells.lookup x.1).isSome = true) (hs : ∀ x, foldedSetIterable iter env2 x = pure x) (hkind : scope.kind = .function) (hnames : ∀ x ∈ scope.names, x.2 = .local → scope.names.lookup x.1 = some .local) :
    W (model prog w) A (exec (.Assign [.Name y py] (.ListComp elt (⟨target, iter, ifs, 0⟩ :: rest) scope pos) spos) env2) Q E s := by
  with_unfolding_all exact g_compAssign h hsw hfree hs hkind hnames
theorem w_asgloc {x : Str} {px : Pos} {C : Addr} {v : Value} {fr l' z : Lg} (gl : Gl env2) (hk : scope.kind = .function) (hx : scope.names.lookup x = some .local) (hfr : FL C fr) (st : S env ns h₀ vs (z ++ (fr ++ l')) s₀ s) (hb : autoParam ((x == ("__debug__" : Str)) = false) tDec) :
    W (model prog w) A (assign (.Name x px) (cE scope cl env2 C) v) (fun _ s2 => ∃ fr', FL C fr' ∧ Rd prog w (cE scope cl env2 C) fr' x v ∧ S env ns h₀ vs (z ++ (fr' ++ l')) s₀ s2) E s := by
  with_unfolding_all exact g_asgloc gl hk hx hfr st hb
theorem w_asgcell {x : Str} {px : Pos} {C : Addr} {v : Value} {fr l' z : Lg} (gl : Gl env2) (hk : scope.kind = .function) (hx : scope.names.lookup x = some .cell) (hc : (cE scope cl env2 C).cells.lookup x = some (C + 1)) (hfr : FC C fr) (st : S env ns h₀ vs (z ++ (fr ++ l')) s₀ s) (hb : autoParam ((x == ("__debug__" : Str)) = false) tDec) :
    W (model prog w) A (assign (.Name x px) (cE scope cl env2 C) v) (fun _ s2 => ∃ fr', FC C fr' ∧ (∃ oc oC, fr' = [(C + 1, oc), (C, oC)] ∧ CellV oc (some v)) ∧ S env ns h₀ vs (z ++ (fr' ++ l')) s₀ s2) E s := by
  with_unfolding_all exact g_asgcell gl hk hx hc hfr st hb
theorem w_asgtwo {x y : Str} {px py tp : Pos} {x1} {C a : Addr} {v1 v2 : Value} {fr l' z : Lg} (hh : A.handled = none) (gl : Gl env2) (hk : scope.kind = .function) (hx : scope.names.lookup x = some .local) (hy : scope.names.lookup y = some .local) (hxy : x ≠ y) (hfr : FL C fr) (st : S env ns h₀ vs (z ++ (fr ++ l')) s₀ s) (hm : (a, tupO [v1, v2]) ∈ l') (hb : autoParam ((x == ("__debug__" : Str)) = false) tDec) (hb2 : autoParam ((y == ("__debug__" : Str)) = false) tDec) :
    W (model prog w) A (assign (.Tuple [.Name x px, .Name y py] x1 tp) (cE scope cl env2 C) (.ref a)) (fun _ s2 => ∃ fr', FL C fr' ∧ (Rd prog w (cE scope cl env2 C) fr' x v1 ∧ Rd prog w (cE scope cl env2 C) fr' y v2) ∧ S env ns h₀ vs (z ++ (fr' ++ l')) s₀ s2) E s := by
  with_unfolding_all exact g_asgtwo hh gl hk hx hy hxy hfr st hm hb hb2
theorem w_compList {elt target iter : Expr} {ifs : List Expr} {pos : Pos} {RR : Value → Addr → Result → Shared → Prop} {t : Addr} {us : List Value} {n : Nat} (hh : A.handled = none)
    (FI : Addr → Lg → Prop) (Fx : Addr → Value → Lg → Prop) (J : Nat → List Value → Lg → Prop) (st : S env ns h₀ vs l s₀ s) (hm : (t, listO us n) ∈ l) (h0 : J 0 [] l) (hn : us.length ≤ 2 ^ 20)
    (keep : ∀ i ys l', J i ys l' → (t, listO us n) ∈ l')
    (hFI0 : ∀ C, FI C (cellL (C + 1) scope.names ++ [(C, emptyD)])) (hFI : ∀ C fr, FI C fr → ∃ cc oC m, fr = cc ++ [(C, oC)] ∧ LCg.NsObj oC m)
    (asg : ∀ C i v ys fr l' z s' E', us[i]? = some v → J i ys l' → FI C fr → S env ns h₀ vs (z ++ (fr ++ l')) s₀ s' → W (model prog w) A (assign target (cE scope (closL env2.cells scope.names []) env2 C) v) (fun _ s2 => ∃ fr', FI C fr' ∧ Fx C v fr' ∧ S env ns h₀ vs (z ++ (fr' ++ l')) s₀ s2) E' s')
    (turn : ∀ C i v ys fr l' z s' E', us[i]? = some v → J i ys l' → Fx C v fr → S env ns h₀ vs (z ++ (fr ++ l')) s₀ s' →
      W (model prog w) A (testsOf ifs (cE scope (closL env2.cells scope.names []) env2 C)) (fun ok s3 => if ok = true then W (model prog w) A (eval elt (cE scope (closL env2.cells scope.names []) env2 C)) (fun y s4 => ∃ l'', S env ns h₀ vs (z ++ (fr ++ l'')) s₀ s4 ∧ J (i + 1) (ys ++ [y]) l'') E' s3
        else ∃ l'', S env ns h₀ vs (z ++ (fr ++ l'')) s₀ s3 ∧ J (i + 1) ys l'') E' s')
    (done : ∀ ys k D C oC m l' s', J us.length ys l' → ys.length ≤ us.length → LCg.NsObj oC m → S env ns h₀ vs ((C, oC) :: (D, listO ys k) :: l') s₀ s' → RR (.ref D) C (.ok .next) s') :
    W (model prog w) A (pyIter (.ref t)) (CompRest prog w A env2 E elt [⟨target, iter, ifs, 0⟩] scope pos RR) E s := by
  with_unfolding_all exact g_compList hh FI Fx J st hm h0 hn keep hFI0 hFI asg turn done
theorem w_ccwK {M : Model} {pos : Pos} {f : Value} {first : List Value} {e : Expr} {rest : List Expr} {Q : Value → Shared → Prop} (cx : Cx K p loose mean mg mb d u A env h₀) (hk : keepIn K f = true)
    (h : W M A (spliced (backTo pos (starEach (e :: rest) env2))) (fun vs s₁ => K.In s₁.heap ∧ W M A (call f (first ++ vs)) Q E s₁) E s)
    (he : autoParam (starEach (e :: rest) env2 = (false, eval e env2) :: starEach rest env2) tRfl) (hplain : autoParam ((backTo pos (starEach rest env2)).any (·.1) = false) tRfl) :
    W M A (callWith pos f first (backTo pos (starEach (e :: rest) env2)) []) Q E s := by with_unfolding_all exact callWith_K cx.x hk h he hplain
end
end Mine
end
section
open PySem PySem.W PySem.Calls PyProof.Rows
set_option maxRecDepth 100000
namespace Mine
section
variable {prog : Program} {w : World} {A : Around} {E : Value → Shared → Prop} {env env2 : Env} {ns : List Str} {h₀ : Heap} {vs : List (Option Value)} {l : Lg} {s₀ s : Shared} {scope : Scope}

theorem w_compName {elt iter : Expr} {ifs : List Expr} {pos px : Pos} {x : Str} {RR : Value → Addr → Result → Shared → Prop} {t : Addr} {us : List Value} {n : Nat} (hh : A.handled = none) (gl : Gl env2) (hk : scope.kind = .function) (hx : scope.names.lookup x = some .local) (hcell : ∀ C, cellL (C + 1) scope.names = [])
    (J : Nat → List Value → Lg → Prop) (st : S env ns h₀ vs l s₀ s) (hm : (t, listO us n) ∈ l) (h0 : J 0 [] l) (hn : us.length ≤ 2 ^ 20)
    (keep : ∀ i ys l', J i ys l' → (t, listO us n) ∈ l')
    (turn : ∀ cenv i v ys z l' s' E', (∃ C, cenv = cE scope (closL env2.cells scope.names []) env2 C) → us[i]? = some v → J i ys l' → Rd prog w cenv z x v → S env ns h₀ vs (z ++ l') s₀ s' →
      W (model prog w) A (testsOf ifs cenv) (fun ok s3 => if ok = true then W (model prog w) A (eval elt cenv) (fun y s4 => ∃ l'', S env ns h₀ vs (z ++ l'') s₀ s4 ∧ J (i + 1) (ys ++ [y]) l'') E' s3
        else ∃ l'', S env ns h₀ vs (z ++ l'') s₀ s3 ∧ J (i + 1) ys l'') E' s')
    (done : ∀ ys k D C oC m l' s', J us.length ys l' → ys.length ≤ us.length → LCg.NsObj oC m → S env ns h₀ vs ((C, oC) :: (D, listO ys k) :: l') s₀ s' → RR (.ref D) C (.ok .next) s')
    (hb : autoParam ((x == ("__debug__" : Str)) = false) tDec) :
    W (model prog w) A (pyIter (.ref t)) (CompRest prog w A env2 E elt [⟨.Name x px, iter, ifs, 0⟩] scope pos RR) E s := by
  refine w_compList hh FL (fun C v fr => Rd prog w (cE scope (closL env2.cells scope.names []) env2 C) fr x v) J st hm h0 hn keep (fun C => by rw [hcell]; exact FL.start) (fun C fr h => h.end_)
    (fun C i v ys fr l' z s' E' hv hJ hfr st' => w_asgloc gl hk hx hfr st' hb) (fun C i v ys fr l' z s' E' hv hJ hfx st' => ?_) done
  have st2 : S env ns h₀ vs ((z ++ fr) ++ l') s₀ s' := by rw [List.append_assoc]; exact st'
  refine W.mono (turn _ i v ys (z ++ fr) l' s' E' ⟨C, rfl⟩ hv hJ (hfx.mono fun c hc => List.mem_append_right _ hc) st2) fun ok s3 h3 => ?_
  cases ok with
  | true =>
    rw [if_pos rfl] at h3 ⊢
    refine W.mono h3 fun y s4 h4 => ?_
    obtain ⟨l'', st4, hJ4⟩ := h4
    exact ⟨l'', by rw [← List.append_assoc]; exact st4, hJ4⟩
  | false =>
    rw [if_neg Bool.false_ne_true] at h3 ⊢
    obtain ⟨l'', st4, hJ4⟩ := h3
    exact ⟨l'', by rw [← List.append_assoc]; exact st4, hJ4⟩

theorem w_compPair {elt iter : Expr} {ifs : List Expr} {pos px py tp : Pos} {x1} {x y : Str} {RR : Value → Addr → Result → Shared → Prop} {t : Addr} {us : List Value} {n : Nat} (PR : Value → Value → Value → Prop) (hh : A.handled = none) (gl : Gl env2) (hk : scope.kind = .function) (hx : scope.names.lookup x = some .local) (hy : scope.names.lookup y = some .local) (hxy : x ≠ y) (hcell : ∀ C, cellL (C + 1) scope.names = [])
    (J : Nat → List Value → Lg → Prop) (st : S env ns h₀ vs l s₀ s) (hm : (t, listO us n) ∈ l) (h0 : J 0 [] l) (hn : us.length ≤ 2 ^ 20)
    (keep : ∀ i ys l', J i ys l' → (t, listO us n) ∈ l')
    (pair : ∀ i v ys l', us[i]? = some v → J i ys l' → ∃ a v1 v2, v = .ref a ∧ PR v v1 v2 ∧ (a, tupO [v1, v2]) ∈ l')
    (turn : ∀ cenv i v v1 v2 ys z l' s' E', (∃ C, cenv = cE scope (closL env2.cells scope.names []) env2 C) → us[i]? = some v → PR v v1 v2 → J i ys l' → Rd prog w cenv z x v1 → Rd prog w cenv z y v2 → S env ns h₀ vs (z ++ l') s₀ s' →
      W (model prog w) A (testsOf ifs cenv) (fun ok s3 => if ok = true then W (model prog w) A (eval elt cenv) (fun y s4 => ∃ l'', S env ns h₀ vs (z ++ l'') s₀ s4 ∧ J (i + 1) (ys ++ [y]) l'') E' s3
        else ∃ l'', S env ns h₀ vs (z ++ l'') s₀ s3 ∧ J (i + 1) ys l'') E' s')
    (done : ∀ ys k D C oC m l' s', J us.length ys l' → ys.length ≤ us.length → LCg.NsObj oC m → S env ns h₀ vs ((C, oC) :: (D, listO ys k) :: l') s₀ s' → RR (.ref D) C (.ok .next) s')
    (hb : autoParam ((x == ("__debug__" : Str)) = false) tDec) (hb2 : autoParam ((y == ("__debug__" : Str)) = false) tDec) :
    W (model prog w) A (pyIter (.ref t)) (CompRest prog w A env2 E elt [⟨.Tuple [.Name x px, .Name y py] x1 tp, iter, ifs, 0⟩] scope pos RR) E s := by
  refine w_compList hh FL (fun C v fr => ∃ v1 v2, PR v v1 v2 ∧ Rd prog w (cE scope (closL env2.cells scope.names []) env2 C) fr x v1 ∧ Rd prog w (cE scope (closL env2.cells scope.names []) env2 C) fr y v2) J st hm h0 hn keep (fun C => by rw [hcell]; exact FL.start) (fun C fr h => h.end_)
    (fun C i v ys fr l' z s' E' hv hJ hfr st' => ?_) (fun C i v ys fr l' z s' E' hv hJ hfx st' => ?_) done
  · obtain ⟨a, v1, v2, rfl, hpr, ha⟩ := pair i v ys l' hv hJ
    refine W.mono (w_asgtwo hh gl hk hx hy hxy hfr st' ha hb hb2) fun _ s2 h2 => ?_
    obtain ⟨fr', hfr', ⟨r1, r2⟩, st2⟩ := h2
    exact ⟨fr', hfr', ⟨v1, v2, hpr, r1, r2⟩, st2⟩
  · obtain ⟨v1, v2, hpr, r1, r2⟩ := hfx
    have st2 : S env ns h₀ vs ((z ++ fr) ++ l') s₀ s' := by rw [List.append_assoc]; exact st'
    refine W.mono (turn _ i v v1 v2 ys (z ++ fr) l' s' E' ⟨C, rfl⟩ hv hpr hJ (r1.mono fun c hc => List.mem_append_right _ hc) (r2.mono fun c hc => List.mem_append_right _ hc) st2) fun ok s3 h3 => ?_
    cases ok with
    | true =>
      rw [if_pos rfl] at h3 ⊢
      refine W.mono h3 fun y s4 h4 => ?_
      obtain ⟨l'', st4, hJ4⟩ := h4
      exact ⟨l'', by rw [← List.append_assoc]; exact st4, hJ4⟩
    | false =>
      rw [if_neg Bool.false_ne_true] at h3 ⊢
      obtain ⟨l'', st4, hJ4⟩ := h3
      exact ⟨l'', by rw [← List.append_assoc]; exact st4, hJ4⟩
end
end Mine
end
section
open PySem PySem.W PySem.Calls PyProof.Rows
set_option maxRecDepth 100000
namespace Mine
open SetTable (Probe)

noncomputable def seqP (t : SetTable) (h : Int) : Nat → Probe
  | 0 => t.probeStart h
  | n + 1 => t.advance (seqP t h n)

theorem adv_mask {t t' : SetTable} (e : t.mask = t'.mask) (p : Probe) : t.advance p = t'.advance p := by
  unfold SetTable.advance; rw [e]
theorem seqP_mask {t t' : SetTable} (e : t.mask = t'.mask) (h : Int) : ∀ n, seqP t h n = seqP t' h n
  | 0 => by unfold seqP SetTable.probeStart; rw [e]
  | n + 1 => by unfold seqP; rw [seqP_mask e h n, adv_mask e]

noncomputable def orb (m : Nat) (i : Nat) : Nat → Nat
  | 0 => i
  | k + 1 => (orb m i k * 5 + 1) % (m + 1)
theorem orb_add (m i : Nat) (a : Nat) : ∀ b, orb m i (a + b) = orb m (orb m i a) b
  | 0 => rfl
  | b + 1 => by
    show (orb m i (a + b) * 5 + 1) % (m + 1) = (orb m (orb m i a) b * 5 + 1) % (m + 1)
    rw [orb_add m i a b]
noncomputable def orbList (m : Nat) : Nat → Nat → List Nat
  | 0, _ => []
  | n + 1, i => i :: orbList m n ((i * 5 + 1) % (m + 1))
theorem orbList_mem (m : Nat) : ∀ (n i x : Nat), x ∈ orbList m n i → ∃ k, k < n ∧ orb m i k = x
  | 0, _, _, h => by cases h
  | n + 1, i, x, h => by
    rcases List.mem_cons.mp h with rfl | h
    · exact ⟨0, by exact Nat.le_of_ble_eq_true rfl, rfl⟩
    · obtain ⟨k, hk, e⟩ := orbList_mem m n _ x h
      refine ⟨k + 1, by exact Nat.lt_succ_of_le hk, ?_⟩
      rw [Nat.add_comm, orb_add]
      exact e
noncomputable def okMask (m : Nat) : Prop := m = 7 ∨ m = 31 ∨ m = 127
theorem orb_all7 : ((List.range 8).all fun x => (orbList 7 8 0).contains x) = true := by decide +kernel
theorem orb_all31 : ((List.range 32).all fun x => (orbList 31 32 0).contains x) = true := by decide +kernel
theorem orb_all127 : ((List.range 128).all fun x => (orbList 127 128 0).contains x) = true := by decide +kernel
theorem orb_back7 : orb 7 0 8 = 0 := by decide +kernel
theorem orb_back31 : orb 31 0 32 = 0 := by decide +kernel
theorem orb_back127 : orb 127 0 128 = 0 := by decide +kernel
theorem orb_zero {m : Nat} (hm : okMask m) {x : Nat} (hx : x ≤ m) : ∃ k, k < m + 1 ∧ orb m 0 k = x := by
  have go : ∀ m, ((List.range (m + 1)).all fun x => (orbList m (m + 1) 0).contains x) = true → ∀ x, x ≤ m → ∃ k, k < m + 1 ∧ orb m 0 k = x := by
    intro m h x hx
    have := List.all_eq_true.mp h x (List.mem_range.mpr (by exact Nat.lt_succ_of_le hx))
    exact orbList_mem m _ _ _ (List.contains_iff_mem.mp this)
  rcases hm with rfl | rfl | rfl
  · exact go 7 orb_all7 x hx
  · exact go 31 orb_all31 x hx
  · exact go 127 orb_all127 x hx
theorem orb_back {m : Nat} (hm : okMask m) : orb m 0 (m + 1) = 0 := by
  rcases hm with rfl | rfl | rfl
  · exact orb_back7
  · exact orb_back31
  · exact orb_back127
theorem orb_reach {m : Nat} (hm : okMask m) {i x : Nat} (hi : i ≤ m) (hx : x ≤ m) : ∃ k, k ≤ m ∧ orb m i k = x := by
  obtain ⟨a, ha, ea⟩ := orb_zero hm hi
  obtain ⟨b, hb, eb⟩ := orb_zero hm hx
  by_cases h : a ≤ b
  · refine ⟨b - a, by exact qfl fun x => qfa3 x (qfs2 (b) (a) (by exact h)) hb (by simp +arith only), ?_⟩
    rw [← ea, ← orb_add, show a + (b - a) = b by exact Nat.add_sub_cancel' h, eb]
  · refine ⟨m + 1 - a + b, by exact qfl fun x => qfa3 x (qfs2 (m + 1) (a) (by exact Nat.le_of_lt ha)) (Nat.lt_of_not_le h) (by simp +arith only), ?_⟩
    rw [← ea, ← orb_add, show a + (m + 1 - a + b) = (m + 1) + b by exact Nat.le_antisymm (qfl fun x => qfa2 x (qfs2 (m + 1) (a) (by exact Nat.le_of_lt ha)) (by simp +arith only)) (qfl fun x => qfa2 x (qfs1 (m + 1) (a)) (by simp +arith only)), orb_add, orb_back hm, eb]

noncomputable def runI (m : Nat) (h : Int) : Nat → Nat × Nat
  | 0 => (SetTable.bits h % (m + 1), SetTable.bits h)
  | k + 1 => SetTable.leap m (runI m h k).1 (runI m h k).2
theorem runI_le (m : Nat) (h : Int) : ∀ k, (runI m h k).1 ≤ m
  | 0 => by show SetTable.bits h % (m + 1) ≤ m; have := Nat.mod_lt (SetTable.bits h) (show m + 1 > 0 by exact Nat.le_of_ble_eq_true rfl); exact Nat.le_of_lt_succ this
  | k + 1 => by
    show ((runI m h k).1 * 5 + 1 + (runI m h k).2 / 32) % (m + 1) ≤ m
    have := Nat.mod_lt ((runI m h k).1 * 5 + 1 + (runI m h k).2 / 32) (show m + 1 > 0 by exact Nat.le_of_ble_eq_true rfl); exact Nat.le_of_lt_succ this
theorem runI_pert (m : Nat) (h : Int) : ∀ k, (runI m h k).2 = SetTable.bits h / 32 ^ k
  | 0 => by simp [runI]
  | k + 1 => by
    show (runI m h k).2 / 32 = _
    rw [runI_pert m h k, Nat.div_div_eq_div_mul, Nat.pow_succ]
theorem bits_lt (h : Int) : SetTable.bits h < 2 ^ 64 := by
  unfold SetTable.bits
  have h1 := Int.emod_nonneg h (show (2 ^ 64 : Int) ≠ 0 by decide)
  have h2 := Int.emod_lt_of_pos h (show (0 : Int) < 2 ^ 64 by decide)
  exact (Int.toNat_lt h1).mpr h2
theorem pert_zero (m : Nat) (h : Int) (k : Nat) (hk : 13 ≤ k) : (runI m h k).2 = 0 := by
  rw [runI_pert]
  refine Nat.div_eq_of_lt (Nat.lt_of_lt_of_le (bits_lt h) ?_)
  calc 2 ^ 64 ≤ 32 ^ 13 := by decide
    _ ≤ 32 ^ k := Nat.pow_le_pow_right (by decide) hk
theorem runI_orb (m : Nat) (h : Int) : ∀ k, (runI m h (13 + k)).1 = orb m (runI m h 13).1 k
  | 0 => rfl
  | k + 1 => by
    show ((runI m h (13 + k)).1 * 5 + 1 + (runI m h (13 + k)).2 / 32) % (m + 1) = (orb m (runI m h 13).1 k * 5 + 1) % (m + 1)
    rw [runI_orb m h k, pert_zero m h (13 + k) (by exact Nat.le_add_right _ _)]
theorem runI_reach {m : Nat} (hm : okMask m) (h : Int) {x : Nat} (hx : x ≤ m) : ∃ k, k ≤ 13 + m ∧ (runI m h k).1 = x := by
  obtain ⟨k, hk, e⟩ := orb_reach hm (runI_le m h 13) hx
  exact ⟨13 + k, Nat.add_le_add_left hk 13, by rw [runI_orb, e]⟩

theorem runEnd_le (m i : Nat) (hi : i ≤ m) : SetTable.runEnd m i - i ≤ 9 ∧ i ≤ SetTable.runEnd m i ∧ SetTable.runEnd m i ≤ m := by
  unfold SetTable.runEnd; split
  · exact ⟨Nat.le_of_eq (Nat.add_sub_cancel_left i 9), Nat.le_add_right _ _, by assumption⟩
  · exact ⟨Nat.le_trans (Nat.le_of_eq (Nat.sub_self i)) (Nat.zero_le 9), Nat.le_refl _, hi⟩

noncomputable def startOf (t : SetTable) (q : Nat × Nat) : Probe := { j := q.1, more := SetTable.runEnd t.mask q.1 - q.1, i := q.1, perturb := q.2, dummy := none }

theorem adv_run (t : SetTable) (q : Nat × Nat) (h : Int) (n : Nat) (e : seqP t h n = startOf t q) : ∀ r, r ≤ SetTable.runEnd t.mask q.1 - q.1 → seqP t h (n + r) = { j := q.1 + r, more := SetTable.runEnd t.mask q.1 - q.1 - r, i := q.1, perturb := q.2, dummy := none }
  | 0, _ => by rw [Nat.add_zero, e]; rfl
  | r + 1, hr => by
    show t.advance (seqP t h (n + r)) = _
    rw [adv_run t q h n e r (by exact Nat.le_of_lt hr)]
    unfold SetTable.advance
    rw [if_pos (by show SetTable.runEnd t.mask q.1 - q.1 - r > 0; exact (by exact Nat.sub_pos_of_lt hr))]
    simp only [Probe.mk.injEq, and_true]
    lia
theorem adv_leap (t : SetTable) (q : Nat × Nat) (h : Int) (n : Nat) (e : seqP t h n = startOf t q) : seqP t h (n + (SetTable.runEnd t.mask q.1 - q.1) + 1) = startOf t (SetTable.leap t.mask q.1 q.2) := by
  show t.advance (seqP t h (n + (SetTable.runEnd t.mask q.1 - q.1))) = _
  rw [adv_run t q h n e _ (Nat.le_refl _)]
  unfold SetTable.advance
  rw [if_neg (by show ¬ SetTable.runEnd t.mask q.1 - q.1 - (SetTable.runEnd t.mask q.1 - q.1) > 0; rw [Nat.sub_self]; exact Nat.lt_irrefl 0)]
  rfl
theorem run_at (t : SetTable) (h : Int) : ∀ k, ∃ n, n ≤ 10 * k ∧ seqP t h n = startOf t (runI t.mask h k)
  | 0 => ⟨0, Nat.le_refl _, rfl⟩
  | k + 1 => by
    obtain ⟨n, hn, e⟩ := run_at t h k
    have hr := runEnd_le t.mask (runI t.mask h k).1 (runI_le _ _ _)
    refine ⟨n + (SetTable.runEnd t.mask (runI t.mask h k).1 - (runI t.mask h k).1) + 1, by exact qfl fun x => qfa3 x hn hr.1 (by simp +arith only), adv_leap t _ h n e⟩
theorem seq_reach {t : SetTable} (hm : okMask t.mask) (h : Int) {x : Nat} (hx : x ≤ t.mask) : ∃ n, n ≤ 10 * (13 + t.mask) ∧ (seqP t h n).j = x := by
  obtain ⟨k, hk, e⟩ := runI_reach hm h hx
  obtain ⟨n, hn, e2⟩ := run_at t h k
  exact ⟨n, Nat.le_trans hn (Nat.mul_le_mul_left 10 hk), by rw [e2]; exact e⟩
theorem seq_dummy (t : SetTable) (h : Int) : ∀ n, (seqP t h n).dummy = none
  | 0 => rfl
  | n + 1 => by
    have := seq_dummy t h n
    unfold seqP SetTable.advance
    split
    · exact this
    · exact this

theorem first_free {t : SetTable} (hm : okMask t.mask) (h : Int) (P : Nat → Bool) (hx : ∃ x, x ≤ t.mask ∧ P x = false) :
    ∃ N, N ≤ 10 * (13 + t.mask) ∧ P (seqP t h N).j = false ∧ ∀ m, m < N → P (seqP t h m).j = true := by
  obtain ⟨x, hxm, hpx⟩ := hx
  obtain ⟨n, hn, e⟩ := seq_reach hm h hxm
  have : ∃ n, P (seqP t h n).j = false := ⟨n, by rw [e]; exact hpx⟩
  obtain ⟨N, hN, hmin⟩ : ∃ N, P (seqP t h N).j = false ∧ ∀ m, m < N → P (seqP t h m).j = true := by
    clear hn e hpx hxm
    obtain ⟨n, hn⟩ := this
    induction n using Nat.strongRecOn with
    | ind n ih =>
      by_cases q : ∃ m, m < n ∧ P (seqP t h m).j = false
      · obtain ⟨m, hm1, hm2⟩ := q
        exact ih m hm1 hm2
      · refine ⟨n, hn, fun m hm => ?_⟩
        cases hb : P (seqP t h m).j with
        | true => rfl
        | false => exact absurd ⟨m, hm, hb⟩ q
  refine ⟨N, ?_, hN, hmin⟩
  rcases Nat.lt_or_ge n N with hlt | hge
  · have := hmin n hlt
    rw [e, hpx] at this; cases this
  · exact Nat.le_trans hge hn

theorem below_go {xs : Array Nat} (hs : xs.toList.Pairwise (· < ·)) (j : Nat) : ∀ (fuel lo hi : Nat), hi - lo ≤ fuel → lo ≤ hi → hi ≤ xs.size →
    (∀ k, k < lo → ∀ x, xs[k]? = some x → x < j) → (∀ k, hi ≤ k → ∀ x, xs[k]? = some x → j ≤ x) →
    SetTable.below.go xs j fuel lo hi ≤ xs.size ∧ (∀ k, k < SetTable.below.go xs j fuel lo hi → ∀ x, xs[k]? = some x → x < j) ∧ (∀ k, SetTable.below.go xs j fuel lo hi ≤ k → ∀ x, xs[k]? = some x → j ≤ x)
  | 0, lo, hi, hf, hlo, hhi, h1, h2 => by
    have e : lo = hi := by exact Nat.le_antisymm (by exact hlo) (qfl fun x => qfa3 x (qfs1 (hi) (lo)) hf (by simp +arith only))
    subst e
    unfold SetTable.below.go
    exact ⟨hhi, h1, h2⟩
  | fuel + 1, lo, hi, hf, hlo, hhi, h1, h2 => by
    unfold SetTable.below.go
    by_cases hlt : lo < hi
    · rw [if_pos hlt]
      have hmid : (lo + hi) / 2 < xs.size := Nat.lt_of_lt_of_le (oMid2 hlt) hhi
      have hget : xs.getD ((lo + hi) / 2) j = xs[(lo + hi) / 2] := by simp [hmid]
      have mono : ∀ (a b x y : Nat), a < b → xs[a]? = some x → xs[b]? = some y → x < y := by
        intro a b x y hab hx hy
        obtain ⟨ha, rfl⟩ := Array.getElem?_eq_some_iff.mp hx
        obtain ⟨hb, rfl⟩ := Array.getElem?_eq_some_iff.mp hy
        have := List.pairwise_iff_getElem.mp hs a b (by simpa using ha) (by simpa using hb) hab
        simpa using this
      dsimp only
      rw [hget]
      by_cases hc : xs[(lo + hi) / 2] < j
      · rw [if_pos hc]
        refine below_go hs j fuel _ _ (oFuel hf (oLo (oMid1 hlo) hlt)) (oMid2 hlt) hhi (fun k hk x hx => ?_) h2
        rcases Nat.lt_or_ge k ((lo + hi) / 2) with h | h
        · exact Nat.lt_trans (mono k _ x _ h hx (Array.getElem?_eq_some_iff.mpr ⟨hmid, rfl⟩)) hc
        · have : k = (lo + hi) / 2 := by exact Nat.le_antisymm (Nat.le_of_lt_succ hk) h
          subst this
          rw [Array.getElem?_eq_getElem hmid] at hx
          cases hx; exact hc
      · rw [if_neg hc]
        refine below_go hs j fuel _ _ (oFuel hf (oHi (oMid1 hlo) (oMid2 hlt))) (oMid1 hlo) (by exact Nat.le_of_lt hmid) h1 (fun k hk x hx => ?_)
        rcases Nat.lt_or_ge ((lo + hi) / 2) k with h | h
        · have := mono _ k _ x h (Array.getElem?_eq_some_iff.mpr ⟨hmid, rfl⟩) hx
          exact Nat.le_of_lt (Nat.lt_of_le_of_lt (Nat.le_of_not_lt hc) this)
        · have : k = (lo + hi) / 2 := by exact Nat.le_antisymm h hk
          subst this
          rw [Array.getElem?_eq_getElem hmid] at hx
          cases hx; exact (Nat.le_of_not_lt hc)
    · rw [if_neg hlt]
      have e : lo = hi := by exact Nat.le_antisymm hlo (Nat.le_of_not_lt hlt)
      subst e
      exact ⟨hhi, h1, h2⟩

theorem below_spec {xs : Array Nat} (hs : xs.toList.Pairwise (· < ·)) (j : Nat) :
    SetTable.below xs j ≤ xs.size ∧ (∀ k, k < SetTable.below xs j → ∀ x, xs[k]? = some x → x < j) ∧ (∀ k, SetTable.below xs j ≤ k → ∀ x, xs[k]? = some x → j ≤ x) :=
  below_go hs j xs.size 0 xs.size (by exact (qfs2 (xs.size) (0) (by exact Nat.zero_le _))) (Nat.zero_le _) (Nat.le_refl _) (fun k hk => absurd hk (Nat.not_lt_zero _)) (fun k hk x hx => by
    exact absurd (Array.getElem?_eq_some_iff.mp hx).1 (Nat.not_lt.mpr hk))
theorem below_at {xs : Array Nat} (hs : xs.toList.Pairwise (· < ·)) {i j : Nat} (h : xs[i]? = some j) : SetTable.below xs j = i := by
  obtain ⟨h1, h2, h3⟩ := below_spec hs j
  obtain ⟨hi, e⟩ := Array.getElem?_eq_some_iff.mp h
  rcases Nat.lt_trichotomy (SetTable.below xs j) i with q | q | q
  · have hb : SetTable.below xs j < xs.size := by exact Nat.lt_trans q hi
    have g1 := h3 _ (Nat.le_refl _) _ (Array.getElem?_eq_getElem hb)
    have := List.pairwise_iff_getElem.mp hs (SetTable.below xs j) i (by simpa using hb) (by simpa using hi) q
    simp only [Array.getElem_toList] at this
    exact absurd (Nat.lt_of_le_of_lt g1 this) (by rw [e]; exact Nat.lt_irrefl _)
  · exact q
  · exact absurd (h2 i q j h) (Nat.lt_irrefl _)
theorem slot_live {t : SetTable} (hs : t.place.toList.Pairwise (· < ·)) {i j : Nat} (h : t.place[i]? = some j) : t.slot j = .live i := by
  unfold SetTable.slot
  rw [below_at hs h]
  simp [h]
theorem slot_empty {t : SetTable} (hs : t.place.toList.Pairwise (· < ·)) (hd : t.dummies = #[]) {j : Nat} (h : j ∉ t.place.toList) : t.slot j = .empty := by
  unfold SetTable.slot
  have h1 : ¬ (t.place[SetTable.below t.place j]? == some j) = true := fun q => by
    have q := beq_iff_eq.mp q
    exact h (by have := Array.mem_of_getElem? q; simpa using this)
  have h2 : ¬ SetTable.has t.dummies j = true := by
    rw [hd]
    unfold SetTable.has
    simp
  simp only
  rw [if_neg h1, if_neg h2]
theorem insertAt_toList {α : Type} (xs : Array α) (p : Nat) (x : α) (hp : p ≤ xs.size) : (SetTable.insertAt xs p x).toList = xs.toList.take p ++ x :: xs.toList.drop p := by
  unfold SetTable.insertAt
  simp only [Array.toList_append, Array.toList_push, Array.toList_extract, List.extract_eq_take_drop, List.append_assoc, List.cons_append, List.nil_append, List.drop_zero, Nat.sub_zero]
  rw [List.take_of_length_le (l := List.drop p xs.toList) (by rw [List.length_drop, Array.length_toList]; exact Nat.le_refl _)]
end Mine
end
section
open PySem PySem.W PySem.Calls PyProof.Rows
set_option maxRecDepth 100000
namespace Mine

theorem nodup_len {α : Type} [DecidableEq α] : ∀ {l M : List α}, l.Nodup → (∀ x ∈ l, x ∈ M) → l.length ≤ M.length
  | [], _, _, _ => Nat.zero_le _
  | a :: l, M, hn, h => by
    rw [List.nodup_cons] at hn
    have ha := h a (.head _)
    have := nodup_len (l := l) (M := M.erase a) hn.2 fun x hx => (List.mem_erase_of_ne (fun e => hn.1 (by rw [← e]; exact hx))).mpr (h x (.tail _ hx))
    rw [List.length_erase_of_mem ha] at this
    have g := List.length_pos_of_mem ha
    exact Nat.le_trans (Nat.succ_le_succ this) (Nat.le_of_eq (Nat.sub_add_cancel g))

structure TI (t : SetTable) (es : Array (Int × Value)) : Prop where
  dum : t.dummies = #[]
  size : t.place.size = es.size
  sorted : t.place.toList.Pairwise (· < ·)
  bound : ∀ j ∈ t.place.toList, j ≤ t.mask
  mask : okMask t.mask
  path : ∀ e ∈ List.zip t.place.toList es.toList, ∃ n, (seqP t e.2.1 n).j = e.1 ∧ ∀ m, m < n → (seqP t e.2.1 m).j ∈ t.place.toList

theorem TI.free {t : SetTable} {es : Array (Int × Value)} (T : TI t es) (hl : es.size * 5 < t.mask * 3) (h : Int) :
    ∃ N, N ≤ 10 * (13 + t.mask) ∧ (seqP t h N).j ∉ t.place.toList ∧ ∀ m, m < N → (seqP t h m).j ∈ t.place.toList := by
  have hx : ∃ x, x ≤ t.mask ∧ t.place.toList.contains x = false := by
    have : ¬ ∀ x, x ≤ t.mask → x ∈ t.place.toList := fun q => by
      have := nodup_len (l := List.range (t.mask + 1)) (M := t.place.toList) List.nodup_range fun x hx => q x (by have := List.mem_range.mp hx; exact Nat.le_of_lt_succ this)
      rw [List.length_range, Array.length_toList, T.size] at this
      exact qfa4 hl this this this (by simp +arith only)
    simp only [Classical.not_forall] at this
    obtain ⟨x, hx, hn⟩ := this
    exact ⟨x, hx, by simpa using hn⟩
  obtain ⟨N, h1, h2, h3⟩ := first_free T.mask h (fun j => t.place.toList.contains j) hx
  exact ⟨N, h1, by simpa using h2, fun m hm => by simpa using h3 m hm⟩

theorem zip_take' {α β : Type} : ∀ (p : Nat) (a : List α) (b : List β), List.zip (a.take p) (b.take p) = (List.zip a b).take p
  | 0, _, _ => by simp
  | p + 1, [], _ => by simp
  | p + 1, _ :: _, [] => by simp
  | p + 1, x :: a, y :: b => by simp only [List.take_succ_cons, List.zip_cons_cons]; rw [zip_take' p a b]
theorem zip_drop' {α β : Type} : ∀ (p : Nat) (a : List α) (b : List β), List.zip (a.drop p) (b.drop p) = (List.zip a b).drop p
  | 0, _, _ => by simp
  | p + 1, [], _ => by simp
  | p + 1, _ :: _, [] => by simp
  | p + 1, x :: a, y :: b => by simp only [List.drop_succ_cons, List.zip_cons_cons]; rw [zip_drop' p a b]
theorem zip_insert {α β : Type} (a : List α) (b : List β) (x : α) (y : β) (p : Nat) (h : a.length = b.length) : List.zip (a.take p ++ x :: a.drop p) (b.take p ++ y :: b.drop p) = (List.zip a b).take p ++ (x, y) :: (List.zip a b).drop p := by
  rw [List.zip_append (by rw [List.length_take, List.length_take, h]), List.zip_cons_cons, zip_take', zip_drop']

theorem seqP_j_le (t : SetTable) (h : Int) (n : Nat) : (seqP t h n).j ≤ t.mask := by
  have : ∀ n, (seqP t h n).j + (seqP t h n).more ≤ t.mask := by
    intro n
    induction n with
    | zero =>
      show SetTable.bits h % (t.mask + 1) + (SetTable.runEnd t.mask (SetTable.bits h % (t.mask + 1)) - SetTable.bits h % (t.mask + 1)) ≤ t.mask
      have h1 := Nat.mod_lt (SetTable.bits h) (show t.mask + 1 > 0 by exact Nat.le_of_ble_eq_true rfl)
      have := runEnd_le t.mask (SetTable.bits h % (t.mask + 1)) (by exact Nat.le_of_lt_succ h1)
      exact qfl fun x => qfa3 x (qfs2 (SetTable.runEnd t.mask (SetTable.bits h % (t.mask + 1))) (SetTable.bits h % (t.mask + 1)) (by exact this.2.1)) this.2.2 (by simp +arith only)
    | succ n ih =>
      show (t.advance (seqP t h n)).j + (t.advance (seqP t h n)).more ≤ t.mask
      unfold SetTable.advance
      by_cases hm : (seqP t h n).more > 0
      · rw [if_pos hm]
        show (seqP t h n).j + 1 + ((seqP t h n).more - 1) ≤ t.mask
        exact qfl fun x => qfa3 x ih (qfs2 ((seqP t h n).more) (1) (by exact hm)) (by simp +arith only)
      · rw [if_neg hm]
        show (SetTable.leap t.mask (seqP t h n).i (seqP t h n).perturb).1 + (SetTable.runEnd t.mask (SetTable.leap t.mask (seqP t h n).i (seqP t h n).perturb).1 - (SetTable.leap t.mask (seqP t h n).i (seqP t h n).perturb).1) ≤ t.mask
        have h1 : (SetTable.leap t.mask (seqP t h n).i (seqP t h n).perturb).1 ≤ t.mask := by
          show ((seqP t h n).i * 5 + 1 + (seqP t h n).perturb / 32) % (t.mask + 1) ≤ t.mask
          have := Nat.mod_lt ((seqP t h n).i * 5 + 1 + (seqP t h n).perturb / 32) (show t.mask + 1 > 0 by exact Nat.le_of_ble_eq_true rfl)
          exact Nat.le_of_lt_succ this
        have := runEnd_le t.mask _ h1
        exact qfl fun x => qfa3 x (qfs2 (SetTable.runEnd t.mask (SetTable.leap t.mask (seqP t h n).i (seqP t h n).perturb).fst) ((SetTable.leap t.mask (seqP t h n).i (seqP t h n).perturb).fst) (by exact this.2.1)) this.2.2 (by simp +arith only)
  have := this n
  exact Nat.le_trans (Nat.le_add_right _ _) this

theorem TI.put {t : SetTable} {es : Array (Int × Value)} (T : TI t es) {j : Nat} {h : Int} {x : Value} {N : Nat} (hj : (seqP t h N).j = j) (hn : j ∉ t.place.toList) (hp : ∀ m, m < N → (seqP t h m).j ∈ t.place.toList) (pl : Bool) :
    (t.put j).2 ≤ es.size ∧ TI { (t.put j).1 with plain := pl } (SetTable.insertAt es (t.put j).2 (h, x)) ∧ TI (t.put j).1 (SetTable.insertAt es (t.put j).2 (h, x)) ∧ (SetTable.insertAt es (t.put j).2 (h, x)).size = es.size + 1 := by
  obtain ⟨b1, b2, b3⟩ := below_spec T.sorted j
  have hb : SetTable.below t.place j ≤ es.size := by rw [← T.size]; exact b1
  have e1 : (t.put j).2 = SetTable.below t.place j := rfl
  have e2 : (t.put j).1.place = SetTable.insertAt t.place (SetTable.below t.place j) j := rfl
  have e3 : (t.put j).1.dummies = #[] := by
    show (if SetTable.has t.dummies j = true then _ else t.dummies) = #[]
    rw [T.dum]
    have : ¬ SetTable.has #[] j = true := by unfold SetTable.has; simp
    rw [if_neg this]
  have e4 : (t.put j).1.mask = t.mask := rfl
  have pl' := insertAt_toList t.place (SetTable.below t.place j) j b1
  have es' := insertAt_toList es (SetTable.below t.place j) (h, x) hb
  have hlen : t.place.toList.length = es.toList.length := by rw [Array.length_toList, Array.length_toList, T.size]
  have sz : (SetTable.insertAt es (SetTable.below t.place j) (h, x)).size = es.size + 1 := by
    have := congrArg List.length es'
    rw [Array.length_toList, List.length_append, List.length_cons, List.length_take, List.length_drop, Array.length_toList] at this
    exact this.trans (oIns hb)
  have sz2 : (SetTable.insertAt t.place (SetTable.below t.place j) j).size = es.size + 1 := by
    have := congrArg List.length pl'
    rw [Array.length_toList, List.length_append, List.length_cons, List.length_take, List.length_drop, Array.length_toList, T.size] at this
    exact this.trans (oIns hb)
  have srt : (SetTable.insertAt t.place (SetTable.below t.place j) j).toList.Pairwise (· < ·) := by
    rw [pl']
    refine List.pairwise_append.mpr ⟨T.sorted.sublist (List.take_sublist _ _), List.pairwise_cons.mpr ⟨fun y hy => ?_, T.sorted.sublist (List.drop_sublist _ _)⟩, fun a ha y hy => ?_⟩
    · obtain ⟨k, hk⟩ := List.mem_iff_getElem?.mp hy
      rw [List.getElem?_drop] at hk
      have h1 := b3 (SetTable.below t.place j + k) (by exact Nat.le_add_right _ _) y (by rw [← Array.getElem?_toList]; exact hk)
      have h2 : j ≠ y := fun e => hn (e ▸ List.mem_of_getElem? hk)
      exact Nat.lt_of_le_of_ne h1 h2
    · obtain ⟨k, hk⟩ := List.mem_iff_getElem?.mp ha
      have hk1 : k < SetTable.below t.place j := by
        have := (List.getElem?_eq_some_iff.mp hk).1
        rw [List.length_take] at this
        exact oMinL this
      rw [List.getElem?_take_of_lt hk1] at hk
      have haj := b2 k hk1 a (by rw [← Array.getElem?_toList]; exact hk)
      rcases List.mem_cons.mp hy with rfl | hy
      · exact haj
      · obtain ⟨k2, hk2⟩ := List.mem_iff_getElem?.mp hy
        rw [List.getElem?_drop] at hk2
        have h1 := b3 (SetTable.below t.place j + k2) (by exact Nat.le_add_right _ _) y (by rw [← Array.getElem?_toList]; exact hk2)
        exact Nat.le_trans haj h1
  have mem : ∀ a, a ∈ (SetTable.insertAt t.place (SetTable.below t.place j) j).toList ↔ a = j ∨ a ∈ t.place.toList := by
    intro a
    rw [pl']
    have := List.take_append_drop (SetTable.below t.place j) t.place.toList
    constructor
    · intro q
      rcases List.mem_append.mp q with q | q
      · exact .inr (List.mem_of_mem_take q)
      · rcases List.mem_cons.mp q with q | q
        · exact .inl q
        · exact .inr (List.mem_of_mem_drop q)
    · rintro (q | q)
      · rw [q]; exact List.mem_append_right _ (.head _)
      · rw [← this] at q
        rcases List.mem_append.mp q with q | q
        · exact List.mem_append_left _ q
        · exact List.mem_append_right _ (.tail _ q)
  have pth : ∀ (t' : SetTable), t'.mask = t.mask → t'.place = SetTable.insertAt t.place (SetTable.below t.place j) j → ∀ e ∈ List.zip t'.place.toList (SetTable.insertAt es (SetTable.below t.place j) (h, x)).toList, ∃ n, (seqP t' e.2.1 n).j = e.1 ∧ ∀ m, m < n → (seqP t' e.2.1 m).j ∈ t'.place.toList := by
    intro t' hm hpl e he
    rw [hpl, pl', es', zip_insert _ _ _ _ _ hlen] at he
    have key : e = (j, (h, x)) ∨ e ∈ List.zip t.place.toList es.toList := by
      rcases List.mem_append.mp he with q | q
      · exact .inr (List.mem_of_mem_take q)
      · rcases List.mem_cons.mp q with q | q
        · exact .inl q
        · exact .inr (List.mem_of_mem_drop q)
    have sq : ∀ h n, seqP t' h n = seqP t h n := fun h n => seqP_mask hm h n
    rcases key with rfl | key
    · refine ⟨N, by rw [sq]; exact hj, fun m hm => ?_⟩
      rw [sq, hpl, mem]; exact .inr (hp m hm)
    · obtain ⟨n, h1, h2⟩ := T.path e key
      refine ⟨n, by rw [sq]; exact h1, fun m hm => ?_⟩
      rw [sq, hpl, mem]; exact .inr (h2 m hm)
  have bnd : ∀ a ∈ (SetTable.insertAt t.place (SetTable.below t.place j) j).toList, a ≤ t.mask := by
    intro a ha
    rcases (mem a).mp ha with rfl | q
    · rw [← hj]; exact seqP_j_le t h N
    · exact T.bound a q
  refine ⟨by rw [e1]; exact hb, ⟨e3, by rw [e1]; show (t.put j).1.place.size = _; rw [e2, sz, sz2], srt, bnd, T.mask, pth _ rfl rfl⟩, ⟨e3, by rw [e1, e2, sz, sz2], srt, bnd, T.mask, pth _ rfl rfl⟩, by rw [e1]; exact sz⟩

theorem insertAt_perm' {α : Type} (xs : Array α) (p : Nat) (x : α) (hp : p ≤ xs.size) : (SetTable.insertAt xs p x).toList.Perm (x :: xs.toList) := by
  rw [insertAt_toList xs p x hp]
  refine List.perm_middle.trans (.cons _ ?_)
  rw [List.take_append_drop]
end Mine
end
section
open PySem PySem.W PySem.Calls PyProof.Rows
set_option maxRecDepth 100000
namespace Mine

noncomputable def Occ (owner : Array (Option Nat)) (j : Nat) : Prop := ∃ i, owner[j]? = some (some i)

theorem occ_iff {owner : Array (Option Nat)} {j : Nat} (hj : j < owner.size) : (owner.getD j (some 0)).isNone = true ↔ ¬ Occ owner j := by
  have e : owner.getD j (some 0) = owner[j] := by simp [hj]
  rw [e]
  unfold Occ
  rw [Array.getElem?_eq_getElem hj]
  cases owner[j] with
  | none => simp
  | some i => simp

theorem free_spec (t : SetTable) (h : Int) {owner : Array (Option Nat)} (hsz : owner.size = t.mask + 1) : ∀ (fuel k0 n0 : Nat), seqP t h n0 = startOf t (runI t.mask h k0) → (∀ m, m < n0 → Occ owner (seqP t h m).j) →
    (∃ k, k0 ≤ k ∧ k < k0 + fuel ∧ ¬ Occ owner (runI t.mask h k).1) →
    ∃ N, SetTable.layClean.free t.mask owner fuel (runI t.mask h k0).1 (runI t.mask h k0).2 = some (seqP t h N).j ∧ ¬ Occ owner (seqP t h N).j ∧ ∀ m, m < N → Occ owner (seqP t h m).j
  | 0, k0, n0, _, _, ⟨k, h1, h2, _⟩ => absurd h2 (Nat.not_lt.mpr h1)
  | fuel + 1, k0, n0, e, hocc, ⟨k, h1, h2, h3⟩ => by
    have hi := runI_le t.mask h k0
    have hr := runEnd_le t.mask _ hi
    have run := adv_run t _ h n0 e
    unfold SetTable.layClean.free
    cases hf : (List.range (SetTable.runEnd t.mask (runI t.mask h k0).1 + 1 - (runI t.mask h k0).1)).find? fun r => (owner.getD ((runI t.mask h k0).1 + r) (some 0)).isNone with
    | some r =>
      have hf' := List.find?_range_eq_some.mp hf
      have hrlt : r < SetTable.runEnd t.mask (runI t.mask h k0).1 + 1 - (runI t.mask h k0).1 := List.mem_range.mp hf'.2.1
      have hj : (seqP t h (n0 + r)).j = (runI t.mask h k0).1 + r := by rw [run r (by exact qfl fun x => qfa4 x hrlt (qfs2 (SetTable.runEnd t.mask (runI t.mask h k0).fst + 1) ((runI t.mask h k0).fst) (by exact Nat.le_succ_of_le hr.2.1)) (qfs1 (SetTable.runEnd t.mask (runI t.mask h k0).fst) ((runI t.mask h k0).fst)) (by simp +arith only))]
      refine ⟨n0 + r, by rw [hj], ?_, fun m hm => ?_⟩
      · rw [hj]; exact (occ_iff (by exact qft fun x => qfa5 x (qfs2 (SetTable.runEnd t.mask (runI t.mask h k0).fst + 1) ((runI t.mask h k0).fst) (by exact Nat.le_succ_of_le hr.2.1)) hrlt hr.2.2 (qfg hsz) (by simp +arith only))).mp hf'.1
      · rcases Nat.lt_or_ge m n0 with q | q
        · exact hocc m q
        · obtain ⟨r', rfl⟩ : ∃ r', m = n0 + r' := ⟨m - n0, by exact (Nat.add_sub_cancel' q).symm⟩
          have hr' : r' < r := by exact Nat.le_of_add_le_add_left hm
          have := hf'.2.2 r' hr'
          rw [run r' (by exact qfl fun x => qfa5 x hm hrlt (qfs2 (SetTable.runEnd t.mask (runI t.mask h k0).fst + 1) ((runI t.mask h k0).fst) (qfl fun x => qfa2 x hr.2.1 (by simp +arith only))) (qfs1 (SetTable.runEnd t.mask (runI t.mask h k0).fst) ((runI t.mask h k0).fst)) (by simp +arith only))]
          show Occ owner ((runI t.mask h k0).1 + r')
          cases Classical.em (Occ owner ((runI t.mask h k0).1 + r')) with
          | inl q => exact q
          | inr q =>
            have z := (occ_iff (owner := owner) (j := (runI t.mask h k0).1 + r') (Nat.lt_of_lt_of_eq (Nat.lt_of_lt_of_le (Nat.lt_trans (Nat.add_lt_add_left hr' _) (oAdd hrlt)) (Nat.succ_le_succ hr.2.2)) hsz.symm)).mpr q
            rw [z] at this
            cases this
    | none =>
      have hf' := List.find?_range_eq_none.mp hf
      have all : ∀ r, r ≤ SetTable.runEnd t.mask (runI t.mask h k0).1 - (runI t.mask h k0).1 → Occ owner ((runI t.mask h k0).1 + r) := by
        intro r hr'
        have := hf' r (by exact qft fun x => qfa4 x hr' (qfs2 (SetTable.runEnd t.mask (runI t.mask h k0).fst) ((runI t.mask h k0).fst) (qfl fun x => qfa2 x hr.2.1 (by simp +arith only))) (qfs1 (SetTable.runEnd t.mask (runI t.mask h k0).fst + 1) ((runI t.mask h k0).fst)) (by simp +arith only))
        cases Classical.em (Occ owner ((runI t.mask h k0).1 + r)) with
        | inl q => exact q
        | inr q =>
          have z := (occ_iff (owner := owner) (j := (runI t.mask h k0).1 + r) (by exact qft fun x => qfa5 x (qfs2 (SetTable.runEnd t.mask (runI t.mask h k0).fst) ((runI t.mask h k0).fst) (qfl fun x => qfa2 x hr.2.1 (by simp +arith only))) hr' hr.2.2 (qfg hsz) (by simp +arith only))).mpr q
          rw [z] at this
          cases this
      have e' := adv_leap t _ h n0 e
      refine free_spec t h hsz fuel (k0 + 1) _ e' (fun m hm => ?_) ⟨k, ?_, by exact qft fun x => qfa2 x h2 (by simp +arith only), h3⟩
      · rcases Nat.lt_or_ge m n0 with q | q
        · exact hocc m q
        · obtain ⟨r', rfl⟩ : ∃ r', m = n0 + r' := ⟨m - n0, by exact Nat.le_antisymm (qfl fun x => qfa2 x (qfs1 (m) (n0)) (by simp +arith only)) (qfl fun x => qfa2 x (qfs2 (m) (n0) (qfl fun x => qfa2 x q (by simp +arith only))) (by simp +arith only))⟩
          rw [run r' (by exact qfl fun x => qfa2 x hm (by simp +arith only))]
          exact all r' (by exact qfl fun x => qfa2 x hm (by simp +arith only))
      · rcases Nat.lt_or_ge k0 k with q | q
        · exact q
        · have : k = k0 := by exact Nat.le_antisymm (qfl fun x => qfa2 x q (by simp +arith only)) (qfl fun x => qfa2 x h1 (by simp +arith only))
          subst this
          exact absurd (by have := all 0 (Nat.zero_le _); simpa using this) h3

structure LI (t : SetTable) (hs : List Int) (owner : Array (Option Nat)) (k : Nat) : Prop where
  size : owner.size = t.mask + 1
  lt : ∀ (j i : Nat), owner[j]? = some (some i) → i < k
  has : ∀ i, i < k → ∃ j : Nat, owner[j]? = some (some i)
  one : ∀ (j j' i : Nat), owner[j]? = some (some i) → owner[j']? = some (some i) → j = j'
  path : ∀ (j i : Nat) (h : Int), owner[j]? = some (some i) → hs[i]? = some h → ∃ n, (seqP t h n).j = j ∧ ∀ m, m < n → Occ owner (seqP t h m).j

theorem LI.occ {t : SetTable} {hs : List Int} {owner : Array (Option Nat)} {k : Nat} (L : LI t hs owner k) (hk : k ≤ t.mask) : ∃ x, x ≤ t.mask ∧ ¬ Occ owner x := by
  refine Classical.byContradiction fun q => ?_
  have all : ∀ x, x ≤ t.mask → Occ owner x := fun x hx => Classical.byContradiction fun z => q ⟨x, hx, z⟩
  have f : ∀ x, ∃ i, x ≤ t.mask → owner[x]? = some (some i) := fun x => by
    by_cases hx : x ≤ t.mask
    · obtain ⟨i, hi⟩ := all x hx; exact ⟨i, fun _ => hi⟩
    · exact ⟨0, fun h => absurd h hx⟩
  let g := fun x => Classical.choose (f x)
  have hg : ∀ x, x ≤ t.mask → owner[x]? = some (some (g x)) := fun x hx => Classical.choose_spec (f x) hx
  have hn : ((List.range (t.mask + 1)).map g).Nodup := by
    refine List.pairwise_map.mpr ?_
    refine (List.nodup_range (n := t.mask + 1)).imp_of_mem fun {a b} ha hb hab e => hab ?_
    have ha := List.mem_range.mp ha
    have hb := List.mem_range.mp hb
    refine L.one a b (g a) (hg a (by exact Nat.le_of_lt_succ ha)) ?_
    rw [e]; exact hg b (by exact Nat.le_of_lt_succ hb)
  have := nodup_len (M := List.range k) hn fun y hy => by
    obtain ⟨x, hx, rfl⟩ := List.mem_map.mp hy
    have hx := List.mem_range.mp hx
    exact List.mem_range.mpr (L.lt x _ (hg x (by exact Nat.le_of_lt_succ hx)))
  rw [List.length_map, List.length_range, List.length_range] at this
  exact qfa2 this hk (by simp +arith only)

theorem lay_step {t : SetTable} (hm : okMask t.mask) {hs : List Int} {owner : Array (Option Nat)} {k : Nat} (L : LI t hs owner k) (hk : k ≤ t.mask) {h : Int} (hh : hs[k]? = some h) :
    ∃ j, SetTable.layClean.free t.mask owner (SetTable.turns t.mask) (SetTable.bits h % (t.mask + 1)) (SetTable.bits h) = some j ∧ LI t hs (owner.setIfInBounds j (some k)) (k + 1) := by
  obtain ⟨x, hx, hxo⟩ := L.occ hk
  obtain ⟨kr, hkr, ekr⟩ := runI_reach hm h hx
  obtain ⟨N, h1, h2, h3⟩ := free_spec t h L.size (SetTable.turns t.mask) 0 0 rfl (fun m hm => absurd hm (Nat.not_lt_zero _)) ⟨kr, Nat.zero_le _, by unfold SetTable.turns; exact qft fun x => qfa2 x hkr (by simp +arith only), by rw [ekr]; exact hxo⟩
  refine ⟨_, h1, ?_⟩
  generalize hj : (seqP t h N).j = j at *
  have hjm : j ≤ t.mask := by rw [← hj]; exact seqP_j_le t h N
  have get : ∀ a : Nat, (owner.setIfInBounds j (some k))[a]? = if a = j then some (some k) else owner[a]? := by
    intro a
    rw [Array.getElem?_setIfInBounds]
    by_cases e : j = a
    · rw [if_pos e, if_pos e.symm, if_pos (by have := L.size; exact Nat.lt_of_le_of_lt hjm (qfg this))]
    · rw [if_neg e, if_neg (fun q => e q.symm)]
  have occ' : ∀ a, Occ owner a → Occ (owner.setIfInBounds j (some k)) a := by
    rintro a ⟨i, hi⟩
    by_cases e : a = j
    · exact ⟨k, by rw [get, if_pos e]⟩
    · exact ⟨i, by rw [get, if_neg e]; exact hi⟩
  refine ⟨by rw [Array.size_setIfInBounds]; exact L.size, fun a i hi => ?_, fun i hi => ?_, fun a a' i ha ha' => ?_, fun a i h' ha hh' => ?_⟩
  · rw [get] at hi
    by_cases e : a = j
    · rw [if_pos e] at hi; cases hi; exact Nat.le_refl _
    · rw [if_neg e] at hi
      have := L.lt a i hi; exact Nat.le_succ_of_le this
  · rcases Nat.lt_or_ge i k with q | q
    · obtain ⟨a, ha⟩ := L.has i q
      refine ⟨a, ?_⟩
      rw [get, if_neg (fun e => h2 (by rw [← e]; exact ⟨i, ha⟩))]
      exact ha
    · have : i = k := by exact Nat.le_antisymm (qfl fun x => qfa2 x hi (by simp +arith only)) (qfl fun x => qfa2 x q (by simp +arith only))
      subst this
      exact ⟨j, by rw [get, if_pos rfl]⟩
  · rw [get] at ha ha'
    by_cases e : a = j
    · by_cases e' : a' = j
      · rw [e, e']
      · rw [if_pos e] at ha; rw [if_neg e'] at ha'
        cases ha
        have := L.lt _ _ ha'; lia
    · by_cases e' : a' = j
      · rw [if_neg e] at ha; rw [if_pos e'] at ha'
        cases ha'
        have := L.lt _ _ ha; lia
      · rw [if_neg e] at ha; rw [if_neg e'] at ha'
        exact L.one a a' i ha ha'
  · rw [get] at ha
    by_cases e : a = j
    · rw [if_pos e] at ha
      cases ha
      rw [hh] at hh'
      cases hh'
      exact ⟨N, by rw [hj, e], fun m hm => occ' _ (h3 m hm)⟩
    · rw [if_neg e] at ha
      obtain ⟨n, e1, e2⟩ := L.path a i h' ha hh'
      exact ⟨n, e1, fun m hm => occ' _ (e2 m hm)⟩

theorem lay_all {t : SetTable} (hm : okMask t.mask) (hs : List Int) : ∀ (todo : List Int) (owner : Array (Option Nat)) (k : Nat), LI t hs owner k → hs.drop k = todo → k + todo.length ≤ t.mask →
    ∃ owner', (todo.foldl (fun (acc : Option (Array (Option Nat) × Nat)) h => do
      let (owner, k) ← acc
      let j ← SetTable.layClean.free t.mask owner (SetTable.turns t.mask) (SetTable.bits h % (t.mask + 1)) (SetTable.bits h)
      pure (owner.setIfInBounds j (some k), k + 1)) (some (owner, k))) = some (owner', k + todo.length) ∧ LI t hs owner' (k + todo.length)
  | [], owner, k, L, _, _ => ⟨owner, rfl, L⟩
  | h :: todo, owner, k, L, hd, hl => by
    have hh : hs[k]? = some h := by
      have := congrArg (·[0]?) hd
      simpa [List.getElem?_drop] using this
    have hd' : hs.drop (k + 1) = todo := by
      have := congrArg List.tail hd
      rw [List.tail_drop] at this
      exact this
    simp -iota only [List.length_cons] at hl
    obtain ⟨j, e, L'⟩ := lay_step hm L (by exact Nat.le_trans (Nat.le_add_right _ _) hl) hh
    obtain ⟨owner', e', L''⟩ := lay_all hm hs todo _ _ L' hd' (by exact Nat.le_trans (Nat.le_of_eq (Nat.add_right_comm _ _ _)) hl)
    refine ⟨owner', ?_, by rw [List.length_cons, show k + (todo.length + 1) = k + 1 + todo.length by exact (Nat.succ_add _ _).symm]; exact L''⟩
    rw [List.foldl_cons, List.length_cons, show k + (todo.length + 1) = k + 1 + todo.length by exact (Nat.succ_add _ _).symm, ← e']
    congr 1
    show (SetTable.layClean.free t.mask owner (SetTable.turns t.mask) (SetTable.bits h % (t.mask + 1)) (SetTable.bits h)).bind _ = _
    rw [e]
    rfl

theorem layClean_ok {t : SetTable} (hm : okMask t.mask) (hashes : Array Int) (hl : hashes.size ≤ t.mask) : ∃ owner, SetTable.layClean t.mask hashes = some owner ∧ LI t hashes.toList owner hashes.size := by
  have L0 : LI t hashes.toList (Array.replicate (t.mask + 1) none) 0 := by
    refine ⟨by simp, fun j i h => ?_, fun i h => absurd h (Nat.not_lt_zero _), fun j j' i h _ => ?_, fun j i h h' _ => ?_⟩
    · rw [Array.getElem?_replicate] at h; split at h <;> cases h
    · rw [Array.getElem?_replicate] at h; split at h <;> cases h
    · rw [Array.getElem?_replicate] at h'; split at h' <;> cases h'
  obtain ⟨owner, e, L⟩ := lay_all hm hashes.toList hashes.toList _ 0 L0 rfl (by rw [Array.length_toList]; exact (by exact Nat.le_trans (Nat.le_of_eq (Nat.add_comm _ _)) hl))
  refine ⟨owner, ?_, by rw [Array.length_toList, Nat.zero_add] at L; exact L⟩
  unfold SetTable.layClean
  rw [← Array.foldl_toList]
  rw [e]
  rfl
end Mine
end
section
open PySem PySem.W PySem.Calls PyProof.Rows
set_option maxRecDepth 100000
namespace Mine

noncomputable def liveOf (m : Nat) (owner : Array (Option Nat)) : List (Nat × Nat) := (List.range (m + 1)).filterMap fun j => (owner.getD j none).map (j, ·)

theorem live_mem {m : Nat} {owner : Array (Option Nat)} (hs : owner.size = m + 1) {j i : Nat} : (j, i) ∈ liveOf m owner ↔ owner[j]? = some (some i) := by
  unfold liveOf
  rw [List.mem_filterMap]
  constructor
  · rintro ⟨a, ha, e⟩
    obtain ⟨b, hb, e2⟩ := Option.map_eq_some_iff.mp e
    cases e2
    have ha := List.mem_range.mp ha
    have : owner.getD j none = owner[j]'(by exact Nat.le_trans ha (qfg hs)) := by simp [show j < owner.size by exact Nat.le_trans ha (qfg hs)]
    rw [this] at hb
    rw [Array.getElem?_eq_getElem (by exact Nat.le_trans ha (qfg hs)), hb]
  · intro h
    obtain ⟨hj, e⟩ := Array.getElem?_eq_some_iff.mp h
    refine ⟨j, List.mem_range.mpr (by exact Nat.le_trans hj (Nat.le_of_eq hs)), ?_⟩
    have : owner.getD j none = owner[j] := by simp [hj]
    rw [this, e]; rfl

theorem live_fst (m : Nat) (owner : Array (Option Nat)) : (liveOf m owner).map (·.1) = (List.range (m + 1)).filter fun j => (owner.getD j none).isSome := by
  unfold liveOf
  induction List.range (m + 1) with
  | nil => rfl
  | cons a l ih =>
    rw [List.filterMap_cons, List.filter_cons]
    cases h : owner.getD a none with
    | none => simpa using ih
    | some b => simpa using ih

theorem live_sorted (m : Nat) (owner : Array (Option Nat)) : ((liveOf m owner).map (·.1)).Pairwise (· < ·) := by
  rw [live_fst]
  exact (List.pairwise_lt_range).sublist List.filter_sublist

theorem live_perm {t : SetTable} {hs : List Int} {owner : Array (Option Nat)} {k : Nat} (L : LI t hs owner k) : ((liveOf t.mask owner).map (·.2)).Perm (List.range k) := by
  refine (List.perm_ext_iff_of_nodup ?_ List.nodup_range).mpr fun i => ?_
  · have h1 : (liveOf t.mask owner).Pairwise fun a b => a.1 ≠ b.1 := List.pairwise_map.mp ((live_sorted t.mask owner).imp fun h => Nat.ne_of_lt h)
    refine List.pairwise_map.mpr (h1.imp_of_mem fun {a b} ha hb hab e => hab ?_)
    exact L.one a.1 b.1 a.2 ((live_mem L.size).mp ha) (by rw [e]; exact (live_mem L.size).mp hb)
  · rw [List.mem_range, List.mem_map]
    constructor
    · rintro ⟨q, hq, rfl⟩
      exact L.lt q.1 q.2 ((live_mem L.size).mp hq)
    · intro hi
      obtain ⟨j, hj⟩ := L.has i hi
      exact ⟨(j, i), (live_mem L.size).mpr hj, rfl⟩

theorem filterMap_all {α β : Type} (f : α → Option β) (g : α → β) : ∀ l : List α, (∀ a ∈ l, f a = some (g a)) → l.filterMap f = l.map g
  | [], _ => rfl
  | a :: l, h => by
    rw [List.filterMap_cons, h a (.head _), List.map_cons, filterMap_all f g l fun b hb => h b (.tail _ hb)]

theorem relaid_ok {t : SetTable} {es : Array (Int × Value)} {wanted : Nat} (hm : okMask (SetTable.sizeAbove wanted - 1)) (hl : es.size ≤ SetTable.sizeAbove wanted - 1) :
    ∃ t' order, t.relaid (es.map (·.1)) wanted = some (t', order) ∧ TI t' (order.filterMap (es[·]?)) ∧ (order.filterMap (es[·]?)).toList.Perm es.toList ∧ t'.led = t.led ∧ t'.plain = t.plain ∧ t'.finger = t.finger ∧ t'.mask = SetTable.sizeAbove wanted - 1 := by
  generalize hmm : SetTable.sizeAbove wanted - 1 = m at hm hl
  let t0 : SetTable := { t with mask := m }
  have hsz : (es.map (·.1)).size = es.size := Array.size_map
  obtain ⟨owner, e, L⟩ := layClean_ok (t := t0) hm (es.map (·.1)) (by rw [hsz]; exact hl)
  rw [hsz] at L
  refine ⟨{ mask := m, place := ((liveOf m owner).map (·.1)).toArray, dummies := #[], finger := t.finger, led := t.led, moves := t.movedTo m, plain := t.plain }, ((liveOf m owner).map (·.2)).toArray, ?_, ?_, ?_, rfl, rfl, rfl, rfl⟩
  · unfold SetTable.relaid SetTable.laid
    rw [hmm]
    have e' : SetTable.layClean m (es.map (·.1)) = some owner := e
    rw [e']
    rfl
  all_goals
    have hall : ∀ q ∈ liveOf m owner, q.2 < es.size := fun q hq => L.lt q.1 q.2 ((live_mem L.size).mp hq)
    have hfm : ((liveOf m owner).map (·.2)).filterMap (es[·]?) = (liveOf m owner).map fun q => (es[q.2]?).getD (0, .none) := by
      rw [List.filterMap_map]
      exact filterMap_all _ _ _ fun q hq => by
        show es[q.2]? = some ((es[q.2]?).getD (0, .none))
        rw [Array.getElem?_eq_getElem (hall q hq)]; rfl
    have htl : (((liveOf m owner).map (·.2)).toArray.filterMap (es[·]?)).toList = (liveOf m owner).map fun q => (es[q.2]?).getD (0, .none) := by
      rw [Array.toList_filterMap]
      exact hfm
  · refine ⟨rfl, ?_, live_sorted m owner, fun j hj => ?_, hm, fun x hx => ?_⟩
    · have := congrArg List.length htl
      rw [Array.length_toList, List.length_map] at this
      rw [this]
      show ((liveOf m owner).map (·.1)).toArray.size = _
      rw [List.size_toArray, List.length_map]
    · have hj : j ∈ (liveOf m owner).map (·.1) := hj
      rw [live_fst] at hj
      have := List.mem_range.mp (List.mem_filter.mp hj).1
      show j ≤ m
      exact Nat.le_of_lt_succ this
    · rw [htl] at hx
      have hx : x ∈ List.zip ((liveOf m owner).map (·.1)) ((liveOf m owner).map fun q => (es[q.2]?).getD (0, .none)) := hx
      rw [List.zip_map', List.mem_map] at hx
      obtain ⟨q, hq, rfl⟩ := hx
      have ho := (live_mem L.size).mp hq
      have hq2 := hall q hq
      have hget : (es[q.2]?).getD (0, .none) = es[q.2] := by rw [Array.getElem?_eq_getElem hq2]; rfl
      obtain ⟨n, h1, h2⟩ := L.path q.1 q.2 (es[q.2]).1 ho (by simp [hq2])
      have sq : ∀ h n, seqP ({ mask := m, place := ((liveOf m owner).map (·.1)).toArray, dummies := #[], finger := t.finger, led := t.led, moves := t.movedTo m, plain := t.plain } : SetTable) h n = seqP t0 h n   := fun h n => seqP_mask (show m = t0.mask from rfl) h n
      refine ⟨n, ?_, fun m' hm' => ?_⟩
      · show (seqP _ ((es[q.2]?).getD (0, .none)).1 n).j = q.1
        rw [hget, sq]; exact h1
      · show (seqP _ ((es[q.2]?).getD (0, .none)).1 m').j ∈ (liveOf m owner).map (·.1)
        rw [hget, sq]
        obtain ⟨i, hi⟩ := h2 m' hm'
        exact List.mem_map.mpr ⟨(_, i), (live_mem L.size).mpr hi, rfl⟩
  · rw [Array.toList_filterMap]
    show List.Perm (((liveOf m owner).map (·.2)).filterMap (es[·]?)) _
    refine ((live_perm L).filterMap _).trans ?_
    rw [filterMap_getElem?_range]
end Mine
end
section
open PySem PySem.W PySem.Calls PyProof.Rows PySem.Spec
set_option maxRecDepth 100000
namespace Mine

noncomputable def wayD (w : Way) : PyData := .tuple (w.map .str)
noncomputable def pairD (p : Way × Int) : PyData := .tuple [wayD p.1, .int p.2]

theorem eqvAll_strs : ∀ a b : List Str, PyData.eqvAll (a.map .str) (b.map .str) = decide (a = b)
  | [], [] => by simp [PyData.eqvAll]
  | [], _ :: _ => by simp [PyData.eqvAll]
  | _ :: _, [] => by simp [PyData.eqvAll]
  | x :: a, y :: b => by
    simp only [List.map_cons, PyData.eqvAll, PyData.eqv, eqvAll_strs a b, List.cons.injEq]
    by_cases h : x = y <;> simp [h]
theorem eqv_way (a b : Way) : PyData.eqv (wayD a) (wayD b) = decide (a = b) := by
  unfold wayD
  rw [PyData.eqv, eqvAll_strs]
theorem eqv_pair (a b : Way × Int) : PyData.eqv (pairD a) (pairD b) = decide (a = b) := by
  obtain ⟨a1, a2⟩ := a
  obtain ⟨b1, b2⟩ := b
  unfold pairD
  simp only [PyData.eqv, PyData.eqvAll, eqv_way, Bool.and_true, Prod.mk.injEq]
  by_cases h : a1 = b1 <;> by_cases h2 : a2 = b2 <;> simp [h, h2]

theorem reads_strs {h : Heap} : ∀ {us : List Value} {way : Way}, WayV us way → ReadsAll h us (way.map .str) [] := fun w => WayV.ind (P := fun us way => ReadsAll h us (way.map .str) []) .nil (fun _ _ _ _ ih => ReadsAll.cons (as := []) (bs := []) (.str _ _) ih) w
theorem reads_way {h : Heap} {q : Addr} {us : List Value} {way : Way} (hq : h.get? q = some (tupO us)) (hw : WayV us way) : Reads h (.ref q) (wayD way) [] :=
  .tuple hq rfl rfl (reads_strs hw)
theorem reads_pair {h : Heap} {a q : Addr} {us : List Value} {way : Way} {f : Int} {tk : Tok} (ha : h.get? a = some (tupO [.ref q, .int f tk])) (hq : h.get? q = some (tupO us)) (hw : WayV us way) : Reads h (.ref a) (pairD (way, f)) [] :=
  .tuple ha rfl rfl (ReadsAll.cons (as := []) (bs := []) (reads_way hq hw) (ReadsAll.cons (as := []) (bs := []) (.int _ _) .nil))

noncomputable def Okw (way : Way) : Prop := ∀ k ∈ way, PyData.strOk k = true
theorem canLay_strs : ∀ way : Way, Okw way → PyData.canLayAll0 (way.map .str) = true
  | [], _ => rfl
  | k :: way, h => by
    simp only [List.map_cons, PyData.canLayAll0, PyData.canLay0, canLay_strs way fun x hx => h x (.tail _ hx), h k (.head _), Bool.and_self]
theorem depth_strs : ∀ way : Way, PyData.depthAll (way.map .str) = 0
  | [] => rfl
  | k :: way => by simp [PyData.depthAll, PyData.depth, depth_strs way]
theorem shaped_way {way : Way} (h : Okw way) : SeqAt.shaped (wayD way) = true := by
  unfold SeqAt.shaped wayD
  simp [PyData.canLay0, canLay_strs way h, PyData.depth, depth_strs]
theorem shaped_pair {p : Way × Int} (h : Okw p.1) : SeqAt.shaped (pairD p) = true := by
  unfold SeqAt.shaped pairD wayD
  simp [PyData.canLay0, PyData.canLayAll0, canLay_strs p.1 h, PyData.depth, PyData.depthAll, depth_strs]

noncomputable def PairAt (h : Heap) (v : Value) (p : Way × Int) : Prop := ∃ a q us tk, v = .ref a ∧ h.get? a = some (tupO [.ref q, .int p.2 tk]) ∧ h.get? q = some (tupO us) ∧ WayV us p.1 ∧ Okw p.1 ∧ p.1 ≠ []
theorem PairAt.reads {h : Heap} {v : Value} {p : Way × Int} (x : PairAt h v p) : Reads h v (pairD p) [] := by
  obtain ⟨a, q, us, tk, rfl, ha, hq, hw, _, _⟩ := x
  exact reads_pair ha hq hw
theorem PairAt.inj {h : Heap} {v : Value} {p p' : Way × Int} (x : PairAt h v p) (y : PairAt h v p') : p = p' := by
  obtain ⟨a, q, us, tk, rfl, ha, hq, hw, _, _⟩ := x
  obtain ⟨a', q', us', tk', e, ha', hq', hw', _, _⟩ := y
  cases e
  rw [ha] at ha'
  have := (Obj.mk.injEq .. ▸ Option.some.inj ha').2.2.1
  simp at this
  obtain ⟨rfl, e1, _⟩ := this
  rw [hq] at hq'
  have := (Obj.mk.injEq .. ▸ Option.some.inj hq').2.2.1
  simp at this
  subst this
  unfold WayV at hw hw'
  have : p.1.map some = p'.1.map some := hw.symm.trans hw'
  have : p.1 = p'.1 := by
    have := congrArg (List.filterMap id) this
    simpa using this
  exact Prod.ext this e1

section
variable {prog : Program} {w : World} {A : Around} {E : Value → Shared → Prop} {s : Shared}

theorem eqBool_pair {x y : Value} {p p' : Way × Int} {Q : Bool → Shared → Prop} (hu : A.units + 64 < cLine) (hx : PairAt s.heap x p) (hy : PairAt s.heap y p') (h : Q (decide (p = p')) s) : wpAny (model prog w) A (eqBool x y) Q E s := by
  have okx : Okw p.1 := by obtain ⟨_, _, _, _, _, _, _, _, o, _⟩ := hx; exact o
  have oky : Okw p'.1 := by obtain ⟨_, _, _, _, _, _, _, _, o, _⟩ := hy; exact o
  have := SeqAt.eqAt_reads (pairD p) (pairD p') A s x y [] [] hx.reads hy.reads (SeqAt.canLay_of_shaped (shaped_pair okx)) (SeqAt.canLay_of_shaped (shaped_pair oky)) (SeqAt.room_of_shaped (shaped_pair okx) hu)
  refine this prog w E Q ?_
  rw [eqv_pair]
  exact h

noncomputable def pairHash (prog : Program) (w : World) (p : Way × Int) : Int := reduceHash (Builtin.Tuple.tupleHashOf [tupleKeyHash (strKind prog w) p.1, hashInt p.2])

theorem itemsAre_way : ∀ {us : List Value} {way : Way}, WayV us way → ItemsAre (strKind prog w) way us := fun h => WayV.ind (P := fun us way => ItemsAre (strKind prog w) way us) .nil (fun _ _ _ _ ih => .cons (strKind_is prog w _ _) ih) h
theorem tupKey {h : Heap} {q : Addr} {us : List Value} {way : Way} (hq : h.get? q = some (tupO us)) (hw : WayV us way) : IsTupleKey (strKind prog w) h way q := ⟨_, us.toArray, 0, hq, rfl, rfl, by simpa using itemsAre_way hw⟩

theorem pyHash_pair {x : Value} {p : Way × Int} {Q : Int → Shared → Prop} (hu : A.units + 8 < cLine) (hx : PairAt s.heap x p) (h : ∀ tk, Q (pairHash prog w p) { s with toks := tk }) : wpAny (model prog w) A (pyHash x) Q E s := by
  obtain ⟨a, q, us, tk, rfl, ha, hq, hw, _, _⟩ := hx
  have hT : s.TypeIs (.ref a) "tuple" := ⟨_, ha, rfl⟩
  unfold pyHash
  first | unfold pyHashByItsType | skip
  first | refine wpAny_bind (wpAny_cRoomFor_or (.inr (by exact Nat.lt_of_le_of_lt (Nat.le_add_right _ _) hu)) ?_) | skip
  refine wpAny_bind (wpAny_specialOf hT F.slot_tuple_hash.lookup ?_)
  show wpAny _ _ (if (some (Value.builtin "tuple.__hash__") == some Value.none) = true then _ else _) Q E s
  rw [if_neg (by rw [beq_builtin_none]; exact Bool.false_ne_true)]
  refine wpAny_bind (wpAny_specialOf hT F.slot_tuple_hash.lookup ?_)
  show wpAny _ _ (callSpecialIfBoundUnlessNone? (.ref a) "__hash__" _ >>= _) Q E s
  refine wpAny_bind (wpAny_callSpecialIfBoundUnlessNone?_slot hT F.slot_tuple_hash (wpAny_call_entry F.slot_tuple_hash hT F.entry_tuple_hash ?_ (F.args_tuple_hash_1 _)))
  show wpAny _ _ (Builtin.Tuple.tupleItemsOf (.ref a) >>= _) _ _ s
  refine wpAny_bind (wpAny_tupleItemsOf ha rfl ?_)
  refine wpAny_bind ?_
  rw [← Array.forIn_toList]
  show wpAny _ _ (forIn [Value.ref q, Value.int p.2 tk] _ _) _ _ s
  refine wpAny_forIn_list _ (fun rest (b : Array Int) s' => ∃ n, s' = { s with toks := n } ∧ ((rest = [Value.ref q, Value.int p.2 tk] ∧ b = #[]) ∨ (rest = [Value.int p.2 tk] ∧ b = #[tupleKeyHash (strKind prog w) p.1]) ∨ (rest = [] ∧ b = #[tupleKeyHash (strKind prog w) p.1, hashInt p.2]))) _ ?_ ?_ _ _ ⟨s.toks, rfl, .inl ⟨rfl, rfl⟩⟩
  · rintro x rest b s' ⟨n, rfl, ⟨e, rfl⟩ | ⟨e, rfl⟩ | ⟨e, _⟩⟩
    · cases e
      refine wpAny_bind (wpAny_pyHash_tuple ?_ (tupKey (h := s.heap) hq hw) ?_)
      · show A.units + 1 < cLine
        exact qft fun x => qfa2 x hu (by simp +arith only)
      exact wpAny_bind (wpAny_pure (wpAny_pure ⟨_, rfl, .inr (.inl ⟨rfl, rfl⟩)⟩))
    · cases e
      refine wpAny_bind (wpAny_pyHash_int ?_)
      exact wpAny_bind (wpAny_pure (wpAny_pure ⟨_, rfl, .inr (.inr ⟨rfl, rfl⟩)⟩))
    · cases e
  · rintro b s' ⟨n, rfl, ⟨e, _⟩ | ⟨e, _⟩ | ⟨_, rfl⟩⟩
    · cases e
    · cases e
    show wpAny _ _ (retInt (Builtin.Tuple.tupleHashOf [tupleKeyHash (strKind prog w) p.1, hashInt p.2])) _ _ _
    refine wpAny_ret_mkInt ?_
    show wpAny _ _ (if (decide (-(2 : Int) ^ 63 ≤ Builtin.Tuple.tupleHashOf [tupleKeyHash (strKind prog w) p.1, hashInt p.2]) && decide (Builtin.Tuple.tupleHashOf [tupleKeyHash (strKind prog w) p.1, hashInt p.2] < 2 ^ 63)) = true then _ else _) Q E _
    unfold pairHash reduceHash at h
    by_cases hr : (decide (-(2 : Int) ^ 63 ≤ Builtin.Tuple.tupleHashOf [tupleKeyHash (strKind prog w) p.1, hashInt p.2]) && decide (Builtin.Tuple.tupleHashOf [tupleKeyHash (strKind prog w) p.1, hashInt p.2] < 2 ^ 63)) = true
    · rw [if_pos hr]
      rw [if_pos hr] at h
      exact wpAny_pure (h _)
    · rw [if_neg hr]
      rw [if_neg hr] at h
      exact wpAny_bind (wpAny_rule (wpAny_pure (h _)))
end
end Mine
end
section
open PySem PySem.W PySem.Calls PyProof.Rows PySem.Spec
set_option maxRecDepth 100000
namespace Mine

theorem reads_ways {h : Heap} : ∀ {us : List Value} {ways : List Way}, (∀ (i : Nat) (v : Value), us[i]? = some v → ∃ x, ways[i]? = some x ∧ ∃ q xs, v = .ref q ∧ h.get? q = some (tupO xs) ∧ WayV xs x) → us.length = ways.length → ReadsAll h us (ways.map wayD) []
  | [], [], _, _ => .nil
  | [], _ :: _, _, e => by cases e
  | _ :: _, [], _, e => by cases e
  | v :: us, x :: ways, k, e => by
    obtain ⟨x', hx, q, xs, rfl, hq, hw⟩ := k 0 v rfl
    cases hx
    exact ReadsAll.cons (as := []) (bs := []) (reads_way hq hw) (reads_ways (fun i v hv => k (i + 1) v (by simpa using hv)) (by simpa using e))

section
variable {prog : Program} {w : World} {A : Around} {E : Value → Shared → Prop} {env env2 : Env} {ns : List Str} {h₀ : Heap} {vs : List (Option Value)} {l : Lg} {s₀ s : Shared}
  {K : Frag} {p : Program} {loose : List Str} {mean : ExcName → Option Value} {mg mb : Str → Option Value} {d u : Nat}

theorem g_eqway {a b : Addr} {us ws : List Value} {x y : Way} {Q : Value → Shared → Prop} (st : S env ns h₀ vs l s₀ s) (ha : (a, tupO us) ∈ l) (hb : (b, tupO ws) ∈ l) (hx : WayV us x) (hy : WayV ws y) (ox : Okw x) (oy : Okw y) (hu : A.units + 64 < cLine)
    (h : Q (.bool (decide (x = y))) s) : wpAny (model prog w) A (compareOp .Eq (.ref a) (.ref b)) Q E s :=
  SeqAt.compareEq_shaped (reads_way (st.at ha) hx) (reads_way (st.at hb) hy) (shaped_way ox) (shaped_way oy) hu (by rw [eqv_way]; exact h)
theorem g_neway {a b : Addr} {us ws : List Value} {x y : Way} {Q : Value → Shared → Prop} (st : S env ns h₀ vs l s₀ s) (ha : (a, tupO us) ∈ l) (hb : (b, tupO ws) ∈ l) (hx : WayV us x) (hy : WayV ws y) (ox : Okw x) (oy : Okw y) (hu : A.units + 64 < cLine)
    (h : Q (.bool (!decide (x = y))) s) : wpAny (model prog w) A (compareOp .NotEq (.ref a) (.ref b)) Q E s :=
  SeqAt.compareNe_shaped (reads_way (st.at ha) hx) (reads_way (st.at hb) hy) (shaped_way ox) (shaped_way oy) hu (by rw [eqv_way]; exact h)

theorem shaped_ways {ways : List Way} (h : ∀ x ∈ ways, Okw x) : SeqAt.shaped (.list (ways.map wayD)) = true := by
  have h1 : PyData.canLayAll0 (ways.map wayD) = true := by
    induction ways with
    | nil => rfl
    | cons x r ih =>
      simp only [List.map_cons, PyData.canLayAll0, ih fun y hy => h y (.tail _ hy), Bool.and_true]
      unfold wayD
      simp only [PyData.canLay0, canLay_strs x (h x (.head _))]
  have h2 : PyData.depthAll (ways.map wayD) ≤ 1 := by
    clear h h1
    induction ways with
    | nil => exact Nat.zero_le _
    | cons x r ih =>
      simp only [List.map_cons, PyData.depthAll]
      unfold wayD at ih ⊢
      simp only [PyData.depth, depth_strs] at ih ⊢
      lia
  unfold SeqAt.shaped
  simp only [PyData.canLay0, h1, PyData.depth, Bool.true_and]
  exact decide_eq_true (by exact Nat.lt_of_le_of_lt h2 (Nat.le_of_ble_eq_true rfl))
theorem g_nenil {a b : Addr} {us : List Value} {n m : Nat} {ways : List Way} {Q : Value → Shared → Prop} (st : S env ns h₀ vs l s₀ s) (ha : (a, listO us n) ∈ l) (hb : (b, listO [] m) ∈ l)
    (hw : ∀ (i : Nat) (v : Value), us[i]? = some v → ∃ x, ways[i]? = some x ∧ ∃ q xs, v = .ref q ∧ (q, tupO xs) ∈ l ∧ WayV xs x) (hlen : us.length = ways.length) (ho : ∀ x ∈ ways, Okw x) (hu : A.units + 64 < cLine)
    (h : Q (.bool (!ways.isEmpty)) s) : wpAny (model prog w) A (compareOp .NotEq (.ref a) (.ref b)) Q E s := by
  have r1 : Reads s.heap (.ref a) (.list (ways.map wayD)) [a] := .list (st.at ha) rfl rfl (reads_ways (fun i v hv => by
    obtain ⟨x, e, q, xs, e2, hq, r⟩ := hw i v hv
    exact ⟨x, e, q, xs, e2, st.at hq, r⟩) hlen)
  have r2 : Reads s.heap (.ref b) (.list []) [b] := .list (st.at hb) rfl rfl .nil
  refine SeqAt.compareNe_shaped r1 r2 (shaped_ways ho) rfl hu ?_
  have e : PyData.eqv (.list (ways.map wayD)) (.list []) = ways.isEmpty := by
    cases ways <;> simp [PyData.eqv, PyData.eqvAll]
  rw [e]
  exact h

theorem g_sorted2 {a : Addr} {x y : Int} {t1 t2 : Tok} {n : Nat} {Q : Value → Shared → Prop} (st : S env ns h₀ vs l s₀ s) (ha : (a, listO [.int x t1, .int y t2] n) ∈ l)
    (h : ∀ D us k s', IntsAre us (if x ≤ y then [x, y] else [y, x]) → S env ns h₀ vs ((D, listO us k) :: l) s₀ s' → Q (.ref D) s') : wpAny (model prog w) A (call (.builtin "sorted") [.ref a]) Q E s := by
  refine kso_sorted st.fr st.nw (st.list ha) (ns := [x, y]) (.cons x t1 (.cons y t2 .nil)) (by show 2 < 64; decide) fun D vs' ns' c h' F N hlt hi hl hp hs _ => ?_
  have e : ns' = if x ≤ y then [x, y] else [y, x] := by
    match ns', hl, hp, hs with
    | [p, q], _, hp, hs =>
      have hpq : p ≤ q := by
        rw [List.pairwise_cons] at hs
        exact hs.1 q (.head _)
      have hm : p ∈ [x, y] := hp.mem_iff.mp (.head _)
      have hsum : [p, q].Perm [x, y] := hp
      by_cases hxy : x ≤ y
      · rw [if_pos hxy]
        rcases List.mem_cons.mp hm with rfl | hm
        · have := (List.perm_cons p).mp hsum
          rw [List.perm_singleton.mp this]
        · have hm : p = y := by simpa using hm
          subst hm
          have := (List.perm_cons p).mp (hsum.trans (List.Perm.swap p x []))
          have e2 : q = x := by simpa using List.perm_singleton.mp this
          subst e2
          have : q = p := Int.le_antisymm hxy hpq
          subst this; rfl
      · rw [if_neg hxy]
        rcases List.mem_cons.mp hm with rfl | hm
        · have := (List.perm_cons p).mp hsum
          have e2 : q = y := by simpa using List.perm_singleton.mp this
          subst e2
          exact absurd hpq hxy
        · have hm : p = y := by simpa using hm
          subst hm
          have := (List.perm_cons p).mp (hsum.trans (List.Perm.swap p x []))
          rw [List.perm_singleton.mp this]
  refine h D vs' c _ (e ▸ hi) (st.toH F N ?_)
  rw [List.map_cons, List.nodup_cons]
  refine ⟨fun q => ?_, st.nd⟩
  obtain ⟨y', hy', e'⟩ := List.mem_map.mp q
  exact absurd e' (Nat.ne_of_lt (hlt y' hy'))

theorem g_eqints {a b : Addr} {us ws : List Value} {n m : Nat} {xs ys : List Int} {Q : Value → Shared → Prop} (st : S env ns h₀ vs l s₀ s) (ha : (a, listO us n) ∈ l) (hb : (b, listO ws m) ∈ l) (hi : IntsAre us xs) (hj : IntsAre ws ys) (hu : A.units + 64 < cLine)
    (h : Q (.bool (decide (xs = ys))) s) : wpAny (model prog w) A (compareOp .Eq (.ref a) (.ref b)) Q E s := eq_intsK (st.list ha) hi (st.list hb) hj hu h

theorem g_lentup {a : Addr} {us : List Value} {Q : Value → Shared → Prop} (st : S env ns h₀ vs l s₀ s) (ha : (a, tupO us) ∈ l) (hz : us.length ≤ sizeLine)
    (h : ∀ t s', S env ns h₀ vs l s₀ s' → Q (.int us.length t) s') : wpAny (model prog w) A (call (.builtin "len") [.ref a]) Q E s :=
  len_tuple (st.tup ha) (by rw [List.size_toArray]; rw [sizeLine_eq] at hz; lia) (by rw [List.size_toArray]; exact h _ _ (st.tok _))
theorem g_lenlist {a : Addr} {us : List Value} {n : Nat} {Q : Value → Shared → Prop} (st : S env ns h₀ vs l s₀ s) (ha : (a, listO us n) ∈ l) (hz : us.length ≤ sizeLine)
    (h : ∀ t s', S env ns h₀ vs l s₀ s' → Q (.int us.length t) s') : wpAny (model prog w) A (call (.builtin "len") [.ref a]) Q E s :=
  len_list (st.list ha) (by rw [List.size_toArray]; rw [sizeLine_eq] at hz; lia) (by rw [List.size_toArray]; exact h _ _ (st.tok _))

theorem g_lappend_meth {a : Addr} {us : List Value} {n : Nat} {pl : Sem Bool} {Q : Value × List Value → Shared → Prop} (st : S env ns h₀ vs l s₀ s) (ha : (a, listO us n) ∈ l)
    (h : Q (.builtin "list.append", [.ref a]) s) : wpAny (model prog w) A (getMethod (.ref a) "append" pl) Q E s :=
  listMethod_K (its := us.toArray) (n := n) st.nw ha PySem.F.slot_list_append PySem.F.type_list_append h

theorem g_isAnd {values : List Expr} {pos : Pos} {whole : Sem Value} {Q : Bool → Shared → Prop} (h : wpAny (model prog w) A (allTrue .And values env2) Q E s) : wpAny (model prog w) A (isTrue (.BoolOp .And values pos) env2 whole) Q E s := wpAny_isTrue_BoolOp h
theorem g_all0 {Q : Bool → Shared → Prop} (h : Q true s) : wpAny (model prog w) A (allTrue .And [] env2) Q E s := wpAny_allTrue_And_nil h
theorem g_all {x : Expr} {rest : List Expr} {Q : Bool → Shared → Prop} (h : wpAny (model prog w) A (isTrue x env2 (eval x env2)) (fun b s₁ => if b then wpAny (model prog w) A (allTrue .And rest env2) Q E s₁ else Q false s₁) E s) : wpAny (model prog w) A (allTrue .And (x :: rest) env2) Q E s := wpAny_allTrue_And_cons h
end
end Mine
end
section
open PySem PySem.W PySem.Calls PyProof.Rows PySem.Spec
set_option maxRecDepth 100000
namespace Mine
section
variable {prog : Program} {w : World} {A : Around} {E : Value → Shared → Prop} {env env2 : Env} {ns : List Str} {h₀ : Heap} {vs : List (Option Value)} {l : Lg} {s₀ s : Shared}

theorem w_extend_meth {a : Addr} {us : List Value} {n : Nat} {pl : Sem Bool} {Q : Value × List Value → Shared → Prop} (st : S env ns h₀ vs l s₀ s) (ha : (a, listO us n) ∈ l)
    (h : Q (.builtin "list.extend", [.ref a]) s) : W (model prog w) A (getMethod (.ref a) "extend" pl) Q E s :=
  .mk (listMethod_K (its := us.toArray) (n := n) st.nw ha PySem.F.slot_list_extend PySem.F.type_list_extend h)
theorem w_extend {D b : Addr} {us ws : List Value} {n m : Nat} {l' : Obj → Lg} {Q : Value → Shared → Prop} (st : S env ns h₀ vs l s₀ s) (U : ∀ o', UpdL D (listO us n) o' l (l' o')) (hb : (b, listO ws m) ∈ l) (hz : us.length + ws.length ≤ 1000000)
    (h : ∀ n' s', S env ns h₀ vs (l' (listO (us ++ ws) n')) s₀ s' → Q .none s') : W (model prog w) A (call (.builtin "list.extend") [.ref D, .ref b]) Q E s := by
  have ho := st.at (U (listO us n)).mem
  have hsl : sizeLine = 2 ^ 24 := rfl
  refine .mk (call_meets PySem.F.slot_list_extend ⟨_, ho, rfl⟩ PySem.F.entry_list_extend (PySem.F.args_list_extend_2 _ _) (PySem.AutoSeq1.list_extend_list_list_0 D us.toArray n b ws.toArray m ?_ ?_ ?_) ⟨ho, st.at hb, ?_⟩)
  · unfold Builtin.List.listTooLong
    simp
    intros
    lia
  · simp; lia
  · simp; lia
  · have hs := Heap.SameBut.update s.heap D (Obj.mapSeq fun x => x ++ ws.toArray)
    have hg := Heap.get?_update_self (Obj.mapSeq fun x => x ++ ws.toArray) ho rfl
    obtain ⟨n', hn'⟩ : ∃ n', (listO us n).mapSeq (fun x => x ++ ws.toArray) = listO (us ++ ws) n' := by
      refine ⟨if ws = [] then n else n + 1, ?_⟩
      by_cases hws : ws = []
      · subst hws; simp [Obj.mapSeq]
      · simp [Obj.mapSeq, hws]
    exact h n' _ (st.upd (U _) hs (hg.trans (by rw [hn'])))

theorem w_assignC {x : Str} {pos' pos : Pos} {value : Expr} {Q : Flow → Shared → Prop}
    (h : W (model prog w) A (eval value env2) (fun v s₁ => W (model prog w) A (storeName env2 x v) (fun _ => Q .next) E s₁) E s)
    (hs : autoParam (swapsWith value (some (.Name x pos')) pos.line env2 = pure false) tRfl) : W (model prog w) A (exec (.Assign [.Name x pos'] value pos) env2) Q E s := by
  with_unfolding_all exact wpAny_Assign_Name h hs

theorem w_notin_ways {t a : Addr} {us xs : List Value} {n : Nat} {x : Way} {ways : List Way} {Q : Value → Shared → Prop} (st : S env ns h₀ vs l s₀ s) (ht : (t, listO us n) ∈ l) (ha : (a, tupO xs) ∈ l) (hx : WayV xs x) (ox : Okw x) (hu : A.units + 66 < cLine)
    (hw : ∀ (i : Nat) (v : Value), us[i]? = some v → ∃ y, ways[i]? = some y ∧ ∃ q zs, v = .ref q ∧ (q, tupO zs) ∈ l ∧ WayV zs y ∧ Okw y) (hlen : us.length = ways.length)
    (h : Q (.bool (!decide (x ∈ ways))) s) : W (model prog w) A (compareOp .NotIn (.ref a) (.ref t)) Q E s := by
  have key : ∀ v, v ∈ us.toArray → ∃ y, y ∈ ways ∧ ∃ q zs, v = .ref q ∧ (q, tupO zs) ∈ l ∧ WayV zs y ∧ Okw y := fun v hv => by
    obtain ⟨i, hi⟩ := List.mem_iff_getElem?.mp (by simpa using hv : v ∈ us)
    obtain ⟨y, hy, r⟩ := hw i v hi
    exact ⟨y, List.mem_of_getElem? hy, r⟩
  let e : Value → Bool := fun v => match v with | .ref q => (match s.heap.get? q with | some o => (match o.data with | .seq zs _ => decide (zs.toList.map strOf = x.map some) | _ => false) | none => false) | _ => false
  have he : ∀ v, v ∈ us.toArray → ∀ y q zs, v = .ref q → (q, tupO zs) ∈ l → WayV zs y → e v = decide (y = x) := by
    rintro v _ y q zs rfl hq hz
    show (match s.heap.get? q with | some o => (match o.data with | .seq zs _ => decide (zs.toList.map strOf = x.map some) | _ => false) | none => false) = _
    rw [st.at hq]
    show decide (zs.map strOf = x.map some) = _
    unfold WayV at hz
    rw [hz]
    have : (y.map some = x.map some) ↔ y = x := ⟨fun q => by
      have := congrArg (List.filterMap id) q
      simpa using this, fun q => by rw [q]⟩
    simp only [this]
  refine .mk (SeqAt.notIn_listAt e (st.list ht) (fun v hv => ?_) ?_)
  · obtain ⟨y, hy, q, zs, rfl, hq, hz, oz⟩ := key v hv
    rw [he _ hv y q zs rfl hq hz]
    have := SeqAt.eqAt_reads (wayD y) (wayD x) A.in1 s (.ref q) (.ref a) [] [] (reads_way (st.at hq) hz) (reads_way (st.at ha) hx) (SeqAt.canLay_of_shaped (shaped_way oz)) (SeqAt.canLay_of_shaped (shaped_way ox)) (SeqAt.room_of_shaped (shaped_way oz) (by show A.units + 1 + 64 < cLine; exact Nat.le_of_lt hu))
    rw [eqv_way] at this
    exact this
  · have e2 : us.toArray.any e = decide (x ∈ ways) := by
      rw [Bool.eq_iff_iff, Array.any_eq_true', decide_eq_true_eq]
      constructor
      · rintro ⟨v, hv, hev⟩
        obtain ⟨y, hy, q, zs, e1, hq, hz, _⟩ := key v hv
        rw [he _ hv y q zs e1 hq hz, decide_eq_true_eq] at hev
        exact hev ▸ hy
      · intro hxm
        obtain ⟨i, hi⟩ := List.mem_iff_getElem?.mp hxm
        have hlt : i < us.length := by rw [hlen]; exact (List.getElem?_eq_some_iff.mp hi).1
        obtain ⟨y, hy, q, zs, e1, hq, hz, _⟩ := hw i us[i] (List.getElem?_eq_getElem hlt)
        rw [hi] at hy
        cases hy
        have hv : us[i] ∈ us.toArray := by simp
        exact ⟨us[i], hv, by rw [he _ hv x q zs e1 hq hz]; simp⟩
    rw [e2]
    exact h
end
end Mine
end
section
open PySem PySem.W PySem.Calls PyProof.Rows
set_option maxRecDepth 100000
namespace Mine

noncomputable def modN (w : Way) (g : Nd → Nd) (ns : List (Way × Nd)) : List (Way × Nd) := ns.map fun p => if p.1 = w then (p.1, g p.2) else p
noncomputable def FO.mod (F : FO) (w : Way) (g : Nd → Nd) : FO := { F with nodes := modN w g F.nodes }
noncomputable def FO.setDict (F : FO) (w : Way) (o' : Obj) : FO := if w = [] then { F with oroot := o' } else F.mod w fun x => { x with ond := o' }
noncomputable def FO.add (F : FO) (v : Way) (x : Nd) : FO := { F with nodes := (v, x) :: F.nodes }

theorem modN_keys (w : Way) (g : Nd → Nd) (ns : List (Way × Nd)) : (modN w g ns).map (·.1) = ns.map (·.1) := by
  unfold modN
  rw [List.map_map]
  apply List.map_congr_left
  intro p _
  show (if p.1 = w then (p.1, g p.2) else p).1 = p.1
  split <;> rfl
theorem look_modN (w : Way) (g : Nd → Nd) (v : Way) : ∀ ns : List (Way × Nd), (((modN w g ns).find? fun p => decide (p.1 = v)).map (·.2)) = if v = w then ((ns.find? fun p => decide (p.1 = v)).map (·.2)).map g else (ns.find? fun p => decide (p.1 = v)).map (·.2)
  | [] => by simp [modN]
  | p :: ns => by
    have ih := look_modN w g v ns
    unfold modN at ih ⊢
    rw [List.map_cons, List.find?_cons, List.find?_cons]
    by_cases h1 : p.1 = w
    · rw [if_pos h1]
      by_cases h2 : p.1 = v
      · have : v = w := h2.symm.trans h1
        simp [h2, this]
      · have : ¬ v = w := fun e => h2 (h1.trans e.symm)
        simp -iota only [decide_eq_false h2]
        exact ih
    · rw [if_neg h1]
      by_cases h2 : p.1 = v
      · have : ¬ v = w := fun e => h1 (h2.trans e)
        simp [h2, this]
      · simp -iota only [decide_eq_false h2]
        exact ih
theorem FO.look_mod (F : FO) (w : Way) (g : Nd → Nd) (v : Way) : (F.mod w g).look v = if v = w then (F.look v).map g else F.look v := look_modN w g v F.nodes
theorem FO.look_setDict (F : FO) (w : Way) (o' : Obj) (v : Way) : (F.setDict w o').look v = if v = w ∧ w ≠ [] then (F.look v).map fun x => { x with ond := o' } else F.look v := by
  unfold FO.setDict
  by_cases h : w = []
  · rw [if_pos h, if_neg (fun q => q.2 h)]; rfl
  · rw [if_neg h, FO.look_mod]
    by_cases e : v = w
    · rw [if_pos e, if_pos ⟨e, h⟩]
    · rw [if_neg e, if_neg (fun q => e q.1)]
theorem FO.look_add (F : FO) (v : Way) (x : Nd) (u : Way) : (F.add v x).look u = if u = v then some x else F.look u := by
  unfold FO.add FO.look
  simp -iota only [List.find?_cons]
  by_cases h : v = u
  · simp [h]
  · have h' : ¬ u = v := fun e => h e.symm
    simp [h, h']
theorem FO.setDict_keys (F : FO) (w : Way) (o' : Obj) : (F.setDict w o').nodes.map (·.1) = F.nodes.map (·.1) := by
  unfold FO.setDict
  split
  · rfl
  · exact modN_keys w (fun x => { x with ond := o' }) F.nodes
theorem modN_out (w : Way) (g : Nd → Nd) : ∀ ns : List (Way × Nd), w ∉ ns.map (·.1) → modN w g ns = ns
  | [], _ => rfl
  | p :: ns, h => by
    rw [List.map_cons, List.mem_cons, not_or] at h
    have ih := modN_out w g ns h.2
    unfold modN at ih ⊢
    rw [List.map_cons, if_neg (fun e => h.1 e.symm), ih]
theorem modN_upd {w : Way} {g : Nd → Nd} {d : Addr} {o o' : Obj} {x : Nd} (u : UpdL d o o' x.cells (g x).cells) : ∀ {ns : List (Way × Nd)}, (ns.map (·.1)).Nodup → (w, x) ∈ ns → UpdL d o o' (ns.flatMap fun p => p.2.cells) ((modN w g ns).flatMap fun p => p.2.cells)
  | [], _, h => by cases h
  | p :: ns, hn, h => by
    rw [List.map_cons, List.nodup_cons] at hn
    rcases List.mem_cons.mp h with e | h
    · subst e
      have e : modN w g ((w, x) :: ns) = (w, g x) :: ns := by
        have := modN_out w g ns hn.1
        unfold modN at this ⊢
        rw [List.map_cons, if_pos rfl, this]
      rw [e]
      exact .left u
    · have hne : ¬ p.1 = w := fun e => hn.1 (List.mem_map.mpr ⟨(w, x), h, e.symm⟩)
      have e : modN w g (p :: ns) = p :: modN w g ns := by
        unfold modN
        rw [List.map_cons, if_neg hne]
      rw [e]
      exact .app (modN_upd u hn.2 h)
theorem FO.mod_upd {F : FO} {w : Way} {g : Nd → Nd} {d : Addr} {o o' : Obj} {x : Nd} (hk : (F.nodes.map (·.1)).Nodup) (hx : F.look w = some x) (u : UpdL d o o' x.cells (g x).cells) : UpdL d o o' F.cells (F.mod w g).cells :=
  .tail (.tail (.tail (.tail (modN_upd u hk (FO.look_mem hx)))))
theorem FO.setDict_upd {F : FO} {w : Way} {a : Addr} {o o' : Obj} (hk : (F.nodes.map (·.1)).Nodup) (h : F.dictAt w = some (a, o)) : UpdL a o o' F.cells (F.setDict w o').cells := by
  unfold FO.dictAt at h
  unfold FO.setDict
  by_cases hw : w = []
  · rw [if_pos hw] at h
    rw [if_pos hw]
    cases h
    exact .tail (.tail .head)
  · rw [if_neg hw] at h
    rw [if_neg hw]
    obtain ⟨x, hx, e⟩ := Option.map_eq_some_iff.mp h
    cases e
    exact FO.mod_upd hk hx (.tail (.tail (.tail .head)))
theorem FO.add_cells (F : FO) (v : Way) (x : Nd) : (x.cells ++ F.cells).Perm (F.add v x).cells := by
  show List.Perm (x.cells ++ (_ :: _ :: _ :: _ :: F.nodes.flatMap _)) (_ :: _ :: _ :: _ :: (x.cells ++ F.nodes.flatMap _))
  refine List.perm_middle.trans (.cons _ ?_)
  refine List.perm_middle.trans (.cons _ ?_)
  refine List.perm_middle.trans (.cons _ ?_)
  exact List.perm_middle

theorem append_one_inj {α : Type} {v w : List α} {k k' : α} (h : v ++ [k] = w ++ [k']) : v = w ∧ k = k' := by
  have := List.append_inj' h rfl
  exact ⟨this.1, by have := this.2; simpa using this⟩

theorem valueAt_stored (kvs : List (Str × Value)) (k : Str) (v : Value) (z : Str) : valueAt (stored kvs k v) z = if z = k then some v else valueAt kvs z := by
  unfold stored
  by_cases h : (kvs.any fun kv => decide (kv.1 = k)) = true
  · rw [if_pos h]
    unfold valueAt
    induction kvs with
    | nil => simp at h
    | cons p kvs ih =>
      rw [List.map_cons, List.find?_cons, List.find?_cons]
      by_cases h1 : p.1 = k
      · rw [if_pos h1]
        by_cases h2 : p.1 = z
        · have : z = k := h2.symm.trans h1
          simp [h2, this]
        · have hz : ¬ z = k := fun e => h2 (h1.trans e.symm)
          simp -iota only [decide_eq_false h2]
          rw [if_neg hz]
          by_cases h3 : (kvs.any fun kv => decide (kv.1 = k)) = true
          · have := ih h3
            rw [if_neg hz] at this
            exact this
          · have hno : ∀ q ∈ kvs, ¬ q.1 = k := fun q hq e => h3 (List.any_eq_true.mpr ⟨q, hq, decide_eq_true e⟩)
            have : kvs.map (fun kv => if kv.1 = k then (kv.1, v) else kv) = kvs := by
              conv => rhs; rw [← List.map_id kvs]
              exact List.map_congr_left fun q hq => by rw [if_neg (hno q hq)]; rfl
            rw [this]
      · rw [if_neg h1]
        have h' : (kvs.any fun kv => decide (kv.1 = k)) = true := by
          rw [List.any_cons, decide_eq_false h1, Bool.false_or] at h
          exact h
        by_cases h2 : p.1 = z
        · have : ¬ z = k := fun e => h1 (h2.trans e)
          simp [h2, this]
        · simp -iota only [decide_eq_false h2]
          exact ih h'
  · rw [if_neg h]
    have hno : ∀ q ∈ kvs, ¬ q.1 = k := fun q hq e => h (List.any_eq_true.mpr ⟨q, hq, decide_eq_true e⟩)
    unfold valueAt
    rw [List.find?_append]
    by_cases hz : z = k
    · subst hz
      have : kvs.find? (fun kv => decide (kv.1 = z)) = none := List.find?_eq_none.mpr fun q hq => by simpa using hno q hq
      rw [this, if_pos rfl]
      simp
    · rw [if_neg hz]
      cases kvs.find? (fun kv => decide (kv.1 = z)) with
      | some q => rfl
      | none =>
        have : ¬ k = z := fun e => hz e.symm
        simp [this]
theorem valueAt_without (kvs : List (Str × Value)) (k : Str) (z : Str) : valueAt (without kvs k) z = if z = k then none else valueAt kvs z := by
  unfold without valueAt
  induction kvs with
  | nil => simp
  | cons p kvs ih =>
    rw [List.filter_cons]
    by_cases h1 : p.1 = k
    · rw [if_neg (by simp [h1])]
      rw [ih, List.find?_cons]
      by_cases hz : z = k
      · rw [if_pos hz, if_pos hz]
      · rw [if_neg hz, if_neg hz]
        have : ¬ p.1 = z := fun e => hz (e.symm.trans h1)
        simp [this]
    · rw [if_pos (by simp [h1]), List.find?_cons, List.find?_cons]
      by_cases h2 : p.1 = z
      · have : ¬ z = k := fun e => h1 (h2.trans e)
        simp [h2, this]
      · simp -iota only [decide_eq_false h2]
        exact ih

noncomputable def ensure (τ : AbsT) (v : Way) : AbsT := fun u => if u = v then some ((τ v).getD (fun _ => false, fun _ => false)) else τ u

theorem setDict_dictAt {F : FO} {w : Way} {o' : Obj} {v : Way} {a : Addr} {o : Obj} (h : (F.setDict w o').dictAt v = some (a, o)) : ∃ o₁, F.dictAt v = some (a, o₁) ∧ (if v = w then o = o' else o = o₁) := by
  unfold FO.dictAt at h ⊢
  by_cases hv : v = []
  · rw [if_pos hv] at h ⊢
    unfold FO.setDict at h
    by_cases hw : w = []
    · rw [if_pos hw] at h
      cases h
      exact ⟨_, rfl, by rw [if_pos (hv.trans hw.symm)]⟩
    · rw [if_neg hw] at h
      cases h
      exact ⟨_, rfl, by rw [if_neg (fun e => hw (e.symm.trans hv))]; rfl⟩
  · rw [if_neg hv] at h ⊢
    rw [FO.look_setDict] at h
    by_cases e : v = w ∧ w ≠ []
    · rw [if_pos e, Option.map_map] at h
      obtain ⟨x, hx, e'⟩ := Option.map_eq_some_iff.mp h
      cases e'
      exact ⟨x.ond, by rw [hx]; rfl, by rw [if_pos e.1]⟩
    · rw [if_neg e] at h
      exact ⟨o, h, by rw [if_neg (fun q => e ⟨q, fun z => hv (q.trans z)⟩)]⟩

theorem Is_grow {prog : Program} {w : World} {M : List Str} {F : FO} {τ : AbsT} {v : Way} {k : Str} {a : Addr} {o o' : Obj} {x : Nd} {kvs : List (Str × Value)} (H : F.Is prog w M τ)
    (hd : F.dictAt v = some (a, o)) (hn : F.look (v ++ [k]) = none) (hm : ∀ z ∈ v ++ [k], z ∈ M) (hkv : ∀ z y, valueAt kvs z = some y ↔ ∃ q, F.look (v ++ [z]) = some q ∧ y = .ref q.n)
    (ho : o'.IsDictOf (strKind prog w) (stored kvs k (.ref x.n)))
    (hx1 : x.on.IsDictOf (strKind prog w) [("flags", .ref x.fl), ("recursive_flags", .ref x.rc), ("nested", .ref x.nd)]) (hx2 : IS prog w x.ofl fun _ => false) (hx3 : IS prog w x.orc fun _ => false) (hx4 : x.ond.IsDictOf (strKind prog w) [])
    (hx5 : (x.n == sysModules) = false) (hx6 : (x.nd == sysModules) = false) :
    ((F.setDict v o').add (v ++ [k]) x).Is prog w M (ensure τ (v ++ [k])) := by
  have hnm : v ++ [k] ∉ F.nodes.map (·.1) := fun h => by
    obtain ⟨p, hp, e⟩ := List.mem_map.mp h
    have := FO.look_of_mem H.keys (v := v ++ [k]) (x := p.2) (by rw [← e]; exact hp)
    rw [hn] at this; cases this
  have look : ∀ u, ((F.setDict v o').add (v ++ [k]) x).look u = if u = v ++ [k] then some x else (F.look u).map fun y => if u = v then { y with ond := o' } else y := by
    intro u
    rw [FO.look_add]
    by_cases e : u = v ++ [k]
    · rw [if_pos e, if_pos e]
    · rw [if_neg e, if_neg e, FO.look_setDict]
      by_cases e2 : u = v ∧ v ≠ []
      · rw [if_pos e2]; simp [e2.1]
      · rw [if_neg e2]
        by_cases e3 : u = v
        · have hv : v = [] := by
            by_cases q : v = []
            · exact q
            · exact absurd ⟨e3, q⟩ e2
          have : F.look u = none := by
            cases q : F.look u with
            | none => rfl
            | some y => exact absurd (e3.trans hv) (H.nonil _ (FO.look_mem q))
          rw [this]; rfl
        · simp [e3]
  have lookn : ∀ u, (((F.setDict v o').add (v ++ [k]) x).look u).map (·.n) = if u = v ++ [k] then some x.n else (F.look u).map (·.n) := by
    intro u
    rw [look]
    by_cases e : u = v ++ [k]
    · rw [if_pos e, if_pos e]; rfl
    · rw [if_neg e, if_neg e, Option.map_map]
      congr 1
      funext y
      show (if u = v then { y with ond := o' } else y).n = y.n
      split <;> rfl
  have mem : ∀ p ∈ ((F.setDict v o').add (v ++ [k]) x).nodes, p = (v ++ [k], x) ∨ ∃ y, F.look p.1 = some y ∧ p.2 = if p.1 = v then { y with ond := o' } else y := by
    intro p hp
    have hkeys : (((F.setDict v o').add (v ++ [k]) x).nodes.map (·.1)).Nodup := by
      show (((v ++ [k], x) :: (F.setDict v o').nodes).map (·.1)).Nodup
      rw [List.map_cons, FO.setDict_keys, List.nodup_cons]
      exact ⟨hnm, H.keys⟩
    have := FO.look_of_mem hkeys (v := p.1) (x := p.2) hp
    rw [look] at this
    by_cases e : p.1 = v ++ [k]
    · rw [if_pos e] at this
      left
      exact Prod.ext e (Option.some.inj this).symm
    · rw [if_neg e] at this
      right
      obtain ⟨y, hy, e'⟩ := Option.map_eq_some_iff.mp this
      exact ⟨y, hy, e'.symm⟩
  have dict : ∀ u a₁ o₁, ((F.setDict v o').add (v ++ [k]) x).dictAt u = some (a₁, o₁) → (u = v ++ [k] ∧ a₁ = x.nd ∧ o₁ = x.ond) ∨ (u ≠ v ++ [k] ∧ ∃ o₂, F.dictAt u = some (a₁, o₂) ∧ if u = v then o₁ = o' else o₁ = o₂) := by
    intro u a₁ o₁ h
    by_cases e : u = v ++ [k]
    · left
      unfold FO.dictAt at h
      rw [if_neg (by rw [e]; simp), FO.look_add, if_pos e] at h
      cases h
      exact ⟨e, rfl, rfl⟩
    · right
      refine ⟨e, setDict_dictAt (F := F) (w := v) ?_⟩
      unfold FO.dictAt at h ⊢
      rw [FO.look_add, if_neg e] at h
      exact h
  refine ⟨?_, ?_, ?_, ?_, ?_, ?_, ?_, ?_, ?_, ?_, ?_⟩
  · have e1 : ((F.setDict v o').add (v ++ [k]) x).ofd = F.ofd ∧ ((F.setDict v o').add (v ++ [k]) x).root = F.root ∧ ((F.setDict v o').add (v ++ [k]) x).pd = F.pd := by
      unfold FO.add FO.setDict
      split <;> exact ⟨rfl, rfl, rfl⟩
    rw [e1.1, e1.2.1, e1.2.2]
    exact H.fd
  · intro u a₁ o₁ h
    rcases dict u a₁ o₁ h with ⟨_, rfl, _⟩ | ⟨_, o₂, h2, _⟩
    · exact hx6
    · exact H.low _ _ _ h2
  · show (((v ++ [k], x) :: (F.setDict v o').nodes).map (·.1)).Nodup
    rw [List.map_cons, FO.setDict_keys, List.nodup_cons]
    exact ⟨hnm, H.keys⟩
  · intro p hp
    rcases mem p hp with rfl | ⟨y, hy, _⟩
    · simp
    · exact H.nonil (p.1, y) (FO.look_mem hy)
  · intro p hp
    rcases mem p hp with rfl | ⟨y, hy, _⟩
    · exact hm
    · exact H.menu (p.1, y) (FO.look_mem hy)
  · intro p hp
    rcases mem p hp with rfl | ⟨y, hy, e⟩
    · exact hx1
    · rw [e]
      have := H.node_at hy
      split <;> exact this
  · intro p hp
    rcases mem p hp with rfl | ⟨y, hy, e⟩
    · exact hx5
    · rw [e]
      have := H.nlow _ (FO.look_mem hy)
      split <;> exact this
  · intro p hp
    rcases mem p hp with rfl | ⟨y, hy, e⟩
    · refine ⟨_, _, ?_, hx2, hx3⟩
      unfold ensure
      rw [if_pos rfl, H.gone _ hn]; rfl
    · obtain ⟨X, Y, h1, h2, h3⟩ := H.flags_at hy
      have hne : p.1 ≠ v ++ [k] := fun q => by rw [q, hn] at hy; cases hy
      refine ⟨X, Y, ?_, ?_, ?_⟩
      · unfold ensure
        rw [if_neg hne]; exact h1
      · rw [e]; split <;> exact h2
      · rw [e]; split <;> exact h3
  · intro u hu
    rw [look] at hu
    by_cases e : u = v ++ [k]
    · rw [if_pos e] at hu; cases hu
    · rw [if_neg e] at hu
      unfold ensure
      rw [if_neg e]
      exact H.gone _ (by simpa using hu)
  · intro u a₁ o₁ h
    have some_n : ∀ (u' : Way) (z : Value), (∃ y, ((F.setDict v o').add (v ++ [k]) x).look u' = some y ∧ z = .ref y.n) ↔ (∃ n, (((F.setDict v o').add (v ++ [k]) x).look u').map (·.n) = some n ∧ z = .ref n) := by
      intro u' z
      constructor
      · rintro ⟨y, hy, rfl⟩; exact ⟨y.n, by rw [hy]; rfl, rfl⟩
      · rintro ⟨n, hy, rfl⟩
        obtain ⟨y, hy2, rfl⟩ := Option.map_eq_some_iff.mp hy
        exact ⟨y, hy2, rfl⟩
    have some_F : ∀ (u' : Way) (z : Value), (∃ y, F.look u' = some y ∧ z = .ref y.n) ↔ (∃ n, (F.look u').map (·.n) = some n ∧ z = .ref n) := by
      intro u' z
      constructor
      · rintro ⟨y, hy, rfl⟩; exact ⟨y.n, by rw [hy]; rfl, rfl⟩
      · rintro ⟨n, hy, rfl⟩
        obtain ⟨y, hy2, rfl⟩ := Option.map_eq_some_iff.mp hy
        exact ⟨y, hy2, rfl⟩
    rcases dict u a₁ o₁ h with ⟨rfl, rfl, rfl⟩ | ⟨hne, o₂, h2, h3⟩
    · refine ⟨[], hx4, fun z y => ?_⟩
      constructor
      · intro q; cases q
      · rw [some_n, lookn]
        rintro ⟨n, q, _⟩
        rw [if_neg (fun e => by have := congrArg List.length e; simp at this)] at q
        obtain ⟨y', hy', _⟩ := Option.map_eq_some_iff.mp q
        rcases H.closed (v ++ [k]) z (by rw [hy']; exact fun q => nomatch q) with e | e
        · simp at e
        · exact absurd hn e
    · by_cases e : u = v
      · subst e
        rw [if_pos rfl] at h3
        subst h3
        refine ⟨_, ho, fun z y => ?_⟩
        rw [some_n, lookn]
        have hvk : valueAt kvs k = none := by
          cases q : valueAt kvs k with
          | none => rfl
          | some y' => obtain ⟨y2, h4, _⟩ := (hkv k y').mp q; rw [hn] at h4; cases h4
        by_cases hz : z = k
        · subst hz
          rw [if_pos rfl]
          have : valueAt (stored kvs z (.ref x.n)) z = some (.ref x.n) := by
            rw [valueAt_stored]; simp
          rw [this]
          constructor
          · intro q; exact ⟨x.n, rfl, (Option.some.inj q).symm⟩
          · rintro ⟨n, q, rfl⟩; cases q; rfl
        · have hz' : ¬ u ++ [z] = u ++ [k] := fun e => hz (append_one_inj e).2
          rw [if_neg hz', ← some_F, ← hkv]
          have : valueAt (stored kvs k (.ref x.n)) z = valueAt kvs z := by
            rw [valueAt_stored]; simp [hz]
          rw [this]
      · rw [if_neg e] at h3
        subst h3
        obtain ⟨kvs', h5, h6⟩ := H.kids _ _ _ h2
        refine ⟨kvs', h5, fun z y => ?_⟩
        rw [h6, some_n, lookn, if_neg (fun q => e (append_one_inj q).1), some_F]
  · intro u z hz
    rw [look] at hz
    by_cases e : u ++ [z] = v ++ [k]
    · obtain ⟨rfl, rfl⟩ := append_one_inj e
      unfold FO.dictAt at hd
      by_cases hu : u = []
      · exact .inl hu
      · right
        rw [if_neg hu] at hd
        obtain ⟨y, hy, _⟩ := Option.map_eq_some_iff.mp hd
        rw [look, if_neg (fun q => by have := congrArg List.length q; simp at this), hy]
        exact fun q => nomatch q
    · rw [if_neg e] at hz
      rcases H.closed u z (by intro q; rw [q] at hz; exact hz rfl) with h1 | h1
      · exact .inl h1
      · right
        rw [look]
        by_cases e2 : u = v ++ [k]
        · rw [if_pos e2]; exact fun q => nomatch q
        · rw [if_neg e2]
          intro q
          exact h1 (by simpa using q)
end Mine
end
section
open PySem PySem.W PySem.Calls PyProof.Rows
set_option maxRecDepth 100000
namespace Mine

structure FO.Same (F F' : FO) : Prop where
  f : F'.f = F.f
  fd : F'.fd = F.fd
  root : F'.root = F.root
  pd : F'.pd = F.pd
  ofd : F'.ofd = F.ofd
  opd : F'.opd = F.opd
theorem FO.Same.refl (F : FO) : F.Same F := ⟨rfl, rfl, rfl, rfl, rfl, rfl⟩
theorem FO.Same.trans {F G H : FO} (x : F.Same G) (y : G.Same H) : F.Same H := ⟨y.f.trans x.f, y.fd.trans x.fd, y.root.trans x.root, y.pd.trans x.pd, y.ofd.trans x.ofd, y.opd.trans x.opd⟩
theorem FO.Same.setDict (F : FO) (w : Way) (o' : Obj) : F.Same (F.setDict w o') := by unfold FO.setDict; split <;> exact ⟨rfl, rfl, rfl, rfl, rfl, rfl⟩
theorem FO.Same.add (F : FO) (v : Way) (x : Nd) : F.Same (F.add v x) := ⟨rfl, rfl, rfl, rfl, rfl, rfl⟩
theorem FO.Same.mod (F : FO) (v : Way) (g : Nd → Nd) : F.Same (F.mod v g) := ⟨rfl, rfl, rfl, rfl, rfl, rfl⟩

theorem Is_marks {prog : Program} {w : World} {M : List Str} {F : FO} {τ : AbsT} {v : Way} {x : Nd} {g : Nd → Nd} {X Y : Int → Bool} (H : F.Is prog w M τ) (hx : F.look v = some x)
    (hg : ∀ y, (g y).n = y.n ∧ (g y).fl = y.fl ∧ (g y).rc = y.rc ∧ (g y).nd = y.nd ∧ (g y).on = y.on ∧ (g y).ond = y.ond) (h1 : IS prog w (g x).ofl X) (h2 : IS prog w (g x).orc Y) :
    (F.mod v g).Is prog w M (fun u => if u = v then some (X, Y) else τ u) := by
  have hkeys : ((F.mod v g).nodes.map (·.1)).Nodup := by
    have : (F.mod v g).nodes.map (·.1) = F.nodes.map (·.1) := modN_keys v g F.nodes
    rw [this]; exact H.keys
  have mem : ∀ p ∈ (F.mod v g).nodes, ∃ y, F.look p.1 = some y ∧ p.2 = if p.1 = v then g y else y := by
    intro p hp
    have := FO.look_of_mem hkeys (v := p.1) (x := p.2) hp
    rw [FO.look_mod] at this
    by_cases e : p.1 = v
    · rw [if_pos e] at this
      obtain ⟨y, hy, e'⟩ := Option.map_eq_some_iff.mp this
      exact ⟨y, hy, by rw [if_pos e]; exact e'.symm⟩
    · rw [if_neg e] at this
      exact ⟨p.2, this, by rw [if_neg e]⟩
  have lookn : ∀ u, ((F.mod v g).look u).map (·.n) = (F.look u).map (·.n) := by
    intro u
    rw [FO.look_mod]
    split
    · rw [Option.map_map]; congr 1; funext y; exact (hg y).1
    · rfl
  have lookN : ∀ u, (F.mod v g).look u = none ↔ F.look u = none := by
    intro u
    have := lookn u
    constructor
    · intro q; rw [q] at this; simpa using this.symm
    · intro q; rw [q] at this; simpa using this
  have dict : ∀ u, (F.mod v g).dictAt u = F.dictAt u := by
    intro u
    unfold FO.dictAt
    split
    · rfl
    · rw [FO.look_mod]
      split
      · rw [Option.map_map]; congr 1; funext y
        show ((g y).nd, (g y).ond) = _
        rw [(hg y).2.2.2.1, (hg y).2.2.2.2.2]
      · rfl
  have some_n : ∀ (G : FO) (u' : Way) (z : Value), (∃ y, G.look u' = some y ∧ z = .ref y.n) ↔ (∃ n, (G.look u').map (·.n) = some n ∧ z = .ref n) := by
    intro G u' z
    constructor
    · rintro ⟨y, hy, rfl⟩; exact ⟨y.n, by rw [hy]; rfl, rfl⟩
    · rintro ⟨n, hy, rfl⟩
      obtain ⟨y, hy2, rfl⟩ := Option.map_eq_some_iff.mp hy
      exact ⟨y, hy2, rfl⟩
  refine ⟨H.fd, fun u a o h => H.low u a o (dict u ▸ h), hkeys, ?_, ?_, ?_, ?_, ?_, ?_, ?_, ?_⟩
  · intro p hp
    obtain ⟨y, hy, _⟩ := mem p hp
    exact H.nonil (p.1, y) (FO.look_mem hy)
  · intro p hp
    obtain ⟨y, hy, _⟩ := mem p hp
    exact H.menu (p.1, y) (FO.look_mem hy)
  · intro p hp
    obtain ⟨y, hy, e⟩ := mem p hp
    have := H.node_at hy
    rw [e]
    split
    · rw [(hg y).2.2.2.2.1, (hg y).2.1, (hg y).2.2.1, (hg y).2.2.2.1]; exact this
    · exact this
  · intro p hp
    obtain ⟨y, hy, e⟩ := mem p hp
    have := H.nlow _ (FO.look_mem hy)
    rw [e]
    split
    · rw [(hg y).1]; exact this
    · exact this
  · intro p hp
    obtain ⟨y, hy, e⟩ := mem p hp
    by_cases e2 : p.1 = v
    · have : y = x := by rw [e2, hx] at hy; exact (Option.some.inj hy).symm
      subst this
      rw [if_pos e2] at e
      exact ⟨X, Y, by rw [if_pos e2], e ▸ h1, e ▸ h2⟩
    · obtain ⟨X', Y', a, b, c⟩ := H.flags_at hy
      rw [if_neg e2] at e
      exact ⟨X', Y', by rw [if_neg e2]; exact a, e ▸ b, e ▸ c⟩
  · intro u hu
    have hu' := (lookN u).mp hu
    have : u ≠ v := fun e => by rw [e, hx] at hu'; cases hu'
    rw [if_neg this]
    exact H.gone _ hu'
  · intro u a o h
    rw [dict] at h
    obtain ⟨kvs, h5, h6⟩ := H.kids _ _ _ h
    refine ⟨kvs, h5, fun z y => ?_⟩
    rw [h6, some_n F, some_n (F.mod v g), lookn]
  · intro u z hz
    have hz' : F.look (u ++ [z]) ≠ none := fun q => hz ((lookN _).mpr q)
    rcases H.closed u z hz' with h1 | h1
    · exact .inl h1
    · exact .inr fun q => h1 ((lookN _).mp q)

noncomputable def FO.cut (F : FO) (v : Way) (o' : Obj) (k : Str) : FO := { F.setDict v o' with nodes := (F.setDict v o').nodes.filter fun p => !(v ++ [k]).isPrefixOf p.1 }
noncomputable def cutT (τ : AbsT) (v : Way) : AbsT := fun u => if v.isPrefixOf u then none else τ u

theorem flatMap_filter_sub {α β : Type} (f : α → List β) (p : α → Bool) : ∀ l : List α, ((l.filter p).flatMap f).Sublist (l.flatMap f)
  | [] => .slnil
  | a :: l => by
    rw [List.filter_cons, List.flatMap_cons]
    split
    · rw [List.flatMap_cons]; exact (List.Sublist.refl _).append (flatMap_filter_sub f p l)
    · exact (flatMap_filter_sub f p l).trans (List.sublist_append_right _ _)
theorem FO.cut_sub (F : FO) (v : Way) (o' : Obj) (k : Str) : (F.cut v o' k).cells.Sublist (F.setDict v o').cells := by
  unfold FO.cut FO.cells
  exact ((((flatMap_filter_sub _ _ _).cons_cons _).cons_cons _).cons_cons _).cons_cons _
theorem FO.Same.cut (F : FO) (v : Way) (o' : Obj) (k : Str) : F.Same (F.cut v o' k) := by
  have := FO.Same.setDict F v o'
  exact ⟨this.f, this.fd, this.root, this.pd, this.ofd, this.opd⟩

theorem look_filter (q : Way → Bool) (v : Way) : ∀ ns : List (Way × Nd), (((ns.filter fun p => q p.1).find? fun p => decide (p.1 = v)).map (·.2)) = if q v then (ns.find? fun p => decide (p.1 = v)).map (·.2) else none
  | [] => by simp
  | p :: ns => by
    have ih := look_filter q v ns
    rw [List.filter_cons, List.find?_cons]
    by_cases h2 : p.1 = v
    · by_cases h1 : q p.1 = true
      · rw [if_pos h1, List.find?_cons]
        have : q v = true := h2 ▸ h1
        simp [h2, this]
      · rw [if_neg h1, ih]
        have : ¬ q v = true := h2 ▸ h1
        rw [if_neg this, if_neg this]
    · simp only [decide_eq_false h2]
      by_cases h1 : q p.1 = true
      · rw [if_pos h1, List.find?_cons]
        simp only [decide_eq_false h2]
        exact ih
      · rw [if_neg h1]; exact ih

theorem FO.look_cut (F : FO) (v : Way) (o' : Obj) (k : Str) (u : Way) : (F.cut v o' k).look u = if (v ++ [k]).isPrefixOf u then none else (F.setDict v o').look u := by
  have := look_filter (fun z => !(v ++ [k]).isPrefixOf z) u (F.setDict v o').nodes
  show (((F.setDict v o').nodes.filter fun p => !(v ++ [k]).isPrefixOf p.1).find? fun p => decide (p.1 = u)).map (·.2) = _
  rw [this]
  by_cases h : (v ++ [k]).isPrefixOf u = true
  · rw [if_pos h, h]; rfl
  · rw [if_neg h]
    have h' : (v ++ [k]).isPrefixOf u = false := Bool.eq_false_iff.mpr h
    rw [h']; rfl

theorem pre_iff {a b : Way} : a.isPrefixOf b = true ↔ a <+: b := List.isPrefixOf_iff_prefix
theorem Is_cut {prog : Program} {w : World} {M : List Str} {F : FO} {τ : AbsT} {v : Way} {k : Str} {a : Addr} {o o' : Obj} {kvs : List (Str × Value)} (H : F.Is prog w M τ)
    (hd : F.dictAt v = some (a, o)) (hkv : ∀ z y, valueAt kvs z = some y ↔ ∃ q, F.look (v ++ [z]) = some q ∧ y = .ref q.n)
    (ho : o'.IsDictOf (strKind prog w) (without kvs k)) : (F.cut v o' k).Is prog w M (cutT τ (v ++ [k])) := by
  have look : ∀ u, (F.cut v o' k).look u = if (v ++ [k]).isPrefixOf u then none else (F.look u).map fun y => if u = v then { y with ond := o' } else y := by
    intro u
    rw [FO.look_cut]
    split
    · rfl
    · rw [FO.look_setDict]
      by_cases e2 : u = v ∧ v ≠ []
      · rw [if_pos e2]; simp [e2.1]
      · rw [if_neg e2]
        by_cases e3 : u = v
        · have hv : v = [] := by
            by_cases q : v = []
            · exact q
            · exact absurd ⟨e3, q⟩ e2
          have : F.look u = none := by
            cases q : F.look u with
            | none => rfl
            | some y => exact absurd (e3.trans hv) (H.nonil _ (FO.look_mem q))
          rw [this]; rfl
        · simp [e3]
  have lookn : ∀ u, ((F.cut v o' k).look u).map (·.n) = if (v ++ [k]).isPrefixOf u then none else (F.look u).map (·.n) := by
    intro u
    rw [look]
    split
    · rfl
    · rw [Option.map_map]; congr 1; funext y
      show (if u = v then { y with ond := o' } else y).n = y.n
      split <;> rfl
  have hkeys : ((F.cut v o' k).nodes.map (·.1)).Nodup := by
    have h1 : ((F.setDict v o').nodes.map (·.1)).Nodup := by rw [FO.setDict_keys]; exact H.keys
    exact h1.sublist (List.filter_sublist.map _)
  have mem : ∀ p ∈ (F.cut v o' k).nodes, (v ++ [k]).isPrefixOf p.1 = false ∧ ∃ y, F.look p.1 = some y ∧ p.2 = if p.1 = v then { y with ond := o' } else y := by
    intro p hp
    have := FO.look_of_mem hkeys (v := p.1) (x := p.2) hp
    rw [look] at this
    by_cases e : (v ++ [k]).isPrefixOf p.1 = true
    · rw [if_pos e] at this; cases this
    · rw [if_neg e] at this
      obtain ⟨y, hy, e'⟩ := Option.map_eq_some_iff.mp this
      exact ⟨Bool.eq_false_iff.mpr e, y, hy, e'.symm⟩
  have dict : ∀ u a₁ o₁, (F.cut v o' k).dictAt u = some (a₁, o₁) → (v ++ [k]).isPrefixOf u = false ∧ ∃ o₂, F.dictAt u = some (a₁, o₂) ∧ if u = v then o₁ = o' else o₁ = o₂ := by
    intro u a₁ o₁ h
    by_cases hu : u = []
    · subst hu
      refine ⟨by cases v <;> rfl, setDict_dictAt (F := F) (w := v) ?_⟩
      unfold FO.dictAt at h ⊢
      rw [if_pos rfl] at h ⊢
      exact h
    · have h' := h
      unfold FO.dictAt at h
      rw [if_neg hu, FO.look_cut] at h
      by_cases e : (v ++ [k]).isPrefixOf u = true
      · rw [if_pos e] at h; cases h
      · rw [if_neg e] at h
        refine ⟨Bool.eq_false_iff.mpr e, setDict_dictAt (F := F) (w := v) ?_⟩
        unfold FO.dictAt
        rw [if_neg hu]; exact h
  have some_n : ∀ (G : FO) (u' : Way) (z : Value), (∃ y, G.look u' = some y ∧ z = .ref y.n) ↔ (∃ n, (G.look u').map (·.n) = some n ∧ z = .ref n) := by
    intro G u' z
    constructor
    · rintro ⟨y, hy, rfl⟩; exact ⟨y.n, by rw [hy]; rfl, rfl⟩
    · rintro ⟨n, hy, rfl⟩
      obtain ⟨y, hy2, rfl⟩ := Option.map_eq_some_iff.mp hy
      exact ⟨y, hy2, rfl⟩
  have sm := FO.Same.cut F v o' k
  refine ⟨?_, ?_, hkeys, ?_, ?_, ?_, ?_, ?_, ?_, ?_, ?_⟩
  · rw [sm.ofd, sm.root, sm.pd]; exact H.fd
  · intro u a₁ o₁ h
    obtain ⟨_, o₂, h2, _⟩ := dict u a₁ o₁ h
    exact H.low _ _ _ h2
  · intro p hp
    obtain ⟨_, y, hy, _⟩ := mem p hp
    exact H.nonil (p.1, y) (FO.look_mem hy)
  · intro p hp
    obtain ⟨_, y, hy, _⟩ := mem p hp
    exact H.menu (p.1, y) (FO.look_mem hy)
  · intro p hp
    obtain ⟨_, y, hy, e⟩ := mem p hp
    have := H.node_at hy
    rw [e]; split <;> exact this
  · intro p hp
    obtain ⟨_, y, hy, e⟩ := mem p hp
    have := H.nlow _ (FO.look_mem hy)
    rw [e]; split <;> exact this
  · intro p hp
    obtain ⟨hno, y, hy, e⟩ := mem p hp
    obtain ⟨X', Y', h1, b, c⟩ := H.flags_at hy
    refine ⟨X', Y', ?_, ?_, ?_⟩
    · unfold cutT
      rw [hno]; exact h1
    · rw [e]; split <;> exact b
    · rw [e]; split <;> exact c
  · intro u hu
    unfold cutT
    rw [look] at hu
    split
    · rfl
    · rename_i e
      rw [if_neg e] at hu
      exact H.gone _ (by simpa using hu)
  · intro u a₁ o₁ h
    obtain ⟨hno, o₂, h2, h3⟩ := dict u a₁ o₁ h
    by_cases e : u = v
    · subst e
      rw [if_pos rfl] at h3
      subst h3
      refine ⟨_, ho, fun z y => ?_⟩
      rw [some_n, lookn, valueAt_without]
      by_cases hz : z = k
      · subst hz
        have : (u ++ [z]).isPrefixOf (u ++ [z]) = true := pre_iff.mpr (List.prefix_refl _)
        rw [if_pos rfl, this]
        simp
      · have : ¬ (u ++ [k]).isPrefixOf (u ++ [z]) = true := fun q => by
          have := (pre_iff.mp q).eq_of_length (by simp)
          exact hz (append_one_inj this).2.symm
        rw [if_neg hz, if_neg this, hkv, some_n]
    · rw [if_neg e] at h3
      subst h3
      obtain ⟨kvs', h5, h6⟩ := H.kids _ _ _ h2
      refine ⟨kvs', h5, fun z y => ?_⟩
      have : ¬ (v ++ [k]).isPrefixOf (u ++ [z]) = true := fun q => by
        have q := pre_iff.mp q
        rcases Nat.lt_or_ge u.length (v ++ [k]).length with hlt | hge
        · have h9 : (v ++ [k]).length ≤ (u ++ [z]).length := q.length_le
          simp at hlt h9
          have := q.eq_of_length (by simp; exact (by exact Nat.le_antisymm h9 (Nat.le_of_lt_succ hlt)))
          exact e (append_one_inj this).1.symm
        · have h8 : (v ++ [k]) <+: u := List.prefix_of_prefix_length_le q (List.prefix_append u [z]) hge
          rw [pre_iff.mpr h8] at hno; cases hno
      rw [h6, some_n F, some_n, lookn, if_neg this]
  · intro u z hz
    have h1 := lookn (u ++ [z])
    by_cases e : (v ++ [k]).isPrefixOf (u ++ [z]) = true
    · rw [if_pos e] at h1
      exact absurd (by simpa using h1) hz
    · rw [if_neg e] at h1
      have : F.look (u ++ [z]) ≠ none := fun q => by rw [q] at h1; exact hz (by simpa using h1)
      rcases H.closed u z this with h2 | h2
      · exact .inl h2
      · right
        intro q
        have h3 := lookn u
        have : ¬ (v ++ [k]).isPrefixOf u = true := fun q => e (pre_iff.mpr ((pre_iff.mp q).trans (List.prefix_append _ _)))
        rw [if_neg this, q] at h3
        exact h2 (by simpa using h3.symm)

noncomputable def road (τ : AbsT) : Way → List Str → AbsT
  | _, [] => τ
  | pre, k :: r => road (ensure τ (pre ++ [k])) (pre ++ [k]) r
theorem road_snoc (τ : AbsT) : ∀ (xs : List Str) (pre : Way) (k : Str), road τ pre (xs ++ [k]) = ensure (road τ pre xs) (pre ++ xs ++ [k])
  | [], pre, k => by simp [road]
  | x :: xs, pre, k => by
    show road (ensure τ (pre ++ [x])) (pre ++ [x]) (xs ++ [k]) = ensure (road (ensure τ (pre ++ [x])) (pre ++ [x]) xs) (pre ++ (x :: xs) ++ [k])
    have := road_snoc (ensure τ (pre ++ [x])) xs (pre ++ [x]) k
    rw [this]
    simp
theorem ensure_there {τ : AbsT} {v : Way} {x : NS} (h : τ v = some x) : ensure τ v = τ := by
  funext u
  unfold ensure
  by_cases e : u = v
  · rw [if_pos e, h, e, h]; rfl
  · rw [if_neg e]
noncomputable def addF (X : Int → Bool) (f : Int) : Int → Bool := fun k => X k || decide (k = f)
noncomputable def setM (τ : AbsT) (v : Way) (rec : Bool) (f : Int) : AbsT := fun u => if u = v then (τ v).map fun x => if rec then (x.1, addF x.2 f) else (addF x.1 f, x.2) else τ u
noncomputable def setT (τ : AbsT) (v : Way) (f : Int) (rec : Bool) : AbsT := setM (road τ [] v) v rec f

theorem IS_add {prog : Program} {w : World} {o : Obj} {X : Int → Bool} {f : Int} (hf : f = 0 ∨ f = 1) (hX : ∀ k, X k = true → k = 0 ∨ k = 1) (h : o.SetObjOf (intKind prog w) (fun k' => X k' || decide (k' = f)) (if X f then cnt X else cnt X + 1)) : IS prog w o (addF X f) := by
  refine ⟨?_, fun k hk => ?_⟩
  · have e : cnt (addF X f) = if X f then cnt X else cnt X + 1 := by
      unfold cnt addF
      rcases hf with rfl | rfl
      · have : ¬ ((1 : Int) = 0) := by decide
        simp only [this, decide_false, Bool.or_false, decide_true, Bool.or_true, if_true]
        cases X 0 <;> simp <;> exact (by exact Nat.add_comm _ _)
      · have : ¬ ((0 : Int) = 1) := by decide
        simp only [this, decide_false, Bool.or_false, decide_true, Bool.or_true, if_true]
        cases X 1 <;> simp <;> lia
    rw [e]; exact h
  · unfold addF at hk
    rw [Bool.or_eq_true] at hk
    rcases hk with h1 | h1
    · exact hX k h1
    · have := of_decide_eq_true h1; subst this; exact hf
theorem IS_nil (prog : Program) (w : World) (led : Bool) : IS prog w (freshSet led) fun _ => false := ⟨freshSet_is led, fun k h => by cases h⟩
end Mine
end
section
open PySem PySem.W PyProof.Rows
set_option maxRecDepth 100000
set_option maxHeartbeats 8000000
namespace Mine
open_top hd2 for PySem.Challenge.rw_aa0050_02
end Mine
end
section
open PySem PySem.W PySem.Calls PyProof.Rows
set_option maxRecDepth 100000
namespace Mine
theorem dummy : (PySem.Challenge.rw_aa0050_02 = PySem.Challenge.rw_aa0050_02 ∧ hd2.heap_39 = hd2.heap_39) := by k_fill; exact ⟨rfl, rfl⟩
inductive QJ (F : FO) (τ : AbsT) (zr : Lg) (q : Addr) (flag : Int) (t : Tok) (way : Way) (i : Nat) : List (Option Value) → Lg → Prop
  | mk (a : Addr) (o : Obj) (kx ix : Option Value) : F.dictAt (way.take i) = some (a, o) → isW τ way flag = isGo τ (way.take i) (way.drop i) flag → QJ F τ zr q flag t way i [some (.ref F.f), some (.ref q), some (.int flag t), some (.ref a), kx, ix, none] zr
theorem qj_facts {way : Way} {us : List Value} {i : Nat} {k : Str} (hk : way.dropLast[i]? = some k) : way.take (i + 1) = way.take i ++ [k] ∧ ∃ k' r, way.drop i = k :: k' :: r ∧ way.drop (i + 1) = k' :: r := by
  have hlt : i + 1 < way.length := by
    have := (List.getElem?_eq_some_iff.mp hk).1
    rw [List.length_dropLast] at this
    exact Nat.add_lt_of_lt_sub this
  have hki : way[i]? = some k := by
    rw [List.getElem?_dropLast] at hk
    split at hk
    · exact hk
    · cases hk
  refine ⟨by rw [List.take_add_one, hki]; rfl, ?_⟩
  have h1 : way.drop i = k :: way.drop (i + 1) := by
    rw [List.drop_eq_getElem_cons (by exact Nat.le_of_lt hlt)]
    congr 1
    exact Option.some.inj ((List.getElem?_eq_getElem (by exact Nat.le_of_lt hlt)).symm.trans hki)
  cases h2 : way.drop (i + 1) with
  | nil => have := congrArg List.length h2; rw [List.length_drop] at this; exact absurd (Nat.le_of_sub_eq_zero this) (Nat.not_le.mpr hlt)
  | cons k' r => exact ⟨k', r, by rw [h1, h2], rfl⟩
section
variable {prog : Program} {w : World} {A : Around} {E : Value → Shared → Prop} {env : Env} {ns : List Str} {h₀ : Heap} {vs : List (Option Value)} {l : Lg} {s₀ s : Shared}
  {p : Program} {loose : List Str} {mean : ExcName → Option Value} {mg mb : Str → Option Value} {d u : Nat}

theorem g_flags {F : FO} {M : List Str} {τ : AbsT} {x : Bool} {Q : Value → Shared → Prop} (cx : Cx (hd2.heap_39 w.params) p loose mean mg mb d u A env h₀) (st : S env ns h₀ vs l s₀ s) (H : F.Is prog w M τ) (hc : ∀ c ∈ F.cells, c ∈ l)
    (h : ∀ s', S env ns h₀ vs l s₀ s' → Q (.ref F.root) s') : wpAny (model prog w) A (getAttr (.ref F.f) "_flags" x) Q E s := by
  obtain ⟨a0, t0, a1, t1, n, e⟩ := H.fd
  have m1 := hc _ (.head _)
  have m2 := hc _ (.tail _ (.head _))
  rw [e] at m2
  refine get_own (es := [⟨a0, .str "_flags" t0, .ref F.root⟩, ⟨a1, .str "_pending_flags" t1, .ref F.pd⟩]) st.fr cx.x ⟨st.at m1, rfl, rfl, st.at m2⟩ (by k_is) (by k_is) (by k_is) (by k_is) (by k_get) rfl (h _ (st.tok _))

theorem w_flags {F : FO} {M : List Str} {τ : AbsT} {x : Bool} {Q : Value → Shared → Prop} (cx : Cx (hd2.heap_39 w.params) p loose mean mg mb d u A env h₀) (st : S env ns h₀ vs l s₀ s) (H : F.Is prog w M τ) (hc : ∀ c ∈ F.cells, c ∈ l)
    (h : ∀ s', S env ns h₀ vs l s₀ s' → Q (.ref F.root) s') : W (model prog w) A (getAttr (.ref F.f) "_flags" x) Q E s := .mk (g_flags cx st H hc h)

theorem is_spec {M : List Str} {F : FO} {τ : AbsT} {rest : Lg} {q : Addr} {us : List Value} {way : Way} {flag : Int} {t : Tok} {R : Result → Shared → Prop}
    (fn : Fn env ns) (cx : Cx (hd2.heap_39 w.params) p loose mean mg mb (d + 1) (u + 3) A env h₀) (st : S env ns h₀ vs (F.cells ++ rest) s₀ s)
    (H : F.Is prog w M τ) (hq : (q, tupO us) ∈ rest) (hw : WayV us way) (hz : us.length ≤ sizeLine)
    (h : ∀ s', S env ns h₀ vs (F.cells ++ rest) s₀ s' → R (.ok (.ret (.bool (isW τ way flag)))) s') :
    codeAny (model prog w) A (.call (.ref 63) ⟨[.ref F.f, .ref q, .int flag t], []⟩) R s := by
  refine S_call (d := d) (u := u) (ns' := ["self", "key", "flag", "cont", "k", "inner_cont", "key_stem"]) (vs' := [some (.ref F.f), some (.ref q), some (.int flag t), none, none, none, none])
    [("self", .ref F.f), ("key", .ref q), ("flag", .int flag t)] ["cont", "k", "inner_cont", "key_stem"] fn cx st (by k_is) (by k_is) (BindsTo.of_eq rfl) rfl rfl (fn_of (by rfl) (by decide) rfl) (by decide) ?_
  intro env1 g A1 s1 E' he fn1 cx1 st1
  generalize hSR : SRet _ _ _ _ _ _ _ _ _ = RR0; revert RR0; refine hold ?_; intro RR0 hSR
  have hq1 : (q, tupO us) ∈ F.cells ++ rest := List.mem_append_right _ hq
  refine w_cons (w_if (w_not (w_plain (w_name 1 fn1 st1 rfl rfl (w_truthy_tuple st1 hq1 hz fun s2 st2 => ?_)))))
  cases hus : us.isEmpty with
  | true =>
    refine w_cons (w_ret (w_bool ?_))
    subst hSR
    refine SRet.intro st2 fun st => ?_
    have e : way = [] := by
      have := hw.length
      rw [List.isEmpty_iff.mp hus] at this
      exact List.eq_nil_of_length_eq_zero this.symm
    have := h _ st
    rw [e] at this
    exact this
  | false =>
    refine w_nil ?_
    refine w_cons (w_assign 3 fn1 rfl (w_attr (w_name 0 fn1 st2 rfl rfl (w_flags cx1 st2 H (fun c hc => List.mem_append_left _ hc) fun s3 st3 => ⟨_, _, st3, Nat.le_of_ble_eq_true rfl, fun s4 st4 => ?_⟩))))
    refine w_cons (w_for ?_)
    refine w_subslice (w_name 1 fn1 st4 rfl rfl (wpart_0 (wpart_e (w_neg1 st4 fun t5 s5 st5 => ?_))))
    refine w_slice_tup st5 hq1 .none (.int _ _) hz fun z a s6 st6 ha => ?_
    have ha := ha _ hq1
    rw [sl_init] at ha
    have mc : ∀ c ∈ F.cells, c ∈ z ++ (F.cells ++ rest) := fun c hc => List.mem_append_right _ (List.mem_append_left _ hc)
    have hway : way ≠ [] := by
      intro e
      have := hw.length
      rw [e] at this
      rw [List.eq_nil_of_length_eq_zero this] at hus
      cases hus
    refine w_for_tuple cx1.hand st6 ha (QJ F τ (z ++ (F.cells ++ rest)) q flag t way)
      (.mk F.root F.oroot none none rfl rfl) (fun i vs' l' hJ => by obtain ⟨_⟩ := hJ; exact ha) ?_ ?_
    · intro i v vs' l' I oI s' E2 hv hJ st'
      generalize hLP : LPost _ _ _ _ _ _ _ _ = QQ; revert QQ; refine hold ?_; intro QQ hLP
      obtain ⟨a1, o1, kx, ix, hd2, hgo⟩ := hJ
      obtain ⟨k, tk, rfl, hk⟩ := hw.dropLast.get hv
      have mI : ∀ c ∈ F.cells, c ∈ (I, oI) :: (z ++ (F.cells ++ rest)) := fun c hc => .tail _ (mc c hc)
      obtain ⟨kvs, hkv, hkids⟩ := H.kids _ _ _ hd2
      obtain ⟨htake, k', r, hdrop⟩ := qj_facts (us := us) hk
      rw [hdrop.1] at hgo
      refine w_aname (w_store 4 fn1 st' rfl (Nat.le_of_ble_eq_true rfl) fun s2 st2 => ?_)
      refine w_cons (w_if (w_testcmp (w_name 4 fn1 st2 rfl rfl (w_name 3 fn1 st2 rfl rfl (w_notin_dict st2 (mI _ (dict_mem hd2)) hkv (H.low _ _ _ hd2) fun s3 st3 => w_tbool ?_)))))
      cases hl : valueAt kvs k with
      | none =>
        refine w_cons (w_ret (w_bool ?_))
        have hn : F.look (way.take i ++ [k]) = none := by
          cases e : F.look (way.take i ++ [k]) with
          | none => rfl
          | some y => have := (hkids k _).mpr ⟨y, e, rfl⟩; rw [hl] at this; cases this
        subst hLP; subst hSR
        change SRet _ _ _ _ _ _ _ _ _ _ _
        refine SRet.intro st3.drop.dropL fun st => ?_
        have := h _ st
        rw [hgo] at this
        unfold isGo at this
        rw [H.gone _ hn] at this
        exact this
      | some x =>
        obtain ⟨y, hy, rfl⟩ := (hkids k x).mp hl
        refine w_nil ?_
        have hyn := H.node_at hy
        obtain ⟨X, Y, hτ, hX, hY⟩ := H.flags_at hy
        refine w_cons (w_assign 5 fn1 rfl (w_subE (w_name 3 fn1 st3 rfl rfl (w_name 4 fn1 st3 rfl rfl (w_tail_dict st3 (mI _ (dict_mem hd2)) hkv hl fun s4 st4 => ⟨_, _, st4, Nat.le_of_ble_eq_true rfl, fun s5 st5 => ?_⟩)))))
        refine w_cons (w_if (w_testcmp (w_name 2 fn1 st5 rfl rfl (w_subE (w_name 5 fn1 st5 rfl rfl (w_str st5 fun t6 s6 st6 => w_tail_dict st6 (mI _ (mem_cells hy (.head _))) hyn rfl fun s7 st7 => w_in_set st7 (mI _ (mem_cells hy (.tail _ (.tail _ (.head _))))) hY.1 (by have := cnt_le Y; unfold scanBound; exact Nat.lt_of_le_of_lt this (Nat.le_of_ble_eq_true rfl)) fun s8 st8 => w_tbool ?_))))))
        cases hf : Y flag with
        | true =>
          refine w_cons (w_ret (w_bool ?_))
          subst hLP; subst hSR
          change SRet _ _ _ _ _ _ _ _ _ _ _
          refine SRet.intro st8.drop.dropL fun st => ?_
          have := h _ st
          rw [hgo] at this
          unfold isGo at this
          rw [hτ] at this
          simp only [hf, if_true] at this
          exact this
        | false =>
          refine w_nil ?_
          refine w_cons (w_assign 3 fn1 rfl (w_subE (w_name 5 fn1 st8 rfl rfl (w_str st8 fun t9 s9 st9 => w_tail_dict st9 (mI _ (mem_cells hy (.head _))) hyn rfl fun s10 st10 => ⟨_, _, st10, Nat.le_of_ble_eq_true rfl, fun s11 st11 => ?_⟩))))
          refine w_nil ?_
          subst hLP
          refine ⟨_, _, st11, .mk y.nd y.ond _ _ ?_ ?_⟩
          · rw [htake]; exact H.dict_of hy
          · rw [hgo, htake, hdrop.2]
            conv => lhs; unfold isGo
            rw [hτ]
            simp [hf]
    · rintro vs' l' s' ⟨a1, o1, kx, ix, hd2, hgo⟩ st'
      have hlen := hw.length
      have hpos : 0 < way.length := by cases way with | nil => exact absurd rfl hway | cons _ _ => simp
      have hidx : us.dropLast.length = way.length - 1 := by rw [List.length_dropLast, hlen]
      rw [hidx] at hd2 hgo
      obtain ⟨v, hv⟩ : ∃ v, us[way.length - 1]? = some v := ⟨us[way.length - 1], List.getElem?_eq_getElem (by exact Nat.le_trans (qfs2 (List.length way) (1) (by exact hpos)) (qfg hlen))⟩
      obtain ⟨k, tk, rfl, hk⟩ := hw.get hv
      have hdrop : way.drop (way.length - 1) = [k] := by
        rw [List.drop_eq_getElem_cons (by exact (qfs2 (List.length way) (1) (by exact hpos)))]
        rw [List.drop_of_length_le (by exact (qfs1 (List.length way) (1)))]
        congr 1
        exact Option.some.inj ((List.getElem?_eq_getElem (by exact (qfs2 (List.length way) (1) (by exact hpos)))).symm.trans hk)
      rw [hdrop] at hgo
      generalize way.take (way.length - 1) = pre at hd2 hgo
      obtain ⟨kvs, hkv, hkids⟩ := H.kids _ _ _ hd2
      refine w_cons (w_assign 6 fn1 rfl (w_subE (w_name 1 fn1 st' rfl rfl (w_neg1 st' fun t2 s2 st2 => w_item_tup st2 (List.mem_append_right _ hq1) (by decide) (by decide) (seqIndex_last (by exact Nat.le_trans hpos (qfg hlen))) (hlen ▸ hv) ⟨_, _, st2, Nat.le_of_ble_eq_true rfl, fun s3 st3 => ?_⟩))))
      refine w_cons (w_if (w_testcmp (w_name 6 fn1 st3 rfl rfl (w_name 3 fn1 st3 rfl rfl (w_in_dict st3 (mc _ (dict_mem hd2)) hkv (H.low _ _ _ hd2) fun s4 st4 => w_tbool ?_)))))
      cases hl : valueAt kvs k with
      | none =>
        refine w_nil ?_
        refine w_cons (w_ret (w_bool ?_))
        subst hSR
        change SRet _ _ _ _ _ _ _ _ _ _ _
        have hn : F.look (pre ++ [k]) = none := by
          cases e : F.look (pre ++ [k]) with
          | none => rfl
          | some y => have := (hkids k _).mpr ⟨y, e, rfl⟩; rw [hl] at this; cases this
        refine SRet.intro st4.dropL fun st => ?_
        have := h _ st
        rw [hgo] at this
        unfold isGo at this
        rw [H.gone _ hn] at this
        exact this
      | some x =>
        obtain ⟨y, hy, rfl⟩ := (hkids k x).mp hl
        have hyn := H.node_at hy
        obtain ⟨X, Y, hτ, hX, hY⟩ := H.flags_at hy
        refine w_cons (w_assign 3 fn1 rfl (w_subE (w_name 3 fn1 st4 rfl rfl (w_name 6 fn1 st4 rfl rfl (w_tail_dict st4 (mc _ (dict_mem hd2)) hkv hl fun s5 st5 => ⟨_, _, st5, Nat.le_of_ble_eq_true rfl, fun s6 st6 => ?_⟩)))))
        refine w_cons (w_ret (w_or (w_cmp (w_name 2 fn1 st6 rfl rfl (w_subE (w_name 3 fn1 st6 rfl rfl (w_str st6 fun t7 s7 st7 => w_tail_dict st7 (mc _ (mem_cells hy (.head _))) hyn rfl fun s8 st8 =>
          w_in_set st8 (mc _ (mem_cells hy (.tail _ (.head _)))) hX.1 (by have := cnt_le X; unfold scanBound; exact Nat.lt_of_le_of_lt this (Nat.le_of_ble_eq_true rfl)) fun s9 st9 => w_tbool ?_)))))))
        cases hf : X flag with
        | true =>
          rw [if_pos rfl]
          subst hSR
          change SRet _ _ _ _ _ _ _ _ _ _ _
          refine SRet.intro st9.dropL fun st => ?_
          have := h _ st
          rw [hgo] at this
          unfold isGo at this
          rw [hτ] at this
          simp only [hf, Bool.true_or] at this
          exact this
        | false =>
          rw [if_neg Bool.false_ne_true]
          refine w_cmp (w_name 2 fn1 st9 rfl rfl (w_subE (w_name 3 fn1 st9 rfl rfl (w_str st9 fun t10 s10 st10 => w_tail_dict st10 (mc _ (mem_cells hy (.head _))) hyn rfl fun s11 st11 =>
            w_in_set st11 (mc _ (mem_cells hy (.tail _ (.tail _ (.head _))))) hY.1 (by have := cnt_le Y; unfold scanBound; exact Nat.lt_of_le_of_lt this (Nat.le_of_ble_eq_true rfl)) fun s12 st12 => ?_))))
          subst hSR
          change SRet _ _ _ _ _ _ _ _ _ _ _
          refine SRet.intro st12.dropL fun st => ?_
          have := h _ st
          rw [hgo] at this
          unfold isGo at this
          rw [hτ] at this
          simp only [hf, Bool.false_or] at this
          exact this
end
end Mine
end
section
open PySem PySem.W PySem.Calls PyProof.Rows
set_option maxRecDepth 100000
namespace Mine
theorem dummyS : (PySem.Challenge.rw_aa0050_02 = PySem.Challenge.rw_aa0050_02 ∧ hd2.heap_39 = hd2.heap_39) := by k_fill; exact ⟨rfl, rfl⟩

theorem nodup_lenF {α : Type} [DecidableEq α] : ∀ {l M : List α}, l.Nodup → (∀ x ∈ l, x ∈ M) → l.length ≤ M.length
  | [], _, _, _ => Nat.zero_le _
  | a :: l, M, hn, h => by
    rw [List.nodup_cons] at hn
    have ha := h a (.head _)
    have := nodup_lenF (l := l) (M := M.erase a) hn.2 fun x hx => (List.mem_erase_of_ne (fun e => hn.1 (by rw [← e]; exact hx))).mpr (h x (.tail _ hx))
    rw [List.length_erase_of_mem ha] at this
    have := List.length_pos_of_mem ha
    simp only [List.length_cons]
    lia
theorem isDict_nodup {prog : Program} {w : World} {o : Obj} {kvs : List (Str × Value)} (h : o.IsDictOf (strKind prog w) kvs) : (kvs.map (·.1)).Nodup := by obtain ⟨_, _, _, _, _, _, hn⟩ := h; exact hn
theorem valueAt_mem {kvs : List (Str × Value)} : ∀ p ∈ kvs, ∃ v, valueAt kvs p.1 = some v := by
  intro p hp
  unfold valueAt
  cases h : kvs.find? fun kv => decide (kv.1 = p.1) with
  | some q => exact ⟨q.2, rfl⟩
  | none => have := List.find?_eq_none.mp h p hp; simp at this
theorem FO.Is.len {prog : Program} {w : World} {M : List Str} {F : FO} {τ : AbsT} (H : F.Is prog w M τ) {v : Way} {o : Obj} {kvs : List (Str × Value)} (hM : M.length ≤ 100) (h : o.IsDictOf (strKind prog w) kvs)
    (hk : ∀ k x, valueAt kvs k = some x ↔ ∃ y, F.look (v ++ [k]) = some y ∧ x = .ref y.n) : kvs.length ≤ sizeLine := by
  have := nodup_lenF (M := M) (isDict_nodup h) fun z hz => by
    obtain ⟨p, hp, rfl⟩ := List.mem_map.mp hz
    obtain ⟨x, hx⟩ := valueAt_mem p hp
    obtain ⟨y, hy, _⟩ := (hk _ _).mp hx
    exact H.menu _ (FO.look_mem hy) p.1 (by simp)
  rw [List.length_map] at this
  rw [sizeLine_eq]
  exact qfl fun x => qfa3 x this hM (by simp +arith only)

inductive SJ (prog : Program) (w : World) (M : List Str) (F : FO) (τ : AbsT) (z rest : Lg) (q a : Addr) (flag : Int) (t tks : Tok) (rec : Bool) (ks : Str) (way : Way) (i : Nat) : List (Option Value) → Lg → Prop
  | mk (F' : FO) (a' : Addr) (o : Obj) (kx : Option Value) : F'.Is prog w M (road τ [] (way.take i)) → F.Same F' → F'.dictAt (way.take i) = some (a', o) →
      SJ prog w M F τ z rest q a flag t tks rec ks way i [some (.ref F.f), some (.ref q), some (.int flag t), some (.bool rec), some (.ref a'), some (.ref a), some (.str ks tks), kx] (z ++ (F'.cells ++ rest))
noncomputable def GrS (prog : Program) (w : World) (M : List Str) (env : Env) (ns : List Str) (h₀ : Heap) (s₀ : Shared) (vs : List (Option Value)) (pre rest : Lg) (F : FO) (a' : Addr) (v : Way) (k : Str) (T : AbsT) (f : Flow) (s3 : Shared) : Prop :=
  f = .next ∧ ∃ F'' : FO, F''.Is prog w M T ∧ F.Same F'' ∧ (F''.dictAt v).map (·.1) = some a' ∧ (∃ y, F''.look (v ++ [k]) = some y) ∧ S env ns h₀ vs (pre ++ (F''.cells ++ rest)) s₀ s3
theorem grown {prog : Program} {w : World} {M : List Str} {F'' : FO} {T : AbsT} {a' : Addr} {v : Way} {k : Str} (H'' : F''.Is prog w M T) (hda : (F''.dictAt v).map (·.1) = some a') (hy : ∃ y, F''.look (v ++ [k]) = some y) :
    ∃ kvs o y, F''.dictAt v = some (a', o) ∧ o.IsDictOf (strKind prog w) kvs ∧ F''.look (v ++ [k]) = some y ∧ valueAt kvs k = some (.ref y.n) := by
  obtain ⟨y, hy⟩ := hy
  obtain ⟨⟨a2, o2⟩, hd2, e2⟩ := Option.map_eq_some_iff.mp hda
  cases e2
  obtain ⟨kvs2, hkv2, hk2⟩ := H''.kids _ _ _ hd2
  exact ⟨kvs2, o2, y, hd2, hkv2, hy, (hk2 _ _).mpr ⟨y, hy, rfl⟩⟩
theorem sj_take {way : Way} {i : Nat} {k : Str} (hk : way.dropLast[i]? = some k) : way.take (i + 1) = way.take i ++ [k] := by
  have hki : way[i]? = some k := by
    rw [List.getElem?_dropLast] at hk
    split at hk
    · exact hk
    · cases hk
  rw [List.take_add_one, hki]; rfl
theorem sj_last {way : Way} {us : List Value} {ks : Str} (hlen : us.length = way.length) (hpos : 0 < way.length) (hks : way[way.length - 1]? = some ks) : way = way.take (way.length - 1) ++ [ks] := by
  have := List.take_append_drop (way.length - 1) way
  rw [List.drop_eq_getElem_cons (by exact (qfs2 (List.length way) (1) (by exact hpos))), List.drop_of_length_le (by exact (qfs1 (List.length way) (1)))] at this
  conv => lhs; rw [← this]
  congr 2
  exact Option.some.inj ((List.getElem?_eq_getElem (by exact (qfs2 (List.length way) (1) (by exact hpos)))).symm.trans hks)
theorem sj_road {τ : AbsT} {way pre : Way} {ks : Str} (hwl : way = pre ++ [ks]) : road τ [] way = ensure (road τ [] pre) way := by
  conv => lhs; rw [hwl]
  rw [road_snoc]
  simp only [List.nil_append]
  rw [← hwl]
section
variable {prog : Program} {w : World} {A : Around} {E : Value → Shared → Prop} {env : Env} {ns : List Str} {h₀ : Heap} {vs : List (Option Value)} {l : Lg} {s₀ s : Shared}
  {K : Frag} {p : Program} {loose : List Str} {mean : ExcName → Option Value} {mg mb : Str → Option Value} {d u : Nat}

theorem w_grow {M : List Str} {F : FO} {τ : AbsT} {pre rest : Lg} {x y : Str} {i j : Nat} {a : Addr} {o : Obj} {k : Str} {t : Tok} {v : Way} {Q : Flow → Shared → Prop}
    {p1 p2 p3 p4 p5 p6 p7 p8 p9 q1 q2 q3 q4 : Pos} {c1 c2 c3 : Nat}
    (fn : Fn env ns) (cx : Cx K p loose mean mg mb d u A env h₀) (st : S env ns h₀ vs (pre ++ (F.cells ++ rest)) s₀ s) (H : F.Is prog w M τ)
    (e : nsIn K mainGlobals "set" = some none) (hx : env.kindOf "set" = some .globalImplicit)
    (hi : ns[i]? = some x) (hvi : vs[i]? = some (some (.ref a))) (hj : ns[j]? = some y) (hvj : vs[j]? = some (some (.str k t)))
    (hd : F.dictAt v = some (a, o)) (hn : F.look (v ++ [k]) = none) (hm : ∀ z ∈ v ++ [k], z ∈ M) (hM : M.length ≤ 100)
    (h : ∀ F' s', F'.Is prog w M (ensure τ (v ++ [k])) → F.Same F' → (∃ z, F'.look (v ++ [k]) = some z) → (F'.dictAt v).map (·.1) = some a → S env ns h₀ vs (pre ++ (F'.cells ++ rest)) s₀ s' → Q .next s')
    (hs : swapsWith (.Dict [some (.Constant (.str "flags") c1 p1), some (.Constant (.str "recursive_flags") c2 p2), some (.Constant (.str "nested") c3 p3)] [.Call (.Name "set" p4) [] [] p5, .Call (.Name "set" p6) [] [] p7, .Dict [] [] p8] p9) (some (.Subscript (.Name x q1) (.Name y q2) q3)) q4.line env = pure false) :
    W (model prog w) A (exec (.Assign [.Subscript (.Name x q1) (.Name y q2) q3] (.Dict [some (.Constant (.str "flags") c1 p1), some (.Constant (.str "recursive_flags") c2 p2), some (.Constant (.str "nested") c3 p3)] [.Call (.Name "set" p4) [] [] p5, .Call (.Name "set" p6) [] [] p7, .Dict [] [] p8] p9) q4) env) Q E s := by
  obtain ⟨kvs, hkv, hkids⟩ := H.kids _ _ _ hd
  refine w_assignSub (w_dict3 st cx (by decide) fun b s1 hb st1 => w_set_call fn cx st1 e hx fun b1 led1 s2 st2 => ⟨_, st2, fun s2' st2' => w_set_call fn cx st2' e hx fun b2 led2 s3 st3 => ⟨_, st3, fun s3' st3' => w_newdict st3' cx fun b3 s4 hb3 st4 =>
    ⟨_, _, st4, fun o' => .tail (.tail (.tail .head)), fun o' s5 ho' st5 => ?_⟩⟩⟩) hs
  refine w_name i fn st5 hi hvi (w_name j fn st5 hj hvj (w_setitem st5 (fun o'' => .tail (.tail (.tail (.tail (.app (.left (FO.setDict_upd H.keys hd))))))) hkv (H.len hM hkv hkids) fun o'' s6 ho'' st6 => ?_))
  let x : Nd := ⟨b, b1, b2, b3, o', freshSet led1, freshSet led2, emptyD⟩
  refine h ((F.setDict v o'').add (v ++ [k]) x) s6 (Is_grow H hd hn hm hkids ho'' ho' (IS_nil prog w _) (IS_nil prog w _) isDict_nil hb hb3) ((FO.Same.setDict F v o'').trans (FO.Same.add _ _ _)) ⟨x, by rw [FO.look_add, if_pos rfl]⟩ ?_ (st6.perm ?_)
  · unfold FO.dictAt at hd ⊢
    by_cases hv : v = []
    · rw [if_pos hv] at hd ⊢
      rw [(FO.Same.add _ _ _).root, (FO.Same.setDict F v o'').root]
      cases hd; rfl
    · rw [if_neg hv] at hd ⊢
      rw [FO.look_add, if_neg (fun q => by have := congrArg List.length q; simp at this), FO.look_setDict, if_pos ⟨rfl, hv⟩]
      obtain ⟨z, hz, e'⟩ := Option.map_eq_some_iff.mp hd
      rw [hz]
      cases e'; rfl
  · show List.Perm ([(b3, emptyD), (b2, freshSet led2), (b1, freshSet led1), (b, o')] ++ (pre ++ ((F.setDict v o'').cells ++ rest))) _
    have e1 : List.Perm [(b3, emptyD), (b2, freshSet led2), (b1, freshSet led1), (b, o')] x.cells := (List.reverse_perm x.cells)
    refine (e1.append_right _).trans ?_
    refine (List.perm_append_comm_assoc _ _ _).trans (List.Perm.append_left _ ?_)
    rw [← List.append_assoc]
    exact (FO.add_cells _ _ _).append_right _

set_option maxHeartbeats 4000000 in
theorem set_spec {M : List Str} {F : FO} {τ : AbsT} {rest : Lg} {q : Addr} {us : List Value} {way : Way} {flag : Int} {t : Tok} {rec : Bool} {R : Result → Shared → Prop}
    (fn : Fn env ns) (cx : Cx (hd2.heap_39 w.params) p loose mean mg mb (d + 1) (u + 3) A env h₀) (st : S env ns h₀ vs (F.cells ++ rest) s₀ s)
    (H : F.Is prog w M τ) (hq : (q, tupO us) ∈ rest) (hw : WayV us way) (hz : us.length ≤ sizeLine) (hne : way ≠ []) (hm : ∀ z ∈ way, z ∈ M) (hM : M.length ≤ 100) (hf : flag = 0 ∨ flag = 1)
    (h : ∀ F' s', F'.Is prog w M (setT τ way flag rec) → F.Same F' → S env ns h₀ vs (F'.cells ++ rest) s₀ s' → R (.ok (.ret .none)) s') :
    codeAny (model prog w) A (.call (.ref 56) ⟨[.ref F.f, .ref q, .int flag t], [("recursive", .bool rec)]⟩) R s := by
  refine S_call (d := d) (u := u) (ns' := ["self", "key", "flag", "recursive", "cont", "key_parent", "key_stem", "k"]) (vs' := [some (.ref F.f), some (.ref q), some (.int flag t), some (.bool rec), none, none, none, none])
    [("self", .ref F.f), ("key", .ref q), ("flag", .int flag t), ("recursive", .bool rec)] ["cont", "key_parent", "key_stem", "k"] fn cx st (by k_is) (by k_is) (BindsTo.of_eq rfl) rfl rfl (fn_of (by rfl) (by decide) rfl) (by decide) ?_
  intro env1 g A1 s1 E' he fn1 cx1 st1
  generalize hSR : SRet _ _ _ _ _ _ _ _ _ = RR0; revert RR0; refine hold ?_; intro RR0 hSR
  have hset : env1.kindOf "set" = some .globalImplicit := by obtain ⟨L', e⟩ := he; rw [e]; rfl
  have hint : interactive env1 = false := by obtain ⟨L', e⟩ := he; rw [e]; rfl
  have hlen := hw.length
  have hpos : 0 < way.length := by cases way with | nil => exact absurd rfl hne | cons _ _ => simp
  obtain ⟨v, hv⟩ : ∃ v, us[way.length - 1]? = some v := ⟨us[way.length - 1], List.getElem?_eq_getElem (by exact Nat.le_trans (qfs2 (List.length way) (1) (by exact hpos)) (qfg hlen))⟩
  obtain ⟨ks, tks, rfl, hks⟩ := hw.get hv
  have hq1 : (q, tupO us) ∈ F.cells ++ rest := List.mem_append_right _ hq
  refine w_cons (w_assign 4 fn1 rfl (w_attr (w_name 0 fn1 st1 rfl rfl (w_flags cx1 st1 H (fun c hc => List.mem_append_left _ hc) fun s3 st3 => ⟨_, _, st3, Nat.le_of_ble_eq_true rfl, fun s4 st4 => ?_⟩))))
  refine w_cons (w_swapped ["key_parent", "key_stem"] ?_ (by obtain ⟨L', rfl⟩ := he; rfl) (by obtain ⟨L', rfl⟩ := he; rfl))
  refine w_tupleE (w_args (w_subslice (w_name 1 fn1 st4 rfl rfl (wpart_0 (wpart_e (w_neg1 st4 fun t5 s5 st5 => ?_))))))
  refine w_slice_tup st5 hq1 .none (.int _ _) hz fun z a s6 st6 ha => ?_
  refine w_args (w_subE (w_name 1 fn1 st6 rfl rfl (w_neg1 st6 fun t7 s7 st7 => w_item_tup st7 (List.mem_append_right _ hq1) (by decide) (by decide) (seqIndex_last (by exact Nat.le_trans hpos (qfg hlen))) (hlen ▸ hv) ?_)))
  refine w_args0 (w_tuple st7 (fun b s8 st8 => ?_))
  refine w_unpackItems cx1.hand st8 (.head _) rfl fun s9 st9 => ?_
  refine w_inorder (w_bind (w_store 6 fn1 st9.drop rfl (Nat.le_of_ble_eq_true rfl) fun s10 st10 => ?_))
  refine w_inorder (w_bind (w_store 5 fn1 st10 rfl (Nat.le_of_ble_eq_true rfl) fun s11 st11 => ?_))
  refine w_inorder0 ?_
  refine w_cons (w_for (w_name 5 fn1 st11 rfl rfl ?_))
  have mz : ∀ F' : FO, (a, tupO us.dropLast) ∈ z ++ (F'.cells ++ rest) := by
    intro F'
    have := ha (F'.cells ++ rest) (List.mem_append_right _ hq)
    rw [sl_init] at this
    exact this
  refine w_for_tuple cx1.hand st11 (mz F) (SJ prog w M F τ z rest q a flag t tks rec ks way)
    (.mk F F.root F.oroot none H (.refl F) rfl) (fun i vs' l' hJ => by obtain ⟨F'⟩ := hJ; exact mz F') ?_ ?_
  · intro i v vs' l' I oI s' E2 hv hJ st'
    generalize hLP : LPost _ _ _ _ _ _ _ _ = QQ; revert QQ; refine hold ?_; intro QQ hLP
    obtain ⟨F', a', o, kx, H', sm, hd⟩ := hJ
    obtain ⟨k, tk, rfl, hk⟩ := hw.dropLast.get hv
    have htake := sj_take hk
    have hroad : road τ [] (way.take (i + 1)) = ensure (road τ [] (way.take i)) (way.take i ++ [k]) := by rw [htake, road_snoc]; rfl
    have hmk : ∀ y ∈ way.take i ++ [k], y ∈ M := fun y hy => hm y (List.mem_of_mem_take (by rw [← htake] at hy; exact hy))
    have mI : ∀ F'' : FO, ∀ c ∈ F''.cells, c ∈ (I, oI) :: (z ++ (F''.cells ++ rest)) := fun _ c hc => .tail _ (List.mem_append_right _ (List.mem_append_left _ hc))
    obtain ⟨kvs, hkv, hkids⟩ := H'.kids _ _ _ hd
    refine w_aname (w_store 7 fn1 st' rfl (Nat.le_of_ble_eq_true rfl) fun s2 st2 => ?_)
    refine w_cons (W.mono (Q := GrS prog w M env1 ["self", "key", "flag", "recursive", "cont", "key_parent", "key_stem", "k"] g s₀ [some (.ref F.f), some (.ref q), some (.int flag t), some (.bool rec), some (.ref a'), some (.ref a), some (.str ks tks), some (.str k tk)] ((I, oI) :: z) rest F a' (way.take i) k (road τ [] (way.take (i + 1))))
      (w_if (w_testcmp (w_name 7 fn1 st2 rfl rfl (w_name 4 fn1 st2 rfl rfl (w_notin_dict st2 (mI F' _ (dict_mem hd)) hkv (H'.low _ _ _ hd) fun s3 st3 => w_tbool ?_))))) ?_)
    · cases hl : valueAt kvs k with
      | none =>
        have hn : F'.look (way.take i ++ [k]) = none := by
          cases e : F'.look (way.take i ++ [k]) with
          | none => rfl
          | some y => have := (hkids k _).mpr ⟨y, e, rfl⟩; rw [hl] at this; cases this
        refine w_cons (w_grow (pre := (I, oI) :: z) (i := 4) (j := 7) fn1 cx1 st3 H' (by k_is) hset rfl rfl rfl rfl hd hn hmk hM (fun F'' s4 H'' sm'' hy hda st4 => w_nil ⟨rfl, F'', hroad ▸ H'', sm.trans sm'', hda, hy, st4⟩) rfl)
      | some x =>
        obtain ⟨y, hy, rfl⟩ := (hkids k x).mp hl
        obtain ⟨X, Y, hτ, _, _⟩ := H'.flags_at hy
        exact w_nil ⟨rfl, F', by rw [hroad, ensure_there hτ]; exact H', sm, by rw [hd]; rfl, ⟨y, hy⟩, st3⟩
    · rintro f s3 ⟨rfl, F'', H'', sm'', hda, hy, st3⟩
      obtain ⟨kvs2, o2, y, hd2, hkv2, hy2, hl2⟩ := grown H'' hda hy
      have hyn := H''.node_at hy2
      refine w_cons (w_assign 4 fn1 rfl (w_subE (w_subE (w_name 4 fn1 st3 rfl rfl (w_name 7 fn1 st3 rfl rfl (w_tail_dict st3 (mI F'' _ (dict_mem hd2)) hkv2 hl2 fun s4 st4 =>
        w_str st4 fun t5 s5 st5 => w_tail_dict st5 (mI F'' _ (mem_cells hy2 (.head _))) hyn rfl fun s6 st6 => ⟨_, _, st6, Nat.le_of_ble_eq_true rfl, fun s7 st7 => ?_⟩))))))
      subst hLP
      refine w_nil ⟨_, _, st7, .mk F'' y.nd y.ond _ H'' sm'' ?_⟩
      rw [htake]; exact H''.dict_of hy2
  · rintro vs' l' s' ⟨F', a', o, kx, H', sm, hd⟩ st'
    have hidx : us.dropLast.length = way.length - 1 := by rw [List.length_dropLast, hlen]
    rw [hidx] at hd H'
    have hwl := sj_last hlen (by exact hpos) hks
    have hroad := sj_road (τ := τ) hwl
    have hm' : ∀ y ∈ way.take (way.length - 1) ++ [ks], y ∈ M := fun y hy => hm y (by rw [hwl]; exact hy)
    generalize hpre : way.take (way.length - 1) = pre at *
    have mc : ∀ F'' : FO, ∀ c ∈ F''.cells, c ∈ z ++ (F''.cells ++ rest) := fun _ c hc => List.mem_append_right _ (List.mem_append_left _ hc)
    obtain ⟨kvs, hkv, hkids⟩ := H'.kids _ _ _ hd
    refine w_cons (W.mono (Q := GrS prog w M env1 ["self", "key", "flag", "recursive", "cont", "key_parent", "key_stem", "k"] g s₀ [some (.ref F.f), some (.ref q), some (.int flag t), some (.bool rec), some (.ref a'), some (.ref a), some (.str ks tks), kx] z rest F a' pre ks (road τ [] way))
      (w_if (w_testcmp (w_name 6 fn1 st' rfl rfl (w_name 4 fn1 st' rfl rfl (w_notin_dict st' (mc F' _ (dict_mem hd)) hkv (H'.low _ _ _ hd) fun s3 st3 => w_tbool ?_))))) ?_)
    · cases hl : valueAt kvs ks with
      | none =>
        have hn : F'.look (pre ++ [ks]) = none := by
          cases e : F'.look (pre ++ [ks]) with
          | none => rfl
          | some y => have := (hkids ks _).mpr ⟨y, e, rfl⟩; rw [hl] at this; cases this
        refine w_cons (w_grow (pre := z) (i := 4) (j := 6) fn1 cx1 st3 H' (by k_is) hset rfl rfl rfl rfl hd hn hm' hM (fun F'' s4 H'' sm'' hy hda st4 => w_nil ⟨rfl, F'', by rw [hroad, hwl]; exact H'', sm.trans sm'', hda, hy, st4⟩) rfl)
      | some x =>
        obtain ⟨y, hy, rfl⟩ := (hkids ks x).mp hl
        obtain ⟨X, Y, hτ, _, _⟩ := H'.flags_at hy
        exact w_nil ⟨rfl, F', by rw [hroad, hwl, ensure_there hτ]; exact H', sm, by rw [hd]; rfl, ⟨y, hy⟩, st3⟩
    · rintro f s3 ⟨rfl, F'', H'', sm'', hda, hy, st3⟩
      obtain ⟨kvs2, o2, y, hd2, hkv2, hy, hl2⟩ := grown H'' hda hy
      have hyn := H''.node_at hy
      obtain ⟨X, Y, hτ, hX, hY⟩ := H''.flags_at hy
      rw [← hwl] at hy hτ
      refine w_cons (w_exprS hint (w_meth (w_subE (w_subE (w_name 4 fn1 st3 rfl rfl (w_name 6 fn1 st3 rfl rfl (w_tail_dict st3 (mc F'' _ (dict_mem hd2)) hkv2 hl2 fun s4 st4 => w_ifexp (w_plain (w_name 3 fn1 st4 rfl rfl (w_tbool ?_))))))))))
      cases rec with
      | true =>
        refine w_str st4 fun t5 s5 st5 => ?_
        refine w_tail_dict st5 (mc F'' _ (mem_cells hy (.head _))) hyn rfl fun s6 st6 => ?_
        have hb : cnt Y + 1 < scanBound := by have := cnt_le Y; unfold scanBound; exact qft fun x => qfa2 x this (by simp +arith only)
        refine w_add_meth st6 (mc F'' _ (mem_cells hy (.tail _ (.tail _ (.head _))))) hY.1 (Nat.lt_of_succ_lt hb) ?_
        refine w_cwBuiltin ?_
        refine w_args (w_name 2 fn1 st6 rfl rfl ?_)
        refine w_args0 ?_
        refine w_add_int (l' := fun o' => z ++ ((F''.mod way fun y => { y with orc := o' }).cells ++ rest)) st6 (fun o' => .app (.left (FO.mod_upd H''.keys hy (.tail (.tail .head))))) hY.1 hb fun o' s7 ho' st7 => ?_
        refine w_nil ?_
        subst hSR
        change SRet _ _ _ _ _ _ _ _ _ _ _
        refine SRet.intro st7.dropL fun st => h _ _ ?_ (sm''.trans (FO.Same.mod _ _ _)) st
        have := Is_marks H'' hy (g := fun y => { y with orc := o' }) (fun y => ⟨rfl, rfl, rfl, rfl, rfl, rfl⟩) hX (IS_add hf hY.2 ho')
        have e : (fun u => if u = way then some (X, addF Y flag) else road τ [] way u) = setT τ way flag true := by
          funext u
          unfold setT setM
          rw [hτ]; rfl
        rw [e] at this
        exact this
      | false =>
        refine w_str st4 fun t5 s5 st5 => ?_
        refine w_tail_dict st5 (mc F'' _ (mem_cells hy (.head _))) hyn rfl fun s6 st6 => ?_
        have hb : cnt X + 1 < scanBound := by have := cnt_le X; unfold scanBound; exact qft fun x => qfa2 x this (by simp +arith only)
        refine w_add_meth st6 (mc F'' _ (mem_cells hy (.tail _ (.head _)))) hX.1 (Nat.lt_of_succ_lt hb) ?_
        refine w_cwBuiltin ?_
        refine w_args (w_name 2 fn1 st6 rfl rfl ?_)
        refine w_args0 ?_
        refine w_add_int (l' := fun o' => z ++ ((F''.mod way fun y => { y with ofl := o' }).cells ++ rest)) st6 (fun o' => .app (.left (FO.mod_upd H''.keys hy (.tail .head)))) hX.1 hb fun o' s7 ho' st7 => ?_
        refine w_nil ?_
        subst hSR
        change SRet _ _ _ _ _ _ _ _ _ _ _
        refine SRet.intro st7.dropL fun st => h _ _ ?_ (sm''.trans (FO.Same.mod _ _ _)) st
        have := Is_marks H'' hy (g := fun y => { y with ofl := o' }) (fun y => ⟨rfl, rfl, rfl, rfl, rfl, rfl⟩) (IS_add hf hX.2 ho') hY
        have e : (fun u => if u = way then some (addF X flag, Y) else road τ [] way u) = setT τ way flag false := by
          funext u
          unfold setT setM
          rw [hτ]; rfl
        rw [e] at this
        exact this
end
end Mine
end
section
open PySem PySem.W PySem.Calls PyProof.Rows PySem.Spec
set_option maxRecDepth 100000
namespace Mine
section
variable {prog : Program} {w : World} {A : Around} {E : Value → Shared → Prop} {s : Shared}

theorem wayV_byValue {us : List Value} {way : Way} (hw : WayV us way) : ∀ v ∈ us, ∃ k tk, v = .str k tk := by
  intro v hv
  have : strOf v ∈ us.map strOf := List.mem_map.mpr ⟨v, hv, rfl⟩
  unfold WayV at hw
  rw [hw] at this
  obtain ⟨k, _, e⟩ := List.mem_map.mp this
  exact ⟨k, strOf_some e.symm⟩

theorem eqIsQuiet_tup {n : Nat} {a : Addr} {xs : List Value} {Q : Bool → Shared → Prop} (ha : s.heap.get? a = some (tupO xs)) (hx : ∀ v ∈ xs, ∀ R : Bool → Shared → Prop, R true s → wpAny (model prog w) A (eqIsQuiet n v) R E s) (h : Q true s) : wpAny (model prog w) A (eqIsQuiet (n + 1) (.ref a)) Q E s := by
  have hT : s.TypeIs (.ref a) "tuple" := ⟨_, ha, rfl⟩
  unfold eqIsQuiet
  refine wpAny_bind (wpAny_specialOf hT F.slot_tuple_eq.lookup ?_)
  show wpAny _ _ (isInstance (.ref a) (.type "tuple") >>= _) _ _ s
  refine wpAny_bind (wpAny_isInstance hT isSubtype_tuple_tuple ?_)
  simp -iota only [Bool.not_true, Bool.false_eq_true, if_false]
  refine wpAny_bind (wpAny_seqItems ha rfl ?_)
  refine wpAny_bind ?_
  show wpAny _ _ (forIn xs.toArray _ _) _ _ s
  rw [← Array.forIn_toList]
  refine wpAny_forIn_list _ (fun rest r s' => r.1 = none ∧ s' = s ∧ ∀ v ∈ rest, v ∈ xs) _ ?_ ?_ _ _ ⟨rfl, rfl, fun v hv => by simpa using hv⟩
  · rintro v rest r s' ⟨hr, rfl, hall⟩
    refine wpAny_bind (hx v (hall v (.head _)) _ ?_)
    simp -iota only [Bool.not_true, Bool.false_eq_true, if_false]
    exact wpAny_pure ⟨rfl, rfl, fun u hu' => hall u (List.mem_cons_of_mem _ hu')⟩
  · rintro ⟨r1, r2⟩ s' ⟨hr, rfl, _⟩
    simp -iota only at hr
    subst hr
    exact wpAny_pure h
theorem quiet_pair {x : Value} {p : Way × Int} {Q : Bool → Shared → Prop} (hx : PairAt s.heap x p) (h : Q true s) : wpAny (model prog w) A (eqIsQuiet 8 x) Q E s := by
  obtain ⟨a, q, us, tk, rfl, ha, hq, hw, _, _⟩ := hx
  refine eqIsQuiet_tup ha (fun v hv R r => ?_) h
  rcases List.mem_cons.mp hv with rfl | hv
  · refine eqIsQuiet_tup hq (fun v hv R r => ?_) r
    obtain ⟨k, tk, rfl⟩ := wayV_byValue hw v hv
    rw [eqIsQuiet_byValue _ rfl]
    exact wpAny_pure r
  · rw [List.mem_singleton] at hv; subst hv
    rw [eqIsQuiet_byValue _ rfl]
    exact wpAny_pure r

set_option smartUnfolding false in
theorem ofAClass_tup {n : Nat} {a : Addr} {xs : List Value} {Q : Bool → Shared → Prop} (ha : s.heap.get? a = some (tupO xs)) (hx : ∀ v ∈ xs, ∀ R : Bool → Shared → Prop, R false s → wpAny (model prog w) A (ofAClassStatement n v) R E s) (h : Q false s) : wpAny (model prog w) A (ofAClassStatement (n + 1) (.ref a)) Q E s := by
  have hT : s.TypeIs (.ref a) "tuple" := ⟨_, ha, rfl⟩
  delta ofAClassStatement
  refine wpAny_bind (wpAny_typeOf hT ?_)
  refine wpAny_bind (wpAny_pure ?_)
  simp -iota only [Bool.not_true, Bool.false_eq_true, if_false]
  refine wpAny_bind (wpAny_seqItems ha rfl ?_)
  refine wpAny_bind ?_
  show wpAny _ _ (forIn xs.toArray _ _) _ _ s
  rw [← Array.forIn_toList]
  refine wpAny_forIn_list _ (fun rest r s' => r.1 = none ∧ s' = s ∧ ∀ v ∈ rest, v ∈ xs) _ ?_ ?_ _ _ ⟨rfl, rfl, fun v hv => by simpa using hv⟩
  · rintro v rest r s' ⟨hr, rfl, hall⟩
    refine wpAny_bind (hx v (hall v (.head _)) _ ?_)
    simp -iota only [Bool.not_true, Bool.false_eq_true, if_false]
    exact wpAny_pure ⟨rfl, rfl, fun u hu' => hall u (List.mem_cons_of_mem _ hu')⟩
  · rintro ⟨r1, r2⟩ s' ⟨hr, rfl, _⟩
    simp -iota only at hr
    subst hr
    exact wpAny_pure h
theorem ofAClass_pair {x : Value} {p : Way × Int} {Q : Bool → Shared → Prop} (hx : PairAt s.heap x p) (h : Q false s) : wpAny (model prog w) A (ofAClassStatement 8 x) Q E s := by
  obtain ⟨a, q, us, tk, rfl, ha, hq, hw, _, _⟩ := hx
  refine ofAClass_tup ha (fun v hv R r => ?_) h
  rcases List.mem_cons.mp hv with rfl | hv
  · refine ofAClass_tup hq (fun v hv R r => ?_) r
    obtain ⟨k, tk, rfl⟩ := wayV_byValue hw v hv
    exact wpAny_pure r
  · rw [List.mem_singleton] at hv; subst hv
    exact wpAny_pure r

theorem hashByValue_tup {n : Nat} {a : Addr} {v : Value} {xs : List Value} {Q : Bool → Shared → Prop} (ha : s.heap.get? a = some (tupO (v :: xs))) (hv : ∀ R : Bool → Shared → Prop, R false s → wpAny (model prog w) A (hashByValue n v) R E s) (h : Q false s) : wpAny (model prog w) A (hashByValue (n + 1) (.ref a)) Q E s := by
  have hT : s.TypeIs (.ref a) "tuple" := ⟨_, ha, rfl⟩
  unfold hashByValue
  refine wpAny_bind (wpAny_specialOf hT F.slot_tuple_hash.lookup ?_)
  refine wpAny_bind (wpAny_seqItems ha rfl ?_)
  refine wpAny_bind ?_
  show wpAny _ _ (forIn (v :: xs).toArray _ _) _ _ s
  rw [← Array.forIn_toList]
  show wpAny _ _ (forIn (v :: xs) _ _) _ _ s
  rw [List.forIn_cons]
  refine wpAny_bind (wpAny_bind (hv _ ?_))
  simp -iota only [Bool.not_false, if_true]
  refine wpAny_pure (wpAny_pure ?_)
  exact wpAny_pure h
theorem hashByValue_pair {x : Value} {p : Way × Int} {Q : Bool → Shared → Prop} (hx : PairAt s.heap x p) (h : Q false s) : wpAny (model prog w) A (hashByValue 8 x) Q E s := by
  obtain ⟨a, q, us, tk, rfl, ha, hq, hw, _, hne⟩ := hx
  refine hashByValue_tup ha (fun R r => ?_) h
  cases us with
  | nil => unfold WayV at hw; simp at hw; exact absurd hw hne
  | cons v us =>
    refine hashByValue_tup hq (fun R r => ?_) r
    obtain ⟨k, tk, rfl⟩ := wayV_byValue hw v (.head _)
    exact wpAny_pure r

theorem unseen_pairs {x : Value} {p : Way × Int} {ys : List Value} {Q : Bool → Shared → Prop} (hx : PairAt s.heap x p) (hy : ∀ y ∈ ys, ∃ p', PairAt s.heap y p') (h : Q false s) : wpAny (model prog w) A (searchCouldBeSeen x ys) Q E s := by
  refine wpAny_bind ?_
  refine wpAny_forIn_list _ (fun rest r s' => r.1 = none ∧ s' = s ∧ ∀ v ∈ rest, v ∈ ys) _ ?_ ?_ _ _ ⟨rfl, rfl, fun v hv => hv⟩
  · rintro v rest r s' ⟨hr, rfl, hall⟩
    obtain ⟨p', hp⟩ := hy v (hall v (.head _))
    have hk : ∀ u ∈ rest, u ∈ ys := fun u hu' => hall u (List.mem_cons_of_mem _ hu')
    obtain ⟨a, _, _, _, e, _⟩ := id hx
    obtain ⟨b, _, _, _, e', _⟩ := id hp
    subst e e'
    dsimp only
    by_cases hab : (a == b || carriedByValue (.ref a) && carriedByValue (.ref b)) = true
    · rw [if_pos hab]
      exact wpAny_pure ⟨rfl, rfl, hk⟩
    · rw [if_neg hab]
      refine wpAny_bind (quiet_pair hx ?_)
      rw [if_neg (by decide)]
      refine wpAny_bind (quiet_pair hp ?_)
      rw [if_neg (by decide)]
      refine wpAny_bind (ofAClass_pair hx ?_)
      rw [if_neg (by decide)]
      refine wpAny_bind (ofAClass_pair hp ?_)
      rw [if_neg (by decide)]
      exact wpAny_pure ⟨rfl, rfl, hk⟩
  · rintro ⟨r1, r2⟩ s' ⟨hr, rfl, _⟩
    simp -iota only at hr
    subst hr
    exact wpAny_pure h
end

theorem probe_go {t : SetTable} {es : Array (Int × Value)} (T : TI t es) (hashAt : Nat → Int) (h : Int) {N : Nat} (hN : (seqP t h N).j ∉ t.place.toList) (hb : ∀ m, m < N → (seqP t h m).j ∈ t.place.toList) : ∀ (fuel n : Nat), n ≤ N → N - n < fuel →
    (SetTable.probe.go t hashAt h fuel (seqP t h n) = some (.empty (seqP t h N).j none) ∧ ∀ m i, n ≤ m → m < N → t.place[i]? = some (seqP t h m).j → hashAt i ≠ h) ∨
    ∃ m i, n ≤ m ∧ m < N ∧ t.place[i]? = some (seqP t h m).j ∧ hashAt i = h ∧ SetTable.probe.go t hashAt h fuel (seqP t h n) = some (.candidate (seqP t h m).j i (seqP t h (m + 1))) ∧ ∀ m' i', n ≤ m' → m' < m → t.place[i']? = some (seqP t h m').j → hashAt i' ≠ h
  | 0, n, _, hf => absurd hf (Nat.not_lt_zero _)
  | fuel + 1, n, hn, hf => by
    unfold SetTable.probe.go
    rcases Nat.lt_or_ge n N with hlt | hge
    · obtain ⟨i, hi⟩ := Array.getElem?_of_mem (by simpa using hb n hlt : (seqP t h n).j ∈ t.place)
      rw [slot_live T.sorted hi]
      dsimp only
      by_cases hh : hashAt i = h
      · rw [if_pos (by rw [hh]; simp)]
        exact .inr ⟨n, i, Nat.le_refl _, hlt, hi, hh, rfl, fun m' i' h1 h2 => absurd h1 (by exact fun x => qfa2 x h2 (by simp +arith only))⟩
      · rw [if_neg (by simpa using hh)]
        have uniq : ∀ i', t.place[i']? = some (seqP t h n).j → hashAt i' ≠ h := fun i' hi' => by
          have : i' = i := by
            have a1 := below_at T.sorted hi'
            have a2 := below_at T.sorted hi
            rw [← a1, ← a2]
          rw [this]; exact hh
        rcases probe_go T hashAt h hN hb fuel (n + 1) hlt (by exact qft fun x => qfa4 x (qfs2 (N) (n + 1) (by exact hlt)) (qfs1 (N) (n)) hf (by simp +arith only)) with ⟨e, g⟩ | ⟨m, i2, h1, h2, h3, h4, h5, h6⟩
        · refine .inl ⟨e, fun m i' g1 g2 g3 => ?_⟩
          rcases Nat.eq_or_lt_of_le g1 with rfl | g1
          · exact uniq i' g3
          · exact g m i' g1 g2 g3
        · refine .inr ⟨m, i2, by exact Nat.le_of_lt h1, h2, h3, h4, h5, fun m' i' g1 g2 g3 => ?_⟩
          rcases Nat.eq_or_lt_of_le g1 with rfl | g1
          · exact uniq i' g3
          · exact h6 m' i' g1 g2 g3
    · have : n = N := by exact Nat.le_antisymm hn hge
      subst this
      rw [slot_empty T.sorted T.dum hN]
      refine .inl ⟨?_, fun m i g1 g2 => absurd g1 (by exact fun x => qfa2 x g2 (by simp +arith only))⟩
      rw [seq_dummy]
section
variable {prog : Program} {w : World} {A : Around} {E : Value → Shared → Prop} {s : Shared}

inductive Rows (prog : Program) (w : World) (At : Value → Way × Int → Prop) : List (Int × Value) → List (Way × Int) → Prop
  | nil : Rows prog w At [] []
  | cons {e : Int × Value} {p : Way × Int} {es : List (Int × Value)} {ps : List (Way × Int)} : (e.1 = pairHash prog w p ∧ At e.2 p) → Rows prog w At es ps → Rows prog w At (e :: es) (p :: ps)
theorem Rows.perm {At : Value → Way × Int → Prop} {es es' : List (Int × Value)} (q : es.Perm es') : ∀ {ps : List (Way × Int)}, Rows prog w At es ps → ∃ ps', Rows prog w At es' ps' ∧ ps'.Perm ps := by
  induction q with
  | nil => exact fun r => ⟨_, r, List.Perm.refl _⟩
  | cons a _ ih =>
    intro ps r
    cases r with
    | cons h1 h2 =>
      obtain ⟨ps', r', q'⟩ := ih h2
      exact ⟨_, .cons h1 r', q'.cons _⟩
  | swap a b l =>
    intro ps r
    cases r with
    | cons h1 h2 =>
      cases h2 with
      | cons h3 h4 => exact ⟨_, .cons h3 (.cons h1 h4), .swap _ _ _⟩
  | trans _ _ ih1 ih2 =>
    intro ps r
    obtain ⟨p1, r1, q1⟩ := ih1 r
    obtain ⟨p2, r2, q2⟩ := ih2 r1
    exact ⟨p2, r2, q2.trans q1⟩
theorem Rows.imp {At Bt : Value → Way × Int → Prop} (k : ∀ v p, At v p → Bt v p) : ∀ {es : List (Int × Value)} {ps : List (Way × Int)}, Rows prog w At es ps → Rows prog w Bt es ps := by
  intro es ps r
  induction r with
  | nil => exact .nil
  | cons a _ ih => exact .cons ⟨a.1, k _ _ a.2⟩ ih
theorem Rows.length {At : Value → Way × Int → Prop} : ∀ {es : List (Int × Value)} {ps : List (Way × Int)}, Rows prog w At es ps → es.length = ps.length := by
  intro es ps r
  induction r with
  | nil => rfl
  | cons _ _ ih => exact congrArg (· + 1) ih

theorem Rows.mem {At : Value → Way × Int → Prop} : ∀ {es : List (Int × Value)} {ps : List (Way × Int)}, Rows prog w At es ps → ∀ e ∈ es, ∃ p ∈ ps, e.1 = pairHash prog w p ∧ At e.2 p := by
  intro es ps r
  induction r with
  | nil => exact fun e he => nomatch he
  | cons a _ ih =>
    intro e he
    rcases List.mem_cons.mp he with rfl | he
    · exact ⟨_, .head _, a⟩
    · obtain ⟨p, hp, q⟩ := ih e he
      exact ⟨p, .tail _ hp, q⟩
theorem Rows.mem' {At : Value → Way × Int → Prop} : ∀ {es : List (Int × Value)} {ps : List (Way × Int)}, Rows prog w At es ps → ∀ p ∈ ps, ∃ e ∈ es, e.1 = pairHash prog w p ∧ At e.2 p := by
  intro es ps r
  induction r with
  | nil => exact fun e he => nomatch he
  | cons a _ ih =>
    intro e he
    rcases List.mem_cons.mp he with rfl | he
    · exact ⟨_, .head _, a⟩
    · obtain ⟨p, hp, q⟩ := ih e he
      exact ⟨p, .tail _ hp, q⟩

theorem found_at {At : Value → Way × Int → Prop} {es : Array (Int × Value)} {t : SetTable} {p : Way × Int} {ps : List (Way × Int)} (T : TI t es) (R : Rows prog w At es.toList ps) {N : Nat} (hN : (seqP t (pairHash prog w p) N).j ∉ t.place.toList) (hp : p ∈ ps) :
    ∃ (i n0 : Nat) (e : Int × Value), es[i]? = some e ∧ e.1 = pairHash prog w p ∧ At e.2 p ∧ t.place[i]? = some (seqP t (pairHash prog w p) n0).j ∧ n0 < N := by
  obtain ⟨e, he, h1, h2⟩ := R.mem' p hp
  obtain ⟨i, hi⟩ := List.mem_iff_getElem?.mp he
  have hi2 : es[i]? = some e := by simpa using hi
  obtain ⟨hlt, _⟩ := Array.getElem?_eq_some_iff.mp hi2
  have hlt2 : i < t.place.size := by rw [T.size]; exact hlt
  have hj : t.place[i]? = some t.place[i] := Array.getElem?_eq_getElem hlt2
  have hz : (t.place[i], e) ∈ List.zip t.place.toList es.toList := by
    refine List.mem_iff_getElem?.mpr ⟨i, ?_⟩
    rw [List.getElem?_zip_eq_some]
    exact ⟨by simpa using hj, hi⟩
  obtain ⟨n0, q1, q2⟩ := T.path _ hz
  rw [h1] at q1 q2
  refine ⟨i, n0, e, hi2, h1, h2, by rw [hj]; exact congrArg some q1.symm, ?_⟩
  rcases Nat.lt_trichotomy n0 N with q | q | q
  · exact q
  · subst q
    exact absurd (by rw [q1]; simp) hN
  · exact absurd (q2 N q) hN

theorem setSearchFrom_pair {a : Addr} {o : Obj} {es : Array (Int × Value)} {ep : Nat} {t : SetTable} {x : Value} {p : Way × Int} {ps : List (Way × Int)} {Q : SetFound → Shared → Prop} (hu : A.units + 64 < cLine)
    (ho : s.heap.get? a = some o) (hd : o.data = .set es ep t) (T : TI t es) (hl : es.size * 5 < t.mask * 3) (R : Rows prog w (PairAt s.heap) es.toList ps) (hx : PairAt s.heap x p)
    {N : Nat} (hNl : N ≤ 10 * (13 + t.mask)) (hN : (seqP t (pairHash prog w p) N).j ∉ t.place.toList) (hb : ∀ m, m < N → (seqP t (pairHash prog w p) m).j ∈ t.place.toList)
    (hin : p ∈ ps → Q (.there none) s) (hout : p ∉ ps → Q (.free (seqP t (pairHash prog w p) N).j false) s) :
    ∀ (fuel n : Nat) (stand : Option SetTable.Probe), stand.getD (t.probeStart (pairHash prog w p)) = seqP t (pairHash prog w p) n → n ≤ N → N - n < fuel → (∀ (m i : Nat) (e : Int × Value), m < n → t.place[i]? = some (seqP t (pairHash prog w p) m).j → es[i]? = some e → ¬ PairAt s.heap e.2 p) → 
      wpAny (model prog w) A (setSearchFrom a x (pairHash prog w p) true fuel stand) Q E s
  | 0, _, _, _, _, hf, _ => absurd hf (Nat.not_lt_zero _)
  | fuel + 1, n, stand, est, hn, hf, hno => by
    have hfit : t.fits es.size = true := by
      unfold SetTable.fits SetTable.fill
      rw [T.dum, T.size]
      simp
      lia
    have hmask : t.mask % 2 = 1 := by rcases T.mask with e | e | e <;> rw [e]
    refine wpAny_bind (wpAny_setState_of ho hd hfit ?_)
    dsimp -zeta only
    rw [if_neg (by unfold SetTable.gaveWay; rw [hmask]; decide)]
    rw [est]
    unfold SetTable.probe
    generalize hgo : SetTable.probe.go t _ (pairHash prog w p) _ _ = r
    have hsize : t.place.size = es.size := T.size
    rcases probe_go T (fun i => (es[i]?.map (·.1)).getD 0) (pairHash prog w p) hN hb (10 * SetTable.turns t.mask) n hn (by unfold SetTable.turns; exact qft fun x => qfa3 x (qfs2 (N) (n) (by exact hn)) hNl (by simp +arith only)) with ⟨e, g⟩ | ⟨m, i, h1, h2, h3, h4, h5, h6⟩
    · obtain rfl : _ = r := e.symm.trans hgo
      refine wpAny_pure (hout fun hp => ?_)
      obtain ⟨i, n0, e0, q1, q2, q3, q4, q5⟩ := found_at T R hN hp
      rcases Nat.lt_or_ge n0 n with c | c
      · exact hno n0 i e0 c q4 q1 q3
      · refine g n0 i c q5 q4 ?_
        rw [q1]
        exact q2
    · obtain rfl : _ = r := h5.symm.trans hgo
      obtain ⟨hi, _⟩ := Array.getElem?_eq_some_iff.mp h3
      have hi : i < es.size := by rw [← hsize]; exact hi
      have hes : es[i]? = some es[i] := Array.getElem?_eq_getElem hi
      obtain ⟨p', hp', e1, e2⟩ := R.mem es[i] (by simp)
      rw [hes] at h4
      have h4 : (es[i]).1 = pairHash prog w p := h4
      have hslot := slot_live T.sorted h3
      dsimp -zeta only
      extract_lets -merge jp
      have rest : wpAny (model prog w) A (jp PUnit.unit) Q E s := by
        dsimp -zeta only [jp]
        rw [hes]
        dsimp only
        refine wpAny_bind (wpAny_holding (eqBool_pair hu e2 hx ?_))
        refine wpAny_bind (wpAny_setState_of ho hd hfit ?_)
        dsimp only
        by_cases hpp : p' = p
        · rw [decide_eq_true hpp]
          simp -iota only [Bool.and_self, if_true]
          exact wpAny_pure (hin (hpp ▸ hp'))
        · rw [decide_eq_false hpp, if_neg (by simp)]
          have hsm : t.sameMemory t.moves t.mask = some true := by unfold SetTable.sameMemory; simp
          rw [hsm]
          dsimp only
          simp -iota only [if_true]
          rw [hslot]
          dsimp only
          rw [hes]
          dsimp only
          obtain ⟨b, _, _, _, ey, _⟩ := id e2
          rw [ey]
          refine wpAny_bind (wpAny_isSame_ref_self ?_)
          simp -iota only [if_true]
          refine wpAny_bind (wpAny_pure ?_)
          dsimp only
          simp -iota only [Bool.false_eq_true, if_false]
          refine setSearchFrom_pair hu ho hd T hl R hx hNl hN hb hin hout fuel (m + 1) (some _) rfl (by exact h2) (by exact qft fun x => qfa5 x (qfs2 (N) (m + 1) (by exact h2)) (qfs1 (N) (n)) h1 hf (by simp +arith only)) ?_
          intro m1 i1 e1' c1 c2 c3 c4
          rcases Nat.lt_or_ge m1 n with c | c
          · exact hno m1 i1 e1' c c2 c3 c4
          · rcases Nat.eq_or_lt_of_le (show m1 ≤ m by exact Nat.le_of_lt_succ c1) with rfl | c5
            · obtain rfl : i1 = i := by rw [← below_at T.sorted c2, below_at T.sorted h3]
              obtain rfl := Option.some.inj (hes.symm.trans c3)
              exact hpp (e2.inj c4)
            · have q := h6 m1 i1 c c5 c2
              rw [c3] at q
              have q : e1'.1 ≠ pairHash prog w p := q
              obtain ⟨p2, _, q1, q2⟩ := R.mem e1' (by have := Array.mem_of_getElem? c3; simpa using this)
              rw [q2.inj c4] at q1
              exact q q1

      by_cases hled : (!t.led) = true
      · rw [if_pos hled]
        refine wpAny_bind (unseen_pairs hx (fun y hy => ?_) ?_)
        · obtain ⟨e0, he0, rfl⟩ := List.mem_map.mp hy
          have := R.mem e0 (by
            have := (Array.mem_filter.mp (Array.mem_toList_iff.mp he0)).1
            simpa using this)
          exact ⟨_, this.choose_spec.2.2⟩
        rw [if_neg Bool.false_ne_true]
        exact rest
      · rw [if_neg hled]
        exact rest

end
end Mine
end
section
open PySem PySem.W PySem.Calls PyProof.Rows PySem.Spec
set_option maxRecDepth 100000
namespace Mine

noncomputable abbrev setO (es : Array (Int × Value)) (ep : Nat) (t : SetTable) : Obj := { cls := .type "set", dict := none, data := .set es ep t }
noncomputable def byT (prog : Program) (w : World) : Bool := (model prog w).w.params.followText "set-order"

structure PTs (prog : Program) (w : World) (At : Value → Way × Int → Prop) (es : Array (Int × Value)) (t : SetTable) (ps qs : List (Way × Int)) : Prop where
  ti : TI t es
  load : es.size * 5 < t.mask * 3
  rows : Rows prog w At es.toList qs
  perm : qs.Perm ps
  plain : t.plain = true → es = #[]
  led : t.led = !byT prog w
  finger : t.finger = 0
  nodup : ps.Nodup
noncomputable def PT (prog : Program) (w : World) (At : Value → Way × Int → Prop) (o : Obj) (ps : List (Way × Int)) : Prop := ∃ es ep t qs, o = setO es ep t ∧ PTs prog w At es t ps qs

noncomputable def addP (ps : List (Way × Int)) (p : Way × Int) : List (Way × Int) := if p ∈ ps then ps else ps ++ [p]

theorem PTs.size {prog : Program} {w : World} {At : Value → Way × Int → Prop} {es : Array (Int × Value)} {t : SetTable} {ps qs : List (Way × Int)} (P : PTs prog w At es t ps qs) : es.size = ps.length := by
  rw [← Array.length_toList, P.rows.length, P.perm.length_eq]
theorem PTs.fits {prog : Program} {w : World} {At : Value → Way × Int → Prop} {es : Array (Int × Value)} {t : SetTable} {ps qs : List (Way × Int)} (P : PTs prog w At es t ps qs) : t.fits es.size = true := by
  have := P.load
  have := P.ti.mask
  unfold SetTable.fits SetTable.fill
  rw [P.ti.dum, P.ti.size]
  simp
  lia
section
variable {prog : Program} {w : World} {A : Around} {E : Value → Shared → Prop} {s : Shared}

theorem put_set {h : Heap} {a : Addr} {es : Array (Int × Value)} {ep : Nat} {t : SetTable} (es' : Array (Int × Value)) (t' : SetTable) (ho : h.get? a = some (setO es ep t)) :
    (h.update a (Obj.putSet es' t')).get? a = some (setO es' (ep + 1) t') := by
  have := Heap.get?_update_self (Obj.putSet es' t') ho (by rw [putSet_of es' t' rfl]; rfl)
  rw [putSet_of es' t' rfl] at this
  exact this

theorem relay_pair {At : Value → Way × Int → Prop} {a : Addr} {es : Array (Int × Value)} {ep : Nat} {t : SetTable} {qs : List (Way × Int)} {Q : Unit → Shared → Prop} {wanted m : Nat}
    (ho : s.heap.get? a = some (setO es ep t)) (hf : t.fits es.size = true) (R : Rows prog w At es.toList qs) (hm : SetTable.sizeAbove wanted = m + 1) (hk : okMask m) (hl : es.size ≤ m) (hbig : es.size ≤ 100)
    (h : ∀ es' t' qs' h', TI t' es' → es'.size = es.size → Rows prog w At es'.toList qs' → qs'.Perm qs → t'.led = t.led → t'.plain = t.plain → t'.finger = t.finger → t'.mask = m → Heap.SameBut a s.heap h' → h'.get? a = some (setO es' (ep + 1) t') → Q () { s with heap := h' }) :
    wpAny (model prog w) A (setRelay a wanted) Q E s := by
  unfold setRelay
  refine wpAny_bind (wpAny_setState_of ho rfl hf ?_)
  dsimp only
  have hm1 : SetTable.sizeAbove wanted - 1 = m := by exact Nat.le_antisymm ((by exact Nat.le_of_lt_succ (Nat.lt_of_lt_of_le (qfs2 (SetTable.sizeAbove wanted) (1) (qfl fun x => qfa2 x (qfg hm) (by simp +arith only))) (Nat.le_of_eq hm)))) (by exact Nat.le_sub_one_of_lt (qfg hm))
  rw [hm]
  rw [if_neg (by have h1 : sizeLine = 2 ^ 24 := rfl
                 rcases hk with rfl | rfl | rfl <;> rw [h1] <;> decide)]
  obtain ⟨t', order, e, T', pm, e1, e2, e3, e4⟩ := relaid_ok (t := t) (es := es) (wanted := wanted) (by rw [hm1]; exact hk) (by rw [hm1]; exact hl)
  rw [e]
  have hsz : (order.filterMap (es[·]?)).size = es.size := by
    rw [← Array.length_toList, pm.length_eq, Array.length_toList]
  refine wpAny_bind ?_
  show wpAny _ _ (@ite _ _ _ _ _) _ _ _
  rw [if_neg (by rw [hsz]; simp)]
  refine wpAny_pure ?_
  dsimp only
  refine wpAny_storeSet_of ho rfl ?_ (by have h1 : sizeLine = 2 ^ 24 := rfl
                                         rw [hsz, h1]; exact Nat.le_trans hbig (Nat.le_add_left _ _))
  have hs := Heap.SameBut.update s.heap a (Obj.putSet (order.filterMap (es[·]?)) t')
  obtain ⟨qs', r', p'⟩ := Rows.perm pm.symm R
  exact h _ t' qs' _ T' hsz r' p' e1 e2 e3 (e4.trans hm1) hs (put_set _ _ ho)

theorem setAdd_pair {At : Value → Way × Int → Prop} {a : Addr} {o : Obj} {x : Value} {p : Way × Int} {ps : List (Way × Int)} {Q : Bool → Shared → Prop} (hu : A.units + 64 < cLine) (ho : s.heap.get? a = some o) (P : PT prog w At o ps) (hAt : ∀ v p, At v p → PairAt s.heap v p) (hxa : At x p) (hlen : ps.length < 70)
    (h : ∀ b o' h' tk, Heap.SameBut a s.heap h' → h'.get? a = some o' → PT prog w At o' (addP ps p) → Q b { s with heap := h', toks := tk }) :
    wpAny (model prog w) A (setAdd a x) Q E s := by
  have hx := hAt _ _ hxa
  obtain ⟨es, ep, t, qs, rfl, P⟩ := P
  unfold setAdd
  refine wpAny_holding (wpAny_bind (pyHash_pair (by exact qft fun x => qfa2 x hu (by simp +arith only)) hx fun tk => ?_))
  unfold setAddHashed setAddHashedIn
  have hns : byScan x es = false := by
    obtain ⟨b, _, _, _, rfl, _⟩ := hx
    rfl
  have ho' : ({ s with toks := tk } : Shared).heap.get? a = some (setO es ep t) := ho
  refine wpAny_holding (wpAny_bind (wpAny_setState_of ho' rfl P.fits ?_))
  dsimp only
  rw [hns]
  simp -iota only [Bool.false_eq_true, if_false]
  obtain ⟨N, hNl, hN, hb⟩ := P.ti.free P.load (pairHash prog w p)
  unfold setSearch
  have hN2 : N < 100000 := by rcases P.ti.mask with e | e | e <;> rw [e] at hNl <;> exact Nat.lt_of_le_of_lt hNl (Nat.le_of_ble_eq_true rfl)
  refine wpAny_bind (setSearchFrom_pair (s := { s with toks := tk }) hu ho' rfl P.ti P.load (P.rows.imp hAt) hx hNl hN hb (fun hp => ?_) (fun hp => ?_) 100000 0 none rfl (Nat.zero_le _) (by exact Nat.lt_of_le_of_lt (qfs2 (N) (0) (by exact Nat.zero_le _)) hN2) (fun m i e hm => absurd hm (Nat.not_lt_zero _)))
  · dsimp only
    refine wpAny_pure ?_
    have := h false (setO es ep t) s.heap tk (Heap.SameBut.refl a s.heap) ho (by
      unfold addP
      rw [if_pos (P.perm.mem_iff.mp hp)]
      exact ⟨es, ep, t, qs, rfl, P⟩)
    exact this
  · dsimp only
    have hp' : p ∉ ps := fun q => hp (P.perm.mem_iff.mpr q)
    refine wpAny_bind (wpAny_setState_of ho' rfl P.fits ?_)
    dsimp only
    obtain ⟨c1, c2, c3, c4⟩ := P.ti.put (x := x) rfl hN hb false
    have hsz := P.size
    have key : ∀ (t2 : SetTable), t2 = { (t.put (seqP t (pairHash prog w p) N).j).1 with plain := false } → 
        wpAny (model prog w) A (do
          storeSet a (SetTable.insertAt es (t.put (seqP t (pairHash prog w p) N).j).2 (pairHash prog w p, x)) t2
          if (!false && t2.tooFull) = true then do setRelay a (SetTable.grown (es.size + 1)); pure true else pure true) Q E { s with toks := tk } := by
      rintro _ rfl
      have hT : TI { (t.put (seqP t (pairHash prog w p) N).j).1 with plain := false } (SetTable.insertAt es (t.put (seqP t (pairHash prog w p) N).j).2 (pairHash prog w p, x)) := c2
      generalize hes1 : SetTable.insertAt es (t.put (seqP t (pairHash prog w p) N).j).2 (pairHash prog w p, x) = es1 at c4 hT ⊢
      have hpm : es1.toList.Perm ((pairHash prog w p, x) :: es.toList) := by rw [← hes1]; exact insertAt_perm' _ _ _ c1
      have hmk : ({ (t.put (seqP t (pairHash prog w p) N).j).1 with plain := false } : SetTable).mask = t.mask := rfl
      have hfg : ({ (t.put (seqP t (pairHash prog w p) N).j).1 with plain := false } : SetTable).finger = t.finger := rfl
      have hld : ({ (t.put (seqP t (pairHash prog w p) N).j).1 with plain := false } : SetTable).led = t.led := rfl
      have hpl : ({ (t.put (seqP t (pairHash prog w p) N).j).1 with plain := false } : SetTable).plain = false := rfl
      generalize ({ (t.put (seqP t (pairHash prog w p) N).j).1 with plain := false } : SetTable) = t1 at hT hmk hfg hld hpl ⊢
      have hs := Heap.SameBut.update s.heap a (Obj.putSet es1 t1)
      have hput : (s.heap.update a (Obj.putSet es1 t1)).get? a = some (setO es1 (ep + 1) t1) := put_set _ _ ho
      obtain ⟨qs1, r1, p1⟩ := Rows.perm hpm.symm (Rows.cons (e := (pairHash prog w p, x)) ⟨rfl, hxa⟩ P.rows)
      have pm1 : qs1.Perm (ps ++ [p]) := p1.trans ((P.perm.cons p).trans (List.perm_append_singleton p ps).symm)
      have hnd : (ps ++ [p]).Nodup := (List.nodup_append.mpr ⟨P.nodup, by simp, fun x1 hx1 y hy e => by rw [List.mem_singleton] at hy; subst hy; subst e; exact hp' hx1⟩)
      have hadd : addP ps p = ps ++ [p] := by unfold addP; rw [if_neg hp']
      have hfull : t1.tooFull = decide ((es.size + 1) * 5 ≥ t.mask * 3) := by
        unfold SetTable.tooFull SetTable.fill
        rw [hT.dum, hT.size, c4, hmk]
        rfl
      have hsl : sizeLine = 2 ^ 24 := rfl
      refine wpAny_bind (wpAny_storeSet_of ho' rfl ?_ (by rw [hsl, c4]; lia))
      have hl0 := P.load
      by_cases hfl : (es.size + 1) * 5 ≥ t.mask * 3
      · rw [hfull, decide_eq_true hfl]
        rw [if_pos (show (!false && true) = true from rfl)]
        have hgrow : ∃ m, SetTable.sizeAbove (SetTable.grown (es.size + 1)) = m + 1 ∧ okMask m ∧ es.size + 1 ≤ m ∧ (es.size + 1) * 5 < m * 3 := by
          rcases P.ti.mask with e | e | e
          · have : es.size = 4 := by lia
            rw [this]
            exact ⟨31, by decide +kernel, .inr (.inl rfl), by decide, by decide⟩
          · have : es.size = 18 := by lia
            rw [this]
            exact ⟨127, by decide +kernel, .inr (.inr rfl), by decide, by decide⟩
          · lia
        obtain ⟨m, g1, g2, g3, g4⟩ := hgrow
        have hfits1 : t1.fits es1.size = true := by
          unfold SetTable.fits SetTable.fill
          rw [hT.dum, hT.size, c4, hmk]
          have := P.ti.mask
          simp
          lia
        refine wpAny_bind (relay_pair (s := { s with toks := tk, heap := s.heap.update a (Obj.putSet es1 t1) }) hput hfits1 r1 g1 g2 (by exact Nat.le_trans (Nat.le_of_eq c4) g3) (by exact qfl fun x => qfa4 x (Nat.le_of_eq c4) (Nat.le_of_eq hsz) hlen (by simp +arith only)) fun es' t' qs' h' T' sz' r' p' e1 e2 e3 e4 hs' hg' => ?_)
        refine wpAny_pure ?_
        have := h true _ h' tk (hs.trans hs') hg' ⟨es', _, t', qs', rfl, ⟨T', by rw [sz', c4, e4]; exact g4, r', p'.trans (by rw [hadd]; exact pm1), fun q => absurd ((e2.trans hpl).symm.trans q) Bool.false_ne_true, by rw [e1, hld]; exact P.led, by rw [e3, hfg]; exact P.finger, by rw [hadd]; exact hnd⟩⟩
        exact this
      · rw [hfull, decide_eq_false hfl, if_neg (by simp)]
        refine wpAny_pure ?_
        have := h true _ _ tk hs hput ⟨es1, _, t1, qs1, rfl, ⟨hT, by rw [c4, hmk]; lia, r1, by rw [hadd]; exact pm1, fun q => absurd (hpl.symm.trans q) Bool.false_ne_true, by rw [hld]; exact P.led, by rw [hfg]; exact P.finger, by rw [hadd]; exact hnd⟩⟩
        exact this
    by_cases hpl : t.plain = true
    · rw [if_pos (show (t.put (seqP t (pairHash prog w p) N).j).1.plain = true from hpl)]
      refine wpAny_bind (hashByValue_pair (s := { s with toks := tk }) hx ?_)
      simp -iota only [Bool.false_eq_true, if_false]
      exact key _ rfl
    · rw [if_neg (show ¬ (t.put (seqP t (pairHash prog w p) N).j).1.plain = true from hpl)]
      refine wpAny_bind (wpAny_pure ?_)
      simp -iota only [if_true]
      refine key _ ?_
      have : (t.put (seqP t (pairHash prog w p) N).j).1.plain = false := by
        have : t.plain = false := by simpa using hpl
        exact this
      generalize (t.put (seqP t (pairHash prog w p) N).j).1 = u at this
      cases u
      simp -iota only at this
      subst this
      rfl
end
end Mine
end
section
open PySem PySem.W PySem.Calls PyProof.Rows PySem.Spec
set_option maxRecDepth 100000
namespace Mine

theorem slot_setiter_next : Slot "set_iterator" "__next__" "set_iterator.__next__" :=
  .of (owner := "set_iterator") (n := "__next__") (by rw [typeLookup_type, builtinLookup_eq_fast]; kernel_rfl) (by decide +kernel) (by decide +kernel) (by decide +kernel)
    (by first | exact .inl (by decide +kernel) | exact .inr (by decide +kernel)) (by rw [isSubtype_type]; kernel_rfl)
theorem entry_setiter_next : entryFor table "set_iterator.__next__" = some Builtin.«set_iterator.__next__» := entryFor_of_fast (by kernel_rfl)
theorem args_setiter_next (a : Value) : argsOk "set_iterator.__next__" ⟨[a], []⟩ := by unfold argsOk; kernel_rfl
theorem entry_set_iter : entryFor table "set.__iter__" = some Builtin.«frozenset.__iter__» :=
  entryFor_alias (id' := "frozenset.__iter__") (by kernel_rfl) rfl (by decide +kernel) (by kernel_rfl)
end Mine
end
section
open PySem PySem.W PySem.Calls PyProof.Rows PySem.Spec
set_option maxRecDepth 100000
namespace Mine
section
variable {prog : Program} {w : World} {A : Around} {E : Value → Shared → Prop} {s : Shared} {At : Value → Way × Int → Prop}

theorem wpAny_byT {Q : Bool → Shared → Prop} (h : Q (byT prog w) s) : wpAny (model prog w) A setsByText Q E s := by
  unfold setsByText
  exact wpAny_bind (wpAny_askSetting (wpAny_pure h))

theorem fresh_PTs (mv : Nat) : PTs prog w At #[] { SetTable.fresh 0 mv (!byT prog w) with plain := true } [] [] :=
  ⟨⟨rfl, rfl, List.Pairwise.nil, fun j hj => by simp [SetTable.fresh] at hj, .inl rfl, fun e he => by simp [SetTable.fresh] at he⟩, (by show 0 * 5 < 7 * 3; decide), .nil, .refl _, fun _ => rfl, rfl, rfl, List.nodup_nil⟩

theorem setWalk_any {a : Addr} {es : Array (Int × Value)} {ep : Nat} {t : SetTable} {ps qs : List (Way × Int)} {Q : Array (Int × Value) → Shared → Prop} (ho : s.heap.get? a = some (setO es ep t)) (P : PTs prog w At es t ps qs)
    (hd : byT prog w = true ∨ es.size ≤ 1) (h : ∀ es', (byT prog w = true → es' = pickOrder ((model prog w).w.params.setOrder a ep) es) → Q es' s) : wpAny (model prog w) A (setWalk a) Q E s := by
  unfold setWalk
  refine wpAny_bind (wpAny_setState_of ho rfl P.fits ?_)
  dsimp only
  refine wpAny_bind (wpAny_byT ?_)
  cases hb : byT prog w with
  | true =>
    simp only [if_true]
    refine wpAny_bind (wpAny_askSetting ?_)
    exact wpAny_pure (h _ fun _ => rfl)
  | false =>
    have hd : es.size ≤ 1 := by rcases hd with q | q
                                · rw [hb] at q; cases q
                                · exact q
    simp only [Bool.false_eq_true, if_false]
    show wpAny _ _ (@ite _ ((!t.plain && decide (es.size > 1)) = true) _ _ _) _ _ _
    rw [if_neg (by simp; lia)]
    refine wpAny_bind ?_
    show wpAny _ _ (@ite _ _ _ _ _) _ _ _
    rw [if_neg (by rw [P.led, hb]; simp)]
    exact wpAny_pure (wpAny_pure (h _ fun q => by rw [hb] at q; cases q))

theorem setClear_pair {a : Addr} {es : Array (Int × Value)} {ep : Nat} {t : SetTable} {ps qs : List (Way × Int)} {Q : Option (List Value) → Shared → Prop} (ho : s.heap.get? a = some (setO es ep t)) (P : PTs prog w At es t ps qs)
    (h : ∀ old h' o', Heap.SameBut a s.heap h' → h'.get? a = some o' → PT prog w At o' [] → Q old { s with heap := h' }) : wpAny (model prog w) A (setClear a) Q E s := by
  have tail : ∀ old, wpAny (model prog w) A (do
      let t := (← setState a).2.2
      storeSet a #[] (t.cleared (led := !(← setsByText) && (t.led || t.finger == 0)))
      return old) Q E s := by
    intro old
    refine wpAny_bind (wpAny_setState_of ho rfl P.fits ?_)
    dsimp only
    refine wpAny_bind (wpAny_byT ?_)
    refine wpAny_bind (wpAny_storeSet_of ho rfl ?_ (by show 0 ≤ sizeLine; exact Nat.zero_le _))
    refine wpAny_pure (h old _ _ (Heap.SameBut.update s.heap a _) (put_set _ _ ho) ⟨#[], _, _, [], rfl, ?_⟩)
    have e : t.cleared (led := !byT prog w && (t.led || t.finger == 0)) = { SetTable.fresh 0 (t.movedTo 7) (!byT prog w) with plain := true } := by
      unfold SetTable.cleared
      rw [P.finger]
      simp
    rw [e]
    exact fresh_PTs _
  unfold setClear
  unfold setDeathsKnown
  refine wpAny_bind ?_
  refine wpAny_bind (wpAny_setState_of ho rfl P.fits ?_)
  dsimp only
  refine wpAny_bind (wpAny_byT ?_)
  refine wpAny_pure ?_
  by_cases hd : byT prog w = true ∨ es.size ≤ 1
  · have : (byT prog w || t.led && t.plain || decide (es.size ≤ 1)) = true := by
      rcases hd with q | q <;> simp [q]
    rw [if_pos this]
    unfold setItems
    refine wpAny_bind (wpAny_bind (setWalk_any ho P hd fun es' _ => wpAny_pure ?_))
    exact wpAny_bind (wpAny_pure (tail _))
  · by_cases c : (byT prog w || t.led && t.plain || decide (es.size ≤ 1)) = true
    · have : t.plain = true := by
        simp only [Bool.or_eq_true, Bool.and_eq_true, decide_eq_true_eq] at c
        rcases c with (c | c) | c
        · exact absurd (.inl c) hd
        · exact c.2
        · exact absurd (.inr c) hd
      have := P.plain this
      subst this
      exact absurd (.inr (by simp)) hd
    · rw [if_neg c]
      exact wpAny_bind (wpAny_pure (tail _))
end
end Mine
end
section
open PySem PySem.W PySem.Calls PyProof.Rows PySem.Spec
set_option maxRecDepth 100000
namespace Mine

noncomputable abbrev itO (f : Value) (i : Nat) (a : Addr) (n ep : Nat) : Obj := { cls := .type "set_iterator", data := .fields #[f, .int i 0, .ref a, .int n 0, .int ep 0] }

section
variable {prog : Program} {w : World} {A : Around} {E : Value → Shared → Prop} {s : Shared} {At : Value → Way × Int → Prop}

theorem upd_field {h : Heap} {I : Addr} {f : Value} {i : Nat} {a : Addr} {n ep : Nat} (ho : h.get? I = some (itO f i a n ep)) (k : Nat) (x : Value) :
    (h.update I (Obj.mapFields (·.setIfInBounds k x))).get? I = some { cls := .type "set_iterator", data := .fields ((#[f, .int i 0, .ref a, .int n 0, .int ep 0] : Array Value).setIfInBounds k x) } := by
  have := Heap.get?_update_self (Obj.mapFields (·.setIfInBounds k x)) ho (Obj.isFreed_of_fields (Obj.data_mapFields rfl _))
  rw [this]
  rfl

theorem setiter_item {I a : Addr} {es : Array (Int × Value)} {ep n i slot : Nat} {t : SetTable} {x : Value} {slot' : Nat} {Q : Option Value → Shared → Prop}
    (hI : s.heap.get? I = some (itO (.int slot 0) i a n ep)) (ho : s.heap.get? a = some (setO es ep t)) (hf : t.fits es.size = true) (hn : es.size = n)
    (hx : ∀ (A : Around) (R : Option (Value × Nat) → Shared → Prop) (E : Value → Shared → Prop), R (some (x, slot')) s → wpAny (model prog w) A (setNext a slot i ep) R E s)
    (hQ : ∀ h', h'.get? I = some (itO (.int slot' 0) (i + 1) a n ep) → Heap.SameBut I s.heap h' → Q (some x) { s with heap := h' }) :
    wpAny (model prog w) A (pyNext (.ref I)) Q E s := by
  have hT : s.TypeIs (.ref I) "set_iterator" := ⟨_, hI, rfl⟩
  unfold pyNext
  refine wpAny_bind (wpAny_attempt (wpAny_callSpecial?_slot (name := Str.ofString "__next__") hT slot_setiter_next
    (wpAny_call_entry slot_setiter_next hT entry_setiter_next ?_ (args_setiter_next _))))
  show wpAny _ _ (fieldsOf (.ref I) >>= _) _ _ s
  refine wpAny_bind (wpAny_fieldsOf hI rfl ?_)
  try dsimp only
  refine wpAny_bind (wpAny_setEntries_of ho rfl hf ?_)
  rw [if_neg (by rw [hn]; simp)]
  try dsimp only
  simp -iota only [Int.toNat_natCast]
  refine wpAny_bind (hx _ _ _ ?_)
  try dsimp only
  refine wpAny_bind (wpAny_setField hI rfl (by simp) ?_)
  refine wpAny_bind (wpAny_setField (upd_field hI 0 _) rfl (by simp) (wpAny_pure ⟨x, rfl, wpAny_pure (hQ _ ?_ ((Heap.SameBut.update ..).trans (Heap.SameBut.update ..)))⟩))
  refine (Heap.get?_update_self (Obj.mapFields (·.setIfInBounds 1 (rawInt (i + 1)))) (upd_field hI 0 (rawInt slot')) ?_).trans ?_
  · exact Obj.isFreed_of_fields (Obj.data_mapFields rfl _)
  · rfl

theorem setiter_stop {I a : Addr} {es : Array (Int × Value)} {ep n i slot : Nat} {t : SetTable} {Q : Option Value → Shared → Prop} (hh : A.handled = none)
    (hI : s.heap.get? I = some (itO (.int slot 0) i a n ep)) (ho : s.heap.get? a = some (setO es ep t)) (hf : t.fits es.size = true) (hn : es.size = n)
    (hx : ∀ (A : Around) (R : Option (Value × Nat) → Shared → Prop) (E : Value → Shared → Prop), R none s → wpAny (model prog w) A (setNext a slot i ep) R E s)
    (hQ : ∀ h', Heap.ExtBut I s.heap h' → Q none { s with heap := h' }) :
    wpAny (model prog w) A (pyNext (.ref I)) Q E s := by
  have hT : s.TypeIs (.ref I) "set_iterator" := ⟨_, hI, rfl⟩
  unfold pyNext
  refine wpAny_bind (wpAny_attempt (wpAny_callSpecial?_slot (name := Str.ofString "__next__") hT slot_setiter_next
    (wpAny_call_entry slot_setiter_next hT entry_setiter_next ?_ (args_setiter_next _))))
  show wpAny _ _ (fieldsOf (.ref I) >>= _) _ _ s
  refine wpAny_bind (wpAny_fieldsOf hI rfl ?_)
  try dsimp only
  refine wpAny_bind (wpAny_setEntries_of ho rfl hf ?_)
  rw [if_neg (by rw [hn]; simp)]
  try dsimp only
  simp -iota only [Int.toNat_natCast]
  refine wpAny_bind (hx _ _ _ ?_)
  try dsimp only
  refine wpAny_bind (wpAny_setField hI rfl (by simp) ?_)
  show wpAny _ _ (newExc (.type "StopIteration") [] >>= _) _ _ _
  refine wpAny_bind ?_
  simp -iota only [newExc, newTuple]
  refine wpAny_bind (wpAny_newObj_type ?_ (by size_fits))
  refine wpAny_bind (m := firstArgMember _ _) (wpAny_of_eq (a := Value.none) (by first | rfl | (simp -iota only [firstArgMember]; rfl)) ?_)
  refine wpAny_newObj_type ?_ (by size_fits)
  simp -iota only [raiseNew]
  refine wpAny_bind (wpAny_handled ?_)
  rw [show A.in1.handled = none from hh]
  refine wpAny_bind (wpAny_pure (wpAny_throw ?_))
  refine wpAny_bind (wpAny_isInstance (T := "StopIteration") (b := true) ⟨_, Heap.get?_push_size _ rfl, rfl⟩ isSubtype_stop ?_)
  exact wpAny_pure (hQ _ (((Heap.SameBut.update ..).extBut.push _).push _))

theorem drawiter_item {I a T : Addr} {es : Array (Int × Value)} {ep n i pl : Nat} {t : SetTable} {x : Value} {hx : Int} {us : List Value} {Q : Option Value → Shared → Prop}
    (hI : s.heap.get? I = some (itO (.ref T) i a n ep)) (ho : s.heap.get? a = some (setO es ep t)) (hf : t.fits es.size = true) (hn : es.size = n) (hT : s.heap.get? T = some (tupO us))
    (hp : us[i]? = some (.int pl 0)) (hx : es[pl]? = some (hx, x))
    (hQ : ∀ h', h'.get? I = some (itO (.ref T) (i + 1) a n ep) → Heap.SameBut I s.heap h' → Q (some x) { s with heap := h' }) :
    wpAny (model prog w) A (pyNext (.ref I)) Q E s := by
  have hTy : s.TypeIs (.ref I) "set_iterator" := ⟨_, hI, rfl⟩
  unfold pyNext
  refine wpAny_bind (wpAny_attempt (wpAny_callSpecial?_slot (name := Str.ofString "__next__") hTy slot_setiter_next
    (wpAny_call_entry slot_setiter_next hTy entry_setiter_next ?_ (args_setiter_next _))))
  show wpAny _ _ (fieldsOf (.ref I) >>= _) _ _ s
  refine wpAny_bind (wpAny_fieldsOf hI rfl ?_)
  try dsimp only
  refine wpAny_bind (wpAny_setEntries_of ho rfl hf ?_)
  rw [if_neg (by rw [hn]; simp)]
  try dsimp only
  refine wpAny_bind (wpAny_seqItems hT rfl ?_)
  try dsimp only
  simp -iota only [Int.toNat_natCast, List.getElem?_toArray, hp]
  unfold setNextDrawn
  refine wpAny_bind (wpAny_bind (wpAny_setState_of ho rfl hf ?_))
  try dsimp only
  rw [if_neg (by simp)]
  rw [Int.toNat_natCast, hx]
  refine wpAny_pure ?_
  refine wpAny_bind (wpAny_setField hI rfl (by simp) (wpAny_pure ⟨x, rfl, wpAny_pure (hQ _ ?_ (Heap.SameBut.update ..))⟩))
  exact upd_field hI 1 _

theorem drawiter_stop {I a T : Addr} {es : Array (Int × Value)} {ep n i : Nat} {t : SetTable} {us : List Value} {Q : Option Value → Shared → Prop} (hh : A.handled = none)
    (hI : s.heap.get? I = some (itO (.ref T) i a n ep)) (ho : s.heap.get? a = some (setO es ep t)) (hf : t.fits es.size = true) (hn : es.size = n) (hT : s.heap.get? T = some (tupO us))
    (hp : us[i]? = none)
    (hQ : ∀ h', Heap.ExtBut I s.heap h' → Q none { s with heap := h' }) :
    wpAny (model prog w) A (pyNext (.ref I)) Q E s := by
  have hTy : s.TypeIs (.ref I) "set_iterator" := ⟨_, hI, rfl⟩
  unfold pyNext
  refine wpAny_bind (wpAny_attempt (wpAny_callSpecial?_slot (name := Str.ofString "__next__") hTy slot_setiter_next
    (wpAny_call_entry slot_setiter_next hTy entry_setiter_next ?_ (args_setiter_next _))))
  show wpAny _ _ (fieldsOf (.ref I) >>= _) _ _ s
  refine wpAny_bind (wpAny_fieldsOf hI rfl ?_)
  try dsimp only
  refine wpAny_bind (wpAny_setEntries_of ho rfl hf ?_)
  rw [if_neg (by rw [hn]; simp)]
  try dsimp only
  refine wpAny_bind (wpAny_seqItems hT rfl ?_)
  try dsimp only
  simp -iota only [Int.toNat_natCast, List.getElem?_toArray, hp]
  refine wpAny_bind (wpAny_setField hI rfl (by simp) ?_)
  refine wpAny_bind (wpAny_setField (upd_field hI 0 _) rfl (by simp) ?_)
  show wpAny _ _ (newExc (.type "StopIteration") [] >>= _) _ _ _
  refine wpAny_bind ?_
  simp -iota only [newExc, newTuple]
  refine wpAny_bind (wpAny_newObj_type ?_ (by size_fits))
  refine wpAny_bind (m := firstArgMember _ _) (wpAny_of_eq (a := Value.none) (by first | rfl | (simp -iota only [firstArgMember]; rfl)) ?_)
  refine wpAny_newObj_type ?_ (by size_fits)
  simp -iota only [raiseNew]
  refine wpAny_bind (wpAny_handled ?_)
  rw [show A.in1.handled = none from hh]
  refine wpAny_bind (wpAny_pure (wpAny_throw ?_))
  refine wpAny_bind (wpAny_isInstance (T := "StopIteration") (b := true) ⟨_, Heap.get?_push_size _ rfl, rfl⟩ isSubtype_stop ?_)
  exact wpAny_pure (hQ _ ((((Heap.SameBut.update ..).trans (Heap.SameBut.update ..)).extBut.push _).push _))

inductive Vals (At : Value → Way × Int → Prop) : List Value → List (Way × Int) → Prop
  | nil : Vals At [] []
  | cons {v : Value} {p : Way × Int} {vs : List Value} {ps : List (Way × Int)} : At v p → Vals At vs ps → Vals At (v :: vs) (p :: ps)
theorem Rows.vals {es : List (Int × Value)} {ps : List (Way × Int)} (r : Rows prog w At es ps) : Vals At (es.map (·.2)) ps := by
  induction r with
  | nil => exact .nil
  | cons a _ ih => exact .cons a.2 ih
theorem Vals.at {us : List Value} {ps : List (Way × Int)} (r : Vals At us ps) : ∀ {i : Nat} {v : Value}, us[i]? = some v → ∃ p, ps[i]? = some p ∧ At v p := by
  induction r with
  | nil => intro i v h; simp at h
  | cons a _ ih =>
    intro i v h
    cases i with
    | zero => simp at h; subst h; exact ⟨_, rfl, a⟩
    | succ i => simp at h; obtain ⟨p, h1, h2⟩ := ih h; exact ⟨p, by simpa using h1, h2⟩

theorem go_setiter {target : Expr} {v : Value} {f : Value} {i : Nat} {a I : Addr} {n ep : Nat} {Q : Unit → Shared → Prop} (hI : s.heap.get? I = some (itO f i a n ep)) (hQ : Q () s) : wpAny (model prog w) A (letOwnedTupleGo target (.ref I) v) Q E s := by
  unfold letOwnedTupleGo
  cases target <;> first
    | exact wpAny_pure hQ
    | (cases v <;> first
        | exact wpAny_pure hQ
        | (refine wpAny_bind (wpAny_load hI ?_)
           exact wpAny_pure hQ))

theorem iter_text (hh : A.handled = none) {I a : Addr} {es : Array (Int × Value)} {ep : Nat} {t : SetTable} (hf : t.fits es.size = true) (hb : byT prog w = true) (hlen : (pickOrder ((model prog w).w.params.setOrder a ep) es).size = es.size) :
    Iter prog w A I es.size (fun i v => ((pickOrder ((model prog w).w.params.setOrder a ep) es).toList.map (·.2))[i]? = some v) (fun i o => o = itO (.int (0 : Nat) 0) i a es.size ep) (fun h => h.get? a = some (setO es ep t)) where
  next := fun i s o Q E hi ho hok hn hQ => by
    subst hok
    have hi2 : i < (pickOrder ((model prog w).w.params.setOrder a ep) es).size := by rw [hlen]; exact hi
    refine setiter_item (x := ((pickOrder ((model prog w).w.params.setOrder a ep) es)[i]).2) (slot' := 0) ho hn hf rfl (fun A R E hR => ?_) fun h' hI' hs' => hQ _ h' s.toks _ (by simp [hi2]) hI' rfl hs'
    unfold setNext
    refine wpAny_bind (wpAny_setState_of hn rfl hf ?_)
    dsimp only
    refine wpAny_bind (wpAny_byT ?_)
    rw [hb]
    simp -iota only [if_true]
    rw [if_neg (by simp)]
    unfold setWalk
    refine wpAny_bind (wpAny_bind (wpAny_setState_of hn rfl hf ?_))
    dsimp only
    refine wpAny_bind (wpAny_byT ?_)
    rw [hb]
    simp -iota only [if_true]
    refine wpAny_bind (wpAny_askSetting ?_)
    refine wpAny_pure (wpAny_pure ?_)
    simp [hi2]
    exact hR
  stop := fun s o Q E ho hok hn hQ => by
    subst hok
    refine setiter_stop hh ho hn hf rfl (fun A R E hR => ?_) fun h' he' => hQ h' s.toks he'
    unfold setNext
    refine wpAny_bind (wpAny_setState_of hn rfl hf ?_)
    dsimp only
    refine wpAny_bind (wpAny_byT ?_)
    rw [hb]
    simp -iota only [if_true]
    rw [if_neg (by simp)]
    unfold setWalk
    refine wpAny_bind (wpAny_bind (wpAny_setState_of hn rfl hf ?_))
    dsimp only
    refine wpAny_bind (wpAny_byT ?_)
    rw [hb]
    simp -iota only [if_true]
    refine wpAny_bind (wpAny_askSetting ?_)
    refine wpAny_pure (wpAny_pure ?_)
    simp [← hlen]
    exact hR
  go := fun i s o target v Q E ho hok hQ => by
    subst hok
    exact go_setiter ho hQ

theorem iter_drawn (hh : A.handled = none) {I a T : Addr} {es : Array (Int × Value)} {ep : Nat} {t : SetTable} (hf : t.fits es.size = true) (ix : List Nat) (hix : ix.Perm (List.range es.size)) :
    Iter prog w A I es.size (fun i v => (ix.map fun k => (es.getD k (0, .none)).2)[i]? = some v) (fun i o => o = itO (.ref T) i a es.size ep) (fun h => h.get? a = some (setO es ep t) ∧ h.get? T = some (tupO (ix.map fun (k : Nat) => rawInt k))) where
  next := fun i s o Q E hi ho hok hn hQ => by
    subst hok
    have hlen : ix.length = es.size := by rw [hix.length_eq, List.length_range]
    have hi2 : i < ix.length := by rw [hlen]; exact hi
    have hk : ix[i] < es.size := List.mem_range.mp (hix.mem_iff.mp (List.getElem_mem hi2))
    refine drawiter_item (pl := ix[i]) (x := (es[ix[i]]).2) (hx := (es[ix[i]]).1) ho hn.1 hf rfl hn.2 (by simp [hi2, rawInt]) (by simp [hk]) fun h' hI' hs' => hQ _ h' s.toks _ (by simp [hi2, hk]) hI' rfl hs'
  stop := fun s o Q E ho hok hn hQ => by
    subst hok
    have hlen : ix.length = es.size := by rw [hix.length_eq, List.length_range]
    exact drawiter_stop hh ho hn.1 hf rfl hn.2 (by simp [← hlen]) fun h' he' => hQ h' s.toks he'
  go := fun i s o target v Q E ho hok hQ => by
    subst hok
    exact go_setiter ho hQ

theorem iter_few (hh : A.handled = none) {I a : Addr} {es : Array (Int × Value)} {ep : Nat} {t : SetTable} (T : TI t es) (hf : t.fits es.size = true) (hb : byT prog w = false) (hled : t.led = true) (hle : es.size ≤ 1) :
    Iter prog w A I es.size (fun i v => (es.toList.map (·.2))[i]? = some v) (fun i o => o = itO (.int ((if i = 0 then 0 else t.place.getD 0 0 + 1 : Nat)) 0) i a es.size ep) (fun h => h.get? a = some (setO es ep t)) where
  next := fun i s o Q E hi ho hok hn hQ => by
    subst hok
    have h0 : i = 0 := by exact Nat.le_antisymm (by exact Nat.le_of_lt_succ (Nat.lt_of_lt_of_le hi hle)) (by exact Nat.zero_le _)
    subst h0
    have hp : 0 < t.place.size := by rw [T.size]; exact hi
    refine setiter_item (slot := 0) (x := (es[0]).2) (slot' := t.place.getD 0 0 + 1) ho hn hf rfl (fun A R E hR => ?_) fun h' hI' hs' => hQ _ h' s.toks _ (by simp [hi]) hI' (by simp) hs'
    unfold setNext
    refine wpAny_bind (wpAny_setState_of hn rfl hf ?_)
    dsimp only
    refine wpAny_bind (wpAny_byT ?_)
    rw [hb]
    simp -iota only [Bool.false_eq_true, if_false]
    show wpAny _ _ (@ite _ ((!t.plain && decide (es.size > 1)) = true) _ _ _) _ _ _
    rw [if_neg (by simp; lia)]
    refine wpAny_bind ?_
    show wpAny _ _ (@ite _ _ _ _ _) _ _ _
    rw [if_neg (by rw [hled]; simp)]
    refine wpAny_pure (wpAny_pure ?_)
    have hbel : SetTable.below t.place 0 = 0 := by
      have := below_spec T.sorted 0
      rcases Nat.eq_zero_or_pos (SetTable.below t.place 0) with q | q
      · exact q
      · exact absurd (this.2.1 0 q _ (Array.getElem?_eq_getElem hp)) (Nat.not_lt_zero _)
    rw [hbel]
    have hg : t.place.getD 0 0 = t.place[0] := by simp [hp]
    rw [hg] at hR
    simp [hi, hp]
    exact hR
  stop := fun s o Q E ho hok hn hQ => by
    subst hok
    refine setiter_stop hh ho hn hf rfl (fun A R E hR => ?_) fun h' he' => hQ h' s.toks he'
    unfold setNext
    refine wpAny_bind (wpAny_setState_of hn rfl hf ?_)
    dsimp only
    refine wpAny_bind (wpAny_byT ?_)
    rw [hb]
    simp -iota only [Bool.false_eq_true, if_false]
    show wpAny _ _ (@ite _ ((!t.plain && decide (es.size > 1)) = true) _ _ _) _ _ _
    rw [if_neg (by simp; lia)]
    refine wpAny_bind ?_
    show wpAny _ _ (@ite _ _ _ _ _) _ _ _
    rw [if_neg (by rw [hled]; simp)]
    refine wpAny_pure (wpAny_pure ?_)
    have hbel : es.size ≤ SetTable.below t.place (if es.size = 0 then 0 else t.place.getD 0 0 + 1) := by
      rcases Nat.eq_zero_or_pos es.size with q | q
      · exact Nat.le_trans (Nat.le_of_eq q) (Nat.le_add_left _ _)
      · have h1 : es.size = 1 := by exact Nat.le_antisymm hle q
        have hp : 0 < t.place.size := by rw [T.size]; exact q
        have := below_spec T.sorted (t.place.getD 0 0 + 1)
        rw [if_neg (by lia), h1]
        rcases Nat.eq_zero_or_pos (SetTable.below t.place (t.place.getD 0 0 + 1)) with q | q
        · have := this.2.2 0 (by exact (Nat.le_of_eq q)) _ (Array.getElem?_eq_getElem hp)
          have hg : t.place.getD 0 0 = t.place[0] := by simp [hp]
          exact (by exact absurd this (Nat.not_lt.mpr (qfg hg)))
        · exact q
    have hnone : es[SetTable.below t.place (if es.size = 0 then 0 else t.place.getD 0 0 + 1)]? = none := Array.getElem?_eq_none hbel
    rw [hnone]
    exact hR
  go := fun i s o target v Q E ho hok hQ => by
    subst hok
    exact go_setiter ho hQ
end
end Mine
end
section
open PySem PySem.W PySem.Calls PyProof.Rows PySem.Spec
set_option maxRecDepth 100000
namespace Mine

theorem cons_erase_perm {α : Type} : ∀ {l : List α} {i : Nat} {x : α}, l[i]? = some x → (x :: l.eraseIdx i).Perm l
  | [], _, _, h => by simp at h
  | a :: l, 0, x, h => by simp at h; subst h; exact .refl _
  | a :: l, i + 1, x, h => by
    simp -iota only [List.getElem?_cons_succ] at h
    exact (List.Perm.swap a x _).trans ((cons_erase_perm h).cons a)

theorem pick_go {α : Type} (next : Nat → Nat) : ∀ (fuel k : Nat) (left : List α) (out : Array α), left.length ≤ fuel → (pickOrder.go next fuel k left out).toList.Perm (out.toList ++ left)
  | 0, k, left, out, h => by
    have : left = [] := List.length_eq_zero_iff.mp (by exact Nat.sub_eq_zero_of_le h)
    subst this
    unfold pickOrder.go
    simp
  | fuel + 1, k, left, out, h => by
    unfold pickOrder.go
    cases hx : left[next k % left.length]? with
    | none =>
      dsimp only
      have : left = [] := by
        cases left with
        | nil => rfl
        | cons a l =>
          rw [List.getElem?_eq_none_iff] at hx
          have := Nat.mod_lt (next k) (show (a :: l).length > 0 by simp)
          lia
      subst this
      simp
    | some x =>
      dsimp only
      obtain ⟨hlt, _⟩ := List.getElem?_eq_some_iff.mp hx
      refine (pick_go next fuel (k + 1) _ _ (by rw [List.length_eraseIdx]; split <;> exact (by exact Nat.le_of_lt_succ (Nat.lt_of_lt_of_le (qfs2 (left.length) (1) (qfl fun x => qfa2 x hlt (by simp +arith only))) h)))).trans ?_
      rw [Array.toList_push, List.append_assoc]
      exact (List.Perm.append_left _ (cons_erase_perm hx))
theorem pickOrder_perm {α : Type} (next : Nat → Nat) (xs : Array α) : (pickOrder next xs).toList.Perm xs.toList := by
  unfold pickOrder
  have := pick_go next xs.size 0 xs.toList #[] (by simp)
  simpa using this

section
variable {prog : Program} {w : World} {A : Around} {E : Value → Shared → Prop} {s : Shared} {At : Value → Way × Int → Prop}

theorem wpAny_choose {M : Model} {src : Source} {n : Nat} {Q : Nat → Shared → Prop} (hn : n ≠ 0) (h : ∀ i d, i < n → Q i { s with drawn := d }) : wpAny M A (choose src n) Q E s :=
  fun _ _ _ => ⟨hn, h _ _ (Nat.mod_lt _ (Nat.pos_of_ne_zero hn))⟩

theorem drawOrder_perm {M : Model} {α : Type} : ∀ (n : Nat) (xs : List α) (s : Shared) (Q : List α → Shared → Prop), xs.length ≤ n → (∀ ys d, ys.Perm xs → Q ys { s with drawn := d }) → wpAny M A (drawOrder n xs) Q E s
  | 0, xs, s, Q, h, hQ => by
    have : xs = [] := List.length_eq_zero_iff.mp (by exact Nat.sub_eq_zero_of_le h)
    subst this
    exact wpAny_pure (hQ [] s.drawn (.refl _))
  | n + 1, [], s, Q, h, hQ => by
    exact wpAny_pure (hQ [] s.drawn (.refl _))
  | n + 1, x :: xs, s, Q, h, hQ => by
    refine wpAny_bind (wpAny_choose (by simp) fun i d hi => ?_)
    have he := List.getElem?_eq_getElem hi
    rw [he]
    dsimp only
    refine wpAny_bind (drawOrder_perm n _ _ _ (by rw [List.length_eraseIdx_of_lt hi]; simp at h ⊢; exact h) fun ys d' hp => ?_)
    exact wpAny_pure (hQ _ d' ((hp.cons _).trans (cons_erase_perm he)))

theorem pyIter_set {a : Addr} {es : Array (Int × Value)} {ep : Nat} {t : SetTable} {ps qs : List (Way × Int)} {Q : Value → Shared → Prop} (ho : s.heap.get? a = some (setO es ep t)) (P : PTs prog w At es t ps qs) (hle : ps.length ≤ 100)
    (h1 : (byT prog w = true ∨ es.size ≤ 1) → Q (.ref s.heap.objs.size) { s with heap := s.heap.push (itO (.int 0 0) 0 a es.size ep) })
    (h2 : ∀ (ix : List Nat) d, ix.Perm (List.range es.size) → Q (.ref (s.heap.push (tupO (ix.map fun (k : Nat) => rawInt k))).objs.size) { s with drawn := d, heap := (s.heap.push (tupO (ix.map fun (k : Nat) => rawInt k))).push (itO (.ref s.heap.objs.size) 0 a es.size ep) }) :
    wpAny (model prog w) A (pyIter (.ref a)) Q E s := by
  have hT : s.TypeIs (.ref a) "set" := ⟨_, ho, rfl⟩
  refine wpAny_pyIter_slot hT F.slot_set_iter (wpAny_call_entry F.slot_set_iter hT entry_set_iter ?_ (F.args_set_iter_1 _))
  unfold Builtin.«frozenset.__iter__» Builtin.Frozenset.slot0 slotArgs
  simp -iota only [List.isEmpty_nil, Bool.not_true, Bool.false_eq_true, ↓reduceIte, bind_assoc, List.length_nil, bne_self_eq_false]
  unfold Builtin.Frozenset.addrOf Builtin.Frozenset.sizeOf
  refine wpAny_bind (wpAny_pure ?_)
  try dsimp only
  refine wpAny_bind (wpAny_pure ?_)
  refine wpAny_bind (wpAny_bind (wpAny_setEntries_of ho rfl P.fits (wpAny_pure ?_)))
  unfold setDrawn
  refine wpAny_bind (wpAny_bind (wpAny_setState_of ho rfl P.fits ?_))
  dsimp only
  refine wpAny_bind (wpAny_byT (wpAny_pure ?_))
  show wpAny _ _ (@ite _ ((!byT prog w && (!t.plain && decide (es.size > 1))) = true) _ _ _) _ _ _
  by_cases hd : byT prog w = true ∨ es.size ≤ 1
  · rw [if_neg (by rcases hd with q | q <;> simp [q])]
    refine wpAny_bind (wpAny_pure ?_)
    refine wpAny_bind (wpAny_setEpoch_of ho rfl P.fits ?_)
    exact wpAny_bind (wpAny_newObj_type (wpAny_pure ⟨_, rfl, "set_iterator", _, ⟨_, Heap.get?_push_size _ rfl, rfl⟩, slot_setiter_next.lookup, h1 hd⟩))
  · have hd1 : byT prog w = false := by
      cases hb : byT prog w with
      | true => exact absurd (.inl hb) hd
      | false => rfl
    have hd2 : es.size > 1 := by
      rcases Nat.lt_or_ge 1 es.size with q | q
      · exact q
      · exact absurd (.inr q) hd
    have hd3 : t.plain = false := by
      cases hb : t.plain with
      | true => have := P.plain hb; subst this; exact absurd hd2 (by decide)
      | false => rfl
    rw [if_pos (by rw [hd1, hd3]; simpa using hd2)]
    refine wpAny_bind (drawOrder_perm _ _ _ _ (by simp) fun ix d hix => ?_)
    have hixl : ix.length = es.size := by rw [hix.length_eq, List.length_range]
    unfold newTuple
    have hfit := P.size
    refine wpAny_bind (wpAny_newObj_type ?_ ?_)
    · have ho2 : ({ s with drawn := d, heap := s.heap.push (tupO (ix.map fun (k : Nat) => rawInt k)) } : Shared).heap.get? a = some (setO es ep t) := (Heap.get?_push_ne s.heap a _ (Nat.ne_of_lt (Heap.lt_size ho))).trans ho
      refine wpAny_bind (wpAny_setEpoch_of ho2 rfl P.fits ?_)
      exact wpAny_bind (wpAny_newObj_type (wpAny_pure ⟨_, rfl, "set_iterator", _, ⟨_, Heap.get?_push_size _ rfl, rfl⟩, slot_setiter_next.lookup, h2 ix d hix⟩))
    · have h1 : sizeLine = 2 ^ 24 := rfl
      show (ix.map fun (k : Nat) => rawInt k).toArray.size ≤ sizeLine
      rw [h1, List.size_toArray, List.length_map]
      lia
end
section
variable {prog : Program} {w : World} {A : Around} {E : Value → Shared → Prop} {env : Env} {ns : List Str} {h₀ : Heap} {vs : List (Option Value)} {l : Lg} {s₀ s : Shared}
  {At : Value → Way × Int → Prop}

noncomputable def LPostZ (env : Env) (ns : List Str) (h₀ : Heap) (s₀ : Shared) (z : Lg) (Jn : List (Option Value) → Lg → Prop) (Q : Flow → Shared → Prop) (f : Flow) (s' : Shared) : Prop :=
  match f with
  | .next | .cont => ∃ vs' l', S env ns h₀ vs' (z ++ l') s₀ s' ∧ Jn vs' l'
  | .brk => False
  | .ret v => Q (.ret v) s'

theorem g_forLoopZ {target : Expr} {body : List Stmt} {I : Addr} {n : Nat} {P : Nat → Value → Prop} {Ok : Nat → Obj → Prop} {Need : Heap → Prop} {oI : Obj} {R : Result → Shared → Prop} {Q : Flow → Shared → Prop} (z : Lg)
    (Wi : Iter prog w A I n P Ok Need) (J : Nat → List (Option Value) → Lg → Prop) (st : S env ns h₀ vs ((I, oI) :: (z ++ l)) s₀ s) (hok : Ok 0 oI) (h0 : J 0 vs l)
    (need : ∀ i vs' l' s' o, J i vs' l' → S env ns h₀ vs' ((I, o) :: (z ++ l')) s₀ s' → Need s'.heap)
    (turn : ∀ i v vs' l' z' s' E', i < n → P i v → J i vs' l' → S env ns h₀ vs' (z' ++ l') s₀ s' →
      wpAny (model prog w) A (assign target env v) (fun _ s2 => wpAny (model prog w) A (execs body env) (LPostZ env ns h₀ s₀ z' (J (i + 1)) Q) E' s2) E' s')
    (done : ∀ vs' l' s', J n vs' l' → S env ns h₀ vs' l' s₀ s' → R (.ok .next) s')
    (hR : ∀ v s', Q (.ret v) s' → R (.ok (.ret v)) s') :
    codeAny (model prog w) A (.forLoop target (.ref I) body [] env) R s := by
  refine g_forLoop Wi (fun i vs' l1 => ∃ l', l1 = z ++ l' ∧ J i vs' l') st hok ⟨l, rfl, h0⟩ ?_ ?_ ?_ hR
  · rintro i vs' l1 s' o ⟨l', rfl, hJ⟩ st'
    exact need i vs' l' s' o hJ st'
  · rintro i v vs' l1 o s' E' hi hP ⟨l', rfl, hJ⟩ st'
    refine wpAny_mono (turn i v vs' l' ((I, o) :: z) s' E' hi hP hJ (by simpa using st')) (fun _ s2 h2 => wpAny_mono h2 (fun f s3 h3 => ?_) fun _ _ e => e) fun _ _ e => e
    cases f with
    | next => obtain ⟨vs3, l3, st3, hJ3⟩ := h3; exact ⟨vs3, z ++ l3, by simpa using st3, l3, rfl, hJ3⟩
    | cont => obtain ⟨vs3, l3, st3, hJ3⟩ := h3; exact ⟨vs3, z ++ l3, by simpa using st3, l3, rfl, hJ3⟩
    | brk => exact h3.elim
    | ret v => exact h3
  · rintro vs' l1 s' ⟨l', rfl, hJ⟩ st'
    exact done vs' l' s' hJ st'.dropL

theorem g_for_pset {target : Expr} {body : List Stmt} {a : Addr} {o : Obj} {ps : List (Way × Int)} {Q : Flow → Shared → Prop} (hh : A.handled = none) (st : S env ns h₀ vs l s₀ s) (hm : (a, o) ∈ l) (P : PT prog w At o ps) (hle : ps.length ≤ 100)
    (J : List Value → List (Way × Int) → Nat → List (Option Value) → Lg → Prop) (h0 : ∀ us qs, Vals At us qs → qs.Perm ps → J us qs 0 vs l) (keep : ∀ us qs i vs' l', J us qs i vs' l' → (a, o) ∈ l')
    (turn : ∀ us qs i v vs' l' z s' E', Vals At us qs → qs.Perm ps → us[i]? = some v → J us qs i vs' l' → S env ns h₀ vs' (z ++ l') s₀ s' →
      wpAny (model prog w) A (assign target env v) (fun _ s2 => wpAny (model prog w) A (execs body env) (LPostZ env ns h₀ s₀ z (J us qs (i + 1)) Q) E' s2) E' s')
    (done : ∀ us qs vs' l' s', Vals At us qs → qs.Perm ps → J us qs qs.length vs' l' → S env ns h₀ vs' l' s₀ s' → Q .next s') :
    wpAny (model prog w) A (pyIter (.ref a)) (ForRest prog w A env E target body Q) E s := by
  obtain ⟨es, ep, t, qs0, rfl, P⟩ := P
  have ho := st.at hm
  have hsz := P.size
  have hql := P.perm.length_eq
  refine pyIter_set ho P hle (fun hd => ?_) fun ix d hix => ?_
  · have st1 := st.push (itO (.int 0 0) 0 a es.size ep) rfl
    by_cases hb : byT prog w = true
    · have hpm := pickOrder_perm ((model prog w).w.params.setOrder a ep) es
      obtain ⟨qs, r, pm⟩ := Rows.perm hpm.symm P.rows
      have hv := r.vals
      have pm2 := pm.trans P.perm
      have hn : qs.length = es.size := by rw [pm2.length_eq, hsz]
      refine g_forLoopZ [] (iter_text hh P.fits hb (by rw [← Array.length_toList, hpm.length_eq, Array.length_toList])) (J _ qs) st1 rfl (h0 _ qs hv pm2) (fun i vs' l' s' o hJ st' => st'.at (.tail _ (keep _ _ i vs' l' hJ))) (fun i v vs' l' z' s' E' _ hP hJ st' => turn _ qs i v vs' l' z' s' E' hv pm2 hP hJ st') (fun vs' l' s' hJ st' => done _ qs vs' l' s' hv pm2 (by rw [hn]; exact hJ) st') fun v s' h => h
    · have hb : byT prog w = false := by simpa using hb
      have hle1 : es.size ≤ 1 := by rcases hd with q | q
                                    · rw [hb] at q; cases q
                                    · exact q
      have hv := P.rows.vals
      have hn : qs0.length = es.size := by rw [hql, hsz]
      refine g_forLoopZ [] (iter_few hh P.ti P.fits hb (by rw [P.led, hb]; rfl) hle1) (J _ qs0) st1 rfl (h0 _ qs0 hv P.perm) (fun i vs' l' s' o hJ st' => st'.at (.tail _ (keep _ _ i vs' l' hJ))) (fun i v vs' l' z' s' E' _ hP hJ st' => turn _ qs0 i v vs' l' z' s' E' hv P.perm hP hJ st') (fun vs' l' s' hJ st' => done _ qs0 vs' l' s' hv P.perm (by rw [hn]; exact hJ) st') fun v s' h => h
  · have st1 := ((st.draw d).push (tupO (ix.map fun (k : Nat) => rawInt k)) rfl).push (itO (.ref s.heap.objs.size) 0 a es.size ep) rfl
    have hpm : (ix.map fun k => es.getD k (0, .none)).Perm es.toList := by
      refine (hix.map _).trans ?_
      have : (List.range es.size).map (fun k => es.getD k (0, .none)) = es.toList := by
        apply List.ext_getElem
        · simp
        · intro i h1 h2
          simp at h1
          simp [h1]
      rw [this]
    obtain ⟨qs, r, pm⟩ := Rows.perm hpm.symm P.rows
    have hv := r.vals
    rw [List.map_map] at hv
    have pm2 := pm.trans P.perm
    have hn : qs.length = es.size := by rw [pm2.length_eq, hsz]
    refine g_forLoopZ [(s.heap.objs.size, tupO (ix.map fun (k : Nat) => rawInt k))] (iter_drawn hh P.fits ix hix) (J _ qs) st1 rfl (h0 _ qs hv pm2) (fun i vs' l' s' o hJ st' => ⟨st'.at (.tail _ (.tail _ (keep _ _ i vs' l' hJ))), st'.at (.tail _ (.head _))⟩) (fun i v vs' l' z' s' E' _ hP hJ st' => turn _ qs i v vs' l' z' s' E' hv pm2 hP hJ st') (fun vs' l' s' hJ st' => done _ qs vs' l' s' hv pm2 (by rw [hn]; exact hJ) st') fun v s' h => h
end
end Mine
end
section
open PySem PySem.W PySem.Calls PyProof.Rows PySem.Spec
set_option maxRecDepth 100000
namespace Mine

noncomputable def AtL (l : Lg) (v : Value) (p : Way × Int) : Prop := ∃ a q us tk, v = .ref a ∧ (a, tupO [.ref q, .int p.2 tk]) ∈ l ∧ (q, tupO us) ∈ l ∧ WayV us p.1 ∧ Okw p.1 ∧ p.1 ≠ []
theorem AtL.imp {l l' : Lg} (k : ∀ a us, (a, tupO us) ∈ l → (a, tupO us) ∈ l') (v : Value) (p : Way × Int) (x : AtL l v p) : AtL l' v p := by
  obtain ⟨a, q, us, tk, e, h1, h2, r⟩ := x
  exact ⟨a, q, us, tk, e, k _ _ h1, k _ _ h2, r⟩
theorem PT.imp {prog : Program} {w : World} {At Bt : Value → Way × Int → Prop} (k : ∀ v p, At v p → Bt v p) {o : Obj} {ps : List (Way × Int)} (P : PT prog w At o ps) : PT prog w Bt o ps := by
  obtain ⟨es, ep, t, qs, e, P⟩ := P
  exact ⟨es, ep, t, qs, e, ⟨P.ti, P.load, P.rows.imp k, P.perm, P.plain, P.led, P.finger, P.nodup⟩⟩

section
variable {prog : Program} {w : World} {A : Around} {E : Value → Shared → Prop} {s : Shared} {At : Value → Way × Int → Prop}

theorem code_set_new_led {Q₁ : Value → Shared → Prop}
    (h : Q₁ (.ref s.heap.objs.size) { s with heap := s.heap.push (setO #[] 0 (.fresh 0 0 (!byT prog w))) }) :
    codeAny (model prog w) A (.call (.builtin "set.__new__") ⟨[.type "set"], []⟩) (wants Q₁ E) s := by
  refine codeAny_of_tree ?_
  show wpAny _ A.in1 (do checkBuiltinCall "set.__new__" ⟨[.type "set"], []⟩; again (.builtin "set.__new__" ⟨[.type "set"], []⟩)) _ _ s
  refine wpAny_bind (wpAny_of_eq F.newCall_set_0 (wpAny_pure ⟨plainId_quiet F.plain_set_new _, codeAny_builtin F.entry_set_new ?_⟩))
  rw [Around.under_plainId F.plain_set_new _]
  unfold Builtin.«set.__new__» Builtin.Frozenset.newClass
  have hsub := sub_set_self
  unfold byT at h
  obtain ⟨hp, g, d, tk, os⟩ := s
  dsimp only
  wp_walk
  refine wpAny_askSetting (wpAny_pure ?_)
  dsimp only
  simp -iota only [newObj]
  refine wpAny_bind (wpAny_alloc (wpAny_pure ?_))
  exact wpAny_pure h

set_option maxHeartbeats 1000000 in
theorem call_set_led {Q : Value → Shared → Prop}
    (h : Q (.ref s.heap.objs.size) { s with heap := s.heap.push (setO #[] 0 (.fresh 0 0 (!byT prog w))) }) :
    wpAny (model prog w) A (call (.type "set") []) Q E s := by
  obtain ⟨c, tl, hmro⟩ := F.called_set.mro
  have hmade := F.called_set.made
  have hsub := F.called_set.sub
  refine wpAny_call (codeAny_of_tree ?_)
  show wpAny _ _ (callAny (.type "set") _) _ _ _
  refine wpAny_pure ⟨Code.quiet_builtin _ (by decide +kernel), codeAny_builtin F.entry_type_call ?_⟩
  rw [Around.under_plain (weight_type_call_type "set" [] []) rfl]
  have h1 := F.called_set.notType
  have h2 := F.called_set.canCreate
  have hct := F.typeCall_set_0
  repeat (any_goals (first | assumption | wp_step))
  refine codeAny_mono (code_set_new_led (E := E) (Q₁ := fun obj s₁ => obj = .ref s.heap.objs.size ∧ s₁ = { s with heap := s.heap.push (setO #[] 0 (.fresh 0 0 (!byT prog w))) }) ⟨rfl, rfl⟩) fun r s₁ hr => ?_
  cases r with
  | error e => exact hr
  | ok fl =>
    cases fl with
    | ret obj =>
      obtain ⟨rfl, rfl⟩ := hr
      have hS : (s.heap.push (setO #[] 0 (.fresh 0 0 (!byT prog w)))).get? s.heap.objs.size = some (setO #[] 0 (.fresh 0 0 (!byT prog w))) := Heap.get?_push_size _ rfl
      have hT : Shared.TypeIs { s with heap := s.heap.push (setO #[] 0 (.fresh 0 0 (!byT prog w))) } (.ref s.heap.objs.size) "set" := ⟨_, hS, rfl⟩
      have hli := F.called_set.init.lookup
      have hbi := F.called_set.init.bind (.ref s.heap.objs.size)
      repeat (any_goals (first | assumption | wp_step))
      refine codeAny_mono (codeAny_call_builtin (R := wants (fun r s₂ => r = .none ∧ Q (.ref s.heap.objs.size) s₂) E) F.called_set.init.plain F.entry_set_init (check_set_init hT ?_)) fun r₂ s₂ hr₂ => ?_
      · unfold Builtin.«set.__init__» noKeywords
        wp_walk
        exact ⟨rfl, h⟩
      · cases r₂ with
        | error e => exact hr₂
        | ok fl₂ =>
          cases fl₂ with
          | ret r =>
            obtain ⟨rfl, hq⟩ := hr₂
            repeat (any_goals (first | assumption | wp_step))
          | _ => exact hr₂.elim
    | _ => exact hr.elim
end
end Mine
end
section
open PySem PySem.W PySem.Calls PyProof.Rows PySem.Spec
set_option maxRecDepth 100000
namespace Mine
section
variable {prog : Program} {w : World} {A : Around} {E : Value → Shared → Prop} {env : Env} {ns : List Str} {h₀ : Heap} {vs : List (Option Value)} {l : Lg} {s₀ s : Shared}
  {At : Value → Way × Int → Prop}

theorem S.at_pairs {z : Lg} (st : S env ns h₀ vs l s₀ s) (hz : ∀ c ∈ z, c ∈ l) : ∀ v p, AtL z v p → PairAt s.heap v p := by
  rintro v p ⟨a, q, us, tk, e, h1, h2, r⟩
  exact ⟨a, q, us, tk, e, st.at (hz _ h1), st.at (hz _ h2), r⟩

theorem newpend_PT : PT prog w At (setO #[] 0 (.fresh 0 0 (!byT prog w))) [] := ⟨_, _, _, [], rfl, fresh_PTs 0⟩
theorem g_newpend {Q : Value → Shared → Prop} (st : S env ns h₀ vs l s₀ s)
    (h : ∀ a s', S env ns h₀ vs ((a, setO #[] 0 (.fresh 0 0 (!byT prog w))) :: l) s₀ s' → Q (.ref a) s') : wpAny (model prog w) A (call (.type "set") []) Q E s :=
  call_set_led (h _ _ (st.push _ rfl))

theorem PT.set {o : Obj} {ps : List (Way × Int)} (P : PT prog w At o ps) : o.cls = .type "set" ∧ o.dict = none := by
  obtain ⟨es, ep, t, qs, rfl, P⟩ := P
  exact ⟨rfl, rfl⟩

theorem g_padd_meth {a : Addr} {o : Obj} {ps : List (Way × Int)} {pl : Sem Bool} {Q : Value × List Value → Shared → Prop} (st : S env ns h₀ vs l s₀ s) (hm : (a, o) ∈ l) (P : PT prog w At o ps)
    (h : Q (.builtin "set.add", [.ref a]) s) : wpAny (model prog w) A (getMethod (.ref a) "add" pl) Q E s :=
  getMethod_builtin ⟨_, st.at hm, P.set.1⟩ F.plainAttrs_set F.slot_set_add F.type_set_add (fun b e => by cases e; exact ⟨_, st.at hm, P.set.2⟩) h
theorem g_pclear_meth {a : Addr} {o : Obj} {ps : List (Way × Int)} {pl : Sem Bool} {Q : Value × List Value → Shared → Prop} (st : S env ns h₀ vs l s₀ s) (hm : (a, o) ∈ l) (P : PT prog w At o ps)
    (h : Q (.builtin "set.clear", [.ref a]) s) : wpAny (model prog w) A (getMethod (.ref a) "clear" pl) Q E s :=
  getMethod_builtin ⟨_, st.at hm, P.set.1⟩ F.plainAttrs_set F.slot_set_clear F.type_set_clear (fun b e => by cases e; exact ⟨_, st.at hm, P.set.2⟩) h

theorem g_padd {z : Lg} {a : Addr} {o : Obj} {l' : Obj → Lg} {x : Value} {p : Way × Int} {ps : List (Way × Int)} {Q : Value → Shared → Prop} (hu : A.units + 70 < cLine) (st : S env ns h₀ vs l s₀ s) (U : ∀ o', UpdL a o o' l (l' o')) (hz : ∀ c ∈ z, c ∈ l)
    (P : PT prog w (AtL z) o ps) (hx : AtL z x p) (hlen : ps.length < 70)
    (h : ∀ o' s', PT prog w (AtL z) o' (addP ps p) → S env ns h₀ vs (l' o') s₀ s' → Q .none s') : wpAny (model prog w) A (call (.builtin "set.add") [.ref a, x]) Q E s := by
  have hT : s.TypeIs (.ref a) "set" := ⟨_, st.at (U o).mem, P.set.1⟩
  refine wpAny_call_entry F.slot_set_add hT F.entry_set_add ?_ (F.args_set_add_2 _ _)
  unfold Builtin.«set.add» Builtin.Frozenset.oneOther
  simp only [List.isEmpty_nil, bind_assoc]
  unfold Builtin.Frozenset.addrOf
  refine wpAny_bind (wpAny_pure ?_)
  try dsimp only
  refine wpAny_bind (wpAny_pure ?_)
  try dsimp only
  refine wpAny_bind (setAdd_pair (by show A.units + 1 + 64 < cLine; exact qft fun x => qfa2 x hu (by simp +arith only)) (st.at (U o).mem) P (st.at_pairs hz) hx hlen fun b o' h' tk hs ho' P' => ?_)
  show wpAny _ _ (ret Value.none) _ _ _
  exact wpAny_pure ⟨_, rfl, h o' _ P' (st.upd (U o') hs ho')⟩

theorem g_pclear {a : Addr} {o : Obj} {l' : Obj → Lg} {ps : List (Way × Int)} {Q : Value → Shared → Prop} (st : S env ns h₀ vs l s₀ s) (U : ∀ o', UpdL a o o' l (l' o'))
    (P : PT prog w At o ps)
    (h : ∀ o' s', PT prog w At o' [] → S env ns h₀ vs (l' o') s₀ s' → Q .none s') : wpAny (model prog w) A (call (.builtin "set.clear") [.ref a]) Q E s := by
  have hT : s.TypeIs (.ref a) "set" := ⟨_, st.at (U o).mem, P.set.1⟩
  have ho := st.at (U o).mem
  obtain ⟨es, ep, t, qs, rfl, P⟩ := P
  refine wpAny_call_entry F.slot_set_clear hT F.entry_set_clear ?_ (F.args_set_clear_1 _)
  unfold Builtin.«set.clear» Builtin.Frozenset.noArgs
  simp only [List.isEmpty_nil, bind_assoc]
  unfold Builtin.Frozenset.addrOf Builtin.Frozenset.clearAll
  refine wpAny_bind (wpAny_pure ?_)
  refine wpAny_bind (wpAny_bind (setClear_pair ho P fun old h' o' hs ho' P' => ?_))
  have key : wpAny (model prog w) A.in1 (ret Value.none) (fun fin s' => ∃ v, fin = Fin.done (Flow.ret v) ∧ Q v s') E { s with heap := h' } :=
    wpAny_pure ⟨_, rfl, h o' _ P' (st.upd (U o') hs ho')⟩
  cases old with
  | none =>
    show wpAny _ _ point _ _ _
    exact wpAny_point key
  | some old =>
    show wpAny _ _ (letGo _) _ _ _
    exact wpAny_letGo key
end
end Mine
end
section
open PySem PySem.W PySem.Calls PyProof.Rows
set_option maxRecDepth 100000
namespace Mine
theorem dummyM : (PySem.Challenge.rw_aa0050_02 = PySem.Challenge.rw_aa0050_02 ∧ hd2.heap_39 = hd2.heap_39) := by k_fill; exact ⟨rfl, rfl⟩

theorem look_below {prog : Program} {w : World} {M : List Str} {F : FO} {τ : AbsT} (H : F.Is prog w M τ) : ∀ (x v : Way), v ≠ [] → F.look v = none → F.look (v ++ x) = none
  | [], v, hv, h => by simpa using h
  | k :: x, v, hv, h => by
    have h1 : F.look (v ++ [k]) = none := by
      cases e : F.look (v ++ [k]) with
      | none => rfl
      | some y =>
        rcases H.closed v k (by rw [e]; simp) with q | q
        · exact absurd q hv
        · exact absurd h q
    have := look_below H x (v ++ [k]) (by simp) h1
    simpa using this
theorem cut_id {prog : Program} {w : World} {M : List Str} {F : FO} {τ : AbsT} (H : F.Is prog w M τ) {v way : Way} (hv : v ≠ []) (h : F.look v = none) (hp : v <+: way) : cutT τ way = τ := by
  funext u
  unfold cutT
  split
  · rename_i q
    obtain ⟨y, rfl⟩ := hp.trans (pre_iff.mp q)
    exact (H.gone _ (look_below H y v hv h)).symm
  · rfl

inductive FJ (F : FO) (zr : Lg) (q : Addr) (way : Way) (i : Nat) : List (Option Value) → Lg → Prop
  | mk (a : Addr) (o : Obj) (kx : Option Value) : F.dictAt (way.take i) = some (a, o) → FJ F zr q way i [some (.ref F.f), some (.ref q), some (.ref a), kx] zr
section
variable {prog : Program} {w : World} {A : Around} {E : Value → Shared → Prop} {env : Env} {ns : List Str} {h₀ : Heap} {vs : List (Option Value)} {l : Lg} {s₀ s : Shared}
  {p : Program} {loose : List Str} {mean : ExcName → Option Value} {mg mb : Str → Option Value} {d u : Nat}

theorem unset_spec {M : List Str} {F : FO} {τ : AbsT} {rest : Lg} {q : Addr} {us : List Value} {way : Way} {R : Result → Shared → Prop}
    (fn : Fn env ns) (cx : Cx (hd2.heap_39 w.params) p loose mean mg mb (d + 1) (u + 3) A env h₀) (st : S env ns h₀ vs (F.cells ++ rest) s₀ s)
    (H : F.Is prog w M τ) (hq : (q, tupO us) ∈ rest) (hw : WayV us way) (hz : us.length ≤ sizeLine) (hne : way ≠ []) (hM : M.length ≤ 100)
    (h : ∀ F' s', F'.Is prog w M (cutT τ way) → F.Same F' → S env ns h₀ vs (F'.cells ++ rest) s₀ s' → R (.ok (.ret .none)) s') :
    codeAny (model prog w) A (.call (.ref 49) ⟨[.ref F.f, .ref q], []⟩) R s := by
  refine S_call (d := d) (u := u) (ns' := ["self", "key", "cont", "k"]) (vs' := [some (.ref F.f), some (.ref q), none, none])
    [("self", .ref F.f), ("key", .ref q)] ["cont", "k"] fn cx st (by k_is) (by k_is) (BindsTo.of_eq rfl) rfl rfl (fn_of (by rfl) (by decide) rfl) (by decide) ?_
  intro env1 g A1 s1 E' he fn1 cx1 st1
  generalize hSR : SRet _ _ _ _ _ _ _ _ _ = RR0; revert RR0; refine hold ?_; intro RR0 hSR
  have hint : interactive env1 = false := by obtain ⟨L', e⟩ := he; rw [e]; rfl
  have hlen := hw.length
  have hpos : 0 < way.length := by cases way with | nil => exact absurd rfl hne | cons _ _ => simp
  obtain ⟨v, hv⟩ : ∃ v, us[way.length - 1]? = some v := ⟨us[way.length - 1], List.getElem?_eq_getElem (by omega)⟩
  obtain ⟨ks, tks, rfl, hks⟩ := hw.get hv
  have hq1 : (q, tupO us) ∈ F.cells ++ rest := List.mem_append_right _ hq
  refine w_cons (w_assign 2 fn1 rfl (w_attr (w_name 0 fn1 st1 rfl rfl (w_flags cx1 st1 H (fun c hc => List.mem_append_left _ hc) fun s3 st3 => ⟨_, _, st3, Nat.le_of_ble_eq_true rfl, fun s4 st4 => ?_⟩))))
  refine w_cons (w_for ?_)
  refine w_subslice (w_name 1 fn1 st4 rfl rfl (wpart_0 (wpart_e (w_neg1 st4 fun t5 s5 st5 => ?_))))
  refine w_slice_tup st5 hq1 .none (.int _ _) hz fun z a s6 st6 ha => ?_
  have ha := ha _ hq1
  rw [sl_init] at ha
  have mc : ∀ c ∈ F.cells, c ∈ z ++ (F.cells ++ rest) := fun c hc => List.mem_append_right _ (List.mem_append_left _ hc)
  refine w_for_tuple cx1.hand st6 ha (FJ F (z ++ (F.cells ++ rest)) q way)
    (.mk F.root F.oroot none rfl) (fun i vs' l' hJ => by obtain ⟨_⟩ := hJ; exact ha) ?_ ?_
  · intro i v vs' l' I oI s' E2 hv hJ st'
    generalize hLP : LPost _ _ _ _ _ _ _ _ = QQ; revert QQ; refine hold ?_; intro QQ hLP
    obtain ⟨a1, o1, kx, hd1⟩ := hJ
    obtain ⟨k, tk, rfl, hk⟩ := hw.dropLast.get hv
    have mI : ∀ c ∈ F.cells, c ∈ (I, oI) :: (z ++ (F.cells ++ rest)) := fun c hc => .tail _ (mc c hc)
    obtain ⟨kvs, hkv, hkids⟩ := H.kids _ _ _ hd1
    have hki : way[i]? = some k := by
      rw [List.getElem?_dropLast] at hk
      split at hk
      · exact hk
      · cases hk
    have htake : way.take (i + 1) = way.take i ++ [k] := by rw [List.take_add_one, hki]; rfl
    refine w_aname (w_store 3 fn1 st' rfl (Nat.le_of_ble_eq_true rfl) fun s2 st2 => ?_)
    refine w_cons (w_if (w_testcmp (w_name 3 fn1 st2 rfl rfl (w_name 2 fn1 st2 rfl rfl (w_notin_dict st2 (mI _ (dict_mem hd1)) hkv (H.low _ _ _ hd1) fun s3 st3 => w_tbool ?_)))))
    cases hl : valueAt kvs k with
    | none =>
      refine w_cons (w_ret0 ?_)
      have hn : F.look (way.take (i + 1)) = none := by
        rw [htake]
        cases e : F.look (way.take i ++ [k]) with
        | none => rfl
        | some y => have := (hkids k _).mpr ⟨y, e, rfl⟩; rw [hl] at this; cases this
      subst hLP; subst hSR
      change SRet _ _ _ _ _ _ _ _ _ _ _
      refine SRet.intro st3.drop.dropL fun st => ?_
      refine h F _ ?_ (.refl F) st
      rw [cut_id H (by rw [htake]; simp) hn (List.take_prefix _ _)]
      exact H
    | some x =>
      obtain ⟨y, hy, rfl⟩ := (hkids k x).mp hl
      refine w_nil ?_
      have hyn := H.node_at hy
      refine w_cons (w_assign 2 fn1 rfl (w_subE (w_subE (w_name 2 fn1 st3 rfl rfl (w_name 3 fn1 st3 rfl rfl (w_tail_dict st3 (mI _ (dict_mem hd1)) hkv hl fun s4 st4 => w_str st4 fun t5 s5 st5 => w_tail_dict st5 (mI _ (mem_cells hy (.head _))) hyn rfl fun s6 st6 => ⟨_, _, st6, Nat.le_of_ble_eq_true rfl, fun s7 st7 => ?_⟩))))))
      refine w_nil ?_
      subst hLP
      refine ⟨_, _, st7, .mk y.nd y.ond _ ?_⟩
      rw [htake]; exact H.dict_of hy
  · rintro vs' l' s' ⟨a1, o1, kx, hd1⟩ st'
    have hidx : us.dropLast.length = way.length - 1 := by rw [List.length_dropLast, hlen]
    rw [hidx] at hd1
    have hway : way = way.take (way.length - 1) ++ [ks] := by
      conv => lhs; rw [← List.take_length (l := way), show way.length = way.length - 1 + 1 by omega, List.take_add_one, hks]
      rfl
    obtain ⟨kvs, hkv, hkids⟩ := H.kids _ _ _ hd1
    have hkl := H.len hM hkv hkids
    refine w_cons (w_exprA hint (w_meth (w_name 2 fn1 st' rfl rfl (w_pop_meth st' (mc _ (dict_mem hd1)) hkv (w_cwBuiltin (w_args (w_subE (w_name 1 fn1 st' rfl rfl (w_neg1 st' fun t7 s7 st7 => w_item_tup st7 (List.mem_append_right _ hq1) (by decide) (by decide) (seqIndex_last (by omega)) (hlen ▸ hv) ?_)))))))))
    refine w_args (w_none ?_)
    refine w_args0 ?_
    cases hl : valueAt kvs ks with
    | none =>
      refine w_pop_none st7 (mc _ (dict_mem hd1)) hkv (H.low _ _ _ hd1) hl fun s8 st8 => ?_
      refine w_nil ?_
      subst hSR
      change SRet _ _ _ _ _ _ _ _ _ _ _
      refine SRet.intro st8.dropL fun st => h F _ ?_ (.refl F) st
      have hn : F.look way = none := by
        rw [hway]
        cases e : F.look (way.take (way.length - 1) ++ [ks]) with
        | none => rfl
        | some y => have := (hkids ks _).mpr ⟨y, e, rfl⟩; rw [hl] at this; cases this
      rw [cut_id H hne hn (List.prefix_refl _)]
      exact H
    | some x =>
      refine w_pop (l' := fun o' => z ++ ((F.setDict (way.take (way.length - 1)) o').cells ++ rest)) st7 (fun o' => .app (.left (FO.setDict_upd H.keys hd1))) hkv hkl hl fun o' s8 ho' st8 => ?_
      refine w_nil ?_
      subst hSR
      change SRet _ _ _ _ _ _ _ _ _ _ _
      refine SRet.intro (st8.dropL.sub ((FO.cut_sub F (way.take (way.length - 1)) o' ks).append_right _)) fun st => h _ _ ?_ (FO.Same.cut _ _ _ _) st
      have := Is_cut H hd1 hkids ho'
      rw [← hway] at this
      exact this
end
end Mine
end
section
open PySem PySem.W PySem.Calls PyProof.Rows PySem.Spec
set_option maxRecDepth 100000
namespace Mine
section
variable {prog : Program} {w : World} {A : Around} {E : Value → Shared → Prop} {env env2 : Env} {ns : List Str} {h₀ : Heap} {vs : List (Option Value)} {l : Lg} {s₀ s : Shared}
  {K : Frag} {p : Program} {loose : List Str} {mean : ExcName → Option Value} {mg mb : Str → Option Value} {d u : Nat} {scope : Scope} {cl : List (Str × Addr)} {At : Value → Way × Int → Prop}
theorem w_for_pset {target : Expr} {body : List Stmt} {a : Addr} {o : Obj} {ps : List (Way × Int)} {Q : Flow → Shared → Prop} (hh : A.handled = none) (st : S env ns h₀ vs l s₀ s) (hm : (a, o) ∈ l) (P : PT prog w At o ps) (hle : ps.length ≤ 100)
    (J : List Value → List (Way × Int) → Nat → List (Option Value) → Lg → Prop) (h0 : ∀ us qs, Vals At us qs → qs.Perm ps → J us qs 0 vs l) (keep : ∀ us qs i vs' l', J us qs i vs' l' → (a, o) ∈ l')
    (turn : ∀ us qs i v vs' l' z s' E', Vals At us qs → qs.Perm ps → us[i]? = some v → J us qs i vs' l' → S env ns h₀ vs' (z ++ l') s₀ s' →
      W (model prog w) A (assign target env v) (fun _ s2 => W (model prog w) A (execs body env) (LPostZ env ns h₀ s₀ z (J us qs (i + 1)) Q) E' s2) E' s')
    (done : ∀ us qs vs' l' s', Vals At us qs → qs.Perm ps → J us qs qs.length vs' l' → S env ns h₀ vs' l' s₀ s' → Q .next s') :
    W (model prog w) A (pyIter (.ref a)) (ForRest prog w A env E target body Q) E s := by
  with_unfolding_all exact g_for_pset hh st hm P hle J h0 keep turn done
theorem w_padd_meth {a : Addr} {o : Obj} {ps : List (Way × Int)} {pl : Sem Bool} {Q : Value × List Value → Shared → Prop} (st : S env ns h₀ vs l s₀ s) (hm : (a, o) ∈ l) (P : PT prog w At o ps)
    (h : Q (.builtin "set.add", [.ref a]) s) : W (model prog w) A (getMethod (.ref a) "add" pl) Q E s := by
  with_unfolding_all exact g_padd_meth st hm P h
theorem w_pclear_meth {a : Addr} {o : Obj} {ps : List (Way × Int)} {pl : Sem Bool} {Q : Value × List Value → Shared → Prop} (st : S env ns h₀ vs l s₀ s) (hm : (a, o) ∈ l) (P : PT prog w At o ps)
    (h : Q (.builtin "set.clear", [.ref a]) s) : W (model prog w) A (getMethod (.ref a) "clear" pl) Q E s := by
  with_unfolding_all exact g_pclear_meth st hm P h
theorem w_padd {z : Lg} {a : Addr} {o : Obj} {l' : Obj → Lg} {x : Value} {p : Way × Int} {ps : List (Way × Int)} {Q : Value → Shared → Prop} (hu : A.units + 70 < cLine) (st : S env ns h₀ vs l s₀ s) (U : ∀ o', UpdL a o o' l (l' o')) (hz : ∀ c ∈ z, c ∈ l)
    (P : PT prog w (AtL z) o ps) (hx : AtL z x p) (hlen : ps.length < 70)
    (h : ∀ o' s', PT prog w (AtL z) o' (addP ps p) → S env ns h₀ vs (l' o') s₀ s' → Q .none s') : W (model prog w) A (call (.builtin "set.add") [.ref a, x]) Q E s := by
  with_unfolding_all exact g_padd hu st U hz P hx hlen h
theorem w_pclear {a : Addr} {o : Obj} {l' : Obj → Lg} {ps : List (Way × Int)} {Q : Value → Shared → Prop} (st : S env ns h₀ vs l s₀ s) (U : ∀ o', UpdL a o o' l (l' o'))
    (P : PT prog w At o ps)
    (h : ∀ o' s', PT prog w At o' [] → S env ns h₀ vs (l' o') s₀ s' → Q .none s') : W (model prog w) A (call (.builtin "set.clear") [.ref a]) Q E s := by
  with_unfolding_all exact g_pclear st U P h
end
end Mine
end
section
open PySem PySem.W PySem.Calls PyProof.Rows
set_option maxRecDepth 100000
namespace Mine
theorem dummyN : (PySem.Challenge.rw_aa0050_02 = PySem.Challenge.rw_aa0050_02 ∧ hd2.heap_39 = hd2.heap_39) := by k_fill; exact ⟨rfl, rfl⟩

noncomputable def FO.pend (F : FO) (o' : Obj) : FO := { F with opd := o' }
theorem FO.Is.pend {prog : Program} {w : World} {M : List Str} {F : FO} {τ : AbsT} (H : F.Is prog w M τ) (o' : Obj) : (F.pend o').Is prog w M τ :=
  ⟨H.fd, H.low, H.keys, H.nonil, H.menu, H.node, H.nlow, H.flags, H.gone, H.kids, H.closed⟩
theorem FO.pend_upd (F : FO) (o' : Obj) : UpdL F.pd F.opd o' F.cells (F.pend o').cells := .tail (.tail (.tail .head))
noncomputable def finT (τ : AbsT) (qs : List (Way × Int)) : AbsT := qs.foldl (fun τ p => setT τ p.1 p.2 false) τ

section
variable {prog : Program} {w : World} {A : Around} {E : Value → Shared → Prop} {env : Env} {ns : List Str} {h₀ : Heap} {vs : List (Option Value)} {l : Lg} {s₀ s : Shared}
  {p : Program} {loose : List Str} {mean : ExcName → Option Value} {mg mb : Str → Option Value} {d u : Nat}

theorem g_pflags {F : FO} {M : List Str} {τ : AbsT} {x : Bool} {Q : Value → Shared → Prop} (cx : Cx (hd2.heap_39 w.params) p loose mean mg mb d u A env h₀) (st : S env ns h₀ vs l s₀ s) (H : F.Is prog w M τ) (hc : ∀ c ∈ F.cells, c ∈ l)
    (h : ∀ s', S env ns h₀ vs l s₀ s' → Q (.ref F.pd) s') : wpAny (model prog w) A (getAttr (.ref F.f) "_pending_flags" x) Q E s := by
  obtain ⟨a0, t0, a1, t1, n, e⟩ := H.fd
  have m1 := hc _ (.head _)
  have m2 := hc _ (.tail _ (.head _))
  rw [e] at m2
  refine get_own (es := [⟨a0, .str "_flags" t0, .ref F.root⟩, ⟨a1, .str "_pending_flags" t1, .ref F.pd⟩]) st.fr cx.x ⟨st.at m1, rfl, rfl, st.at m2⟩ (by k_is) (by k_is) (by k_is) (by k_is) (by k_get) rfl (h _ (st.tok _))
theorem w_pflags {F : FO} {M : List Str} {τ : AbsT} {x : Bool} {Q : Value → Shared → Prop} (cx : Cx (hd2.heap_39 w.params) p loose mean mg mb d u A env h₀) (st : S env ns h₀ vs l s₀ s) (H : F.Is prog w M τ) (hc : ∀ c ∈ F.cells, c ∈ l)
    (h : ∀ s', S env ns h₀ vs l s₀ s' → Q (.ref F.pd) s') : W (model prog w) A (getAttr (.ref F.f) "_pending_flags" x) Q E s := .mk (g_pflags cx st H hc h)

theorem w_mset {F : FO} {M : List Str} {τ : AbsT} {pl : Sem Bool} {Q : Value × List Value → Shared → Prop} (cx : Cx (hd2.heap_39 w.params) p loose mean mg mb d u A env h₀) (st : S env ns h₀ vs l s₀ s) (H : F.Is prog w M τ) (hc : ∀ c ∈ F.cells, c ∈ l)
    (h : Q (.ref 56, [.ref F.f]) s) : W (model prog w) A (getMethod (.ref F.f) "set" pl) Q E s := by
  obtain ⟨a0, t0, a1, t1, n, e⟩ := H.fd
  have m1 := hc _ (.head _)
  have m2 := hc _ (.tail _ (.head _))
  rw [e] at m2
  exact .mk (method_inst (es := [⟨a0, .str "_flags" t0, .ref F.root⟩, ⟨a1, .str "_pending_flags" t1, .ref F.pd⟩]) st.fr cx.x ⟨st.at m1, rfl, rfl, st.at m2⟩ (by k_is) (by k_is) (by k_is) (by k_get) h)
theorem w_madd {F : FO} {M : List Str} {τ : AbsT} {pl : Sem Bool} {Q : Value × List Value → Shared → Prop} (cx : Cx (hd2.heap_39 w.params) p loose mean mg mb d u A env h₀) (st : S env ns h₀ vs l s₀ s) (H : F.Is prog w M τ) (hc : ∀ c ∈ F.cells, c ∈ l)
    (h : Q (.ref 35, [.ref F.f]) s) : W (model prog w) A (getMethod (.ref F.f) "add_pending" pl) Q E s := by
  obtain ⟨a0, t0, a1, t1, n, e⟩ := H.fd
  have m1 := hc _ (.head _)
  have m2 := hc _ (.tail _ (.head _))
  rw [e] at m2
  exact .mk (method_inst (es := [⟨a0, .str "_flags" t0, .ref F.root⟩, ⟨a1, .str "_pending_flags" t1, .ref F.pd⟩]) st.fr cx.x ⟨st.at m1, rfl, rfl, st.at m2⟩ (by k_is) (by k_is) (by k_is) (by k_get) h)
theorem w_mfin {F : FO} {M : List Str} {τ : AbsT} {pl : Sem Bool} {Q : Value × List Value → Shared → Prop} (cx : Cx (hd2.heap_39 w.params) p loose mean mg mb d u A env h₀) (st : S env ns h₀ vs l s₀ s) (H : F.Is prog w M τ) (hc : ∀ c ∈ F.cells, c ∈ l)
    (h : Q (.ref 42, [.ref F.f]) s) : W (model prog w) A (getMethod (.ref F.f) "finalize_pending" pl) Q E s := by
  obtain ⟨a0, t0, a1, t1, n, e⟩ := H.fd
  have m1 := hc _ (.head _)
  have m2 := hc _ (.tail _ (.head _))
  rw [e] at m2
  exact .mk (method_inst (es := [⟨a0, .str "_flags" t0, .ref F.root⟩, ⟨a1, .str "_pending_flags" t1, .ref F.pd⟩]) st.fr cx.x ⟨st.at m1, rfl, rfl, st.at m2⟩ (by k_is) (by k_is) (by k_is) (by k_get) h)
theorem w_munset {F : FO} {M : List Str} {τ : AbsT} {pl : Sem Bool} {Q : Value × List Value → Shared → Prop} (cx : Cx (hd2.heap_39 w.params) p loose mean mg mb d u A env h₀) (st : S env ns h₀ vs l s₀ s) (H : F.Is prog w M τ) (hc : ∀ c ∈ F.cells, c ∈ l)
    (h : Q (.ref 49, [.ref F.f]) s) : W (model prog w) A (getMethod (.ref F.f) "unset_all" pl) Q E s := by
  obtain ⟨a0, t0, a1, t1, n, e⟩ := H.fd
  have m1 := hc _ (.head _)
  have m2 := hc _ (.tail _ (.head _))
  rw [e] at m2
  exact .mk (method_inst (es := [⟨a0, .str "_flags" t0, .ref F.root⟩, ⟨a1, .str "_pending_flags" t1, .ref F.pd⟩]) st.fr cx.x ⟨st.at m1, rfl, rfl, st.at m2⟩ (by k_is) (by k_is) (by k_is) (by k_get) h)
theorem w_mis {F : FO} {M : List Str} {τ : AbsT} {pl : Sem Bool} {Q : Value × List Value → Shared → Prop} (cx : Cx (hd2.heap_39 w.params) p loose mean mg mb d u A env h₀) (st : S env ns h₀ vs l s₀ s) (H : F.Is prog w M τ) (hc : ∀ c ∈ F.cells, c ∈ l)
    (h : Q (.ref 63, [.ref F.f]) s) : W (model prog w) A (getMethod (.ref F.f) "is_" pl) Q E s := by
  obtain ⟨a0, t0, a1, t1, n, e⟩ := H.fd
  have m1 := hc _ (.head _)
  have m2 := hc _ (.tail _ (.head _))
  rw [e] at m2
  exact .mk (method_inst (es := [⟨a0, .str "_flags" t0, .ref F.root⟩, ⟨a1, .str "_pending_flags" t1, .ref F.pd⟩]) st.fr cx.x ⟨st.at m1, rfl, rfl, st.at m2⟩ (by k_is) (by k_is) (by k_is) (by k_get) h)

theorem add_spec {M : List Str} {F : FO} {τ : AbsT} {rest zz : Lg} {q : Addr} {us : List Value} {way : Way} {flag : Int} {t : Tok} {ps : List (Way × Int)} {R : Result → Shared → Prop}
    (fn : Fn env ns) (cx : Cx (hd2.heap_39 w.params) p loose mean mg mb (d + 1) (u + 73) A env h₀) (st : S env ns h₀ vs (F.cells ++ rest) s₀ s)
    (H : F.Is prog w M τ) (hzz : ∀ c ∈ zz, c ∈ rest) (hP : PT prog w (AtL zz) F.opd ps) (hlen : ps.length < 70) (hq : (q, tupO us) ∈ zz) (hw : WayV us way) (hok : Okw way) (hne : way ≠ [])
    (h : ∀ a o' s', (F.pend o').Is prog w M τ → PT prog w (AtL ((a, tupO [.ref q, .int flag t]) :: zz)) o' (addP ps (way, flag)) → S env ns h₀ vs ((F.pend o').cells ++ ((a, tupO [.ref q, .int flag t]) :: rest)) s₀ s' → R (.ok (.ret .none)) s') :
    codeAny (model prog w) A (.call (.ref 35) ⟨[.ref F.f, .ref q, .int flag t], []⟩) R s := by
  refine S_call (d := d) (u := u + 70) (ns' := ["self", "key", "flag"]) (vs' := [some (.ref F.f), some (.ref q), some (.int flag t)])
    [("self", .ref F.f), ("key", .ref q), ("flag", .int flag t)] [] fn cx st (by k_is) (by k_is) (BindsTo.of_eq rfl) rfl rfl (fn_of (by rfl) (by decide) rfl) (by decide) ?_
  intro env1 g A1 s1 E' he fn1 cx1 st1
  generalize hSR : SRet _ _ _ _ _ _ _ _ _ = RR0; revert RR0; refine hold ?_; intro RR0 hSR
  have hint : interactive env1 = false := by obtain ⟨L', e⟩ := he; rw [e]; rfl
  have hc : ∀ c ∈ F.cells, c ∈ F.cells ++ rest := fun c hc => List.mem_append_left _ hc
  have hpd : (F.pd, F.opd) ∈ F.cells := .tail _ (.tail _ (.tail _ (.head _)))
  refine w_cons (w_exprA hint (w_meth (w_attr (w_name 0 fn1 st1 rfl rfl (w_pflags cx1 st1 H hc fun s2 st2 => ?_)))))
  refine w_padd_meth st2 (hc _ hpd) hP (w_cwBuiltin (w_args (w_tupleE (w_args (w_name 1 fn1 st2 rfl rfl (w_args (w_name 2 fn1 st2 rfl rfl (w_args0 (w_tuple st2 (fun a s3 st3 => w_args0 ?_)))))))))) 
  refine w_padd (p := (way, flag)) (z := (a, tupO [.ref q, .int flag t]) :: zz) (l' := fun o' => (a, tupO [.ref q, .int flag t]) :: ((F.pend o').cells ++ rest)) (by have := cx1.units; omega) st3 (fun o' => .tail (.left (F.pend_upd o'))) ?_ (hP.imp (AtL.imp fun _ _ h => .tail _ h)) ⟨a, q, us, t, rfl, .head _, .tail _ hq, hw, hok, hne⟩ hlen fun o' s4 hP' st4 => ?_
  · intro c hc
    rcases List.mem_cons.mp hc with rfl | hc
    · exact .head _
    · exact .tail _ (List.mem_append_right _ (hzz _ hc))
  · refine w_nil ?_
    subst hSR
    change SRet _ _ _ _ _ _ _ _ _ _ _
    refine SRet.intro st4.mid fun st => h a o' _ (H.pend o') hP' st

theorem finalize_spec {M : List Str} {F : FO} {τ : AbsT} {rest zz : Lg} {ps : List (Way × Int)} {R : Result → Shared → Prop}
    (fn : Fn env ns) (cx : Cx (hd2.heap_39 w.params) p loose mean mg mb (d + 2) (u + 6) A env h₀) (st : S env ns h₀ vs (F.cells ++ rest) s₀ s)
    (H : F.Is prog w M τ) (hzz : ∀ c ∈ zz, c ∈ rest) (hP : PT prog w (AtL zz) F.opd ps) (hlen : ps.length ≤ 100) (hps : ∀ p ∈ ps, (p.2 = 0 ∨ p.2 = 1) ∧ (∀ z ∈ p.1, z ∈ M) ∧ p.1.length ≤ 100) (hM : M.length ≤ 100)
    (h : ∀ (F' : FO) (qs : List (Way × Int)) (s' : Shared), qs.Perm ps → F'.Is prog w M (finT τ qs) → F'.f = F.f → PT prog w (AtL zz) F'.opd [] → S env ns h₀ vs (F'.cells ++ rest) s₀ s' → R (.ok (.ret .none)) s') :
    codeAny (model prog w) A (.call (.ref 42) ⟨[.ref F.f], []⟩) R s := by
  refine S_call (d := d + 1) (u := u + 3) (ns' := ["self", "key", "flag"]) (vs' := [some (.ref F.f), none, none])
    [("self", .ref F.f)] ["key", "flag"] fn cx st (by k_is) (by k_is) (BindsTo.of_eq rfl) rfl rfl (fn_of (by rfl) (by decide) rfl) (by decide) ?_
  intro env1 g A1 s1 E' he fn1 cx1 st1
  generalize hSR : SRet _ _ _ _ _ _ _ _ _ = RR0; revert RR0; refine hold ?_; intro RR0 hSR
  have hint : interactive env1 = false := by obtain ⟨L', e⟩ := he; rw [e]; rfl
  have hc : ∀ (F : FO), ∀ c ∈ F.cells, c ∈ F.cells ++ rest := fun F c hc => List.mem_append_left _ hc
  have hpd : ∀ F : FO, (F.pd, F.opd) ∈ F.cells := fun F => .tail _ (.tail _ (.tail _ (.head _)))
  refine w_cons (w_for (w_attr (w_name 0 fn1 st1 rfl rfl (w_pflags cx1 st1 H (hc F) fun s2 st2 => ?_))))
  refine w_for_pset cx1.hand st2 (hc F _ (hpd F)) hP hlen (fun us qs i vs' l' => ∃ F' kx fx, l' = F'.cells ++ rest ∧ F'.Is prog w M (finT τ (qs.take i)) ∧ F.Same F' ∧ vs' = [some (.ref F.f), kx, fx])
    (fun us qs _ _ => ⟨F, none, none, rfl, H, .refl F, rfl⟩) (fun us qs i vs' l' hJ => ?_) ?_ ?_
  · obtain ⟨F', kx, fx, rfl, H', sm, rfl⟩ := hJ
    rw [← sm.pd, ← sm.opd]
    exact hc F' _ (hpd F')
  · rintro us qs i v vs' l' z s' E2 hv hqp hi ⟨F', kx, fx, rfl, H', sm, rfl⟩ st'
    obtain ⟨p, hp, a, q, us', tk, rfl, m1, m2, hw, hok, hne⟩ := hv.at hi
    have hpp := hps p (hqp.mem_iff.mp (List.mem_of_getElem? hp))
    have mz : ∀ c ∈ F'.cells ++ rest, c ∈ z ++ (F'.cells ++ rest) := fun c hc => List.mem_append_right _ hc
    have mr : ∀ c ∈ zz, c ∈ z ++ (F'.cells ++ rest) := fun c hc => List.mem_append_right _ (List.mem_append_right _ (hzz _ hc))
    refine w_unpack cx1.hand st' (mr _ m1) rfl rfl fun s3 st3 => ?_
    refine w_inorder (w_aname (w_store 1 fn1 st3 rfl (Nat.le_of_ble_eq_true rfl) fun s4 st4 => ?_))
    refine w_inorder (w_aname (w_store 2 fn1 st4 rfl (Nat.le_of_ble_eq_true rfl) fun s5 st5 => ?_))
    refine w_inorder0 ?_
    have e : F.f = F'.f := sm.f.symm
    rw [e] at st5 ⊢
    refine w_cons (w_exprA hint (w_methKW (w_name 0 fn1 st5 rfl rfl (w_mset cx1 st5 H' (fun c h => mz _ (hc F' c h)) (w_cwKW cx1 (by k_is) (w_args (w_name 1 fn1 st5 rfl rfl (w_args (w_name 2 fn1 st5 rfl rfl (w_args0 (w_kw (w_bool (w_kw0 ⟨st5.inK cx1, w_callF ?_⟩)))))))))))))
    have st6 : S env1 ["self", "key", "flag"] g [some (.ref F'.f), some (.ref q), some (.int p.2 tk)] (F'.cells ++ (z ++ rest)) s₀ s5 := st5.perm (List.perm_append_comm_assoc _ _ _)
    refine set_spec (d := d) (u := u) fn1 cx1 st6 H' (List.mem_append_right _ (hzz _ m2)) hw (by rw [hw.length]; have h1 : sizeLine = 2 ^ 24 := rfl; omega) hne hpp.2.1 hM hpp.1 fun F2 s6 H2 sm2 st7 => ?_
    refine w_nil ?_
    have e2 : qs.take (i + 1) = qs.take i ++ [p] := by rw [List.take_add_one, hp]; rfl
    refine ⟨_, _, st7.perm (List.perm_append_comm_assoc _ _ _), F2, some (.ref q), some (.int p.2 tk), rfl, ?_, sm.trans sm2, rfl⟩
    rw [e2]
    unfold finT
    rw [List.foldl_append]
    exact H2
  · rintro us qs vs' l' s' hv hqp ⟨F', kx, fx, rfl, H', sm, rfl⟩ st'
    have e : F.f = F'.f := sm.f.symm
    rw [e] at st' 
    have hP' : PT prog w (AtL zz) F'.opd ps := by rw [sm.opd]; exact hP
    refine w_cons (w_exprA hint (w_meth (w_attr (w_name 0 fn1 st' rfl rfl (w_pflags cx1 st' H' (hc F') fun s3 st3 => ?_)))))
    refine w_pclear_meth st3 (hc F' _ (hpd F')) hP' (w_cwBuiltin0 ?_)
    refine w_pclear (l' := fun o' => (F'.pend o').cells ++ rest) st3 (fun o' => .left (F'.pend_upd o')) hP' fun o' s4 hP2 st4 => ?_
    refine w_nil ?_
    subst hSR
    change SRet _ _ _ _ _ _ _ _ _ _ _
    rw [List.take_length] at H'
    refine SRet.intro st4 fun st => h (F'.pend o') qs _ hqp (H'.pend o') sm.f hP2 st
end
end Mine
end
section
open PySem PySem.W PySem.Calls PyProof.Rows
set_option maxRecDepth 100000
namespace Mine
theorem dummyNW : (PySem.Challenge.rw_aa0050_02 = PySem.Challenge.rw_aa0050_02 ∧ hd2.heap_39 = hd2.heap_39) := by k_fill; exact ⟨rfl, rfl⟩

section
variable {prog : Program} {w : World} {A : Around} {E : Value → Shared → Prop} {env : Env} {ns : List Str} {h₀ : Heap} {vs : List (Option Value)} {l : Lg} {s₀ s : Shared}
  {K : Frag} {p : Program} {loose : List Str} {mean : ExcName → Option Value} {mg mb : Str → Option Value} {d u : Nat} {At : Value → Way × Int → Prop}

theorem g_pset_call {pos fpos : Pos} {Q : Value → Shared → Prop} (fn : Fn env ns) (cx : Cx K p loose mean mg mb d u A env h₀) (st : S env ns h₀ vs l s₀ s) (e : nsIn K mainGlobals "set" = some none) (hx : env.kindOf "set" = some .globalImplicit)
    (h : ∀ a s', S env ns h₀ vs ((a, setO #[] 0 (.fresh 0 0 (!byT prog w))) :: l) s₀ s' → Q (.ref a) s') : wpAny (model prog w) A (eval (.Call (.Name "set" fpos) [] [] pos) env) Q E s :=
  Call_ (g_builtin fn cx st e boot_set (by decide) hx (by decide) (callWith_type0 (g_newpend st h)))
theorem w_pset_call {pos fpos : Pos} {Q : Value → Shared → Prop} (fn : Fn env ns) (cx : Cx K p loose mean mg mb d u A env h₀) (st : S env ns h₀ vs l s₀ s) (e : nsIn K mainGlobals "set" = some none) (hx : env.kindOf "set" = some .globalImplicit)
    (h : ∀ a s', S env ns h₀ vs ((a, setO #[] 0 (.fresh 0 0 (!byT prog w))) :: l) s₀ s' → Q (.ref a) s') : W (model prog w) A (eval (.Call (.Name "set" fpos) [] [] pos) env) Q E s := .mk (g_pset_call fn cx st e hx h)

theorem flags_new {M : List Str} {Q : Value → Shared → Prop} (fn : Fn env ns) (cx : Cx (hd2.heap_39 w.params) p loose mean mg mb (d + 2) (u + 6) A env h₀) (st : S env ns h₀ vs l s₀ s)
    (h : ∀ (F : FO) (s' : Shared), F.Is prog w M (fun _ => none) → PT prog w At F.opd [] → S env ns h₀ vs (F.cells ++ l) s₀ s' → Q (.ref F.f) s') : W (model prog w) A (call (.ref 66) []) Q E s := by
  refine .mk (call_cls st.fr cx.x st.nw (by k_is) (by k_is) (by k_is) fun x dx h' F' N' hlt hxd => ?_)
  have st1 : S env ns h₀ vs ((x, instObj 66 dx) :: (dx, dictOf [] 0) :: l) s₀ { s with heap := h' } := st.toH F' N' (by
    rw [List.map_cons, List.map_cons, List.nodup_cons, List.nodup_cons]
    refine ⟨fun q => ?_, fun q => ?_, st.nd⟩
    · rcases List.mem_cons.mp q with e | q
      · exact absurd e (Nat.ne_of_gt hxd)
      · obtain ⟨y, hy, e⟩ := List.mem_map.mp q
        have h1 := hlt y hy
        have e : y.1 = x := e
        rw [e] at h1
        exact absurd h1 (Nat.not_lt_of_gt hxd)
    · obtain ⟨y, hy, e⟩ := List.mem_map.mp q
      exact absurd e (Nat.ne_of_lt (hlt y hy)))
  refine S_call (d := d) (u := u) (ns' := ["self"]) (vs' := [some (.ref x)])
    [("self", .ref x)] [] fn cx.under st1 (by k_is) (by k_is) (BindsTo.of_eq rfl) rfl rfl (fn_of (by rfl) (by decide) rfl) (by decide) ?_
  intro env1 g A1 s1 E' he fn1 cx1 st1
  generalize hSR : SRet _ _ _ _ _ _ _ _ _ = RR0; revert RR0; refine hold ?_; intro RR0 hSR
  have hset : env1.kindOf "set" = some .globalImplicit := by obtain ⟨L', e⟩ := he; rw [e]; rfl
  refine w_cons (w_assignAttr (w_newdict st1 cx1 fun a s2 ha st2 => w_name 0 fn1 st2 rfl rfl ?_))
  refine w_setattr (n' := 1) (l' := fun t => (a, emptyD) :: (x, instObj 66 dx) :: (dx, dictOf [⟨PyData.keyHash w.params "_flags", .str "_flags" t, .ref a⟩] 1) :: l) cx1 st2 (.tail _ (.head _)) (fun t => [⟨PyData.keyHash w.params "_flags", .str "_flags" t, .ref a⟩])
    (by k_is) (by k_is) (by k_is) (by k_is) rfl (fun t => rfl) (fun t => .tail (.tail .head)) (fun t => by simp) fun t0 s3 st3 => ?_
  refine w_cons (w_assignAttr (w_pset_call fn1 cx1 st3 (by k_is) hset fun b s4 st4 => w_name 0 fn1 st4 rfl rfl ?_))
  refine w_setattr (n' := 2) (l' := fun t => (b, setO #[] 0 (.fresh 0 0 (!byT prog w))) :: (a, emptyD) :: (x, instObj 66 dx) :: (dx, dictOf [⟨PyData.keyHash w.params "_flags", .str "_flags" t0, .ref a⟩, ⟨PyData.keyHash w.params "_pending_flags", .str "_pending_flags" t, .ref b⟩] 2) :: l) cx1 st4 (.tail _ (.tail _ (.head _)))
    (fun t => [⟨PyData.keyHash w.params "_flags", .str "_flags" t0, .ref a⟩, ⟨PyData.keyHash w.params "_pending_flags", .str "_pending_flags" t, .ref b⟩])
    (by k_is) (by k_is) (by k_is) (by k_is) ?_ (fun t => ?_) (fun t => .tail (.tail (.tail .head))) (fun t => by simp) fun t1 s5 st5 => ?_
  · rfl
  · rfl
  · refine w_nil ?_
    subst hSR
    change SRet _ _ _ _ _ _ _ _ _ _ _
    have st6 := S.mid (x := [(a, emptyD), (x, instObj 66 dx), (dx, _)]) st5
    have st7 := S.mid (x := [(x, instObj 66 dx), (dx, _)]) st6
    refine SRet.intro st7 fun st => ⟨rfl, ?_⟩
    refine h ⟨x, dx, a, b, _, emptyD, _, []⟩ _ ⟨⟨_, _, _, _, _, rfl⟩, ?_, List.nodup_nil, (fun p hp => by cases hp), (fun p hp => by cases hp), (fun p hp => by cases hp), (fun p hp => by cases hp), (fun p hp => by cases hp), (fun _ _ => rfl), ?_, ?_⟩ newpend_PT st
    · intro v a' o' hd
      unfold FO.dictAt FO.look at hd
      split at hd
      · cases hd; exact ha
      · cases hd
    · intro v a' o' hd
      unfold FO.dictAt FO.look at hd
      split at hd
      · cases hd
        refine ⟨[], isDict_nil, fun k y => ?_⟩
        constructor
        · intro q; cases q
        · rintro ⟨y', q, _⟩; cases q
      · cases hd
    · intro v k hq
      exact absurd rfl hq
end
end Mine
end
section
open PySem PySem.W PySem.Calls PyProof.Rows
set_option maxRecDepth 100000
namespace Mine
theorem dummyLC : (PySem.Challenge.rw_aa0050_02 = PySem.Challenge.rw_aa0050_02 ∧ hd2.heap_39 = hd2.heap_39) := by k_fill; exact ⟨rfl, rfl⟩

noncomputable abbrev Cl := Int × Way × Int
noncomputable def nmOf (r : Int) : Str := match (r.fmod 3).toNat with | 0 => "a" | 1 => "b" | _ => "a.b"
noncomputable def restN (r : Int) : Nat → Int
  | 0 => r
  | j + 1 => (restN r j).fdiv 3
noncomputable def wayN (r : Int) : Nat → Way
  | 0 => []
  | j + 1 => wayN r j ++ [nmOf (restN r j)]
noncomputable def callOf (x : Int) : Cl := (x.fmod 5, wayN ((x.fdiv 10).fdiv 3) ((x.fdiv 10).fmod 3 + 1).toNat, (x.fdiv 5).fmod 2)
noncomputable def CAt (l : Lg) (v : Value) (c : Cl) : Prop := ∃ a q us t1 t2, v = .ref a ∧ (a, tupO [.int c.1 t1, .ref q, .int c.2.2 t2]) ∈ l ∧ (q, tupO us) ∈ l ∧ WayV us c.2.1

theorem wayN_len (r : Int) : ∀ n, (wayN r n).length = n
  | 0 => rfl
  | n + 1 => by simp [wayN, wayN_len r n]

theorem byPy (a b : Int) (hb : b.natAbs.log2 / 30 + 1 ≤ 300) : Builtin.divisionGoesByPylong a b = false := by
  unfold Builtin.divisionGoesByPylong
  have : ∀ n : Int, (if n == 0 then 0 else n.natAbs.log2 / 30 + 1) ≤ n.natAbs.log2 / 30 + 1 := fun n => by split <;> omega
  have h2 := this b
  simp only [Bool.and_eq_false_iff, decide_eq_false_iff_not]
  left
  omega

inductive LJ (x r : Int) (t : Tok) (l : Lg) (i : Nat) : List (Option Value) → Lg → Prop
  | mk (z : Lg) (b : Addr) (us : List Value) (ks : Option Value) (t' : Tok) (kk : Option Value) : (b, tupO us) ∈ z → WayV us (wayN r i) → LJ x r t l i [some (.int x t), some (.int (restN r i) t'), ks, some (.ref b), kk] (z ++ l)
section
variable {prog : Program} {w : World} {A : Around} {E : Value → Shared → Prop} {env : Env} {ns : List Str} {h₀ : Heap} {vs : List (Option Value)} {l : Lg} {s₀ s : Shared}
  {p : Program} {loose : List Str} {mean : ExcName → Option Value} {mg mb : Str → Option Value} {d u : Nat}

theorem call_spec {x : Int} {t : Tok} {R : Result → Shared → Prop}
    (fn : Fn env ns) (cx : Cx (hd2.heap_39 w.params) p loose mean mg mb (d + 1) (u + 3) A env h₀) (st : S env ns h₀ vs l s₀ s)
    (h : ∀ z v s', S env ns h₀ vs (z ++ l) s₀ s' → CAt z v (callOf x) → R (.ok (.ret v)) s') :
    codeAny (model prog w) A (.call (.ref 77) ⟨[.int x t], []⟩) R s := by
  refine S_call (d := d) (u := u) (ns' := ["x", "rest", "size", "way", "k"]) (vs' := [some (.int x t), none, none, none, none])
    [("x", .int x t)] ["rest", "size", "way", "k"] fn cx st (by k_is) (by k_is) (BindsTo.of_eq rfl) rfl rfl (fn_of (by rfl) (by decide) rfl) (by decide) ?_
  intro env1 g A1 s1 E' he fn1 cx1 st1
  generalize hSR : SRet _ _ _ _ _ _ _ _ _ = RR0; revert RR0; refine hold ?_; intro RR0 hSR
  have hrange : env1.kindOf "range" = some .globalImplicit := by obtain ⟨L', e⟩ := he; rw [e]; rfl
  have hm3 : ∀ r : Int, 0 ≤ r.fmod 3 ∧ r.fmod 3 < 3 := fun r => ⟨Int.fmod_nonneg_of_pos r (by decide), Int.fmod_lt_of_pos r (by decide)⟩
  refine w_cons (w_assign 1 fn1 rfl (w_binop (w_name 0 fn1 st1 rfl rfl (w_int st1 fun t2 s2 st2 => w_div (by decide) (byPy _ _ (by decide +kernel)) st2 fun t3 s3 st3 => ⟨_, _, st3, Nat.le_of_ble_eq_true rfl, fun s4 st4 => ?_⟩))))
  refine w_cons (w_assign 2 fn1 rfl (w_binop (w_binop (w_name 1 fn1 st4 rfl rfl (w_int st4 fun t5 s5 st5 => w_mod (by decide) st5 fun t6 s6 st6 => w_int st6 fun t7 s7 st7 => w_add st7 fun t8 s8 st8 => ⟨_, _, st8, Nat.le_of_ble_eq_true rfl, fun s9 st9 => ?_⟩)))))
  refine w_cons (w_assign 1 fn1 rfl (w_binop (w_name 1 fn1 st9 rfl rfl (w_int st9 fun t10 s10 st10 => w_div (by decide) (byPy _ _ (by decide +kernel)) st10 fun t11 s11 st11 => ⟨_, _, st11, Nat.le_of_ble_eq_true rfl, fun s12 st12 => ?_⟩))))
  refine w_cons (w_assign 3 fn1 rfl (w_tupleE (w_args0 (w_tuple st12 (fun b s13 st13 => ⟨_, _, st13, Nat.le_of_ble_eq_true rfl, fun s14 st14 => ?_⟩)))))
  obtain ⟨n, hn⟩ : ∃ n : Nat, (x.fdiv 10).fmod 3 + 1 = n := ⟨((x.fdiv 10).fmod 3 + 1).toNat, by have := (hm3 (x.fdiv 10)).1; omega⟩
  have hn3 : n ≤ 3 := by have := (hm3 (x.fdiv 10)).2; omega
  have hc : callOf x = (x.fmod 5, wayN ((x.fdiv 10).fdiv 3) n, (x.fdiv 5).fmod 2) := by unfold callOf; rw [hn]; simp
  rw [hn] at st14
  refine w_cons (w_for (w_callE (w_builtin fn1 cx1 st14 (by k_is) boot_range (by decide) hrange (by decide) (w_cwType (w_args (w_name 2 fn1 st14 rfl rfl (w_args0 (w_range st14 fun a ta tb s15 st15 => ?_))))))))
  refine w_for_range cx1.hand st15 (.head _) (by omega) (LJ x ((x.fdiv 10).fdiv 3) t l)
    (.mk [(a, _), (b, tupO [])] b [] _ _ _ (.tail _ (.head _)) WayV.nil) ?_ ?_
  · intro i tk vs' l' I oI s' E2 hi hJ st'
    generalize hLP : LPost _ _ _ _ _ _ _ _ = QQ; revert QQ; refine hold ?_; intro QQ hLP
    obtain ⟨z, b, us, ks, t', kk, hb, hw⟩ := hJ
    refine w_aname (w_store 4 fn1 st' rfl (Nat.le_of_ble_eq_true rfl) fun s2 st2 => ?_)
    refine w_cons (w_assign (h₀ := g) (s₀ := s₀) 3 fn1 rfl (w_binop (w_name 3 fn1 st2 rfl rfl (w_tupleE (w_args ?_)))))
    refine w_subE (w_listE ?_)
    refine w_args (w_str st2 fun ta s3 st3 => ?_)
    refine w_args (w_str st3 fun tb s4 st4 => ?_)
    refine w_args (w_str st4 fun tc s5 st5 => ?_)
    refine w_args0 (w_list st5 (fun c s6 st6 => ?_))
    refine w_binop (w_name 1 fn1 st6 rfl rfl (w_int st6 fun td s7 st7 => w_mod (by decide) st7 fun te s8 st8 => ?_))
    have hr := hm3 (restN ((x.fdiv 10).fdiv 3) i)
    have hx : ∃ tu, ([Value.str "a" ta, Value.str "b" tb, Value.str "a.b" tc] : List Value)[((restN ((x.fdiv 10).fdiv 3) i).fmod 3).toNat]? = some (.str (nmOf (restN ((x.fdiv 10).fdiv 3) i)) tu) := by
      unfold nmOf
      have : ((restN ((x.fdiv 10).fdiv 3) i).fmod 3).toNat = 0 ∨ ((restN ((x.fdiv 10).fdiv 3) i).fmod 3).toNat = 1 ∨ ((restN ((x.fdiv 10).fdiv 3) i).fmod 3).toNat = 2 := by omega
      rcases this with e | e | e <;> rw [e] <;> exact ⟨_, rfl⟩
    obtain ⟨tu, hx⟩ := hx
    refine w_item_list st8 (.head _) hr.1 (by omega) hx (w_args0 (w_tuple st8 (fun e s9 st9 => ?_)))
    refine w_addtup st9 (.tail _ (.tail _ (.tail _ (List.mem_append_left _ hb)))) (.head _) ?_ fun z2 f s10 st10 hf => ⟨_, _, st10, Nat.le_of_ble_eq_true rfl, fun s11 st11 => ?_⟩
    · have h1 : sizeLine = 2 ^ 24 := rfl
      rw [hw.length, wayN_len, h1]
      simp
      omega
    refine w_cons (w_assign 1 fn1 rfl (w_binop (w_name 1 fn1 st11 rfl rfl (w_int st11 fun tg s12 st12 => w_div (by decide) (byPy _ _ (by decide +kernel)) st12 fun th s13 st13 => ⟨_, _, st13, Nat.le_of_ble_eq_true rfl, fun s14 st14 => ?_⟩))))
    refine w_nil ?_
    have hf' := hf ((e, tupO [.str (nmOf (restN ((x.fdiv 10).fdiv 3) i)) tu]) :: (c, listO [Value.str "a" ta, Value.str "b" tb, Value.str "a.b" tc] 0) :: z) (.tail _ (.tail _ hb)) (.head _)
    have st15 := S.mid (a := (I, oI)) (x := []) (st14.perm (List.perm_middle (l₁ := z2 ++ [(e, tupO [.str (nmOf (restN ((x.fdiv 10).fdiv 3) i)) tu]), (c, listO [Value.str "a" ta, Value.str "b" tb, Value.str "a.b" tc] 0)]) |> fun h => by simpa using h))
    have st16 : S env1 ["x", "rest", "size", "way", "k"] g [some (.int x t), some (.int ((restN ((x.fdiv 10).fdiv 3) i).fdiv 3) th), ks, some (.ref f), some (.int i tk)] ((I, oI) :: ((z2 ++ ((e, tupO [.str (nmOf (restN ((x.fdiv 10).fdiv 3) i)) tu]) :: (c, listO [Value.str "a" ta, Value.str "b" tb, Value.str "a.b" tc] 0) :: z)) ++ l)) s₀ s14 := by rw [List.append_assoc]; exact st15
    subst hLP
    exact ⟨_, _, st16, .mk _ f _ _ _ _ hf' (hw.append (WayV.one _ tu))⟩
  · rintro vs' l' s' ⟨z, b, us, ks, t', kk, hb, hw⟩ st'
    refine w_cons (w_ret (w_tupleE ?_))
    refine w_args (w_binop (w_name 0 fn1 st' rfl rfl (w_int st' fun ta s2 st2 => w_mod (by decide) st2 fun tb s3 st3 => ?_)))
    refine w_args (w_name 3 fn1 st3 rfl rfl ?_)
    refine w_args (w_binop (w_binop (w_name 0 fn1 st3 rfl rfl (w_int st3 fun tc s4 st4 => w_div (by decide) (byPy _ _ (by decide +kernel)) st4 fun td s5 st5 => w_int st5 fun te s6 st6 => w_mod (by decide) st6 fun tf s7 st7 => ?_))))
    refine w_args0 (w_tuple st7 (fun e s8 st8 => ?_))
    subst hSR
    change SRet _ _ _ _ _ _ _ _ _ _ _
    refine SRet.intro (l' := ((e, tupO [Value.int (x.fmod 5) tb, .ref b, .int ((x.fdiv 5).fmod 2) tf]) :: z) ++ l) st8 fun st => h _ _ _ st ?_
    rw [hc]
    exact ⟨e, b, us, tb, tf, rfl, .head _, .tail _ hb, hw⟩
end
end Mine
end
section
open PySem PySem.W PySem.Calls PyProof.Rows
set_option maxRecDepth 100000
namespace Mine

noncomputable def e0 : NS := (fun _ => false, fun _ => false)
noncomputable def addR (rec : Bool) (f : Int) (x : NS) : NS := if rec then (x.1, addF x.2 f) else (addF x.1 f, x.2)
noncomputable def opAt (v : Way) (f : Int) (rec : Bool) (u : Way) (x : Option NS) : Option NS := if u = v then some (addR rec f (x.getD e0)) else if u ≠ [] ∧ u <+: v then some (x.getD e0) else x

theorem road_eq (τ : AbsT) (v : Way) : ∀ n u, road τ [] (v.take n) u = if u ≠ [] ∧ u <+: v.take n then some ((τ u).getD e0) else τ u
  | 0, u => by
    rw [List.take_zero, if_neg (fun q => q.1 (List.prefix_nil.mp q.2))]
    rfl
  | n + 1, u => by
    cases hk : v[n]? with
    | none =>
      have : v.take (n + 1) = v.take n := by rw [List.take_add_one, hk]; simp
      rw [this]; exact road_eq τ v n u
    | some k =>
      have e : v.take (n + 1) = v.take n ++ [k] := by rw [List.take_add_one, hk]; rfl
      rw [e, road_snoc]
      show ensure (road τ [] (v.take n)) (v.take n ++ [k]) u = _
      unfold ensure
      by_cases hu : u = v.take n ++ [k]
      · rw [if_pos hu, if_pos ⟨by rw [hu]; simp, by rw [hu]; exact List.prefix_refl _⟩, road_eq τ v n]
        rw [if_neg (fun q => by
          have := q.2.length_le
          simp at this
          have h1 : n < v.length := (List.getElem?_eq_some_iff.mp hk).1
          omega), ← hu]
        rfl
      · rw [if_neg hu, road_eq τ v n]
        have : (u <+: v.take n ++ [k]) ↔ u <+: v.take n := by
          constructor
          · intro q
            rcases List.prefix_concat_iff.mp q with q | q
            · exact absurd q hu
            · exact q
          · intro q; exact q.trans (List.prefix_append _ _)
        simp only [this]
theorem setT_eq (τ : AbsT) {v : Way} (hv : v ≠ []) (f : Int) (rec : Bool) : setT τ v f rec = fun u => opAt v f rec u (τ u) := by
  funext u
  have hr := road_eq τ v v.length
  rw [List.take_length] at hr
  unfold setT setM opAt
  by_cases hu : u = v
  · rw [if_pos hu, if_pos hu, hr, if_pos ⟨hv, List.prefix_refl _⟩]
    subst hu
    rfl
  · rw [if_neg hu, if_neg hu, hr]
theorem addR_comm (r r' : Bool) (f g : Int) (x : NS) : addR r f (addR r' g x) = addR r' g (addR r f x) := by
  have h : ∀ X : Int → Bool, addF (addF X g) f = addF (addF X f) g := by
    intro X; funext k; unfold addF
    cases X k <;> cases decide (k = f) <;> cases decide (k = g) <;> rfl
  unfold addR
  cases r <;> cases r' <;> simp [h]
theorem opAt_comm (v w : Way) (f g : Int) (r r' : Bool) (u : Way) (x : Option NS) : opAt v f r u (opAt w g r' u x) = opAt w g r' u (opAt v f r u x) := by
  unfold opAt
  by_cases h1 : u = v <;> by_cases h2 : u = w
  · rw [if_pos h1, if_pos h2]
    simp only [if_pos h1, if_pos h2, Option.getD_some]
    rw [addR_comm]
  · simp only [if_pos h1, if_neg h2]
    by_cases h3 : u ≠ [] ∧ u <+: w
    · simp only [if_pos h3, Option.getD_some]
    · simp only [if_neg h3]
  · simp only [if_neg h1, if_pos h2]
    by_cases h3 : u ≠ [] ∧ u <+: v
    · simp only [if_pos h3, Option.getD_some]
    · simp only [if_neg h3]
  · simp only [if_neg h1, if_neg h2]
    by_cases h3 : u ≠ [] ∧ u <+: v <;> by_cases h4 : u ≠ [] ∧ u <+: w <;> simp only [h3, h4, if_true, if_false, Option.getD_some, and_self]
theorem setT_comm (τ : AbsT) {v w : Way} (hv : v ≠ []) (hw : w ≠ []) (f g : Int) (r r' : Bool) : setT (setT τ w g r') v f r = setT (setT τ v f r) w g r' := by
  rw [setT_eq _ hv, setT_eq _ hw, setT_eq _ hw, setT_eq _ hv]
  funext u
  exact opAt_comm v w f g r r' u (τ u)
theorem finT_perm (τ : AbsT) {qs ps : List (Way × Int)} (p : qs.Perm ps) (h : ∀ x ∈ ps, x.1 ≠ []) : finT τ qs = finT τ ps := by
  unfold finT
  refine List.Perm.foldl_eq' p (fun x hx y hy z => ?_) τ
  exact setT_comm z (h y (p.mem_iff.mp hy)) (h x (p.mem_iff.mp hx)) _ _ _ _
end Mine
end
section
open PySem PySem.W PySem.Calls PyProof.Rows
set_option maxRecDepth 100000
namespace Mine
theorem dummyRN : (PySem.Challenge.rw_aa0050_02 = PySem.Challenge.rw_aa0050_02 ∧ hd2.heap_39 = hd2.heap_39) := by k_fill; exact ⟨rfl, rfl⟩

inductive Vs {α : Type} (At : Value → α → Prop) : List Value → List α → Prop
  | nil : Vs At [] []
  | cons {v : Value} {p : α} {vs : List Value} {ps : List α} : At v p → Vs At vs ps → Vs At (v :: vs) (p :: ps)
theorem Vs.length {α : Type} {At : Value → α → Prop} {us : List Value} {ps : List α} (r : Vs At us ps) : us.length = ps.length := by
  induction r with
  | nil => rfl
  | cons a _ ih => simp [ih]
theorem Vs.at {α : Type} {At : Value → α → Prop} {us : List Value} {ps : List α} (r : Vs At us ps) : ∀ {i : Nat} {v : Value}, us[i]? = some v → ∃ p, ps[i]? = some p ∧ At v p := by
  induction r with
  | nil => intro i v h; simp at h
  | cons a _ ih =>
    intro i v h
    cases i with
    | zero => simp at h; subst h; exact ⟨_, rfl, a⟩
    | succ i => simp at h; obtain ⟨p, h1, h2⟩ := ih h; exact ⟨p, by simpa using h1, h2⟩
theorem Vs.imp {α : Type} {At Bt : Value → α → Prop} (k : ∀ v p, At v p → Bt v p) {us : List Value} {ps : List α} (r : Vs At us ps) : Vs Bt us ps := by
  induction r with
  | nil => exact .nil
  | cons a _ ih => exact .cons (k _ _ a) ih
theorem Vs.append {α : Type} {At : Value → α → Prop} {us vs : List Value} {ps qs : List α} (r : Vs At us ps) (r' : Vs At vs qs) : Vs At (us ++ vs) (ps ++ qs) := by
  induction r with
  | nil => exact r'
  | cons a _ ih => exact .cons a ih

noncomputable def LM : List Str := ["a", "b", "a.b"]
structure OkC (c : Cl) : Prop where
  flag : c.2.2 = 0 ∨ c.2.2 = 1
  ne : c.2.1 ≠ []
  menu : ∀ z ∈ c.2.1, z ∈ LM
  len : c.2.1.length ≤ 3
  kind : 0 ≤ c.1 ∧ c.1 < 5
theorem okw_menu {way : Way} (h : ∀ z ∈ way, z ∈ LM) : Okw way := by
  intro z hz
  have := h z hz
  have e : ∀ z ∈ LM, PyData.strOk z = true := by decide +kernel
  exact e z this
noncomputable abbrev St2 := AbsT × List (Way × Int)
noncomputable def stepC (σ : St2) (c : Cl) : St2 := if c.1 < 2 then (setT σ.1 c.2.1 c.2.2 (c.1 == 1), σ.2) else if c.1 = 2 then (σ.1, addP σ.2 (c.2.1, c.2.2)) else if c.1 = 3 then (finT σ.1 σ.2, []) else (cutT σ.1 c.2.1, σ.2)
noncomputable def st0 : St2 := (fun _ => none, [])
noncomputable def runC (cs : List Cl) : St2 := cs.foldl stepC st0

theorem addP_mem {ps : List (Way × Int)} {p q : Way × Int} (h : q ∈ addP ps p) : q ∈ ps ∨ q = p := by
  unfold addP at h
  split at h
  · exact .inl h
  · rcases List.mem_append.mp h with h | h
    · exact .inl h
    · exact .inr (List.mem_singleton.mp h)
theorem addP_len (ps : List (Way × Int)) (p : Way × Int) : (addP ps p).length ≤ ps.length + 1 := by
  unfold addP
  split
  · omega
  · simp
structure OkS (σ : St2) (n : Nat) : Prop where
  len : σ.2.length ≤ n
  ps : ∀ p ∈ σ.2, (p.2 = 0 ∨ p.2 = 1) ∧ (∀ z ∈ p.1, z ∈ LM) ∧ p.1.length ≤ 100 ∧ p.1 ≠ []
theorem OkS.step {σ : St2} {n : Nat} {c : Cl} (h : OkS σ n) (hc : OkC c) : OkS (stepC σ c) (n + 1) := by
  unfold stepC
  split
  · exact ⟨Nat.le_succ_of_le h.len, h.ps⟩
  · split
    · refine ⟨Nat.le_trans (addP_len _ _) (by have := h.len; omega), fun p hp => ?_⟩
      rcases addP_mem hp with hp | rfl
      · exact h.ps p hp
      · exact ⟨hc.flag, hc.menu, Nat.le_trans hc.len (by decide), hc.ne⟩
    · split
      · exact ⟨Nat.zero_le _, fun p hp => nomatch hp⟩
      · exact ⟨Nat.le_succ_of_le h.len, h.ps⟩
theorem OkS.run {cs : List Cl} (h : ∀ c ∈ cs, OkC c) : ∀ {σ : St2} {n : Nat}, OkS σ n → OkS (cs.foldl stepC σ) (n + cs.length) := by
  induction cs with
  | nil => intro σ n hs; exact hs
  | cons c cs ih =>
    intro σ n hs
    have := ih (fun x hx => h x (.tail _ hx)) (hs.step (h c (.head _)))
    rw [List.length_cons, Nat.add_comm cs.length 1, ← Nat.add_assoc]
    exact this

inductive RJ (prog : Program) (w : World) (cs : List Cl) (t : Addr) (l : Lg) (i : Nat) : List (Option Value) → Lg → Prop
  | mk (F : FO) (z : Lg) (k1 k2 k3 : Option Value) : F.Is prog w LM (runC (cs.take i)).1 → PT prog w (AtL (z ++ l)) F.opd (runC (cs.take i)).2 → RJ prog w cs t l i [some (.ref t), some (.ref F.f), k1, k2, k3] (F.cells ++ (z ++ l))
section
variable {prog : Program} {w : World} {A : Around} {E : Value → Shared → Prop} {env : Env} {ns : List Str} {h₀ : Heap} {vs : List (Option Value)} {l : Lg} {s₀ s : Shared}
  {p : Program} {loose : List Str} {mean : ExcName → Option Value} {mg mb : Str → Option Value} {d u : Nat}

theorem CAt.imp {l l' : Lg} (k : ∀ a us, (a, tupO us) ∈ l → (a, tupO us) ∈ l') (v : Value) (c : Cl) (x : CAt l v c) : CAt l' v c := by
  obtain ⟨a, q, us, t1, t2, e, h1, h2, r⟩ := x
  exact ⟨a, q, us, t1, t2, e, k _ _ h1, k _ _ h2, r⟩

theorem w_lt {a b : Int} {t u : Tok} {Q : Value → Shared → Prop} (h : Q (.bool (decide (a < b))) s) : W (model prog w) A (compareOp .Lt (.int a t) (.int b u)) Q E s := .mk (PyProof.Rows.lt_int h)
theorem w_eq {a b : Int} {t u : Tok} {Q : Value → Shared → Prop} (h : Q (.bool (a == b)) s) : W (model prog w) A (compareOp .Eq (.int a t) (.int b u)) Q E s := .mk (PyProof.Rows.eq_int h)

theorem run_spec {t : Addr} {us : List Value} {n : Nat} {cs : List Cl} {R : Result → Shared → Prop}
    (fn : Fn env ns) (cx : Cx (hd2.heap_39 w.params) p loose mean mg mb (d + 4) (u + 80) A env h₀) (st : S env ns h₀ vs l s₀ s)
    (hm : (t, listO us n) ∈ l) (hv : Vs (CAt l) us cs) (hcs : ∀ c ∈ cs, OkC c) (hlen : cs.length < 70)
    (h : ∀ (F : FO) (z : Lg) (s' : Shared), F.Is prog w LM (runC cs).1 → PT prog w (AtL (z ++ l)) F.opd (runC cs).2 → S env ns h₀ vs (F.cells ++ (z ++ l)) s₀ s' → R (.ok (.ret (.ref F.f))) s') :
    codeAny (model prog w) A (.call (.ref 84) ⟨[.ref t], []⟩) R s := by
  refine S_call (d := d + 3) (u := u + 77) (ns' := ["calls", "flags", "kind", "way", "flag"]) (vs' := [some (.ref t), none, none, none, none])
    [("calls", .ref t)] ["flags", "kind", "way", "flag"] fn cx st (by k_is) (by k_is) (BindsTo.of_eq rfl) rfl rfl (fn_of (by rfl) (by decide) rfl) (by decide) ?_
  intro env1 g A1 s1 E' he fn1 cx1 st1
  generalize hSR : SRet _ _ _ _ _ _ _ _ _ = RR0; revert RR0; refine hold ?_; intro RR0 hSR
  have hint : interactive env1 = false := by obtain ⟨L', e⟩ := he; rw [e]; rfl
  have hFl : env1.kindOf "Flags" = some .globalImplicit := by obtain ⟨L', e⟩ := he; rw [e]; rfl
  refine w_cons (w_assign 1 fn1 rfl (w_callE (w_global fn1 cx1 st1 (by k_is) hFl (by decide) (w_cwK0 cx1 st1 (by k_is) (flags_new (M := LM) (At := AtL l) (d := d + 1) (u := u) fn1 (cx1.le (by omega) (by omega)) st1 fun F s2 H hP st2 => ⟨_, _, st2, Nat.le_of_ble_eq_true rfl, fun s3 st3 => ?_⟩)))))
  refine w_cons (w_for (w_name 0 fn1 st3 rfl rfl ?_))
  refine w_for_list cx1.hand st3 (List.mem_append_right _ hm) (RJ prog w cs t l)
    (.mk F [] none none none H hP) (fun i vs' l' hJ => by obtain ⟨F', z⟩ := hJ; exact List.mem_append_right _ (List.mem_append_right _ hm)) ?_ ?_
  · intro i v vs' l' I oI s' E2 hi hJ st'
    generalize hLP : LPost _ _ _ _ _ _ _ _ = QQ; revert QQ; refine hold ?_; intro QQ hLP
    obtain ⟨F, z, k1, k2, k3, H, hP⟩ := hJ
    obtain ⟨c, hc, a, q, us', t1, t2, rfl, m1, m2, hw⟩ := hv.at hi
    have hok := hcs c (List.mem_of_getElem? hc)
    have hi2 : i < cs.length := (List.getElem?_eq_some_iff.mp hc).1
    have hrun : runC (cs.take (i + 1)) = stepC (runC (cs.take i)) c := by
      unfold runC
      rw [List.take_add_one, hc, Option.toList_some, List.foldl_append]
      rfl
    have hS : OkS (runC (cs.take i)) (0 + (cs.take i).length) := OkS.run (fun c hc => hcs c (List.mem_of_mem_take hc)) ⟨Nat.le_refl _, fun p hp => nomatch hp⟩
    have hSl : (runC (cs.take i)).2.length ≤ i := by have := hS.len; rw [List.length_take] at this; omega
    have ml : ∀ x ∈ l, x ∈ (I, oI) :: (F.cells ++ (z ++ l)) := fun x hx => .tail _ (List.mem_append_right _ (List.mem_append_right _ hx))
    have hsz : us'.length ≤ sizeLine := by have h1 : sizeLine = 2 ^ 24 := rfl; rw [hw.length, h1]; have := hok.len; omega
    refine w_unpack cx1.hand st' (ml _ m1) rfl rfl fun s3 st3 => ?_
    refine w_inorder (w_aname (w_store 2 fn1 st3 rfl (Nat.le_of_ble_eq_true rfl) fun s4 st4 => ?_))
    refine w_inorder (w_aname (w_store 3 fn1 st4 rfl (Nat.le_of_ble_eq_true rfl) fun s5 st5 => ?_))
    refine w_inorder (w_aname (w_store 4 fn1 st5 rfl (Nat.le_of_ble_eq_true rfl) fun s6 st6 => ?_))
    refine w_inorder0 ?_
    have st6 : S env1 ["calls", "flags", "kind", "way", "flag"] g [some (.ref t), some (.ref F.f), some (.int c.1 t1), some (.ref q), some (.int c.2.2 t2)] (F.cells ++ ((I, oI) :: (z ++ l))) s₀ s6 := st6.mid
    have hcF : ∀ x ∈ F.cells, x ∈ F.cells ++ ((I, oI) :: (z ++ l)) := fun x hx => List.mem_append_left _ hx
    have hzz : ∀ x ∈ z ++ l, x ∈ (I, oI) :: (z ++ l) := fun x hx => .tail _ hx
    have back : ∀ (F' : FO) (z' : Lg) s', S env1 ["calls", "flags", "kind", "way", "flag"] g [some (.ref t), some (.ref F'.f), some (.int c.1 t1), some (.ref q), some (.int c.2.2 t2)] (F'.cells ++ ((I, oI) :: (z' ++ l))) s₀ s' →
        F'.Is prog w LM (stepC (runC (cs.take i)) c).1 → PT prog w (AtL (z' ++ l)) F'.opd (stepC (runC (cs.take i)) c).2 → W (model prog w) A1 (execs [] env1) QQ E2 s' := by
      intro F' z' s' st H' hP'
      refine w_nil ?_
      subst hLP
      rw [← hrun] at H' hP'
      exact ⟨_, _, st.perm List.perm_middle, .mk F' z' _ _ _ H' hP'⟩
    refine w_cons (w_if (w_testcmp (w_name 2 fn1 st6 rfl rfl (w_int st6 fun t7 s7 st7 => w_lt (w_tbool ?_)))))
    by_cases hk2 : c.1 < 2
    · refine ite_t (decide_eq_true hk2) ?_
      refine w_cons (w_exprA hint (w_methKW (w_name 1 fn1 st7 rfl rfl (w_mset cx1 st7 H hcF (w_cwKW cx1 (by k_is) (w_args (w_name 3 fn1 st7 rfl rfl (w_args (w_name 4 fn1 st7 rfl rfl (w_args0 (w_kw (w_cmp (w_name 2 fn1 st7 rfl rfl (w_int st7 fun t8 s8 st8 => w_eq (w_kw0 ⟨st8.inK cx1, w_callF ?_⟩)))))))))))))))
      refine set_spec (d := d + 1) (u := u) fn1 (cx1.le (by omega) (by omega)) st8 H (hzz _ (List.mem_append_right _ m2)) hw hsz hok.ne hok.menu (by decide) hok.flag fun F2 s9 H2 sm2 st9 => ?_
      have e : F.f = F2.f := sm2.f.symm
      have st10 := st9
      rw [e] at st10
      refine w_nil (back F2 z _ st10 ?_ ?_)
      · unfold stepC; rw [if_pos hk2]; exact H2
      · unfold stepC; rw [if_pos hk2, sm2.opd]; exact hP
    · refine ite_f (decide_eq_false hk2) ?_
      refine w_cons (w_if (w_testcmp (w_name 2 fn1 st7 rfl rfl (w_int st7 fun t8 s8 st8 => w_eq (w_tbool ?_)))))
      by_cases hk : c.1 = 2
      · have hb : (c.1 == 2) = true := beq_iff_eq.mpr hk
        refine ite_t (hb) ?_
        refine w_cons (w_exprA hint (w_meth (w_name 1 fn1 st8 rfl rfl (w_madd cx1 st8 H hcF (w_cwK cx1 (by k_is) (w_args (w_name 3 fn1 st8 rfl rfl (w_args (w_name 4 fn1 st8 rfl rfl (w_args0 ⟨st8.inK cx1, w_callF ?_⟩))))))))))
        refine add_spec (d := d + 2) (u := u) (zz := z ++ l) fn1 (cx1.le (by omega) (by omega)) st8 H hzz hP (by omega) (List.mem_append_right _ m2) hw (okw_menu hok.menu) hok.ne fun b o' s9 H2 hP2 st9 => ?_
        refine w_nil (w_nil (back (F.pend o') ((b, tupO [.ref q, .int c.2.2 t2]) :: z) _ ?_ ?_ ?_))
        · exact st9.perm (List.Perm.append_left _ (List.Perm.swap _ _ _))
        · unfold stepC; rw [if_neg hk2, if_pos hk]; exact H2
        · unfold stepC; rw [if_neg hk2, if_pos hk]; exact hP2
      · have hb : (c.1 == 2) = false := beq_eq_false_iff_ne.mpr hk
        refine ite_f (hb) ?_
        refine w_cons (w_if (w_testcmp (w_name 2 fn1 st8 rfl rfl (w_int st8 fun t9 s9 st9 => w_eq (w_tbool ?_)))))
        by_cases hk3 : c.1 = 3
        · have hb : (c.1 == 3) = true := beq_iff_eq.mpr hk3
          refine ite_t (hb) ?_
          refine w_cons (w_exprA hint (w_meth (w_name 1 fn1 st9 rfl rfl (w_mfin cx1 st9 H hcF (w_cwK0 cx1 st9 (by k_is) (w_callF ?_))))))
          refine finalize_spec (d := d + 1) (u := u) (zz := z ++ l) fn1 (cx1.le (by omega) (by omega)) st9 H hzz hP (by omega) (fun p hp => ⟨(hS.ps p hp).1, (hS.ps p hp).2.1, (hS.ps p hp).2.2.1⟩) (by decide) fun F2 qs s10 hqp H2 e hP2 st10 => ?_
          rw [← e] at st10
          refine w_nil (w_nil (w_nil (back F2 z _ st10 ?_ ?_)))
          · unfold stepC; rw [if_neg hk2, if_neg hk, if_pos hk3, ← finT_perm _ hqp fun x hx => (hS.ps x hx).2.2.2]; exact H2
          · unfold stepC; rw [if_neg hk2, if_neg hk, if_pos hk3]; exact hP2
        · have hb : (c.1 == 3) = false := beq_eq_false_iff_ne.mpr hk3
          refine ite_f (hb) ?_
          refine w_cons (w_exprA hint (w_meth (w_name 1 fn1 st9 rfl rfl (w_munset cx1 st9 H hcF (w_cwK cx1 (by k_is) (w_args (w_name 3 fn1 st9 rfl rfl (w_args0 ⟨st9.inK cx1, w_callF ?_⟩))))))))
          refine unset_spec (d := d + 2) (u := u) fn1 (cx1.le (by omega) (by omega)) st9 H (hzz _ (List.mem_append_right _ m2)) hw hsz hok.ne (by decide) fun F2 s10 H2 sm2 st10 => ?_
          have e : F.f = F2.f := sm2.f.symm
          have st11 := st10
          rw [e] at st11
          refine w_nil (w_nil (w_nil (back F2 z _ st11 ?_ ?_)))
          · unfold stepC; rw [if_neg hk2, if_neg hk, if_neg hk3]; exact H2
          · unfold stepC; rw [if_neg hk2, if_neg hk, if_neg hk3, sm2.opd]; exact hP
  · rintro vs' l' s' ⟨F, z, k1, k2, k3, H, hP⟩ st'
    have e : us.length = cs.length := hv.length
    rw [e, List.take_length] at H hP
    refine w_cons (w_ret (w_name 1 fn1 st' rfl rfl ?_))
    subst hSR
    change SRet _ _ _ _ _ _ _ _ _ _ _
    exact SRet.intro st' fun st => h F z _ H hP st
end
end Mine
end
section
open PySem PySem.W PySem.Calls PyProof.Rows
set_option maxRecDepth 100000
namespace Mine
theorem dummyTD : (PySem.Challenge.rw_aa0050_02 = PySem.Challenge.rw_aa0050_02 ∧ hd2.heap_39 = hd2.heap_39) := by k_fill; exact ⟨rfl, rfl⟩

noncomputable def WAt (l : Lg) (v : Value) (way : Way) : Prop := ∃ q xs, v = .ref q ∧ (q, tupO xs) ∈ l ∧ WayV xs way ∧ way.length ≤ 100
noncomputable def TB (l : Lg) (v : Value) (b : List Bool) : Prop := ∃ a n, v = .ref a ∧ (a, listO (b.map .bool) n) ∈ l
theorem WAt.mono {l l' : Lg} (k : ∀ c ∈ l, c ∈ l') (v : Value) (x : Way) (h : WAt l v x) : WAt l' v x := by
  obtain ⟨q, xs, e, h1, r⟩ := h
  exact ⟨q, xs, e, k _ h1, r⟩
theorem TB.mono {l l' : Lg} (k : ∀ c ∈ l, c ∈ l') (v : Value) (x : List Bool) (h : TB l v x) : TB l' v x := by
  obtain ⟨a, n, e, h1⟩ := h
  exact ⟨a, n, e, k _ h1⟩
noncomputable def rowT (τ : AbsT) (way : Way) : List Bool := [isW τ way 0, isW τ way 1]

noncomputable abbrev scT1 : Scope := ⟨.function, [(".0", .local), ("way", .cell), ("flags", .free)], false, false, []⟩
noncomputable abbrev scT2 : Scope := ⟨.function, [(".0", .local), ("flag", .local), ("flags", .free), ("way", .free)], false, false, []⟩

theorem pm3 {α : Type} (z fr c r : List α) : (z ++ (fr ++ (c ++ r))).Perm (c ++ (z ++ (fr ++ r))) :=
  (List.Perm.append_left z (List.perm_append_comm_assoc fr c r)).trans (List.perm_append_comm_assoc z c (fr ++ r))

inductive TJ (prog : Program) (w : World) (F : FO) (τ : AbsT) (la t D1 : Addr) (ta tb tc : Tok) (lr1 : Lg) (i : Nat) : List (Option Value) → Lg → Prop
  | mk (F' : FO) (z : Lg) (kx : Option Value) : F'.Is prog w LM ((LM.take i).foldl (fun τ k => cutT τ [k]) τ) → F.Same F' → TJ prog w F τ la t D1 ta tb tc lr1 i [some (.ref t), some (.ref D1), kx] ((la, listO [.str "a" ta, .str "b" tb, .str "a.b" tc] 0) :: (F'.cells ++ (z ++ lr1)))
section
variable {prog : Program} {w : World} {A : Around} {E : Value → Shared → Prop} {env : Env} {ns : List Str} {h₀ : Heap} {vs : List (Option Value)} {l : Lg} {s₀ s : Shared}
  {p : Program} {loose : List Str} {mean : ExcName → Option Value} {mg mb : Str → Option Value} {d u : Nat}

theorem meth_pos {n1 n2 n3 name : Str} {p1 p2 p3 p4 p5 : Pos} {env3 : Env} (hp : (p2.endLine == p5.line) = true) :
    eval (.Call (.Attribute (.Name n1 p1) name p2) [.Name n2 p3, .Name n3 p4] [] p5) env3 = (do
      let ov ← eval (.Name n1 p1) env3
      standAt p2.atName
      let (f, first) ← holding [ov] (getMethod ov name (do return (← importBound (.Name n1 p1) env3).getD true))
      callWith p5 f first (backTo p5 (starEach [.Name n2 p3, .Name n3 p4] env3)) []) := by
  have e : methodCallPos true (.Name n1 p1) env3 p2 p5 = pure p5 := by
    unfold methodCallPos
    rw [if_pos (by rw [hp]; rfl)]
  show (do
      let ov ← eval (.Name n1 p1) env3
      standAt p2.atName
      let (f, first) ← holding [ov] (getMethod ov name (do return (← importBound (.Name n1 p1) env3).getD true))
      let callPos ← methodCallPos true (.Name n1 p1) env3 p2 p5
      callWith callPos f first (backTo p5 (starEach [.Name n2 p3, .Name n3 p4] env3)) []) = _
  rw [e]
  rfl

theorem w_tell {p1 p2 p3 p4 p5 p6 p7 p8 p9 p10 p11 p12 p13 : Pos} {F : FO} {τ : AbsT} {lr : Lg} {c t : Addr} {oc : Obj} {us : List Value} {n i0 : Nat} {ways : List Way} {RR : Value → Addr → Result → Shared → Prop}
    (fn : Fn env ns) (cx : Cx (hd2.heap_39 w.params) p loose mean mg mb (d + 1) (u + 3) A env h₀) (st : S env ns h₀ vs (F.cells ++ lr) s₀ s) (H : F.Is prog w LM τ)
    (hfl : env.cells.lookup ("flags" : Str) = some c) (hc : (c, oc) ∈ lr) (hcv : CellV oc (some (.ref F.f))) (hn : ns[i0]? = some "ways") (hvs : vs[i0]? = some (some (.ref t))) (ht : (t, listO us n) ∈ lr) (hw : Vs (WAt lr) us ways) (hlen : ways.length ≤ 1000) (hp : (p2.endLine == p5.line) = true)
    (done : ∀ D C oC m k ys z' s', Vs (TB z') ys (ways.map (rowT τ)) → LCg.NsObj oC m → S env ns h₀ vs ((C, oC) :: (D, listO ys k) :: (F.cells ++ (z' ++ lr))) s₀ s' → RR (.ref D) C (.ok .next) s') :
    W (model prog w) A (eval (.Name "ways" p12) env) (fun x s₁ => W (model prog w) A (pyIter x) (CompRest prog w A env E
      (.ListComp (.Call (.Attribute (.Name "flags" p1) "is_" p2) [.Name "way" p3, .Name "flag" p4] [] p5) [⟨.Name "flag" p6, .List [.Constant (.int 0) 0 p7, .Constant (.int 1) 0 p8] p9, [], 0⟩] scT2 p10)
      [⟨.Name "way" p11, .Name "ways" p12, [], 0⟩] scT1 p13 RR) E s₁) E s := by
  have hcl1 : closL env.cells scT1.names [] = [(("flags" : Str), c)] := by
    show (match env.cells.lookup ("flags" : Str) with | some c => [(("flags" : Str), c)] | none => []) = _
    rw [hfl]
  refine w_name i0 fn st hn hvs ?_
  refine w_compList cx.hand FC (fun C v fr => ∃ oc oC, fr = [(C + 1, oc), (C, oC)] ∧ CellV oc (some v)) (fun i ys l' => ∃ z', l' = F.cells ++ (z' ++ lr) ∧ Vs (TB z') ys ((ways.take i).map (rowT τ)))
    st (List.mem_append_right _ ht) ⟨[], rfl, .nil⟩ (by rw [hw.length]; omega) (fun i ys l' hJ => by obtain ⟨z', rfl, _⟩ := hJ; exact List.mem_append_right _ (List.mem_append_right _ ht))
    (fun C => FC.start) (fun C fr h => h.end_) ?_ ?_ ?_
  · intro C i v ys fr l' z s' E' hv hJ hfr st'
    rw [hcl1]
    exact w_asgcell fn.gl rfl rfl rfl hfr st'
  · rintro C i v ys fr l' z s' E' hv ⟨z', rfl, hys⟩ ⟨oc1, oC1, rfl, hcv1⟩ st'
    obtain ⟨lr', hlr⟩ : ∃ lr', lr' = z' ++ lr := ⟨_, rfl⟩
    rw [← hlr] at st'
    have hsub : ∀ x ∈ lr, x ∈ lr' := fun x hx => hlr ▸ List.mem_append_right _ hx
    obtain ⟨way, hway, q, xs, rfl, hq, hwv, hwl⟩ := hw.at hv
    refine w_tests0 ?_
    rw [if_pos rfl, hcl1]
    have mlr : ∀ x ∈ lr', x ∈ z ++ ([(C + 1, oc1), (C, oC1)] ++ (F.cells ++ lr')) := fun x hx => List.mem_append_right _ (List.mem_append_right _ (List.mem_append_right _ hx))
    have hcl2 : closL (cE scT1 [(("flags" : Str), c)] env C).cells scT2.names [] = [(("way" : Str), C + 1), (("flags" : Str), c)] := rfl
    refine w_comp ?_ (by
      intro x hx hfr
      simp only [List.mem_cons, List.not_mem_nil, or_false] at hx
      rcases hx with rfl | rfl | rfl | rfl <;> first | rfl | cases hfr) (fun x => rfl) rfl (by decide)
    refine w_listE (w_args (w_cint st' fun ta s2 st2 => w_args (w_cint st2 fun tb s3 st3 => w_args0 (w_list st3 fun a s4 st4 => ?_))))
    refine w_compList cx.hand FL (fun C v fr => Rd prog w (cE scT2 (closL (cE scT1 [(("flags" : Str), c)] env C).cells scT2.names []) (cE scT1 [(("flags" : Str), c)] env C) C) fr "flag" v)
      (fun i2 ys2 l2 => l2 = (a, listO [.int 0 ta, .int 1 tb] 0) :: (z ++ ([(C + 1, oc1), (C, oC1)] ++ (F.cells ++ lr'))) ∧ ys2 = ((rowT τ way).take i2).map .bool) st4 (.head _) ⟨rfl, rfl⟩ (by show 2 ≤ 2 ^ 20; decide) (fun i ys l' hJ => by rw [hJ.1]; exact .head _)
      (fun C => FL.start) (fun C fr h => h.end_) ?_ ?_ ?_
    · intro C2 i2 v2 ys2 fr2 l2 z2 s5 E5 hv2 hJ2 hfr2 st5
      exact w_asgloc (fn.gl.comp rfl) rfl rfl hfr2 st5
    · rintro C2 i2 v2 ys2 fr2 l2 z2 s5 E5 hv2 ⟨rfl, rfl⟩ hfx2 st5
      refine w_tests0 ?_
      refine ite_t rfl ?_
      refine W.gen fun QB hQB => ?_
      have hv2' : ∃ (f : Int) (t : Tok), v2 = .int f t ∧ (rowT τ way)[i2]? = some (isW τ way f) := by
        have : i2 < 2 := by have := (List.getElem?_eq_some_iff.mp hv2).1; simpa using this
        match i2, this with
        | 0, _ => cases hv2; exact ⟨_, _, rfl, rfl⟩
        | 1, _ => cases hv2; exact ⟨_, _, rfl, rfl⟩
      obtain ⟨f2, tf, rfl, hrow⟩ := hv2'
      have mAll : ∀ x ∈ z ++ ([(C + 1, oc1), (C, oC1)] ++ (F.cells ++ lr')), x ∈ z2 ++ (fr2 ++ ((a, listO [.int 0 ta, .int 1 tb] 0) :: (z ++ ([(C + 1, oc1), (C, oC1)] ++ (F.cells ++ lr'))))) := fun x hx => List.mem_append_right _ (List.mem_append_right _ (.tail _ hx))
      have rflags : Rd prog w (cE scT2 (closL (cE scT1 [(("flags" : Str), c)] env C).cells scT2.names []) (cE scT1 [(("flags" : Str), c)] env C) C2) lr' "flags" (.ref F.f) := Rd.up (c := c) (oc := oc) rfl rfl rfl (hsub _ hc) hcv
      have rway : Rd prog w (cE scT2 (closL (cE scT1 [(("flags" : Str), c)] env C).cells scT2.names []) (cE scT1 [(("flags" : Str), c)] env C) C2) [(C + 1, oc1)] "way" (.ref q) := Rd.up (c := C + 1) (oc := oc1) rfl rfl rfl (.head _) hcv1
      have hF : ∀ x ∈ F.cells, x ∈ z2 ++ (fr2 ++ ((a, listO [.int 0 ta, .int 1 tb] 0) :: (z ++ ([(C + 1, oc1), (C, oC1)] ++ (F.cells ++ lr'))))) := fun x hx => mAll x (List.mem_append_right _ (List.mem_append_right _ (List.mem_append_left _ hx)))
      refine w_meth (he := meth_pos hp) (w_rd rflags st5 (fun x hx => mAll x (mlr x hx)) (w_mis cx st5 H hF (w_ccwK cx (by k_is) (w_args (w_rd rway st5 (fun x hx => ?_) (w_args (w_rd hfx2 st5 (fun x hx => List.mem_append_right _ (List.mem_append_left _ hx)) (w_args0 ⟨st5.inK cx, w_callF ?_⟩))))))))
      · rw [List.mem_singleton] at hx
        subst hx
        exact mAll _ (List.mem_append_right _ (.head _))
      have pp : (z2 ++ (fr2 ++ ((a, listO [.int 0 ta, .int 1 tb] 0) :: (z ++ ([(C + 1, oc1), (C, oC1)] ++ (F.cells ++ lr')))))).Perm (F.cells ++ (z2 ++ (fr2 ++ ((a, listO [.int 0 ta, .int 1 tb] 0) :: (z ++ ([(C + 1, oc1), (C, oC1)] ++ lr')))))) := by
        have := pm3 (z2 ++ (fr2 ++ ((a, listO [.int 0 ta, .int 1 tb] 0) :: z))) [(C + 1, oc1), (C, oC1)] F.cells lr'
        simpa using this
      refine is_spec (d := d) (u := u) fn cx (st5.perm pp) H (us := xs) (way := way) ?_ hwv (by have h1 : sizeLine = 2 ^ 24 := rfl; rw [hwv.length, h1]; omega) fun s6 st6 => ?_
      · exact List.mem_append_right _ (List.mem_append_right _ (.tail _ (List.mem_append_right _ (List.mem_append_right _ (hsub _ hq)))))
      · refine hQB _ _ ⟨_, st6.perm pp.symm, rfl, ?_⟩
        rw [List.take_add_one, hrow]
        simp
    · rintro ys2 k2 D2 C2 oC2 m2 l2 s5 ⟨rfl, rfl⟩ hle2 hN2 st5
      refine RRn_done st5 hN2 fun s6 st6 => ?_
      refine ⟨F.cells ++ ((D2, listO (((rowT τ way).take 2).map .bool) k2) :: lr'), ?_, (D2, listO (((rowT τ way).take 2).map .bool) k2) :: z', by rw [hlr]; rfl, ?_⟩
      · have st7 := S.sub (l' := (D2, listO (((rowT τ way).take 2).map .bool) k2) :: (z ++ ([(C + 1, oc1), (C, oC1)] ++ (F.cells ++ lr')))) st6 ((List.sublist_cons_self _ _).cons_cons _)
        have := List.perm_middle (a := (D2, listO (((rowT τ way).take 2).map .bool) k2)) (l₁ := z ++ ([(C + 1, oc1), (C, oC1)] ++ F.cells)) (l₂ := lr')
        exact st7.perm (by simpa using this.symm)
      · have e : ways.take (i + 1) = ways.take i ++ [way] := by rw [List.take_add_one, hway]; rfl
        rw [e, List.map_append]
        exact Vs.append (hys.imp (TB.mono fun x hx => .tail _ hx)) (.cons ⟨D2, k2, rfl, .head _⟩ .nil)
  · rintro ys k D C oC m l' s' ⟨z', rfl, hys⟩ hle hN st'
    rw [hw.length, List.take_length] at hys
    exact done D C oC m k ys z' s' hys hN st'

noncomputable def cut3 (τ : AbsT) : AbsT := cutT (cutT (cutT τ ["a"]) ["b"]) ["a.b"]

theorem told_spec {F : FO} {τ : AbsT} {lr zz : Lg} {t : Addr} {us : List Value} {n : Nat} {ways : List Way} {ps : List (Way × Int)} {R : Result → Shared → Prop}
    (fn : Fn env ns) (cx : Cx (hd2.heap_39 w.params) p loose mean mg mb (d + 4) (u + 10) A env h₀) (st : S env ns h₀ vs (F.cells ++ lr) s₀ s) (H : F.Is prog w LM τ)
    (hzz : ∀ c ∈ zz, c ∈ lr) (hP : PT prog w (AtL zz) F.opd ps) (hlen : ps.length ≤ 100) (hps : ∀ p ∈ ps, (p.2 = 0 ∨ p.2 = 1) ∧ (∀ z ∈ p.1, z ∈ LM) ∧ p.1.length ≤ 100 ∧ p.1 ≠ [])
    (ht : (t, listO us n) ∈ lr) (hw : Vs (WAt lr) us ways) (hwl : ways.length ≤ 1000)
    (h : ∀ a D1 D2 k1 k2 ys1 ys2 z s', S env ns h₀ vs (z ++ lr) s₀ s' → (a, tupO [.ref D1, .ref D2]) ∈ z → (D1, listO ys1 k1) ∈ z → (D2, listO ys2 k2) ∈ z → Vs (TB z) ys1 (ways.map (rowT τ)) → Vs (TB z) ys2 (ways.map (rowT (finT (cut3 τ) ps))) → R (.ok (.ret (.ref a))) s') :
    codeAny (model prog w) A (.call (.ref 89) ⟨[.ref F.f, .ref t], []⟩) R s := by
  refine S_callC (d := d + 3) (u := u + 7) [("flags", .ref F.f), ("ways", .ref t)] (ns' := ["ways", "told", "name"]) (vs' := [some (.ref t), none, none]) fn cx st (by k_is) (by k_is) (BindsTo.of_eq rfl) (by rfl) (by decide +kernel) ?_ (fn_ofC (by rfl) (by decide) rfl) ?_
  · intro L'
    funext y
    show (if y = "ways" then some (Value.ref t) else none) = _
    simp only [locOf]
    split
    · rfl
    · split
      · rfl
      · split <;> rfl
  · intro L' g A1 s1 E' cells fn1 cx1 hY st1
    obtain ⟨oc, rfl, hcv⟩ := hY.one
    have hcv : CellV oc (some (.ref F.f)) := hcv
    clear hY
    generalize he : envOfC _ _ L' 89 _ = env1 at fn1 cx1 st1 ⊢
    have hint : interactive env1 = false := by rw [← he]; rfl
    have hfl : env1.cells.lookup ("flags" : Str) = some (L' + 1) := by rw [← he]; rfl
    have hkf : env1.kindOf "flags" = some .cell := by rw [← he]; rfl
    have st2 : S env1 ["ways", "told", "name"] g [some (.ref t), none, none] (F.cells ++ ((L' + 1, oc) :: lr)) s₀ s1 := st1.perm (show ((L' + 1, oc) :: (F.cells ++ lr)).Perm _ from List.perm_middle.symm)
    have rfl' : ∀ lq : Lg, (L' + 1, oc) ∈ lq → Rd prog w env1 lq "flags" (.ref F.f) := fun lq hq => Rd.cell fn1.kind hkf hfl hq hcv
    refine w_cons (w_compAssign (w_tell (d := d + 2) (u := u + 4) fn1 cx1 st2 H hfl (.head _) hcv (i0 := 0) rfl rfl (.tail _ ht) (hw.imp (WAt.mono fun x hx => .tail _ hx)) hwl rfl fun D1 C oC m k1 ys1 z1 s3 hys1 hN st3 => ?_) (by rw [← he]; rfl) ?_ (fun x => rfl) rfl (by decide))
    rotate_left
    · intro x hx hfr
      simp only [List.mem_cons, List.not_mem_nil, or_false] at hx
      rcases hx with rfl | rfl | rfl
      · cases hfr
      · cases hfr
      · show (env1.cells.lookup ("flags" : Str)).isSome = true
        rw [hfl]; rfl
    refine RRu_done 1 fn1 st3 hN rfl (Nat.le_of_ble_eq_true rfl) fun s4 st4 => ?_
    obtain ⟨lr1, hlr1⟩ : ∃ lr1 : Lg, lr1 = (D1, listO ys1 k1) :: (z1 ++ ((L' + 1, oc) :: lr)) := ⟨_, rfl⟩
    have st5 : S env1 ["ways", "told", "name"] g [some (.ref t), some (.ref D1), none] (F.cells ++ lr1) s₀ s4 := by rw [hlr1]; exact st4.perm List.perm_middle.symm
    have mlr : ∀ x ∈ lr, x ∈ lr1 := fun x hx => by rw [hlr1]; exact .tail _ (List.mem_append_right _ (.tail _ hx))
    have moc : (L' + 1, oc) ∈ lr1 := by rw [hlr1]; exact .tail _ (List.mem_append_right _ (.head _))
    refine w_cons (w_for (w_listE (w_args (w_str st5 fun ta s6 st6 => w_args (w_str st6 fun tb s7 st7 => w_args (w_str st7 fun tc s8 st8 => w_args0 (w_list st8 fun la s9 st9 => ?_)))))))
    refine w_for_list cx1.hand st9 (.head _) (TJ prog w F τ la t D1 ta tb tc lr1)
      (.mk F [] none H (.refl F)) (fun i vs' l' hJ => by obtain ⟨F'⟩ := hJ; exact .head _) ?_ ?_
    · intro i v vs' l' I oI s' E2 hv hJ st'
      generalize hLP : LPost _ _ _ _ _ _ _ _ = QQ; revert QQ; refine hold ?_; intro QQ hLP
      obtain ⟨F', z, kx, H', sm⟩ := hJ
      have hv2 : ∃ (k : Str) (tk : Tok), v = .str k tk ∧ LM[i]? = some k := by
        have : i < 3 := by have := (List.getElem?_eq_some_iff.mp hv).1; simpa using this
        match i, this with
        | 0, _ => cases hv; exact ⟨_, _, rfl, rfl⟩
        | 1, _ => cases hv; exact ⟨_, _, rfl, rfl⟩
        | 2, _ => cases hv; exact ⟨_, _, rfl, rfl⟩
      obtain ⟨k, tk, rfl, hk⟩ := hv2
      refine w_aname (w_store 2 fn1 st' rfl (Nat.le_of_ble_eq_true rfl) fun s2 st2 => ?_)
      have ef : F.f = F'.f := sm.f.symm
      have rf : Rd prog w env1 lr1 "flags" (.ref F'.f) := ef ▸ (rfl' lr1 moc : Rd prog w env1 lr1 "flags" (.ref F.f))
      have hF : ∀ x ∈ F'.cells, x ∈ (I, oI) :: (la, listO [.str "a" ta, .str "b" tb, .str "a.b" tc] 0) :: (F'.cells ++ (z ++ lr1)) := fun x hx => .tail _ (.tail _ (List.mem_append_left _ hx))
      refine w_cons (w_exprA hint (w_meth (w_rd rf st2 (fun x hx => .tail _ (.tail _ (List.mem_append_right _ (List.mem_append_right _ hx)))) ?_)))
      refine w_munset cx1 st2 H' hF (w_cwK cx1 (by k_is) (w_args (w_tupleE (w_args (w_name 2 fn1 st2 rfl rfl ?_)))))
      refine w_args0 (w_tuple st2 (fun b s3 st3 => w_args0 ⟨st3.inK cx1, w_callF ?_⟩))
      have pp : ((b, tupO [.str k tk]) :: (I, oI) :: (la, listO [.str "a" ta, .str "b" tb, .str "a.b" tc] 0) :: (F'.cells ++ (z ++ lr1))).Perm (F'.cells ++ ((b, tupO [.str k tk]) :: (I, oI) :: (la, listO [.str "a" ta, .str "b" tb, .str "a.b" tc] 0) :: (z ++ lr1))) :=
        List.perm_append_comm_assoc [(b, tupO [.str k tk]), (I, oI), (la, listO [.str "a" ta, .str "b" tb, .str "a.b" tc] 0)] F'.cells (z ++ lr1)
      refine unset_spec (d := d + 2) (u := u + 4) fn1 cx1 (st3.perm pp) H' (way := [k]) (us := [.str k tk]) (.head _) rfl (by show 1 ≤ sizeLine; decide) (by simp) (by decide) fun F2 s4 H2 sm2 st4 => ?_
      refine w_nil ?_
      subst hLP
      refine ⟨_, (la, listO [.str "a" ta, .str "b" tb, .str "a.b" tc] 0) :: (F2.cells ++ (((b, tupO [.str k tk]) :: z) ++ lr1)), st4.perm ?_, .mk F2 ((b, tupO [.str k tk]) :: z) _ ?_ (sm.trans sm2)⟩
      · have h1 := List.perm_append_comm_assoc F2.cells [(b, tupO [.str k tk]), (I, oI), (la, listO [.str "a" ta, .str "b" tb, .str "a.b" tc] 0)] (z ++ lr1)
        refine h1.trans ?_
        have h2 := List.perm_append_comm_assoc [(b, tupO [.str k tk])] ((I, oI) :: (la, listO [.str "a" ta, .str "b" tb, .str "a.b" tc] 0) :: F2.cells) (z ++ lr1)
        simpa using h2
      · have e : LM.take (i + 1) = LM.take i ++ [k] := by rw [List.take_add_one, hk]; rfl
        rw [e, List.foldl_append]
        exact H2
    · rintro vs' l' s' ⟨F', z, kx, H', sm⟩ st'
      have H' : F'.Is prog w LM (cut3 τ) := H'
      have ef : F.f = F'.f := sm.f.symm
      have rf : Rd prog w env1 lr1 "flags" (.ref F'.f) := ef ▸ (rfl' lr1 moc : Rd prog w env1 lr1 "flags" (.ref F.f))
      have hP' : PT prog w (AtL zz) F'.opd ps := by rw [sm.opd]; exact hP
      have st10 := st'.drop
      refine w_cons (w_exprA hint (w_meth (w_rd rf st10 (fun x hx => List.mem_append_right _ (List.mem_append_right _ hx)) (w_mfin cx1 st10 H' (fun x hx => List.mem_append_left _ hx) (w_cwK0 cx1 st10 (by k_is) (w_callF ?_))))))
      refine finalize_spec (d := d + 1) (u := u + 1) (zz := zz) fn1 cx1 st10 H' (fun x hx => List.mem_append_right _ (mlr _ (hzz _ hx))) hP' hlen (fun p hp => ⟨(hps p hp).1, (hps p hp).2.1, (hps p hp).2.2.1⟩) (by decide) fun F2 qs s11 hqp H2 ef2 hP2 st11 => ?_
      rw [finT_perm _ hqp fun x hx => (hps x hx).2.2.2] at H2
      have hcv2 : CellV oc (some (.ref F2.f)) := by rw [ef2, ← ef]; exact hcv
      refine w_cons (w_ret (w_tupleE (w_args (w_name 1 fn1 st11 rfl rfl (w_args (w_comp ?_ ?_ (fun x => rfl) rfl (by decide)))))))
      refine w_tell (d := d + 2) (u := u + 4) fn1 cx1 st11 H2 hfl (List.mem_append_right _ moc) hcv2 (i0 := 0) rfl rfl (List.mem_append_right _ (mlr _ ht)) (hw.imp (WAt.mono fun x hx => List.mem_append_right _ (mlr _ hx))) hwl rfl fun D2 C oC m k2 ys2 z2 s12 hys2 hN st12 => ?_
      refine RRn_done st12 hN fun s13 st13 => w_args0 (w_tuple st13 (fun a s14 st14 => ?_))
      · change SRet _ _ _ _ _ _ _ _ _ _ _
        have st15 : S env1 ["ways", "told", "name"] g [some (.ref t), some (.ref D1), kx] (((a, tupO [.ref D1, .ref D2]) :: (D2, listO ys2 k2) :: (F2.cells ++ (z2 ++ (z ++ ((D1, listO ys1 k1) :: (z1 ++ [(L' + 1, oc)])))))) ++ lr) s₀ s14 := by
          have := st14
          rw [hlr1] at this
          simpa using this
        refine SRet.intro st15 fun st => h a D1 D2 k1 k2 ys1 ys2 _ _ st (.head _) ?_ (.tail _ (.head _)) (hys1.imp (TB.mono fun x hx => ?_)) (hys2.imp (TB.mono fun x hx => ?_))
        · simp
        · simp [hx]
        · simp [hx]
      · intro x hx hfr
        simp only [List.mem_cons, List.not_mem_nil, or_false] at hx
        rcases hx with rfl | rfl | rfl
        · cases hfr
        · cases hfr
        · show (env1.cells.lookup ("flags" : Str)).isSome = true
          rw [hfl]; rfl
end
end Mine
end
section
open PySem PySem.W PySem.Calls PyProof.Rows PySem.Spec
set_option maxRecDepth 100000
namespace Mine
section
variable {prog : Program} {w : World} {A : Around} {E : Value → Shared → Prop} {env env2 : Env} {ns : List Str} {h₀ : Heap} {vs : List (Option Value)} {l : Lg} {s₀ s : Shared}
  {K : Frag} {p : Program} {loose : List Str} {mean : ExcName → Option Value} {mg mb : Str → Option Value} {d u : Nat} {scope : Scope} {cl : List (Str × Addr)} {At : Value → Way × Int → Prop}
theorem w_eqway {a b : Addr} {us ws : List Value} {x y : Way} {Q : Value → Shared → Prop} (st : S env ns h₀ vs l s₀ s) (ha : (a, tupO us) ∈ l) (hb : (b, tupO ws) ∈ l) (hx : WayV us x) (hy : WayV ws y) (ox : Okw x) (oy : Okw y) (hu : A.units + 64 < cLine)
    (h : Q (.bool (decide (x = y))) s) : W (model prog w) A (compareOp .Eq (.ref a) (.ref b)) Q E s := by
  with_unfolding_all exact g_eqway st ha hb hx hy ox oy hu h
theorem w_neway {a b : Addr} {us ws : List Value} {x y : Way} {Q : Value → Shared → Prop} (st : S env ns h₀ vs l s₀ s) (ha : (a, tupO us) ∈ l) (hb : (b, tupO ws) ∈ l) (hx : WayV us x) (hy : WayV ws y) (ox : Okw x) (oy : Okw y) (hu : A.units + 64 < cLine)
    (h : Q (.bool (!decide (x = y))) s) : W (model prog w) A (compareOp .NotEq (.ref a) (.ref b)) Q E s := by
  with_unfolding_all exact g_neway st ha hb hx hy ox oy hu h
theorem w_nenil {a b : Addr} {us : List Value} {n m : Nat} {ways : List Way} {Q : Value → Shared → Prop} (st : S env ns h₀ vs l s₀ s) (ha : (a, listO us n) ∈ l) (hb : (b, listO [] m) ∈ l)
    (hw : ∀ (i : Nat) (v : Value), us[i]? = some v → ∃ x, ways[i]? = some x ∧ ∃ q xs, v = .ref q ∧ (q, tupO xs) ∈ l ∧ WayV xs x) (hlen : us.length = ways.length) (ho : ∀ x ∈ ways, Okw x) (hu : A.units + 64 < cLine)
    (h : Q (.bool (!ways.isEmpty)) s) : W (model prog w) A (compareOp .NotEq (.ref a) (.ref b)) Q E s := by
  with_unfolding_all exact g_nenil st ha hb hw hlen ho hu h
theorem w_sorted2 {a : Addr} {x y : Int} {t1 t2 : Tok} {n : Nat} {Q : Value → Shared → Prop} (st : S env ns h₀ vs l s₀ s) (ha : (a, listO [.int x t1, .int y t2] n) ∈ l)
    (h : ∀ D us k s', IntsAre us (if x ≤ y then [x, y] else [y, x]) → S env ns h₀ vs ((D, listO us k) :: l) s₀ s' → Q (.ref D) s') : W (model prog w) A (call (.builtin "sorted") [.ref a]) Q E s := by
  with_unfolding_all exact g_sorted2 st ha h
theorem w_eqints {a b : Addr} {us ws : List Value} {n m : Nat} {xs ys : List Int} {Q : Value → Shared → Prop} (st : S env ns h₀ vs l s₀ s) (ha : (a, listO us n) ∈ l) (hb : (b, listO ws m) ∈ l) (hi : IntsAre us xs) (hj : IntsAre ws ys) (hu : A.units + 64 < cLine)
    (h : Q (.bool (decide (xs = ys))) s) : W (model prog w) A (compareOp .Eq (.ref a) (.ref b)) Q E s := by
  with_unfolding_all exact g_eqints st ha hb hi hj hu h
theorem w_lentup {a : Addr} {us : List Value} {Q : Value → Shared → Prop} (st : S env ns h₀ vs l s₀ s) (ha : (a, tupO us) ∈ l) (hz : us.length ≤ sizeLine)
    (h : ∀ t s', S env ns h₀ vs l s₀ s' → Q (.int us.length t) s') : W (model prog w) A (call (.builtin "len") [.ref a]) Q E s := by
  with_unfolding_all exact g_lentup st ha hz h
theorem w_lenlist {a : Addr} {us : List Value} {n : Nat} {Q : Value → Shared → Prop} (st : S env ns h₀ vs l s₀ s) (ha : (a, listO us n) ∈ l) (hz : us.length ≤ sizeLine)
    (h : ∀ t s', S env ns h₀ vs l s₀ s' → Q (.int us.length t) s') : W (model prog w) A (call (.builtin "len") [.ref a]) Q E s := by
  with_unfolding_all exact g_lenlist st ha hz h
theorem w_lappend_meth {a : Addr} {us : List Value} {n : Nat} {pl : Sem Bool} {Q : Value × List Value → Shared → Prop} (st : S env ns h₀ vs l s₀ s) (ha : (a, listO us n) ∈ l)
    (h : Q (.builtin "list.append", [.ref a]) s) : W (model prog w) A (getMethod (.ref a) "append" pl) Q E s := by
  with_unfolding_all exact g_lappend_meth st ha h
theorem w_isAnd {values : List Expr} {pos : Pos} {whole : Sem Value} {Q : Bool → Shared → Prop} (h : W (model prog w) A (allTrue .And values env2) Q E s) : W (model prog w) A (isTrue (.BoolOp .And values pos) env2 whole) Q E s := by
  with_unfolding_all exact g_isAnd h
theorem w_all0 {Q : Bool → Shared → Prop} (h : Q true s) : W (model prog w) A (allTrue .And [] env2) Q E s := by
  with_unfolding_all exact g_all0 h
theorem w_all {x : Expr} {rest : List Expr} {Q : Bool → Shared → Prop} (h : W (model prog w) A (isTrue x env2 (eval x env2)) (fun b s₁ => if b then W (model prog w) A (allTrue .And rest env2) Q E s₁ else Q false s₁) E s) : W (model prog w) A (allTrue .And (x :: rest) env2) Q E s := by
  with_unfolding_all exact g_all h
end
end Mine
end
section
open PySem PySem.W PySem.Calls PyProof.Rows
set_option maxRecDepth 100000
namespace Mine
section
variable {prog : Program} {w : World} {A : Around} {E : Value → Shared → Prop} {env env2 : Env} {ns : List Str} {h₀ : Heap} {vs : List (Option Value)} {l : Lg} {s₀ s : Shared}
  {K : Frag} {p : Program} {loose : List Str} {mean : ExcName → Option Value} {mg mb : Str → Option Value} {d u : Nat}
theorem w_lenR {x : Str} {p1 p2 p3 : Pos} {z : Lg} {q : Addr} {us : List Value} {Q : Value → Shared → Prop} (gl : Gl env2) (cx : Cx K p loose mean mg mb d u A env h₀) (kl : env2.kindOf "len" = some .globalImplicit) (hk : nsIn K mainGlobals "len" = some none)
    (r : Rd prog w env2 z x (.ref q)) (st : S env ns h₀ vs l s₀ s) (hz : ∀ c ∈ z, c ∈ l) (hm : (q, tupO us) ∈ l) (hsz : us.length ≤ sizeLine) (h : ∀ t s', S env ns h₀ vs l s₀ s' → Q (.int us.length t) s') :
    W (model prog w) A (eval (.Call (.Name "len" p1) [.Name x p2] [] p3) env2) Q E s :=
  w_callE (w_cbuiltin gl cx st hk boot_len (by decide) kl (by decide) (w_cwBuiltin (w_args (w_rd r st hz (w_args0 (w_lentup st hm hsz h))))))
theorem w_itemR {x : Str} {p1 p2 p3 : Pos} {c : Nat} {k : Int} {z : Lg} {t : Addr} {us : List Value} {j : Nat} {v : Value} {Q : Value → Shared → Prop} (r : Rd prog w env2 z x (.ref t)) (st : S env ns h₀ vs l s₀ s) (hz : ∀ c ∈ z, c ∈ l) (hm : (t, tupO us) ∈ l)
    (hlo : -(2 ^ 63) ≤ k) (hhi : k < 2 ^ 63) (hj : seqIndex? k us.length = some j) (hx : us[j]? = some v) (h : ∀ s', S env ns h₀ vs l s₀ s' → Q v s') : W (model prog w) A (eval (.Subscript (.Name x p1) (.Constant (.int k) c p2) p3) env2) Q E s :=
  w_subE (w_rd r st hz (w_cint st fun t1 s1 st1 => w_item_tup st1 hm hlo hhi hj hx (h s1 st1)))
theorem w_itemN {x : Str} {p1 p2 p3 : Pos} {c : Nat} {k : Int} {t : Addr} {us : List Value} {j : Nat} {v : Value} {Q : Value → Shared → Prop} (i : Nat) (fn : Fn env ns) (st : S env ns h₀ vs l s₀ s) (hn : ns[i]? = some x) (hv : vs[i]? = some (some (.ref t))) (hm : (t, tupO us) ∈ l)
    (hlo : -(2 ^ 63) ≤ k) (hhi : k < 2 ^ 63) (hj : seqIndex? k us.length = some j) (hx : us[j]? = some v) (h : ∀ s', S env ns h₀ vs l s₀ s' → Q v s') : W (model prog w) A (eval (.Subscript (.Name x p1) (.Constant (.int k) c p2) p3) env) Q E s :=
  w_subE (w_name i fn st hn hv (w_int st fun t1 s1 st1 => w_item_tup st1 hm hlo hhi hj hx (h s1 st1)))
theorem w_teqN {x : Str} {p1 p2 p3 : Pos} {c : Nat} {a b : Int} {t : Tok} {whole : Sem Value} {Q : Bool → Shared → Prop} (i : Nat) (fn : Fn env ns) (st : S env ns h₀ vs l s₀ s) (hn : ns[i]? = some x) (hv : vs[i]? = some (some (.int a t))) (h : ∀ s', S env ns h₀ vs l s₀ s' → Q (a == b) s') :
    W (model prog w) A (isTrue (.Compare (.Name x p1) [.Eq] [.Constant (.int b) c p2] p3) env whole) Q E s :=
  w_testcmp (w_name i fn st hn hv (w_int st fun t1 s1 st1 => w_eq (w_tbool (h s1 st1))))
end
end Mine
end
section
open PySem PySem.W PySem.Calls PyProof.Rows
set_option maxRecDepth 100000
namespace Mine
theorem dummyMT : (PySem.Challenge.rw_aa0050_02 = PySem.Challenge.rw_aa0050_02 ∧ hd2.heap_39 = hd2.heap_39) := by k_fill; exact ⟨rfl, rfl⟩

noncomputable def PA (l : Lg) (v : Value) (p : Way × Int) : Prop := ∃ a q us t, v = .ref a ∧ (a, tupO [.ref q, .int p.2 t]) ∈ l ∧ (q, tupO us) ∈ l ∧ WayV us p.1
theorem PA.mono {l l' : Lg} (k : ∀ c ∈ l, c ∈ l') (v : Value) (p : Way × Int) (h : PA l v p) : PA l' v p := by
  obtain ⟨a, q, us, t, e, h1, h2, r⟩ := h
  exact ⟨a, q, us, t, e, k _ h1, k _ h2, r⟩
noncomputable abbrev Pr := Way × Int
noncomputable def ovStep (σ : List Pr × List Pr) (c : Cl) : List Pr × List Pr :=
  if c.1 = 1 then (σ.1, σ.2 ++ [(c.2.1, c.2.2)]) else if c.1 = 2 then (σ.1 ++ [(c.2.1, c.2.2)], σ.2) else if c.1 = 3 then ([], σ.2) else if c.1 = 4 then (σ.1, σ.2.filter fun m => !decide (m.1.take c.2.1.length = c.2.1)) else σ
noncomputable def hidC (over : List Pr) (off : Way) (f : Int) : List Pr := over.filter fun m => (m.2 == f) && decide ((m.1.length : Int) < off.length) && decide (off.take m.1.length = m.1)
noncomputable def marksOf (waits : List Pr) (on : Cl) : List Pr := if on.1 < 2 then [(on.2.1, on.2.2)] else if on.1 = 3 then waits else []
noncomputable def hitC (σ : List Pr × List Pr) (off on : Cl) : Bool := (marksOf σ.1 on).any fun m => (off.1 == 4) && decide (m.1.take off.2.1.length = off.2.1) && (hidC σ.2 off.2.1 m.2).isEmpty
noncomputable def matC (ahead : List Cl) (one other : Cl) : Bool :=
  if (if one.1 ≤ other.1 then [one.1, other.1] else [other.1, one.1]) = [2, 3] then true else
  hitC (ahead.foldl ovStep ([], [])) one other || hitC (ahead.foldl ovStep ([], [])) other one

theorem ov_len : ∀ (cs : List Cl) (σ : List Pr × List Pr) (n : Nat), σ.1.length ≤ n → σ.2.length ≤ n → (cs.foldl ovStep σ).1.length ≤ n + cs.length ∧ (cs.foldl ovStep σ).2.length ≤ n + cs.length
  | [], σ, n, h1, h2 => ⟨h1, h2⟩
  | c :: cs, σ, n, h1, h2 => by
    have h3 : (ovStep σ c).1.length ≤ n + 1 ∧ (ovStep σ c).2.length ≤ n + 1 := by
      unfold ovStep
      split
      · simp; omega
      · split
        · simp; omega
        · split
          · simp; omega
          · split
            · have := List.length_filter_le (fun m => !decide (m.1.take c.2.1.length = c.2.1)) σ.2
              simp only; omega
            · omega
    have := ov_len cs (ovStep σ c) (n + 1) h3.1 h3.2
    simp only [List.foldl_cons, List.length_cons]
    omega
theorem ov_ok {cs : List Cl} (h : ∀ c ∈ cs, OkC c) : ∀ (σ : List Pr × List Pr), (∀ m ∈ σ.1, m.1 ≠ [] ∧ (∀ z ∈ m.1, z ∈ LM) ∧ m.1.length ≤ 3) → (∀ m ∈ σ.2, m.1 ≠ [] ∧ (∀ z ∈ m.1, z ∈ LM) ∧ m.1.length ≤ 3) →
    (∀ m ∈ (cs.foldl ovStep σ).1, m.1 ≠ [] ∧ (∀ z ∈ m.1, z ∈ LM) ∧ m.1.length ≤ 3) ∧ (∀ m ∈ (cs.foldl ovStep σ).2, m.1 ≠ [] ∧ (∀ z ∈ m.1, z ∈ LM) ∧ m.1.length ≤ 3) := by
  induction cs with
  | nil => intro σ h1 h2; exact ⟨h1, h2⟩
  | cons c cs ih =>
    intro σ h1 h2
    have hc := h c (.head _)
    have hcc : ∀ m : Pr, m = (c.2.1, c.2.2) → m.1 ≠ [] ∧ (∀ z ∈ m.1, z ∈ LM) ∧ m.1.length ≤ 3 := by rintro m rfl; exact ⟨hc.ne, hc.menu, hc.len⟩
    refine ih (fun x hx => h x (.tail _ hx)) (ovStep σ c) ?_ ?_
    · unfold ovStep
      intro m hm
      split at hm
      · exact h1 m hm
      · split at hm
        · rcases List.mem_append.mp hm with hm | hm
          · exact h1 m hm
          · exact hcc m (List.mem_singleton.mp hm)
        · split at hm
          · cases hm
          · split at hm
            · exact h1 m hm
            · exact h1 m hm
    · unfold ovStep
      intro m hm
      split at hm
      · rcases List.mem_append.mp hm with hm | hm
        · exact h2 m hm
        · exact hcc m (List.mem_singleton.mp hm)
      · split at hm
        · exact h2 m hm
        · split at hm
          · exact h2 m hm
          · split at hm
            · exact h2 m (List.mem_filter.mp hm).1
            · exact h2 m hm

theorem cells3 {cm : Str → Option Value} {n3 n2 n1 : Str} {a3 a2 a1 : Addr} {cells : Lg} {P : Lg → Prop} (h : CellsAre cm [(n3, a3), (n2, a2), (n1, a1)] cells) (k : ∀ o3 o2 o1, CellV o3 (cm n3) → CellV o2 (cm n2) → CellV o1 (cm n1) → P [(a3, o3), (a2, o2), (a1, o1)]) : P cells := by
  cases h with
  | cons e3 r =>
    cases r with
    | cons e2 r =>
      cases r with
      | cons e1 r =>
        cases r
        exact k _ _ _ e3 e2 e1
inductive HPair (l : Lg) (c1 c2 : Cl) (b1 b2 a1 a2 : Addr) (i : Nat) : Value → Prop
  | mk (cf cn : Cl) (af an qf qn bb : Addr) (usf usn : List Value) (tf1 tf2 tn1 tn2 : Tok) : ((b2, tupO [.ref a2, .ref a1]) = (bb, tupO [.ref af, .ref an]) ∨ (b1, tupO [.ref a1, .ref a2]) = (bb, tupO [.ref af, .ref an])) →
      (af, tupO [.int cf.1 tf1, .ref qf, .int cf.2.2 tf2]) ∈ l → (qf, tupO usf) ∈ l → WayV usf cf.2.1 → (an, tupO [.int cn.1 tn1, .ref qn, .int cn.2.2 tn2]) ∈ l → (qn, tupO usn) ∈ l → WayV usn cn.2.1 → OkC cf → OkC cn → ([(c1, c2), (c2, c1)] : List (Cl × Cl))[i]? = some (cf, cn) → HPair l c1 c2 b1 b2 a1 a2 i (.ref bb)
inductive MJ1 (cs : List Cl) (l : Lg) (t a1 a2 L' : Addr) (o3 : Obj) (i : Nat) : List (Option Value) → Lg → Prop
  | mk (aw : Addr) (uw : List Value) (kw : Nat) (ao : Addr) (uo : List Value) (ko : Nat) (z : Lg) (o2 o1 : Obj) (x2 x1 kx : Option Value) : CellV o2 x2 → CellV o1 x1 → Vs (PA (z ++ l)) uw ((cs.take i).foldl ovStep ([], [])).1 → Vs (PA (z ++ l)) uo ((cs.take i).foldl ovStep ([], [])).2 →
      MJ1 cs l t a1 a2 L' o3 i [some (.ref t), some (.ref a1), some (.ref a2), some (.ref aw), some (.ref ao), kx, none, none, none] ((ao, listO uo ko) :: (aw, listO uw kw) :: (L' + 3, o3) :: (L' + 2, o2) :: (L' + 1, o1) :: (z ++ l))
inductive MJ2 (σ : List Pr × List Pr) (c1 c2 : Cl) (lb b1 b2 a1 a2 ao aw t L' : Addr) (uo uw : List Value) (ko kw : Nat) (zl : Lg) (kx : Option Value) (i : Nat) : List (Option Value) → Lg → Prop
  | mk (o3 o2 o1 : Obj) (x3 x2 x1 on mk hd : Option Value) (zz : Lg) : CellV o3 x3 → CellV o2 x2 → CellV o1 x1 → (([(c1, c2), (c2, c1)] : List (Cl × Cl)).take i).any (fun p => hitC σ p.1 p.2) = false →
      MJ2 σ c1 c2 lb b1 b2 a1 a2 ao aw t L' uo uw ko kw zl kx i [some (.ref t), some (.ref a1), some (.ref a2), some (.ref aw), some (.ref ao), kx, on, mk, hd]
        ((lb, listO [.ref b1, .ref b2] 0) :: (b2, tupO [.ref a2, .ref a1]) :: (b1, tupO [.ref a1, .ref a2]) :: (ao, listO uo ko) :: (aw, listO uw kw) :: (L' + 3, o3) :: (L' + 2, o2) :: (L' + 1, o1) :: (zz ++ zl))
inductive MJ3 (σ : List Pr × List Pr) (cf cn : Cl) (H0 Z1 : Lg) (t a1 a2 aw ao an am L' : Addr) (kx : Option Value) (j : Nat) : List (Option Value) → Lg → Prop
  | mk (o2 o1 : Obj) (x2 x1 hd : Option Value) (z9 : Lg) : CellV o2 x2 → CellV o1 x1 → (((marksOf σ.1 cn).take j).any fun m => (cf.1 == 4) && decide (m.1.take cf.2.1.length = cf.2.1) && (hidC σ.2 cf.2.1 m.2).isEmpty) = false →
      MJ3 σ cf cn H0 Z1 t a1 a2 aw ao an am L' kx j [some (.ref t), some (.ref a1), some (.ref a2), some (.ref aw), some (.ref ao), kx, some (.ref an), some (.ref am), hd] (H0 ++ ((L' + 2, o2) :: (L' + 1, o1) :: (z9 ++ Z1)))
section
variable {prog : Program} {w : World} {A : Around} {E : Value → Shared → Prop} {env : Env} {ns : List Str} {h₀ : Heap} {vs : List (Option Value)} {l : Lg} {s₀ s : Shared}
  {p : Program} {loose : List Str} {mean : ExcName → Option Value} {mg mb : Str → Option Value} {d u : Nat}

theorem mat_spec {t : Addr} {us : List Value} {n : Nat} {v1 v2 : Value} {cs : List Cl} {c1 c2 : Cl} {R : Result → Shared → Prop}
    (fn : Fn env ns) (cx : Cx (hd2.heap_39 w.params) p loose mean mg mb (d + 1) (u + 70) A env h₀) (st : S env ns h₀ vs l s₀ s)
    (hm : (t, listO us n) ∈ l) (hv : Vs (CAt l) us cs) (hcs : ∀ c ∈ cs, OkC c) (hlen : cs.length < 70) (hv1 : CAt l v1 c1) (hv2 : CAt l v2 c2) (ho1 : OkC c1) (ho2 : OkC c2)
    (h : ∀ s', S env ns h₀ vs l s₀ s' → R (.ok (.ret (.bool (matC cs c1 c2)))) s') :
    codeAny (model prog w) A (.call (.ref 94) ⟨[.ref t, v1, v2], []⟩) R s := by
  refine S_callC (d := d) (u := u + 67) [("ahead", .ref t), ("one", v1), ("other", v2)] (ns' := ["ahead", "one", "other", "waits", "over", "kind", "on", "marks", "hidden"]) (vs' := [some (.ref t), some v1, some v2, none, none, none, none, none, none]) fn cx st (by k_is) (by k_is) (BindsTo.of_eq rfl) (by rfl) (by decide +kernel) ?_ (fn_ofC (by rfl) (by decide) rfl) ?_
  · intro L'
    funext y
    show (if y = "other" then some v2 else if y = "one" then some v1 else if y = "ahead" then some (Value.ref t) else none) = _
    simp only [locOf]
    by_cases h1 : y = "ahead"
    · subst h1; rfl
    · by_cases h2 : y = "one"
      · subst h2; rfl
      · by_cases h3 : y = "other"
        · subst h3; rfl
        · simp [h1, h2, h3]
  · intro L' g A1 s1 E' cells fn1 cx1 hY st1
    change CellsAre _ [(("off" : Str), L' + 3), (("flag" : Str), L' + 2), (("way" : Str), L' + 1)] cells at hY
    revert st1
    refine cells3 (P := fun cells => S _ _ g _ (cells ++ l) s₀ s1 → _) hY ?_
    intro o3 o2 o1 hc3 hc2 hc1 st1
    have hc3 : CellV o3 none := hc3
    have hc2 : CellV o2 none := hc2
    have hc1 : CellV o1 none := hc1
    clear hY
    generalize he : envOfC _ _ L' 94 _ = env1 at fn1 cx1 st1 ⊢
    revert env1; refine hold ?_; intro env1 he fn1 cx1 st1
    have hint : interactive env1 = false := by rw [← he]; rfl
    have lk3 : env1.cells.lookup ("off" : Str) = some (L' + 3) := by rw [← he]; rfl
    have lk2 : env1.cells.lookup ("flag" : Str) = some (L' + 2) := by rw [← he]; rfl
    have lk1 : env1.cells.lookup ("way" : Str) = some (L' + 1) := by rw [← he]; rfl
    have kk3 : env1.kindOf "off" = some .cell := by rw [← he]; rfl
    have kk2 : env1.kindOf "flag" = some .cell := by rw [← he]; rfl
    have kk1 : env1.kindOf "way" = some .cell := by rw [← he]; rfl
    have ksorted : env1.kindOf "sorted" = some .globalImplicit := by rw [← he]; rfl
    have klen : env1.kindOf "len" = some .globalImplicit := by rw [← he]; rfl
    have hu : A1.units + 67 < cLine := by have := cx1.units; omega
    obtain ⟨a1, q1, us1, t11, t12, rfl, m11, m12, hw1⟩ := hv1
    obtain ⟨a2, q2, us2, t21, t22, rfl, m21, m22, hw2⟩ := hv2
    have ml : ∀ x ∈ l, x ∈ [(L' + 3, o3), (L' + 2, o2), (L' + 1, o1)] ++ l := fun x hx => List.mem_append_right _ hx
    generalize hSR : SRet _ _ _ _ _ _ _ _ _ = RR0; revert RR0; refine hold ?_; intro RR0 hSR
    refine w_cons (w_if (w_testcmp (w_callE (w_cbuiltin fn1.gl cx1 st1 (by k_is) boot_sorted (by decide) ksorted (by decide) (w_cwBuiltin (w_args (w_listE (w_args ?_))))))))
    refine w_itemN 1 fn1 st1 rfl rfl (ml _ m11) (by decide) (by decide) rfl rfl fun s2 st2 => ?_
    refine w_args (w_itemN 2 fn1 st2 rfl rfl (ml _ m21) (by decide) (by decide) rfl rfl fun s3 st3 => ?_)
    refine w_args0 (w_list st3 fun b s4 st4 => w_args0 (w_sorted2 st4 (.head _) fun D usD kD s5 hiD st5 => ?_))
    refine w_listE (w_args (w_int st5 fun tc s6 st6 => w_args (w_int st6 fun td s7 st7 => w_args0 (w_list st7 fun b2 s8 st8 => ?_))))
    refine w_eqints st8 (.tail _ (.head _)) (.head _) hiD (.cons 2 tc (.cons 3 td .nil)) (by omega) (w_tbool ?_)
    by_cases hm23 : (if c1.1 ≤ c2.1 then [c1.1, c2.1] else [c2.1, c1.1]) = [2, 3]
    · refine ite_t (decide_eq_true hm23) ?_
      refine w_cons (w_ret (w_bool ?_))
      subst hSR
      change SRet _ _ _ _ _ _ _ _ _ _ _
      have st9 : S env1 _ g _ ([(b2, listO [Value.int 2 tc, Value.int 3 td] 0), (D, listO usD kD), (b, listO [Value.int c1.1 t11, Value.int c2.1 t21] 0), (L' + 3, o3), (L' + 2, o2), (L' + 1, o1)] ++ l) s₀ s8 := st8
      refine SRet.intro st9.dropL fun st => ?_
      have := h _ st
      unfold matC at this
      rw [if_pos hm23] at this
      exact this
    · refine ite_f (decide_eq_false hm23) ?_
      refine w_nil ?_
      have st9 : S env1 _ g _ ([(L' + 3, o3), (L' + 2, o2), (L' + 1, o1)] ++ l) s₀ s8 := st8.drop.drop.drop
      refine w_cons (w_swapped ["waits", "over"] ?_ (by rw [← he]; rfl) (by rw [← he]; rfl))
      refine w_tupleE (w_args (w_listE (w_args0 (w_list st9 fun aw s10 st10 => w_args (w_listE (w_args0 (w_list st10 fun ao s11 st11 => w_args0 (w_tuple st11 (fun b3 s12 st12 => ?_)))))))))
      refine w_unpackItems cx1.hand st12 (.head _) rfl fun s13 st13 => ?_
      refine w_inorder (w_bind (w_store 4 fn1 st13.drop rfl (Nat.le_of_ble_eq_true rfl) fun s14 st14 => ?_))
      refine w_inorder (w_bind (w_store 3 fn1 st14 rfl (Nat.le_of_ble_eq_true rfl) fun s15 st15 => ?_))
      refine w_inorder0 ?_
      refine w_cons (w_for (w_name 0 fn1 st15 rfl rfl ?_))
      refine w_for_list cx1.hand st15 (.tail _ (.tail _ (ml _ hm))) (MJ1 cs l t a1 a2 L' o3)
        (.mk aw [] 0 ao [] 0 [] o2 o1 none none none hc2 hc1 .nil .nil) (fun i vs' l' hJ => by obtain ⟨_, _, _, _, _, _, z⟩ := hJ; exact .tail _ (.tail _ (.tail _ (.tail _ (.tail _ (List.mem_append_right _ hm)))))) ?_ ?_
      · intro i v vs' l' I oI s' E2 hvi hJ st'
        generalize hLP : LPost _ _ _ _ _ _ _ _ = QQ; revert QQ; refine hold ?_; intro QQ hLP
        obtain ⟨aw, uw, kw, ao, uo, ko, z, o2, o1, x2, x1, kx, hc2, hc1, hwt, hov⟩ := hJ
        obtain ⟨c, hci, a, q, usq, tk1, tk2, rfl, m1, m2, hwq⟩ := hv.at hvi
        have hok := hcs c (List.mem_of_getElem? hci)
        have hstep : (cs.take (i + 1)).foldl ovStep ([], []) = ovStep ((cs.take i).foldl ovStep ([], [])) c := by
          rw [List.take_add_one, hci, Option.toList_some, List.foldl_append]; rfl
        have ml2 : ∀ x ∈ l, x ∈ (I, oI) :: (ao, listO uo ko) :: (aw, listO uw kw) :: (L' + 3, o3) :: (L' + 2, o2) :: (L' + 1, o1) :: (z ++ l) := fun x hx => .tail _ (.tail _ (.tail _ (.tail _ (.tail _ (.tail _ (List.mem_append_right _ hx))))))
        refine w_unpack cx1.hand st' (ml2 _ m1) rfl rfl fun s3 st3 => ?_
        refine w_inorder (w_aname (w_store 5 fn1 st3 rfl (Nat.le_of_ble_eq_true rfl) fun s4 st4 => ?_))
        refine w_inorder (w_aname (w_setcell (l' := fun o' => (I, oI) :: (ao, listO uo ko) :: (aw, listO uw kw) :: (L' + 3, o3) :: (L' + 2, o2) :: (L' + 1, o') :: (z ++ l)) fn1.gl st4 kk1 lk1 (fun o' => .tail (.tail (.tail (.tail (.tail .head))))) hc1 fun o1' s5 hc1' st5 => ?_))
        refine w_inorder (w_aname (w_setcell (l' := fun o' => (I, oI) :: (ao, listO uo ko) :: (aw, listO uw kw) :: (L' + 3, o3) :: (L' + 2, o') :: (L' + 1, o1') :: (z ++ l)) fn1.gl st5 kk2 lk2 (fun o' => .tail (.tail (.tail (.tail .head)))) hc2 fun o2' s6 hc2' st6 => ?_))
        refine w_inorder0 ?_
        have rway : Rd prog w env1 [(L' + 1, o1')] "way" (.ref q) := Rd.cell fn1.kind kk1 lk1 (.head _) hc1'
        have rflag : Rd prog w env1 [(L' + 2, o2')] "flag" (.int c.2.2 tk2) := Rd.cell fn1.kind kk2 lk2 (.head _) hc2'
        have hii : i < cs.length := (List.getElem?_eq_some_iff.mp hci).1
        have hlens := ov_len (cs.take i) ([], []) 0 (Nat.le_refl _) (Nat.le_refl _)
        have hsl : sizeLine = 2 ^ 24 := rfl
        have hszo : uo.length ≤ sizeLine := by have := hlens.2; rw [hov.length, hsl]; rw [List.length_take] at this; omega
        have hszw : uw.length ≤ sizeLine := by have := hlens.1; rw [hwt.length, hsl]; rw [List.length_take] at this; omega
        have hokm := ov_ok (cs := cs.take i) (fun c hc => hcs c (List.mem_of_mem_take hc)) ([], []) (fun m hm => nomatch hm) (fun m hm => nomatch hm)
        refine w_cons (w_if (w_teqN 5 fn1 st6 rfl rfl fun s7 st7 => ?_))
        by_cases k1 : c.1 = 1
        · have hb : (c.1 == 1) = true := beq_iff_eq.mpr k1
          refine ite_t (hb) ?_
          refine w_cons (w_exprA hint (w_meth (w_name 4 fn1 st7 rfl rfl (w_lappend_meth st7 (.tail _ (.head _)) (w_cwBuiltin (w_args (w_tupleE (w_args ?_))))))))
          refine w_rd rway st7 (mem1 (by (repeat (first | exact List.Mem.head _ | apply List.Mem.tail | apply List.mem_append_right)))) (w_args (w_rd rflag st7 (mem1 (by (repeat (first | exact List.Mem.head _ | apply List.Mem.tail | apply List.mem_append_right)))) (w_args0 (w_tuple st7 (fun b s8 st8 => w_args0 ?_)))))
          have st9 := S.mid (x := [(I, oI), (ao, listO uo ko), (aw, listO uw kw), (L' + 3, o3), (L' + 2, o2'), (L' + 1, o1')]) st8
          refine w_append (l' := fun o' => (I, oI) :: (ao, o') :: (aw, listO uw kw) :: (L' + 3, o3) :: (L' + 2, o2') :: (L' + 1, o1') :: ((b, tupO [.ref q, .int c.2.2 tk2]) :: (z ++ l))) st9 (fun o' => .tail .head) ?_ fun n' s10 st10 => ?_
          · exact hszo
          refine w_nil (w_nil ?_)
          subst hLP
          refine ⟨_, _, st10, .mk aw uw kw ao _ n' ((b, tupO [.ref q, .int c.2.2 tk2]) :: z) o2' o1' _ _ _ hc2' hc1' ?_ ?_⟩
          · rw [hstep]; unfold ovStep; rw [if_pos k1]
            exact hwt.imp (PA.mono fun x hx => .tail _ hx)
          · rw [hstep]; unfold ovStep; rw [if_pos k1]
            exact Vs.append (hov.imp (PA.mono fun x hx => .tail _ hx)) (.cons ⟨b, q, usq, tk2, rfl, .head _, .tail _ (List.mem_append_right _ m2), hwq⟩ .nil)
        · have hb : (c.1 == 1) = false := beq_eq_false_iff_ne.mpr k1
          refine ite_f (hb) ?_
          refine w_cons (w_if (w_teqN 5 fn1 st7 rfl rfl fun s8 st8 => ?_))
          by_cases k2 : c.1 = 2
          · have hb : (c.1 == 2) = true := beq_iff_eq.mpr k2
            refine ite_t (hb) ?_
            refine w_cons (w_exprA hint (w_meth (w_name 3 fn1 st8 rfl rfl (w_lappend_meth st8 (.tail _ (.tail _ (.head _))) (w_cwBuiltin (w_args (w_tupleE (w_args ?_))))))))
            refine w_rd rway st8 (mem1 (by (repeat (first | exact List.Mem.head _ | apply List.Mem.tail | apply List.mem_append_right)))) (w_args (w_rd rflag st8 (mem1 (by (repeat (first | exact List.Mem.head _ | apply List.Mem.tail | apply List.mem_append_right)))) (w_args0 (w_tuple st8 (fun b s9 st9 => w_args0 ?_)))))
            have st10 := S.mid (x := [(I, oI), (ao, listO uo ko), (aw, listO uw kw), (L' + 3, o3), (L' + 2, o2'), (L' + 1, o1')]) st9
            refine w_append (l' := fun o' => (I, oI) :: (ao, listO uo ko) :: (aw, o') :: (L' + 3, o3) :: (L' + 2, o2') :: (L' + 1, o1') :: ((b, tupO [.ref q, .int c.2.2 tk2]) :: (z ++ l))) st10 (fun o' => .tail (.tail .head)) hszw fun n' s11 st11 => ?_
            refine w_nil (w_nil (w_nil ?_))
            subst hLP
            refine ⟨_, _, st11, .mk aw _ n' ao uo ko ((b, tupO [.ref q, .int c.2.2 tk2]) :: z) o2' o1' _ _ _ hc2' hc1' ?_ ?_⟩
            · rw [hstep]; unfold ovStep; rw [if_neg k1, if_pos k2]
              exact Vs.append (hwt.imp (PA.mono fun x hx => .tail _ hx)) (.cons ⟨b, q, usq, tk2, rfl, .head _, .tail _ (List.mem_append_right _ m2), hwq⟩ .nil)
            · rw [hstep]; unfold ovStep; rw [if_neg k1, if_pos k2]
              exact hov.imp (PA.mono fun x hx => .tail _ hx)
          · have hb : (c.1 == 2) = false := beq_eq_false_iff_ne.mpr k2
            refine ite_f (hb) ?_
            refine w_cons (w_if (w_teqN 5 fn1 st8 rfl rfl fun s9 st9 => ?_))
            by_cases k3 : c.1 = 3
            · have hb : (c.1 == 3) = true := beq_iff_eq.mpr k3
              refine ite_t (hb) ?_
              refine w_cons (w_assign (h₀ := g) (s₀ := s₀) 3 fn1 rfl (w_listE (w_args0 (w_list st9 fun b s10 st10 => ⟨_, _, st10, Nat.le_of_ble_eq_true rfl, fun s11 st11 => ?_⟩))))
              refine w_nil (w_nil (w_nil (w_nil ?_)))
              have st12 : S env1 _ g _ ((I, oI) :: (ao, listO uo ko) :: (b, listO [] 0) :: (L' + 3, o3) :: (L' + 2, o2') :: (L' + 1, o1') :: (z ++ l)) s₀ s11 :=
                S.sub (S.mid (x := [(I, oI), (ao, listO uo ko)]) st11) ((((List.sublist_cons_self _ _).cons_cons _).cons_cons _).cons_cons _)
              subst hLP
              refine ⟨_, _, st12, .mk b [] 0 ao uo ko z o2' o1' _ _ _ hc2' hc1' ?_ ?_⟩
              · rw [hstep]; unfold ovStep; rw [if_neg k1, if_neg k2, if_pos k3]
                exact .nil
              · rw [hstep]; unfold ovStep; rw [if_neg k1, if_neg k2, if_pos k3]
                exact hov
            · have hb : (c.1 == 3) = false := beq_eq_false_iff_ne.mpr k3
              refine ite_f (hb) ?_
              refine w_cons (w_if (w_teqN 5 fn1 st9 rfl rfl fun s10 st10 => ?_))
              by_cases k4 : c.1 = 4
              · have hb : (c.1 == 4) = true := beq_iff_eq.mpr k4
                refine ite_t (hb) ?_
                refine w_cons (w_compAssign (w_name 4 fn1 st10 rfl rfl ?_) (by rw [← he]; rfl) ?_ (fun x => rfl) rfl (by decide))
                · have hkeep : ∀ x ∈ z ++ l, x ∈ (I, oI) :: (ao, listO uo ko) :: (aw, listO uw kw) :: (L' + 3, o3) :: (L' + 2, o2') :: (L' + 1, o1') :: (z ++ l) := fun x hx => .tail _ (.tail _ (.tail _ (.tail _ (.tail _ (.tail _ hx)))))
                  refine w_compName cx1.hand fn1.gl rfl rfl (fun C => rfl) (fun i2 ys l2 => l2 = (I, oI) :: (ao, listO uo ko) :: (aw, listO uw kw) :: (L' + 3, o3) :: (L' + 2, o2') :: (L' + 1, o1') :: (z ++ l) ∧ Vs (PA (z ++ l)) ys ((((cs.take i).foldl ovStep ([], [])).2.take i2).filter fun m => !decide (m.1.take c.2.1.length = c.2.1)))
                    st10 (.tail _ (.head _)) ⟨rfl, .nil⟩ (by rw [hsl] at hszo; have := hlens.2; rw [hov.length]; rw [List.length_take] at this; omega) (fun i ys l' hJ => by rw [hJ.1]; exact .tail _ (.head _)) ?_ ?_
                  · rintro cenv i2 v ys z2 l2 s11 E11 hcE hvi2 hJ rmark st11
                    refine W.gen fun QB hQB => ?_
                    obtain ⟨C, hcenv⟩ := hcE
                    obtain ⟨rfl, hys⟩ := hJ
                    obtain ⟨m, hmi, am, qm, usm, tm, rfl, mm1, mm2, hwm⟩ := hov.at hvi2
                    have hmok := hokm.2 m (List.mem_of_getElem? hmi)
                    have mz : ∀ x ∈ z ++ l, x ∈ z2 ++ ((I, oI) :: (ao, listO uo ko) :: (aw, listO uw kw) :: (L' + 3, o3) :: (L' + 2, o2') :: (L' + 1, o1') :: (z ++ l)) := fun x hx => List.mem_append_right _ (hkeep x hx)
                    have hcw : cenv.cells.lookup ("way" : Str) = some (L' + 1) := by
                      rw [hcenv]
                      show List.lookup _ (cellsFrom _ _ (match env1.cells.lookup ("way" : Str) with | some c => [(("way" : Str), c)] | none => [])) = _
                      rw [lk1]; rfl
                    have rway2 : Rd prog w cenv [(L' + 1, o1')] "way" (.ref q) := by subst hcenv; exact Rd.up rfl rfl hcw (.head _) hc1'
                    have kl : cenv.kindOf "len" = some .globalImplicit := by rw [hcenv]; exact kind_other rfl rfl
                    have glc : Gl cenv := by rw [hcenv]; exact fn1.gl.comp rfl
                    have hw1m : ∀ x ∈ [(L' + 1, o1')], x ∈ z2 ++ ((I, oI) :: (ao, listO uo ko) :: (aw, listO uw kw) :: (L' + 3, o3) :: (L' + 2, o2') :: (L' + 1, o1') :: (z ++ l)) := mem1 (by (repeat (first | exact List.Mem.head _ | apply List.Mem.tail | apply List.mem_append_right)))
                    have hs1 : usq.length ≤ sizeLine := by rw [hwq.length, hsl]; have := hok.len; omega
                    have hs2 : usm.length ≤ sizeLine := by rw [hwm.length, hsl]; have := hmok.2.2; omega
                    refine w_tests1 (w_testcmp (w_subslice (w_itemR rmark st11 (fun x hx => List.mem_append_left _ hx) (mz _ mm1) (by decide) (by decide) rfl rfl fun s12 st12 => ?_)))
                    refine wpart_0 (wpart_e (w_lenR glc cx1 kl (by k_is) rway2 st12 hw1m (mz _ (List.mem_append_right _ m2)) hs1 fun tq2 s13 st13 => ?_))
                    refine w_slice_tup st13 (mz _ mm2) .none (.int _ _) hs2 fun z3 as s14 st14 has => ?_
                    have has := has _ (mz _ mm2)
                    rw [hwq.length, sl_to] at has
                    refine w_rd rway2 st14 (fun x hx => List.mem_append_right _ (hw1m x hx)) ?_
                    refine w_neway st14 has (List.mem_append_right _ (mz _ (List.mem_append_right _ m2))) (hwm.take _) hwq (okw_menu fun x hx => hmok.2.1 x (List.mem_of_mem_take hx)) (okw_menu hok.menu) (by omega) (w_tbool (hQB _ _ ?_))
                    have e2 : (((cs.take i).foldl ovStep ([], [])).2.take (i2 + 1)) = (((cs.take i).foldl ovStep ([], [])).2.take i2) ++ [m] := by rw [List.take_add_one, hmi]; rfl
                    by_cases hf : m.1.take c.2.1.length = c.2.1
                    · rw [decide_eq_true hf]
                      rw [if_neg (by decide)]
                      refine ⟨_, st14.dropL, rfl, ?_⟩
                      rw [e2, List.filter_append, List.filter_cons_of_neg (by rw [decide_eq_true hf]; decide), List.filter_nil, List.append_nil]
                      exact hys
                    · rw [decide_eq_false hf, if_pos (by decide)]
                      refine w_rd rmark st14.dropL (fun x hx => List.mem_append_left _ hx) ?_
                      refine ⟨_, st14.dropL, rfl, ?_⟩
                      rw [e2, List.filter_append, List.filter_cons_of_pos (by rw [decide_eq_false hf]; decide), List.filter_nil]
                      exact Vs.append hys (.cons ⟨am, qm, usm, tm, rfl, mm1, mm2, hwm⟩ .nil)
                  · rintro ys k D C oC mN l2 s11 ⟨rfl, hys⟩ hle2 hN st11
                    refine RRu_done 4 fn1 st11 hN rfl (Nat.le_of_ble_eq_true rfl) fun s12 st12 => ?_
                    refine w_nil (w_nil (w_nil (w_nil (w_nil ?_))))
                    have st13 : S env1 _ g _ ((I, oI) :: (D, listO ys k) :: (aw, listO uw kw) :: (L' + 3, o3) :: (L' + 2, o2') :: (L' + 1, o1') :: (z ++ l)) s₀ s12 :=
                      S.sub (S.mid (x := [(I, oI)]) st12) (((List.sublist_cons_self _ _).cons_cons _).cons_cons _)
                    subst hLP
                    refine ⟨_, _, st13, .mk aw uw kw D ys k z o2' o1' _ _ _ hc2' hc1' ?_ ?_⟩
                    · rw [hstep]; unfold ovStep; rw [if_neg k1, if_neg k2, if_neg k3, if_pos k4]
                      exact hwt
                    · rw [hstep]; unfold ovStep; rw [if_neg k1, if_neg k2, if_neg k3, if_pos k4]
                      rw [hov.length, List.take_length] at hys
                      exact hys
                · intro x hx hfr
                  simp only [List.mem_cons, List.not_mem_nil, or_false] at hx
                  rcases hx with rfl | rfl | rfl | rfl
                  · cases hfr
                  · cases hfr
                  · cases hfr
                  · show (env1.cells.lookup ("way" : Str)).isSome = true
                    rw [lk1]; rfl
              · have hb : (c.1 == 4) = false := beq_eq_false_iff_ne.mpr k4
                refine ite_f (hb) ?_
                refine w_nil (w_nil (w_nil (w_nil (w_nil ?_))))
                subst hLP
                refine ⟨_, _, st10, .mk aw uw kw ao uo ko z o2' o1' _ _ _ hc2' hc1' ?_ ?_⟩
                · rw [hstep]; unfold ovStep; rw [if_neg k1, if_neg k2, if_neg k3, if_neg k4]
                  exact hwt
                · rw [hstep]; unfold ovStep; rw [if_neg k1, if_neg k2, if_neg k3, if_neg k4]
                  exact hov
      · rintro vs' l' s' ⟨aw, uw, kw, ao, uo, ko, z, o2, o1, x2, x1, kx, hc2, hc1, hwt, hov⟩ st'
        rw [hv.length, List.take_length] at hwt hov
        have hokm := ov_ok hcs ([], []) (fun m hm => nomatch hm) (fun m hm => nomatch hm)
        have hlens := ov_len cs ([], []) 0 (Nat.le_refl _) (Nat.le_refl _)
        have hfin : matC cs c1 c2 = (hitC (cs.foldl ovStep ([], [])) c1 c2 || hitC (cs.foldl ovStep ([], [])) c2 c1) := by unfold matC; rw [if_neg hm23]
        generalize cs.foldl ovStep ([], []) = σ at hwt hov hokm hlens hfin
        refine w_cons (w_for (w_listE (w_args (w_tupleE (w_args (w_name 1 fn1 st' rfl rfl (w_args (w_name 2 fn1 st' rfl rfl (w_args0 (w_tuple st' (fun b1 s2 st2 => w_args ?_)))))))))))
        refine w_tupleE (w_args (w_name 2 fn1 st2 rfl rfl (w_args (w_name 1 fn1 st2 rfl rfl (w_args0 (w_tuple st2 (fun b2 s3 st3 => w_args0 (w_list st3 fun lb s4 st4 => ?_))))))))
        refine w_for_list cx1.hand st4 (.head _) (MJ2 σ c1 c2 lb b1 b2 a1 a2 ao aw t L' uo uw ko kw (z ++ l) kx)
          (.mk o3 o2 o1 none x2 x1 none none none [] hc3 hc2 hc1 rfl) (fun i vs' l' hJ => by obtain ⟨_⟩ := hJ; exact .head _) ?_ ?_
        · intro i v vs' l' I oI s' E2 hvi hJ st'
          generalize hLP : LPost _ _ _ _ _ _ _ _ = QQ; revert QQ; refine hold ?_; intro QQ hLP
          obtain ⟨o3, o2, o1, x3, x2, x1, on, mk, hd, zz, hc3, hc2, hc1, hno⟩ := hJ
          have hpair : HPair l c1 c2 b1 b2 a1 a2 i v := by
            have : i < 2 := by have := (List.getElem?_eq_some_iff.mp hvi).1; simpa using this
            match i, this with
            | 0, _ => cases hvi; exact .mk c1 c2 a1 a2 q1 q2 b1 us1 us2 t11 t12 t21 t22 (.inr rfl) m11 m12 hw1 m21 m22 hw2 ho1 ho2 rfl
            | 1, _ => cases hvi; exact .mk c2 c1 a2 a1 q2 q1 b2 us2 us1 t21 t22 t11 t12 (.inl rfl) m21 m22 hw2 m11 m12 hw1 ho2 ho1 rfl
          obtain ⟨cf, cn, af, an, qf, qn, bb, usf, usn, tf1, tf2, tn1, tn2, hbb, mf1, mf2, hwf, mn1, mn2, hwn, hof, hon, hidx⟩ := hpair
          have hmb : (bb, tupO [.ref af, .ref an]) ∈ (I, oI) :: (lb, listO [.ref b1, .ref b2] 0) :: (b2, tupO [.ref a2, .ref a1]) :: (b1, tupO [.ref a1, .ref a2]) :: (ao, listO uo ko) :: (aw, listO uw kw) :: (L' + 3, o3) :: (L' + 2, o2) :: (L' + 1, o1) :: (zz ++ (z ++ l)) := by
            rcases hbb with e | e
            · rw [← e]; exact .tail _ (.tail _ (.head _))
            · rw [← e]; exact .tail _ (.tail _ (.tail _ (.head _)))
          refine w_unpack cx1.hand st' hmb rfl rfl fun s3 st3 => ?_
          refine w_inorder (w_aname (w_setcell (l' := fun o' => (I, oI) :: (lb, listO [.ref b1, .ref b2] 0) :: (b2, tupO [.ref a2, .ref a1]) :: (b1, tupO [.ref a1, .ref a2]) :: (ao, listO uo ko) :: (aw, listO uw kw) :: (L' + 3, o') :: (L' + 2, o2) :: (L' + 1, o1) :: (zz ++ (z ++ l))) fn1.gl st3 kk3 lk3 (fun o' => .tail (.tail (.tail (.tail (.tail (.tail .head)))))) hc3 fun o3' s4 hc3' st4 => ?_))
          refine w_inorder (w_aname (w_store 6 fn1 st4 rfl (Nat.le_of_ble_eq_true rfl) fun s5 st5 => ?_))
          refine w_inorder0 ?_
          have roff : Rd prog w env1 [(L' + 3, o3')] "off" (.ref af) := Rd.cell fn1.kind kk3 lk3 (.head _) hc3'
          obtain ⟨H0, hH0⟩ : ∃ H0 : Lg, H0 = [(I, oI), (lb, listO [.ref b1, .ref b2] 0), (b2, tupO [.ref a2, .ref a1]), (b1, tupO [.ref a1, .ref a2]), (ao, listO uo ko), (aw, listO uw kw), (L' + 3, o3')] := ⟨_, rfl⟩
          have st6 : S env1 ["ahead", "one", "other", "waits", "over", "kind", "on", "marks", "hidden"] g [some (.ref t), some (.ref a1), some (.ref a2), some (.ref aw), some (.ref ao), kx, some (.ref an), mk, hd] (H0 ++ ((L' + 2, o2) :: (L' + 1, o1) :: (zz ++ (z ++ l)))) s₀ s5 := by rw [hH0]; exact st5
          have mH : ∀ (R : Lg), ∀ x ∈ l, x ∈ H0 ++ (R ++ (zz ++ (z ++ l))) := fun R x hx => List.mem_append_right _ (List.mem_append_right _ (List.mem_append_right _ (List.mem_append_right _ hx)))
          have maw : (aw, listO uw kw) ∈ H0 := by rw [hH0]; (repeat (first | exact List.Mem.head _ | apply List.Mem.tail | apply List.mem_append_right))
          have mao : (ao, listO uo ko) ∈ H0 := by rw [hH0]; (repeat (first | exact List.Mem.head _ | apply List.Mem.tail | apply List.mem_append_right))
          have mo3 : (L' + 3, o3') ∈ H0 := by rw [hH0]; (repeat (first | exact List.Mem.head _ | apply List.Mem.tail | apply List.mem_append_right))
          have mn1' : (an, tupO [.int cn.1 tn1, .ref qn, .int cn.2.2 tn2]) ∈ H0 ++ ((L' + 2, o2) :: (L' + 1, o1) :: (zz ++ (z ++ l))) := mH [_, _] _ mn1
          refine w_cons (w_assign (h₀ := g) (s₀ := s₀) 7 fn1 rfl (W.mono (Q := fun v s1 => ∃ (am : Addr) (um : List Value) (km : Nat) (zm : Lg), v = .ref am ∧ Vs (PA (zm ++ (z ++ l))) um (marksOf σ.1 cn) ∧ (am, listO um km) ∈ H0 ++ ((L' + 2, o2) :: (L' + 1, o1) :: ((zm ++ zz) ++ (z ++ l))) ∧
              S env1 ["ahead", "one", "other", "waits", "over", "kind", "on", "marks", "hidden"] g [some (.ref t), some (.ref a1), some (.ref a2), some (.ref aw), some (.ref ao), kx, some (.ref an), mk, hd] (H0 ++ ((L' + 2, o2) :: (L' + 1, o1) :: ((zm ++ zz) ++ (z ++ l)))) s₀ s1) ?_ ?_))
          · refine w_ifexp (w_testcmp (w_itemN 6 fn1 st6 rfl rfl mn1' (by decide) (by decide) rfl rfl fun s6 st7 => (w_int st7 fun tb s7 st8 => w_lt (w_tbool ?_))))
            by_cases kn : cn.1 < 2
            · refine ite_t (decide_eq_true kn) ?_
              refine w_listE (w_args (w_subslice (w_name 6 fn1 st8 rfl rfl (wpart_e (w_int st8 fun tc s8 st9 => wpart_0 ?_)))))
              refine w_slice_tup st9 mn1' (.int _ _) .none (by show 3 ≤ sizeLine; decide) fun z5 as s9 st10 has => w_args0 (w_list st10 fun am s10 st11 => ?_)
              have has2 := has (z ++ l) (List.mem_append_right _ mn1)
              have e1 : sl (some 1) none [Value.int cn.1 tn1, .ref qn, .int cn.2.2 tn2] = [.ref qn, .int cn.2.2 tn2] := sl_from 1 _
              rw [e1] at has2
              refine ⟨am, [.ref as], 0, (am, listO [.ref as] 0) :: z5, rfl, ?_, ?_, ?_⟩
              · unfold marksOf; rw [if_pos kn]
                exact .cons ⟨as, qn, usn, tn2, rfl, .tail _ has2, .tail _ (List.mem_append_right _ (List.mem_append_right _ mn2)), hwn⟩ .nil
              · simp
              · have := List.perm_append_comm_assoc ((am, listO [.ref as] 0) :: z5) (H0 ++ [(L' + 2, o2), (L' + 1, o1)]) (zz ++ (z ++ l))
                exact st11.perm (by simpa using this)
            · refine ite_f (decide_eq_false kn) ?_
              refine w_ifexp (w_testcmp (w_itemN 6 fn1 st8 rfl rfl mn1' (by decide) (by decide) rfl rfl fun s6 st9 => (w_int st9 fun tb s7 st10 => w_eq (w_tbool ?_))))
              by_cases kn3 : cn.1 = 3
              · have hb : (cn.1 == 3) = true := beq_iff_eq.mpr kn3
                refine ite_t (hb) ?_
                refine w_name 3 fn1 st10 rfl rfl ⟨aw, uw, kw, [], rfl, ?_, List.mem_append_left _ maw, st10⟩
                unfold marksOf; rw [if_neg kn, if_pos kn3]; exact hwt
              · have hb : (cn.1 == 3) = false := beq_eq_false_iff_ne.mpr kn3
                refine ite_f (hb) ?_
                refine w_listE (w_args0 (w_list st10 fun am s11 st11 => ⟨am, [], 0, [(am, listO [] 0)], rfl, ?_, ?_, ?_⟩))
                · unfold marksOf; rw [if_neg kn, if_neg kn3]; exact .nil
                · simp
                · exact S.mid (x := H0 ++ [(L' + 2, o2), (L' + 1, o1)]) (by simpa using st11) |> fun h => by simpa using h
          · rintro v s6 ⟨am, um, km, zm, rfl, hum, mam, st7⟩
            refine ⟨_, _, st7, Nat.le_of_ble_eq_true rfl, fun s7 st8 => ?_⟩
            obtain ⟨Z1, hZ1⟩ : ∃ Z1 : Lg, Z1 = (zm ++ zz) ++ (z ++ l) := ⟨_, rfl⟩
            rw [← hZ1] at st8 mam
            have hZm : ∀ x ∈ zm ++ (z ++ l), x ∈ Z1 := fun x hx => by rw [hZ1]; rcases List.mem_append.mp hx with hx | hx <;> simp [hx]
            have hZl : ∀ x ∈ z ++ l, x ∈ Z1 := fun x hx => by rw [hZ1]; exact List.mem_append_right _ hx
            have hum := hum.imp (PA.mono hZm)
            have hmk : ∀ m ∈ marksOf σ.1 cn, m.1 ≠ [] ∧ (∀ z ∈ m.1, z ∈ LM) ∧ m.1.length ≤ 3 := by
              unfold marksOf
              split
              · intro m hm; rw [List.mem_singleton] at hm; subst hm; exact ⟨hon.ne, hon.menu, hon.len⟩
              · split
                · exact hokm.1
                · intro m hm; cases hm
            refine w_cons (w_for (w_name 7 fn1 st8 rfl rfl ?_))
            have mam2 : (am, listO um km) ∈ H0 ∨ (am, listO um km) ∈ Z1 := by
              rcases List.mem_append.mp mam with h | h
              · exact .inl h
              · rcases List.mem_cons.mp h with e | h
                · have e2 : o2 = listO um km := (Prod.mk.inj e).2.symm
                  unfold CellV at hc2
                  rw [e2] at hc2
                  cases hc2
                · rcases List.mem_cons.mp h with e | h
                  · have e2 : o1 = listO um km := (Prod.mk.inj e).2.symm
                    unfold CellV at hc1
                    rw [e2] at hc1
                    cases hc1
                  · exact .inr h
            refine w_for_list cx1.hand st8 mam (MJ3 σ cf cn H0 Z1 t a1 a2 aw ao an am L' kx)
              (.mk o2 o1 x2 x1 hd [] hc2 hc1 rfl) (fun j vs' l' hJ => by
                obtain ⟨_, _, _, _, _, z9⟩ := hJ
                rcases mam2 with h | h
                · exact List.mem_append_left _ h
                · exact List.mem_append_right _ (.tail _ (.tail _ (List.mem_append_right _ h)))) ?_ ?_
            · intro j v vs' l' I2 oI2 s8 E3 hvj hJ st9
              generalize hLP2 : LPost _ _ _ _ _ _ _ _ = QQ2; revert QQ2; refine hold ?_; intro QQ2 hLP2
              obtain ⟨o2, o1, x2, x1, hd, z9, hc2, hc1, hnoj⟩ := hJ
              obtain ⟨m, hmj, am2, qm, usm, tm, rfl, mm1, mm2, hwm⟩ := hum.at hvj
              have hmok := hmk m (List.mem_of_getElem? hmj)
              have mZ : ∀ (q1 q2 : Addr × Obj), ∀ x ∈ Z1, x ∈ (I2, oI2) :: (H0 ++ (q1 :: q2 :: (z9 ++ Z1))) := fun q1 q2 x hx => .tail _ (List.mem_append_right _ (.tail _ (.tail _ (List.mem_append_right _ hx))))
              refine w_unpack cx1.hand st9 (mZ _ _ _ mm1) rfl rfl fun s9 st10 => ?_
              refine w_inorder (w_aname (w_setcell (l' := fun o' => (I2, oI2) :: (H0 ++ ((L' + 2, o2) :: (L' + 1, o') :: (z9 ++ Z1)))) fn1.gl st10 kk1 lk1 (fun o' => .tail (.app (.tail .head))) hc1 fun o1' s10 hc1' st11 => ?_))
              refine w_inorder (w_aname (w_setcell (l' := fun o' => (I2, oI2) :: (H0 ++ ((L' + 2, o') :: (L' + 1, o1') :: (z9 ++ Z1)))) fn1.gl st11 kk2 lk2 (fun o' => .tail (.app .head)) hc2 fun o2' s11 hc2' st12 => ?_))
              refine w_inorder0 ?_
              have rway : Rd prog w env1 [(L' + 1, o1')] "way" (.ref qm) := Rd.cell fn1.kind kk1 lk1 (.head _) hc1'
              have rflag : Rd prog w env1 [(L' + 2, o2')] "flag" (.int m.2 tm) := Rd.cell fn1.kind kk2 lk2 (.head _) hc2'
              refine w_cons (w_assign (h₀ := g) (s₀ := s₀) 8 fn1 rfl (w_cmp (w_comp (w_name 4 fn1 st12 rfl rfl ?_) ?_ (fun x => rfl) rfl (by decide))))
              · obtain ⟨B2, hB2⟩ : ∃ B2 : Lg, B2 = (I2, oI2) :: (H0 ++ ((L' + 2, o2') :: (L' + 1, o1') :: (z9 ++ Z1))) := ⟨_, rfl⟩
                rw [← hB2] at st12
                have mB : ∀ x ∈ z ++ l, x ∈ B2 := fun x hx => by rw [hB2]; exact mZ _ _ _ (hZl _ hx)
                have hsl : sizeLine = 2 ^ 24 := rfl
                refine w_compPair (fun v v1 v2 => ∃ a : Addr, v = .ref a ∧ (a, tupO [v1, v2]) ∈ z ++ l) cx1.hand fn1.gl rfl rfl rfl (by decide) (fun C => rfl)
                  (fun i ys l2 => B2 = l2 ∧ Vs (fun v x => ∃ q xs, v = .ref q ∧ (q, tupO xs) ∈ z ++ l ∧ WayV xs x) ys ((hidC (σ.2.take i) cf.2.1 m.2).map (·.1)))
                  st12 (by rw [hB2]; exact .tail _ (List.mem_append_left _ mao)) ⟨rfl, .nil⟩ (by rw [hov.length]; have := hlens.2; omega) (fun i ys l' hJ => by rw [← hJ.1, hB2]; exact .tail _ (List.mem_append_left _ mao)) ?_ ?_ ?_
                · rintro i3 v ys l2 hv3 ⟨rfl, hys⟩
                  obtain ⟨p3, hp3, a3, q3, us3, t3, rfl, mp1, mp2, hwp⟩ := hov.at hv3
                  exact ⟨a3, _, _, rfl, ⟨a3, rfl, mp1⟩, mB _ mp1⟩
                · rintro cenv i3 v v1 v2 ys z3 l2 s13 E13 hcE hv3 hvE hJ rw3 rg3 st13
                  refine W.gen fun QB hQB => ?_
                  obtain ⟨C, hcenv⟩ := hcE
                  obtain ⟨a3, rfl, mp⟩ := hvE
                  obtain ⟨rfl, hys⟩ := hJ
                  obtain ⟨p3, hp3, a3', q3, us3, t3, e3, mp1, mp2, hwp⟩ := hov.at hv3
                  cases e3
                  have mB3 : ∀ x ∈ z ++ l, x ∈ z3 ++ B2 := fun x hx => List.mem_append_right _ (mB x hx)
                  have e4 := st13.fun (mB3 _ mp) (mB3 _ mp1)
                  have e5 : v1 = .ref q3 ∧ v2 = .int p3.2 t3 := by
                    have := congrArg Obj.data e4
                    simp at this
                    exact this
                  obtain ⟨rfl, rfl⟩ := e5
                  have hpok := hokm.2 p3 (List.mem_of_getElem? hp3)
                  have hco : cenv.cells.lookup ("off" : Str) = some (L' + 3) := by
                    rw [hcenv]
                    show List.lookup _ (cellsFrom _ _ (match env1.cells.lookup ("flag" : Str) with | some c => (match env1.cells.lookup ("off" : Str) with | some d => [(("off" : Str), d), (("flag" : Str), c)] | none => [(("flag" : Str), c)]) | none => (match env1.cells.lookup ("off" : Str) with | some d => [(("off" : Str), d)] | none => []))) = _
                    rw [lk2, lk3]; rfl
                  have hcf : cenv.cells.lookup ("flag" : Str) = some (L' + 2) := by
                    rw [hcenv]
                    show List.lookup _ (cellsFrom _ _ (match env1.cells.lookup ("flag" : Str) with | some c => (match env1.cells.lookup ("off" : Str) with | some d => [(("off" : Str), d), (("flag" : Str), c)] | none => [(("flag" : Str), c)]) | none => (match env1.cells.lookup ("off" : Str) with | some d => [(("off" : Str), d)] | none => []))) = _
                    rw [lk2, lk3]; rfl
                  have roff3 : Rd prog w cenv [(L' + 3, o3')] "off" (.ref af) := by subst hcenv; exact Rd.up rfl rfl hco (.head _) hc3'
                  have rflag3 : Rd prog w cenv [(L' + 2, o2')] "flag" (.int m.2 tm) := by subst hcenv; exact Rd.up rfl rfl hcf (.head _) hc2'
                  have kl : cenv.kindOf "len" = some .globalImplicit := by rw [hcenv]; exact kind_other rfl rfl
                  have glc : Gl cenv := by rw [hcenv]; exact fn1.gl.comp rfl
                  have ho3m : ∀ x ∈ [(L' + 3, o3')], x ∈ z3 ++ B2 := fun x hx => by rw [List.mem_singleton] at hx; subst hx; rw [hB2]; exact List.mem_append_right _ (.tail _ (List.mem_append_left _ mo3))
                  have ho2m : ∀ x ∈ [(L' + 2, o2')], x ∈ z3 ++ B2 := fun x hx => by rw [List.mem_singleton] at hx; subst hx; rw [hB2]; exact List.mem_append_right _ (.tail _ (List.mem_append_right _ (.head _)))
                  have hs3 : us3.length ≤ sizeLine := by rw [hwp.length, hsl]; have := hpok.2.2; omega
                  have hsf : usf.length ≤ sizeLine := by rw [hwf.length, hsl]; have := hof.len; omega
                  have mf1' : (af, tupO [.int cf.1 tf1, .ref qf, .int cf.2.2 tf2]) ∈ z3 ++ B2 := mB3 _ (List.mem_append_right _ mf1)
                  have mf2' : (qf, tupO usf) ∈ z3 ++ B2 := mB3 _ (List.mem_append_right _ mf2)
                  have e2 : σ.2.take (i3 + 1) = σ.2.take i3 ++ [p3] := by rw [List.take_add_one, hp3]; rfl
                  have hno3 : ((p3.2 == m.2) && decide ((p3.1.length : Int) < cf.2.1.length) && decide (cf.2.1.take p3.1.length = p3.1)) = false → Vs (fun v x => ∃ q xs, v = .ref q ∧ (q, tupO xs) ∈ z ++ l ∧ WayV xs x) ys ((hidC (σ.2.take (i3 + 1)) cf.2.1 m.2).map (·.1)) := by
                    intro hb
                    rw [e2]; unfold hidC
                    rw [List.filter_append, List.filter_cons_of_neg (by rw [hb]; decide), List.filter_nil, List.append_nil]
                    exact hys
                  have hyes3 : ((p3.2 == m.2) && decide ((p3.1.length : Int) < cf.2.1.length) && decide (cf.2.1.take p3.1.length = p3.1)) = true → Vs (fun v x => ∃ q xs, v = .ref q ∧ (q, tupO xs) ∈ z ++ l ∧ WayV xs x) (ys ++ [.ref q3]) ((hidC (σ.2.take (i3 + 1)) cf.2.1 m.2).map (·.1)) := by
                    intro hb
                    rw [e2]; unfold hidC
                    rw [List.filter_append, List.filter_cons_of_pos (by exact hb), List.filter_nil, List.map_append]
                    exact Vs.append hys (.cons ⟨q3, us3, rfl, mp2, hwp⟩ .nil)
                  refine w_tests1 (w_isAnd (w_all (w_testcmp (w_rd rg3 st13 (fun x hx => List.mem_append_left _ hx) (w_rd rflag3 st13 ho2m (w_eq (w_tbool ?_)))))))
                  by_cases hg : (p3.2 == m.2) = true
                  · refine ite_t (hg) ?_
                    refine w_all (w_testcmp (w_lenR glc cx1 kl (by k_is) rw3 st13 (fun x hx => List.mem_append_left _ hx) (mB3 _ mp2) hs3 fun tq s14 st14 => ?_))
                    refine w_callE (w_cbuiltin glc cx1 st14 (by k_is) boot_len (by decide) kl (by decide) (w_cwBuiltin (w_args (w_itemR roff3 st14 ho3m mf1' (by decide) (by decide) rfl rfl fun s15 st15 => (w_args0 (w_lentup st15 mf2' hsf fun ts s16 st16 => w_lt (w_tbool ?_)))))))
                    rw [hwp.length, hwf.length]
                    by_cases hlt : ((p3.1.length : Int) < cf.2.1.length)
                    · refine ite_t (decide_eq_true hlt) ?_
                      refine w_all (w_testcmp (w_subslice (w_itemR roff3 st16 ho3m mf1' (by decide) (by decide) rfl rfl fun s17 st17 => ?_)))
                      refine wpart_0 (wpart_e (w_lenR glc cx1 kl (by k_is) rw3 st17 (fun x hx => List.mem_append_left _ hx) (mB3 _ mp2) hs3 fun tq3 s18 st18 => ?_))
                      refine w_slice_tup st18 mf2' .none (.int _ _) hsf fun z4 as s19 st19 has => ?_
                      have has := has _ mf2'
                      rw [hwp.length, sl_to] at has
                      refine w_rd rw3 st19 (fun x hx => List.mem_append_right _ (List.mem_append_left _ hx)) ?_
                      refine w_eqway st19 has (List.mem_append_right _ (mB3 _ mp2)) (hwf.take _) hwp (okw_menu fun x hx => hof.menu x (List.mem_of_mem_take hx)) (okw_menu hpok.2.1) (by omega) (w_tbool ?_)
                      by_cases he3 : cf.2.1.take p3.1.length = p3.1
                      · refine ite_t (decide_eq_true he3) ?_
                        refine w_all0 (hQB _ _ ?_)
                        refine ite_t rfl ?_
                        refine w_rd rw3 st19.dropL (fun x hx => List.mem_append_left _ hx) ?_
                        exact ⟨_, st19.dropL, rfl, hyes3 (by rw [hg, decide_eq_true hlt, decide_eq_true he3]; rfl)⟩
                      · refine ite_f (decide_eq_false he3) (hQB _ _ (ite_f rfl ?_))
                        exact ⟨_, st19.dropL, rfl, hno3 (by rw [decide_eq_false he3, Bool.and_false])⟩
                    · refine ite_f (decide_eq_false hlt) (hQB _ _ (ite_f rfl ?_))
                      exact ⟨_, st16, rfl, hno3 (by rw [decide_eq_false hlt, Bool.and_false, Bool.false_and])⟩
                  · have hg : (p3.2 == m.2) = false := by simpa using hg
                    refine ite_f (hg) (hQB _ _ (ite_f rfl ?_))
                    exact ⟨_, st13, rfl, hno3 (by rw [hg, Bool.false_and, Bool.false_and])⟩
                · rintro ys k D C oC mN l2 s13 ⟨rfl, hys⟩ hle hN st13
                  rw [hov.length, List.take_length] at hys
                  refine RRn_done st13 hN fun s14 st14 => ?_
                  refine w_listE (w_args0 (w_list st14 fun nb s15 st15 => ?_))
                  refine w_nenil (ways := (hidC σ.2 cf.2.1 m.2).map (·.1)) st15 (.tail _ (.head _)) (.head _) (fun i v hv => by
                    obtain ⟨x, hx, q, xs, e, hq, hw⟩ := hys.at hv
                    exact ⟨x, hx, q, xs, e, .tail _ (.tail _ (mB _ hq)), hw⟩) hys.length (fun x hx => by
                    obtain ⟨p, hp, rfl⟩ := List.mem_map.mp hx
                    exact okw_menu (hokm.2 p (List.mem_filter.mp hp).1).2.1) (by omega) ⟨_, _, st15.drop.drop, Nat.le_of_ble_eq_true rfl, fun s16 st16 => ?_⟩
                  have mf1' : (af, tupO [.int cf.1 tf1, .ref qf, .int cf.2.2 tf2]) ∈ B2 := mB _ (List.mem_append_right _ mf1)
                  have mf2' : (qf, tupO usf) ∈ B2 := mB _ (List.mem_append_right _ mf2)
                  have mm2' : (qm, tupO usm) ∈ B2 := by rw [hB2]; exact mZ _ _ _ mm2
                  have ho3m : ∀ x ∈ [(L' + 3, o3')], x ∈ B2 := fun x hx => by rw [List.mem_singleton] at hx; subst hx; rw [hB2]; exact .tail _ (List.mem_append_left _ mo3)
                  have ho1m : ∀ x ∈ [(L' + 1, o1')], x ∈ B2 := fun x hx => by rw [List.mem_singleton] at hx; subst hx; rw [hB2]; exact .tail _ (List.mem_append_right _ (.tail _ (.head _)))
                  have hsf : usf.length ≤ sizeLine := by rw [hwf.length, hsl]; have := hof.len; omega
                  have hsm : usm.length ≤ sizeLine := by rw [hwm.length, hsl]; have := hmok.2.2; omega
                  have hiso : (!((hidC σ.2 cf.2.1 m.2).map (·.1)).isEmpty) = !(hidC σ.2 cf.2.1 m.2).isEmpty := by cases hidC σ.2 cf.2.1 m.2 <;> rfl
                  rw [hiso] at st16
                  have ej : (marksOf σ.1 cn).take (j + 1) = (marksOf σ.1 cn).take j ++ [m] := by rw [List.take_add_one, hmj]; rfl
                  refine w_cons (w_if (w_isAnd (w_all (w_testcmp (w_itemR roff st16 ho3m mf1' (by decide) (by decide) rfl rfl fun s17 st17 => (w_int st17 fun tb s18 st18 => w_eq (w_tbool ?_)))))))
                  have hnext : ∀ s19, S env1 ["ahead", "one", "other", "waits", "over", "kind", "on", "marks", "hidden"] g [some (.ref t), some (.ref a1), some (.ref a2), some (.ref aw), some (.ref ao), kx, some (.ref an), some (.ref am), some (.bool (!(hidC σ.2 cf.2.1 m.2).isEmpty))] B2 s₀ s19 → ((cf.1 == 4) && decide (m.1.take cf.2.1.length = cf.2.1) && (hidC σ.2 cf.2.1 m.2).isEmpty) = false →
                      ∃ vs' l', S env1 ["ahead", "one", "other", "waits", "over", "kind", "on", "marks", "hidden"] g vs' ((I2, oI2) :: l') s₀ s19 ∧ MJ3 σ cf cn H0 Z1 t a1 a2 aw ao an am L' kx (j + 1) vs' l' := by
                    intro s19 st19 hb
                    rw [hB2] at st19
                    refine ⟨_, _, st19, .mk o2' o1' _ _ _ z9 hc2' hc1' ?_⟩
                    rw [ej, List.any_append, hnoj, Bool.false_or, List.any_cons, List.any_nil, Bool.or_false]
                    exact hb
                  by_cases h4 : (cf.1 == 4) = true
                  · refine ite_t h4 ?_
                    refine w_all (w_testcmp (w_subslice (w_rd rway st18 ho1m ?_)))
                    refine wpart_0 (wpart_e (w_callE (w_cbuiltin fn1.gl cx1 st18 (by k_is) boot_len (by decide) klen (by decide) (w_cwBuiltin (w_args ?_)))))
                    refine w_itemR roff st18 ho3m mf1' (by decide) (by decide) rfl rfl fun s19 st19 => ?_
                    refine w_args0 (w_lentup st19 mf2' hsf fun td s20 st20 => ?_)
                    refine w_slice_tup st20 mm2' .none (.int _ _) hsm fun z4 as s21 st21 has => ?_
                    have has := has _ mm2'
                    rw [hwf.length, sl_to] at has
                    refine w_itemR roff st21 (fun x hx => List.mem_append_right _ (ho3m x hx)) (List.mem_append_right _ mf1') (by decide) (by decide) rfl rfl fun s22 st22 => ?_
                    refine w_eqway st22 has (List.mem_append_right _ mf2') (hwm.take _) hwf (okw_menu fun x hx => hmok.2.1 x (List.mem_of_mem_take hx)) (okw_menu hof.menu) (by omega) (w_tbool ?_)
                    by_cases he4 : m.1.take cf.2.1.length = cf.2.1
                    · refine ite_t (decide_eq_true he4) ?_
                      refine w_all (w_not (w_plain (w_name 8 fn1 st22 rfl rfl (w_tbool ?_))))
                      cases hhid : (hidC σ.2 cf.2.1 m.2).isEmpty with
                      | true =>
                        rw [if_pos (by decide)]
                        refine w_all0 ?_
                        refine ite_t rfl ?_
                        refine w_cons (w_ret (w_bool ?_))
                        subst hLP2; subst hLP; subst hSR
                        change SRet _ _ _ _ _ _ _ _ _ _ _
                        have hsub : List.Sublist l B2 := by
                          rw [hB2, hZ1]
                          exact .cons _ ((List.Sublist.cons _ (.cons _ (((List.sublist_append_right z l).trans (List.sublist_append_right _ _)).trans (List.sublist_append_right z9 _)))).trans (List.sublist_append_right H0 _))
                        refine SRet.intro (st22.dropL.sub hsub) fun st => ?_
                        have hhit : hitC σ cf cn = true := by
                          unfold hitC
                          refine List.any_eq_true.mpr ⟨m, List.mem_of_getElem? hmj, ?_⟩
                          rw [h4, decide_eq_true he4, hhid]; rfl
                        have hmat : matC cs c1 c2 = true := by
                          rw [hfin]
                          match i, hidx with
                          | 0, hidx => cases hidx; rw [hhit]; rfl
                          | 1, hidx => cases hidx; rw [hhit, Bool.or_true]
                        have := h _ st
                        rw [hmat] at this
                        exact this
                      | false =>
                        rw [if_neg (by decide), if_neg Bool.false_ne_true]
                        refine w_nil (w_nil ?_)
                        obtain ⟨vs5, l5, st5, hJ5⟩ := hnext _ st22.dropL (by rw [hhid, Bool.and_false])
                        subst hLP2
                        exact ⟨vs5, l5, st5, hJ5⟩
                    · refine ite_f (decide_eq_false he4) (ite_f rfl ?_)
                      refine w_nil (w_nil ?_)
                      obtain ⟨vs5, l5, st5, hJ5⟩ := hnext _ st22.dropL (by rw [decide_eq_false he4, Bool.and_false, Bool.false_and])
                      subst hLP2
                      exact ⟨vs5, l5, st5, hJ5⟩
                  · refine ite_n h4 (ite_f rfl ?_)
                    have h4 : (cf.1 == 4) = false := by simpa using h4
                    refine w_nil (w_nil ?_)
                    obtain ⟨vs5, l5, st5, hJ5⟩ := hnext _ st18 (by rw [h4, Bool.false_and, Bool.false_and])
                    subst hLP2
                    exact ⟨vs5, l5, st5, hJ5⟩
              · intro x hx hfr
                simp only [List.mem_cons, List.not_mem_nil, or_false] at hx
                rcases hx with rfl | rfl | rfl | rfl | rfl | rfl
                · cases hfr
                · cases hfr
                · cases hfr
                · cases hfr
                · show (env1.cells.lookup ("flag" : Str)).isSome = true
                  rw [lk2]; rfl
                · show (env1.cells.lookup ("off" : Str)).isSome = true
                  rw [lk3]; rfl
            · rintro vs' l' s8 ⟨o2, o1, x2, x1, hd, z9, hc2, hc1, hnoj⟩ st9
              refine w_nil ?_
              rw [hum.length, List.take_length] at hnoj
              have hnoj : hitC σ cf cn = false := hnoj
              rw [hH0, hZ1, ← List.append_assoc z9 (zm ++ zz) (z ++ l)] at st9
              have ei : ([(c1, c2), (c2, c1)] : List (Cl × Cl)).take (i + 1) = ([(c1, c2), (c2, c1)] : List (Cl × Cl)).take i ++ [(cf, cn)] := by rw [List.take_add_one, hidx]; rfl
              subst hLP
              refine ⟨_, _, st9, .mk o3' o2 o1 _ x2 x1 _ _ hd (z9 ++ (zm ++ zz)) hc3' hc2 hc1 ?_⟩
              rw [ei, List.any_append, hno, Bool.false_or, List.any_cons, List.any_nil, Bool.or_false]
              exact hnoj
        · rintro vs' l' s' ⟨o3, o2, o1, x3, x2, x1, on, mk, hd, zz, hc3, hc2, hc1, hno⟩ st'
          refine w_cons (w_ret (w_bool ?_))
          subst hSR
          change SRet _ _ _ _ _ _ _ _ _ _ _
          have hno : (hitC σ c1 c2 || (hitC σ c2 c1 || false)) = false := hno
          have hmat : matC cs c1 c2 = false := by rw [hfin]; rw [Bool.or_false] at hno; exact hno
          refine SRet.intro (st'.sub (.cons _ (.cons _ (.cons _ (.cons _ (.cons _ (.cons _ (.cons _ (.cons _ ((List.sublist_append_right z l).trans (List.sublist_append_right zz _))))))))))) fun st => ?_
          have := h _ st
          rw [hmat] at this
          exact this
end
end Mine
end
section
open PySem PySem.W PySem.Calls PyProof.Rows PySem.Spec
set_option maxRecDepth 100000
namespace Mine
noncomputable def rowD (b : List Bool) : PyData := .list (b.map .bool)
noncomputable def rowsD (bs : List (List Bool)) : PyData := .list (bs.map rowD)
theorem eqvAll_bools : ∀ a b : List Bool, PyData.eqvAll (a.map .bool) (b.map .bool) = decide (a = b)
  | [], [] => by simp [PyData.eqvAll]
  | [], _ :: _ => by simp [PyData.eqvAll]
  | _ :: _, [] => by simp [PyData.eqvAll]
  | x :: a, y :: b => by
    simp only [List.map_cons, PyData.eqvAll, PyData.eqv, eqvAll_bools a b, List.cons.injEq]
    by_cases h : x = y <;> simp [h]
theorem eqv_row (a b : List Bool) : PyData.eqv (rowD a) (rowD b) = decide (a = b) := by
  unfold rowD
  rw [PyData.eqv, eqvAll_bools]
theorem eqvAll_rows : ∀ a b : List (List Bool), PyData.eqvAll (a.map rowD) (b.map rowD) = decide (a = b)
  | [], [] => by simp [PyData.eqvAll]
  | [], _ :: _ => by simp [PyData.eqvAll]
  | _ :: _, [] => by simp [PyData.eqvAll]
  | x :: a, y :: b => by
    simp only [List.map_cons, PyData.eqvAll, eqv_row, eqvAll_rows a b, List.cons.injEq]
    by_cases h : x = y <;> simp [h]
theorem eqv_rows (a b : List (List Bool)) : PyData.eqv (rowsD a) (rowsD b) = decide (a = b) := by
  unfold rowsD
  rw [PyData.eqv, eqvAll_rows]
theorem canLay_bools : ∀ b : List Bool, PyData.canLayAll0 (b.map .bool) = true
  | [] => rfl
  | k :: b => by simp only [List.map_cons, PyData.canLayAll0, PyData.canLay0, canLay_bools b, Bool.and_self]
theorem canLay_rows : ∀ b : List (List Bool), PyData.canLayAll0 (b.map rowD) = true
  | [] => rfl
  | k :: b => by simp only [List.map_cons, PyData.canLayAll0, rowD, PyData.canLay0, canLay_bools, canLay_rows b, Bool.and_self]
theorem depth_bools : ∀ b : List Bool, PyData.depthAll (b.map .bool) = 0
  | [] => rfl
  | k :: b => by simp only [List.map_cons, PyData.depthAll, PyData.depth, depth_bools b]; rfl
theorem depth_rows : ∀ b : List (List Bool), PyData.depthAll (b.map rowD) ≤ 1
  | [] => Nat.zero_le _
  | k :: b => by
    have := depth_rows b
    simp only [List.map_cons, PyData.depthAll, rowD, PyData.depth, depth_bools] at this ⊢
    omega
theorem reads_bools {h : Heap} : ∀ b : List Bool, ReadsAll h (b.map Value.bool) (b.map .bool) []
  | [] => .nil
  | k :: b => ReadsAll.cons (as := []) (bs := []) (.bool _) (reads_bools b)
theorem reads_rows {l : Lg} {h : Heap} (hh : ∀ a o, (a, o) ∈ l → h.get? a = some o) : ∀ {us : List Value} {bs : List (List Bool)}, Vs (TB l) us bs → ∃ as, ReadsAll h us (bs.map rowD) as := by
  intro us bs r
  induction r with
  | nil => exact ⟨_, .nil⟩
  | cons h1 _ ih =>
    obtain ⟨as, ih⟩ := ih
    obtain ⟨a, n, rfl, hm⟩ := h1
    exact ⟨_, .cons (.list (hh _ _ hm) rfl rfl (reads_bools _)) ih⟩
section
variable {prog : Program} {w : World} {A : Around} {E : Value → Shared → Prop} {env env2 : Env} {ns : List Str} {h₀ : Heap} {vs : List (Option Value)} {l : Lg} {s₀ s : Shared}

theorem w_netold {a b D1 D2 D3 D4 : Addr} {ys1 ys2 ys3 ys4 : List Value} {k1 k2 k3 k4 : Nat} {t1 t2 : List (List Bool) × List (List Bool)} {Q : Value → Shared → Prop} (st : S env ns h₀ vs l s₀ s)
    (ha : (a, tupO [.ref D1, .ref D2]) ∈ l) (hb : (b, tupO [.ref D3, .ref D4]) ∈ l) (h1 : (D1, listO ys1 k1) ∈ l) (h2 : (D2, listO ys2 k2) ∈ l) (h3 : (D3, listO ys3 k3) ∈ l) (h4 : (D4, listO ys4 k4) ∈ l)
    (r1 : Vs (TB l) ys1 t1.1) (r2 : Vs (TB l) ys2 t1.2) (r3 : Vs (TB l) ys3 t2.1) (r4 : Vs (TB l) ys4 t2.2) (hu : A.units + 64 < cLine)
    (h : Q (.bool (!decide (t1 = t2))) s) : W (model prog w) A (compareOp .NotEq (.ref a) (.ref b)) Q E s := by
  have hh : ∀ a o, (a, o) ∈ l → s.heap.get? a = some o := fun a o hm => st.at hm
  obtain ⟨x1, e1⟩ := reads_rows hh r1
  obtain ⟨x2, e2⟩ := reads_rows hh r2
  obtain ⟨x3, e3⟩ := reads_rows hh r3
  obtain ⟨x4, e4⟩ := reads_rows hh r4
  have q1 : Reads s.heap (.ref a) (.tuple [rowsD t1.1, rowsD t1.2]) _ := .tuple (st.at ha) rfl rfl (.cons (.list (st.at h1) rfl rfl e1) (.cons (.list (st.at h2) rfl rfl e2) .nil))
  have q2 : Reads s.heap (.ref b) (.tuple [rowsD t2.1, rowsD t2.2]) _ := .tuple (st.at hb) rfl rfl (.cons (.list (st.at h3) rfl rfl e3) (.cons (.list (st.at h4) rfl rfl e4) .nil))
  have hsh : ∀ t : List (List Bool) × List (List Bool), SeqAt.shaped (.tuple [rowsD t.1, rowsD t.2]) = true := by
    intro t
    have d1 := depth_rows t.1
    have d2 := depth_rows t.2
    unfold SeqAt.shaped
    simp only [PyData.canLay0, PyData.canLayAll0, rowsD, canLay_rows, PyData.depth, PyData.depthAll, Bool.true_and, Bool.and_true]
    exact decide_eq_true (by omega)
  refine .mk (SeqAt.compareNe_shaped q1 q2 (hsh t1) (hsh t2) hu ?_)
  have e : PyData.eqv (.tuple [rowsD t1.1, rowsD t1.2]) (.tuple [rowsD t2.1, rowsD t2.2]) = decide (t1 = t2) := by
    obtain ⟨a1, a2⟩ := t1
    obtain ⟨b1, b2⟩ := t2
    simp only [PyData.eqv, PyData.eqvAll, eqv_rows, Bool.and_true, Prod.mk.injEq]
    by_cases h : a1 = b1 <;> by_cases h2 : a2 = b2 <;> simp [h, h2]
  rw [e]
  exact h
theorem w_isnot_bool {a b : Bool} {Q : Value → Shared → Prop} (h : Q (.bool (!(a == b))) s) : W (model prog w) A (compareOp .IsNot (.bool a) (.bool b)) Q E s :=
  .mk (wpAny_isNot_plain rfl (by
    have : ((Value.bool a == Value.bool b) : Bool) = (a == b) := by cases a <;> cases b <;> rfl
    rw [this]; exact h))
theorem w_slice_list {value : Expr} {lower upper : Option Expr} {p : Pos} {t : Addr} {us : List Value} {n k : Nat} {x : Value} {Q : Value → Shared → Prop} (st : S env ns h₀ vs l s₀ s) (hm : (t, listO us n) ∈ l) (hx : IsPart x (some (k : Int))) (hk : k ≤ us.length) (hz : us.length ≤ sizeLine)
    (h : ∀ a s', S env ns h₀ vs ((a, listO (us.take k) 0) :: l) s₀ s' → Q (.ref a) s')
    (ht : ∀ r, letTemporaryGo value (.ref t) r = pure () := by intro _; with_unfolding_all rfl) :
    W (model prog w) A (subscriptTail value (.Slice lower upper none p) (.ref t) (.ref s.heap.objs.size)) Q E { s with heap := s.heap.push { cls := .type "slice", data := .fields #[.none, x, .none] } } := by
  refine .mk (slice_list st.fr st.nw (st.list hm) .none hx (fun h' F N => ?_) rfl ht (by simpa using hz))
  have e : slicePick us.toArray none (some (k : Int)) none = (us.take k).toArray := by rw [slicePick_upto _ _ (by simpa using hk)]
  rw [e] at N
  refine h _ _ (st.toH F N (List.nodup_cons.mpr ⟨fun q => ?_, st.nd⟩))
  obtain ⟨p, hp, e⟩ := List.mem_map.mp q
  have h1 := Heap.lt_size (st.nw p hp).1
  have e : p.1 = s.heap.objs.size + 1 := e
  have h1 : p.1 < s.heap.objs.size := h1
  have := e ▸ h1
  exact absurd this (Nat.not_lt.mpr (Nat.le_succ _))
end
end Mine
end
section
open PySem PySem.W PySem.Calls PyProof.Rows
set_option maxRecDepth 100000
namespace Mine
theorem nmOf_menu (r : Int) : nmOf r ∈ LM := by
  unfold nmOf
  split <;> simp [LM]
theorem wayN_menu (r : Int) : ∀ n, ∀ z ∈ wayN r n, z ∈ LM
  | 0, z, h => by cases h
  | n + 1, z, h => by
    unfold wayN at h
    rcases List.mem_append.mp h with h | h
    · exact wayN_menu r n z h
    · rw [List.mem_singleton] at h; subst h; exact nmOf_menu _
theorem callOf_ok (x : Int) : OkC (callOf x) := by
  have h3 := And.intro (Int.fmod_nonneg_of_pos (x.fdiv 10) (show (0 : Int) < 3 by decide)) (Int.fmod_lt_of_pos (x.fdiv 10) (show (0 : Int) < 3 by decide))
  have h2 := And.intro (Int.fmod_nonneg_of_pos (x.fdiv 5) (show (0 : Int) < 2 by decide)) (Int.fmod_lt_of_pos (x.fdiv 5) (show (0 : Int) < 2 by decide))
  have h5 := And.intro (Int.fmod_nonneg_of_pos x (show (0 : Int) < 5 by decide)) (Int.fmod_lt_of_pos x (show (0 : Int) < 5 by decide))
  refine ⟨?_, ?_, ?_, ?_, ?_⟩
  · show (x.fdiv 5).fmod 2 = 0 ∨ (x.fdiv 5).fmod 2 = 1
    omega
  · intro e
    have := congrArg List.length e
    unfold callOf at this
    rw [wayN_len] at this
    simp at this
    omega
  · exact wayN_menu _ _
  · show (wayN _ _).length ≤ 3
    rw [wayN_len]
    omega
  · exact h5
end Mine
end
section
set_option genInjectivity true
open PySem PySem.W PySem.Calls PyProof.Rows
set_option maxRecDepth 100000
namespace Mine
noncomputable def dp (τ : AbsT) (v : Way) (f : Int) : Bool := match τ v with | none => false | some x => x.2 f
noncomputable def ft (τ : AbsT) (v : Way) (f : Int) : Bool := match τ v with | none => false | some x => x.1 f
noncomputable def Closed (τ : AbsT) : Prop := ∀ (v : Way) (k : Str), v ≠ [] → τ v = none → τ (v ++ [k]) = none
theorem Closed.below {τ : AbsT} (h : Closed τ) : ∀ (x v : Way), v ≠ [] → τ v = none → τ (v ++ x) = none := by
  intro x
  induction x with
  | nil => intro v hv h0; simpa using h0
  | cons k x ih =>
    intro v hv h0
    have := ih (v ++ [k]) (by simp) (h v k hv h0)
    simpa using this
theorem isGo_iff {τ : AbsT} (hc : Closed τ) (f : Int) : ∀ (xs pre : Way), isGo τ pre xs f = true ↔ (∃ u, u ≠ [] ∧ u <+: xs ∧ dp τ (pre ++ u) f = true) ∨ (xs ≠ [] ∧ ft τ (pre ++ xs) f = true)
  | [], pre => by
    simp only [isGo, Bool.false_eq_true, false_iff, not_or, not_exists, not_and]
    exact ⟨fun u h1 h2 => absurd (List.prefix_nil.mp h2) h1, fun h => absurd rfl h⟩
  | [k], pre => by
    unfold isGo
    have hu : ∀ u : Way, u ≠ [] ∧ u <+: [k] ∧ dp τ (pre ++ u) f = true ↔ u = [k] ∧ dp τ (pre ++ [k]) f = true := by
      intro u
      constructor
      · rintro ⟨h1, h2, h3⟩
        have : u = [k] := by
          obtain ⟨t, ht⟩ := h2
          cases u with
          | nil => exact absurd rfl h1
          | cons a u => simp at ht; obtain ⟨rfl, h, _⟩ := ht; rw [h]
        exact ⟨this, this ▸ h3⟩
      · rintro ⟨rfl, h⟩
        exact ⟨by simp, List.prefix_refl _, h⟩
    simp only [hu, exists_eq_left]
    unfold dp ft
    cases τ (pre ++ [k]) with
    | none => simp
    | some x => obtain ⟨X, Y⟩ := x; simp [Bool.or_eq_true, or_comm]
  | k :: k' :: r, pre => by
    unfold isGo
    have ih := isGo_iff hc f (k' :: r) (pre ++ [k])
    cases e : τ (pre ++ [k]) with
    | none =>
      have hb : ∀ x : Way, τ (pre ++ k :: x) = none := fun x => by
        have := hc.below x (pre ++ [k]) (by simp) e
        simpa using this
      simp only [Bool.false_eq_true, false_iff, not_or, not_exists, not_and]
      constructor
      · intro u h1 h2
        obtain ⟨t, ht⟩ := h2
        cases u with
        | nil => exact absurd rfl h1
        | cons a u =>
          simp at ht
          obtain ⟨rfl, _⟩ := ht
          simp [dp, hb]
      · intro _
        simp [ft, hb]
    | some x =>
      obtain ⟨X, Y⟩ := x
      simp only
      by_cases hY : Y f = true
      · rw [if_pos hY]
        simp only [true_iff]
        refine .inl ⟨[k], by simp, ⟨k' :: r, rfl⟩, ?_⟩
        unfold dp; rw [e]; exact hY
      · rw [if_neg hY, ih]
        constructor
        · rintro (⟨u, h1, h2, h3⟩ | ⟨h1, h2⟩)
          · refine .inl ⟨k :: u, by simp, ?_, by simpa using h3⟩
            obtain ⟨t, ht⟩ := h2
            exact ⟨t, by simp [ht]⟩
          · exact .inr ⟨by simp, by simpa using h2⟩
        · rintro (⟨u, h1, h2, h3⟩ | ⟨h1, h2⟩)
          · obtain ⟨t, ht⟩ := h2
            cases u with
            | nil => exact absurd rfl h1
            | cons a u =>
              simp at ht
              obtain ⟨rfl, ht⟩ := ht
              cases u with
              | nil =>
                unfold dp at h3
                rw [e] at h3
                exact absurd h3 hY
              | cons b u => exact .inl ⟨b :: u, by simp, ⟨t, ht⟩, by simpa using h3⟩
          · exact .inr ⟨by simp, by simpa using h2⟩
theorem isW_iff {τ : AbsT} (hc : Closed τ) (w : Way) (f : Int) : isW τ w f = true ↔ (∃ u, u ≠ [] ∧ u <+: w ∧ dp τ u f = true) ∨ (w ≠ [] ∧ ft τ w f = true) := by
  have := isGo_iff hc f w []
  simpa [isW] using this
theorem Closed.nil : Closed (fun _ => none) := fun _ _ _ _ => rfl
theorem Closed.cut {τ : AbsT} (h : Closed τ) (v : Way) : Closed (cutT τ v) := by
  intro u k hu e
  unfold cutT at e ⊢
  by_cases h1 : v.isPrefixOf u = true
  · have : v.isPrefixOf (u ++ [k]) = true := pre_iff.mpr ((pre_iff.mp h1).trans (List.prefix_append _ _))
    rw [if_pos this]
  · rw [if_neg h1] at e
    rw [h u k hu e]
    split <;> rfl
theorem Closed.set {τ : AbsT} (h : Closed τ) {v : Way} (hv : v ≠ []) (f : Int) (r : Bool) : Closed (setT τ v f r) := by
  intro u k hu e
  rw [setT_eq _ hv] at e ⊢
  simp only [opAt] at e ⊢
  by_cases h1 : u = v
  · rw [if_pos h1] at e; cases e
  · rw [if_neg h1] at e
    by_cases h2 : u ≠ [] ∧ u <+: v
    · rw [if_pos h2] at e; cases e
    · rw [if_neg h2] at e
      have h3 : ¬ u ++ [k] <+: v := fun q => h2 ⟨hu, (List.prefix_append _ _).trans q⟩
      rw [if_neg (fun q : u ++ [k] = v => h3 (by rw [q]; exact List.prefix_refl _)), if_neg (fun q => h3 q.2)]
      exact h u k hu e
theorem Closed.fin {τ : AbsT} (h : Closed τ) : ∀ {qs : List Pr}, (∀ x ∈ qs, x.1 ≠ []) → Closed (finT τ qs) := by
  intro qs
  induction qs generalizing τ with
  | nil => intro _; exact h
  | cons q qs ih => intro hq; exact ih (h.set (hq q (.head _)) _ _) fun x hx => hq x (.tail _ hx)
theorem dp_set (τ : AbsT) {v : Way} (hv : v ≠ []) (f : Int) (r : Bool) (u : Way) (g : Int) : dp (setT τ v f r) u g = (dp τ u g || (r && decide (u = v) && decide (g = f))) := by
  rw [setT_eq _ hv]
  unfold dp
  simp only [opAt, addR, addF, e0]
  cases r <;> cases hx : τ u <;> by_cases h1 : u = v <;> by_cases h2 : u <+: v <;> by_cases h3 : u = [] <;> simp [h1, h2, h3, hv, addF]
theorem ft_set (τ : AbsT) {v : Way} (hv : v ≠ []) (f : Int) (r : Bool) (u : Way) (g : Int) : ft (setT τ v f r) u g = (ft τ u g || (!r && decide (u = v) && decide (g = f))) := by
  rw [setT_eq _ hv]
  unfold ft
  simp only [opAt, addR, addF, e0]
  cases r <;> cases hx : τ u <;> by_cases h1 : u = v <;> by_cases h2 : u <+: v <;> by_cases h3 : u = [] <;> simp [h1, h2, h3, hv, addF]
theorem dp_cut (τ : AbsT) (v u : Way) (g : Int) : dp (cutT τ v) u g = (dp τ u g && !v.isPrefixOf u) := by
  unfold dp cutT
  cases v.isPrefixOf u <;> simp
theorem ft_cut (τ : AbsT) (v u : Way) (g : Int) : ft (cutT τ v) u g = (ft τ u g && !v.isPrefixOf u) := by
  unfold ft cutT
  cases v.isPrefixOf u <;> simp
theorem dp_fin : ∀ {qs : List Pr} (τ : AbsT), (∀ x ∈ qs, x.1 ≠ []) → ∀ (u : Way) (g : Int), dp (finT τ qs) u g = dp τ u g := by
  intro qs
  induction qs with
  | nil => intro τ _ u g; rfl
  | cons q qs ih =>
    intro τ hq u g
    have e : finT τ (q :: qs) = finT (setT τ q.1 q.2 false) qs := rfl
    rw [e, ih _ (fun x hx => hq x (.tail _ hx)), dp_set _ (hq q (.head _))]
    simp
theorem ft_fin : ∀ {qs : List Pr} (τ : AbsT), (∀ x ∈ qs, x.1 ≠ []) → ∀ (u : Way) (g : Int), ft (finT τ qs) u g = (ft τ u g || decide ((u, g) ∈ qs)) := by
  intro qs
  induction qs with
  | nil => intro τ _ u g; simp [finT]
  | cons q qs ih =>
    intro τ hq u g
    have e : finT τ (q :: qs) = finT (setT τ q.1 q.2 false) qs := rfl
    rw [e, ih _ (fun x hx => hq x (.tail _ hx)), ft_set _ (hq q (.head _))]
    obtain ⟨q1, q2⟩ := q
    by_cases h : (u, g) ∈ qs <;> simp [h, List.mem_cons, Prod.ext_iff]

structure Ab where
  D : Way → Int → Prop
  T : Way → Int → Prop
  P : Pr → Prop
noncomputable def stepA (σ : Ab) (c : Cl) : Ab :=
  if c.1 = 0 then ⟨σ.D, fun u g => σ.T u g ∨ (u = c.2.1 ∧ g = c.2.2), σ.P⟩
  else if c.1 = 1 then ⟨fun u g => σ.D u g ∨ (u = c.2.1 ∧ g = c.2.2), σ.T, σ.P⟩
  else if c.1 = 2 then ⟨σ.D, σ.T, fun x => σ.P x ∨ x = c.2⟩
  else if c.1 = 3 then ⟨σ.D, fun u g => σ.T u g ∨ σ.P (u, g), fun _ => False⟩
  else ⟨fun u g => σ.D u g ∧ ¬ c.2.1 <+: u, fun u g => σ.T u g ∧ ¬ c.2.1 <+: u, σ.P⟩
noncomputable def ab (σ : St2) : Ab := ⟨fun u g => dp σ.1 u g = true, fun u g => ft σ.1 u g = true, fun x => x ∈ σ.2⟩
structure Fine (σ : St2) : Prop where
  cl : Closed σ.1
  ne : ∀ p ∈ σ.2, p.1 ≠ []
  hd : ∀ u, σ.1 u ≠ none → ∃ k ∈ LM, [k] <+: u
theorem Fine.nil : Fine st0 := ⟨Closed.nil, (by intro p h; exact absurd h List.not_mem_nil), (by intro u h; exact absurd rfl h)⟩
theorem hd_set {τ : AbsT} (h : ∀ u, τ u ≠ none → ∃ k ∈ LM, [k] <+: u) {v : Way} (hv : v ≠ []) (hm : ∀ z ∈ v, z ∈ LM) (f : Int) (r : Bool) : ∀ u, setT τ v f r u ≠ none → ∃ k ∈ LM, [k] <+: u := by
  intro u hu
  rw [setT_eq _ hv] at hu
  simp only [opAt] at hu
  have key : u ≠ [] → u <+: v → ∃ k ∈ LM, [k] <+: u := by
    intro h1 h2
    cases u with
    | nil => exact absurd rfl h1
    | cons k u => exact ⟨k, hm k (h2.subset (.head _)), ⟨u, rfl⟩⟩
  by_cases h1 : u = v
  · exact key (h1 ▸ hv) (h1 ▸ List.prefix_refl _)
  · rw [if_neg h1] at hu
    by_cases h2 : u ≠ [] ∧ u <+: v
    · exact key h2.1 h2.2
    · rw [if_neg h2] at hu
      exact h u hu
theorem Fine.step {σ : St2} {c : Cl} (h : Fine σ) (hc : OkC c) (hps : ∀ p ∈ σ.2, ∀ z ∈ p.1, z ∈ LM) : Fine (stepC σ c) := by
  unfold stepC
  split
  · exact ⟨h.cl.set hc.ne _ _, h.ne, hd_set h.hd hc.ne hc.menu _ _⟩
  · split
    · refine ⟨h.cl, fun p hp => ?_, h.hd⟩
      rcases addP_mem hp with hp | rfl
      · exact h.ne p hp
      · exact hc.ne
    · split
      · refine ⟨h.cl.fin h.ne, (by intro p hp; exact absurd hp List.not_mem_nil), ?_⟩
        have : ∀ (qs : List Pr) (τ : AbsT), (∀ x ∈ qs, x.1 ≠ [] ∧ ∀ z ∈ x.1, z ∈ LM) → (∀ u, τ u ≠ none → ∃ k ∈ LM, [k] <+: u) → ∀ u, finT τ qs u ≠ none → ∃ k ∈ LM, [k] <+: u := by
          intro qs
          induction qs with
          | nil => intro τ _ h; exact h
          | cons q qs ih => intro τ hq h; exact ih _ (fun x hx => hq x (.tail _ hx)) (hd_set h (hq q (.head _)).1 (hq q (.head _)).2 _ _)
        exact this _ _ (fun x hx => ⟨h.ne x hx, hps x hx⟩) h.hd
      · refine ⟨h.cl.cut _, h.ne, fun u hu => h.hd u ?_⟩
        intro e
        apply hu
        show cutT σ.1 c.2.1 u = none
        unfold cutT
        rw [e]; split <;> rfl
theorem Fine.run : ∀ (cs : List Cl) (σ : St2) (n : Nat), OkS σ n → Fine σ → (∀ c ∈ cs, OkC c) → Fine (cs.foldl stepC σ) := by
  intro cs
  induction cs with
  | nil => intro σ n _ h _; exact h
  | cons c cs ih =>
    intro σ n ho h hc
    exact ih _ _ (ho.step (hc c (.head _))) (h.step (hc c (.head _)) fun p hp => (ho.ps p hp).2.1) fun x hx => hc x (.tail _ hx)
theorem ab_step {σ : St2} {c : Cl} (h : Fine σ) (hc : OkC c) : ab (stepC σ c) = stepA (ab σ) c := by
  have hk := hc.kind
  have h5 : c.1 = 0 ∨ c.1 = 1 ∨ c.1 = 2 ∨ c.1 = 3 ∨ c.1 = 4 := by omega
  unfold ab stepC stepA
  rcases h5 with e | e | e | e | e
  · simp [e, dp_set _ hc.ne, ft_set _ hc.ne]
  · simp [e, dp_set _ hc.ne, ft_set _ hc.ne]
  · simp [e]
    funext x
    apply propext
    unfold addP
    split
    · rename_i hm
      constructor
      · exact fun h => .inl h
      · rintro (h | rfl)
        · exact h
        · exact hm
    · simp
  · simp [e, dp_fin _ h.ne, ft_fin _ h.ne]
  · have n1 : ¬ ((4 : Int) < 2) := by decide
    have n2 : ¬ ((4 : Int) = 2) := by decide
    have n3 : ¬ ((4 : Int) = 3) := by decide
    have n4 : ¬ ((4 : Int) = 0) := by decide
    have n5 : ¬ ((4 : Int) = 1) := by decide
    rw [e, if_neg n1, if_neg n2, if_neg n3, if_neg n4, if_neg n5, if_neg n2, if_neg n3]
    have hb : ∀ (b b' : Bool), (b && !b') = true ↔ (b = true ∧ ¬ b' = true) := by decide
    simp only [dp_cut, ft_cut, hb, pre_iff]
noncomputable def Itel (a : Ab) (w : Way) (f : Int) : Prop := (∃ u, u ≠ [] ∧ u <+: w ∧ a.D u f) ∨ (w ≠ [] ∧ a.T w f)
theorem cut3_none {σ : St2} (h : Fine σ) : cut3 σ.1 = fun _ => none := by
  funext u
  unfold cut3 cutT
  cases e : σ.1 u with
  | none => simp
  | some x =>
    obtain ⟨k, hk, hp⟩ := h.hd u (by rw [e]; exact fun q => by cases q)
    have hp := pre_iff.mpr hp
    simp only [LM, List.mem_cons, List.not_mem_nil, or_false] at hk
    rcases hk with rfl | rfl | rfl <;> simp [hp]
theorem told1 {σ : St2} (h : Fine σ) (w : Way) (f : Int) : isW σ.1 w f = true ↔ Itel (ab σ) w f := isW_iff h.cl w f
theorem told2 {σ : St2} (h : Fine σ) (w : Way) (f : Int) : isW (finT (cut3 σ.1) σ.2) w f = true ↔ (ab σ).P (w, f) := by
  rw [cut3_none h, isW_iff (Closed.nil.fin h.ne)]
  simp only [dp_fin _ h.ne, ft_fin _ h.ne]
  constructor
  · rintro (⟨u, _, _, h3⟩ | ⟨_, h2⟩)
    · simp [dp] at h3
    · have : (w, f) ∈ σ.2 := by simpa [ft] using h2
      exact this
  · intro h2
    have h2 : (w, f) ∈ σ.2 := h2
    exact .inr ⟨h.ne _ h2, by simpa [ft] using h2⟩
noncomputable abbrev Told := List (List Bool) × List (List Bool)
noncomputable def toldC (ways : List Way) (σ : St2) : Told := (ways.map (rowT σ.1), ways.map (rowT (finT (cut3 σ.1) σ.2)))
theorem told_eq {ways : List Way} {σ σ' : St2} (h : Fine σ) (h' : Fine σ') : toldC ways σ = toldC ways σ' ↔ ∀ w ∈ ways, ∀ f : Int, (f = 0 ∨ f = 1) → ((Itel (ab σ) w f ↔ Itel (ab σ') w f) ∧ ((ab σ).P (w, f) ↔ (ab σ').P (w, f))) := by
  have hmap : ∀ (g g' : Way → List Bool), ways.map g = ways.map g' ↔ ∀ w ∈ ways, g w = g' w := by
    intro g g'
    exact List.map_inj_left
  have hrow : ∀ (τ τ' : AbsT) (w : Way), rowT τ w = rowT τ' w ↔ ∀ f : Int, (f = 0 ∨ f = 1) → (isW τ w f = true ↔ isW τ' w f = true) := by
    intro τ τ' w
    unfold rowT
    simp only [List.cons.injEq, and_true]
    rw [Bool.eq_iff_iff (a := isW τ w 0), Bool.eq_iff_iff (a := isW τ w 1)]
    constructor
    · rintro ⟨h0, h1⟩ f (rfl | rfl)
      · exact h0
      · exact h1
    · intro h
      exact ⟨h 0 (.inl rfl), h 1 (.inr rfl)⟩
  unfold toldC
  rw [Prod.mk.injEq, hmap, hmap]
  constructor
  · rintro ⟨h1, h2⟩ w hw f hf
    exact ⟨by rw [← told1 h, ← told1 h']; exact (hrow _ _ _).mp (h1 w hw) f hf, by rw [← told2 h, ← told2 h']; exact (hrow _ _ _).mp (h2 w hw) f hf⟩
  · intro H
    exact ⟨fun w hw => (hrow _ _ _).mpr fun f hf => by rw [told1 h, told1 h']; exact (H w hw f hf).1, fun w hw => (hrow _ _ _).mpr fun f hf => by rw [told2 h, told2 h']; exact (H w hw f hf).2⟩
end Mine
end
section
open PySem PySem.W PySem.Calls PyProof.Rows
set_option maxRecDepth 100000
namespace Mine
noncomputable def dueC (c : Cl) (w : Way) : List Bool := [(0 == c.2.2) && (decide (w = c.2.1) || (c.1 == 1 && decide (w.take c.2.1.length = c.2.1))), (1 == c.2.2) && (decide (w = c.2.1) || (c.1 == 1 && decide (w.take c.2.1.length = c.2.1)))]
noncomputable def told01 (k : Int) (t : Told) : List (List Bool) := if k = 2 then t.2 else t.1
theorem fine_one {c : Cl} (hc : OkC c) : Fine (runC [c]) := Fine.nil.step hc (by intro p hp; exact absurd hp List.not_mem_nil)
theorem due_ok {ways : List Way} {c : Cl} (hc : OkC c) (h3 : c.1 < 3) : told01 c.1 (toldC ways (runC [c])) = ways.map (dueC c) := by
  have F := fine_one hc
  have hk := hc.kind
  have ea : ab (runC [c]) = stepA (ab st0) c := ab_step Fine.nil hc
  have z1 : ∀ u g, (ab st0).D u g ↔ False := fun u g => by simp [ab, st0, dp]
  have z2 : ∀ u g, (ab st0).T u g ↔ False := fun u g => by simp [ab, st0, ft]
  have z3 : ∀ x, (ab st0).P x ↔ False := fun x => by simp [ab, st0]
  have pre : ∀ w : Way, w.take c.2.1.length = c.2.1 ↔ c.2.1 <+: w := fun w => by rw [List.prefix_iff_eq_take]; exact eq_comm
  have row : ∀ (g : Way → Int → Bool) (w : Way), (∀ f, g w f = true ↔ (f = c.2.2 ∧ (w = c.2.1 ∨ (c.1 = 1 ∧ c.2.1 <+: w)))) → [g w 0, g w 1] = dueC c w := by
    intro g w h
    unfold dueC
    have : ∀ f : Int, g w f = ((f == c.2.2) && (decide (w = c.2.1) || (c.1 == 1 && decide (w.take c.2.1.length = c.2.1)))) := by
      intro f
      rw [Bool.eq_iff_iff, h]
      simp [pre]
    rw [this, this]
  unfold told01
  have h4 : c.1 = 0 ∨ c.1 = 1 ∨ c.1 = 2 := by omega
  rcases h4 with e | e | e
  · rw [if_neg (by omega)]
    show ways.map (rowT _) = _
    refine List.map_congr_left fun w _ => row (fun w f => isW (runC [c]).1 w f) w fun f => ?_
    rw [told1 F, ea]
    unfold Itel stepA
    rw [if_pos e]
    simp only [z1, z2, false_or, and_false, exists_false, e]
    constructor
    · rintro ⟨_, h1, h2⟩; exact ⟨h2, .inl h1⟩
    · rintro ⟨h2, h1 | h1⟩
      · exact ⟨h1 ▸ hc.ne, h1, h2⟩
      · exact absurd h1.1 (by decide)
  · rw [if_neg (by omega)]
    show ways.map (rowT _) = _
    refine List.map_congr_left fun w _ => row (fun w f => isW (runC [c]).1 w f) w fun f => ?_
    rw [told1 F, ea]
    unfold Itel stepA
    rw [if_neg (by omega), if_pos e]
    simp only [z1, z2, false_or, and_false, or_false, e, true_and]
    constructor
    · rintro ⟨u, h1, h2, h3, h4⟩; exact ⟨h4, .inr (h3 ▸ h2)⟩
    · rintro ⟨h2, h1 | h1⟩
      · exact ⟨c.2.1, hc.ne, h1 ▸ List.prefix_refl _, rfl, h2⟩
      · exact ⟨c.2.1, hc.ne, h1, rfl, h2⟩
  · rw [if_pos e]
    show ways.map (rowT _) = _
    refine List.map_congr_left fun w _ => row (fun w f => isW (finT (cut3 (runC [c]).1) (runC [c]).2) w f) w fun f => ?_
    rw [told2 F, ea]
    unfold stepA
    rw [if_neg (by omega), if_neg (by omega), if_pos e]
    simp only [z3, false_or, e]
    constructor
    · intro h
      have h1 : w = c.2.1 := congrArg Prod.fst h
      have h2 : f = c.2.2 := congrArg Prod.snd h
      exact ⟨h2, .inl h1⟩
    · rintro ⟨h2, h1 | h1⟩
      · exact Prod.ext h1 h2
      · exact absurd h1.1 (by decide)
structure Tr (σ : St2) (o : List Pr × List Pr) : Prop where
  w : ∀ x, x ∈ o.1 ↔ x ∈ σ.2
  d : ∀ v f, (v, f) ∈ o.2 ↔ dp σ.1 v f = true
theorem Tr.step {σ : St2} {o : List Pr × List Pr} {c : Cl} (h : Tr σ o) (F : Fine σ) (hc : OkC c) : Tr (stepC σ c) (ovStep o c) := by
  have hk := hc.kind
  have h5 : c.1 = 0 ∨ c.1 = 1 ∨ c.1 = 2 ∨ c.1 = 3 ∨ c.1 = 4 := by omega
  unfold stepC ovStep
  rcases h5 with e | e | e | e | e
  · simp only [e]
    refine ⟨by simpa using h.w, fun v f => ?_⟩
    simp [dp_set _ hc.ne, h.d]
  · simp only [e]
    refine ⟨by simpa using h.w, fun v f => ?_⟩
    simp [dp_set _ hc.ne, h.d, Prod.ext_iff]
  · simp only [e]
    refine ⟨fun x => ?_, by simpa using h.d⟩
    simp [h.w, addP]
    split
    · rename_i hm
      constructor
      · rintro (q | rfl)
        · exact q
        · exact hm
      · exact .inl
    · simp
  · simp only [e]
    refine ⟨by simp, fun v f => ?_⟩
    simp [dp_fin _ F.ne, h.d]
  · simp only [e]
    refine ⟨by simpa using h.w, fun v f => ?_⟩
    have : (v.take c.2.1.length = c.2.1) ↔ (c.2.1.isPrefixOf v = true) := by rw [pre_iff, List.prefix_iff_eq_take]; exact eq_comm
    simp [dp_cut, h.d, this]
    intro _
    rw [← pre_iff, Bool.not_eq_true]
theorem Tr.run : ∀ (cs : List Cl) (σ : St2) (o : List Pr × List Pr) (n : Nat), OkS σ n → Fine σ → Tr σ o → (∀ c ∈ cs, OkC c) → Tr (cs.foldl stepC σ) (cs.foldl ovStep o) := by
  intro cs
  induction cs with
  | nil => intro σ o n _ _ h _; exact h
  | cons c cs ih =>
    intro σ o n ho F h hc
    exact ih _ _ _ (ho.step (hc c (.head _))) (F.step (hc c (.head _)) fun p hp => (ho.ps p hp).2.1) (h.step F (hc c (.head _))) fun x hx => hc x (.tail _ hx)
noncomputable def Hid (a : Ab) (v : Way) (f : Int) : Prop := ∃ q, q.length < v.length ∧ q <+: v ∧ a.D q f
theorem hid_iff {σ : St2} {o : List Pr × List Pr} (h : Tr σ o) (v : Way) (f : Int) : (hidC o.2 v f).isEmpty = true ↔ ¬ Hid (ab σ) v f := by
  rw [List.isEmpty_iff]
  unfold hidC Hid
  rw [List.filter_eq_nil_iff]
  simp only [Bool.and_eq_true, decide_eq_true_eq, not_and, not_exists, beq_iff_eq, Prod.forall]
  constructor
  · intro H q h1 h2 h3
    refine H q f ((h.d q f).mpr h3) ?_ ?_
    · exact ⟨rfl, by omega⟩
    · exact (List.prefix_iff_eq_take.mp h2).symm
  · rintro H q g hm ⟨rfl, h2⟩ h3
    exact H q (by omega) (List.prefix_iff_eq_take.mpr h3.symm) ((h.d q g).mp hm)
noncomputable def Diff (a b : Ab) (ways : List Way) : Prop := ∃ w ∈ ways, ∃ f : Int, (f = 0 ∨ f = 1) ∧ ¬ ((Itel a w f ↔ Itel b w f) ∧ (a.P (w, f) ↔ b.P (w, f)))
theorem told_ne {ways : List Way} {σ σ' : St2} (h : Fine σ) (h' : Fine σ') : ¬ toldC ways σ = toldC ways σ' ↔ Diff (ab σ) (ab σ') ways := by
  rw [told_eq h h']
  unfold Diff
  simp only [Classical.not_forall]
  constructor
  · rintro ⟨w, hw, f, hf, h⟩; exact ⟨w, hw, f, hf, h⟩
  · rintro ⟨w, hw, f, hf, h⟩; exact ⟨w, hw, f, hf, h⟩
theorem Diff.symm {a b : Ab} {ways : List Way} (h : Diff a b ways) : Diff b a ways := by
  obtain ⟨w, hw, f, hf, h⟩ := h
  exact ⟨w, hw, f, hf, fun q => h ⟨q.1.symm, q.2.symm⟩⟩
theorem Diff.comm {a b : Ab} {ways : List Way} : Diff a b ways ↔ Diff b a ways := ⟨Diff.symm, Diff.symm⟩
noncomputable def onOff (a : Ab) (v₀ : Way) (m : Pr → Prop) (r : Bool) (P : Pr → Prop) : Ab := ⟨fun u g => (a.D u g ∨ (r = true ∧ m (u, g))) ∧ ¬ v₀ <+: u, fun u g => (a.T u g ∨ (r = false ∧ m (u, g))) ∧ ¬ v₀ <+: u, P⟩
noncomputable def offOn (a : Ab) (v₀ : Way) (m : Pr → Prop) (r : Bool) (P : Pr → Prop) : Ab := ⟨fun u g => (a.D u g ∧ ¬ v₀ <+: u) ∨ (r = true ∧ m (u, g)), fun u g => (a.T u g ∧ ¬ v₀ <+: u) ∨ (r = false ∧ m (u, g)), P⟩
theorem core {a : Ab} {v₀ : Way} {m : Pr → Prop} {r : Bool} {P : Pr → Prop} {ways : List Way} (nn : ∀ u g, a.D u g → u ≠ []) (hne : ∀ x, m x → x.1 ≠ [] ∧ (x.2 = 0 ∨ x.2 = 1) ∧ x.1 ∈ ways) (hr : r = true → ∀ x y, m x → m y → x = y) :
    Diff (onOff a v₀ m r P) (offOn a v₀ m r P) ways ↔ ∃ x, m x ∧ v₀ <+: x.1 ∧ ¬ Hid a v₀ x.2 := by
  have mono : ∀ w f, Itel (onOff a v₀ m r P) w f → Itel (offOn a v₀ m r P) w f := by
    rintro w f (⟨u, h1, h2, h3 | h3, h4⟩ | ⟨h1, h3 | h3, h4⟩)
    · exact .inl ⟨u, h1, h2, .inl ⟨h3, h4⟩⟩
    · exact .inl ⟨u, h1, h2, .inr h3⟩
    · exact .inr ⟨h1, .inl ⟨h3, h4⟩⟩
    · exact .inr ⟨h1, .inr h3⟩
  have hid : ∀ w f, v₀ <+: w → Hid a v₀ f → Itel (onOff a v₀ m r P) w f := by
    rintro w f hw ⟨q, h1, h2, h3⟩
    refine .inl ⟨q, nn _ _ h3, h2.trans hw, .inl h3, fun h => ?_⟩
    have := h.length_le
    omega
  constructor
  · rintro ⟨w, hw, f, hf, h⟩
    have h : ¬ (Itel (onOff a v₀ m r P) w f ↔ Itel (offOn a v₀ m r P) w f) := fun q => h ⟨q, Iff.rfl⟩
    have h2 : Itel (offOn a v₀ m r P) w f := Classical.byContradiction fun q => h ⟨mono w f, fun q' => absurd q' q⟩
    have h1 : ¬ Itel (onOff a v₀ m r P) w f := fun q => h ⟨fun _ => h2, fun _ => q⟩
    rcases h2 with ⟨u, e1, e2, e3 | e3⟩ | ⟨e1, e3 | e3⟩
    · exact absurd (.inl ⟨u, e1, e2, .inl e3.1, e3.2⟩) h1
    · by_cases hv : v₀ <+: u
      · exact ⟨(u, f), e3.2, hv, fun q => h1 (hid w f (hv.trans e2) q)⟩
      · exact absurd (.inl ⟨u, e1, e2, .inr e3, hv⟩) h1
    · exact absurd (.inr ⟨e1, .inl e3.1, e3.2⟩) h1
    · by_cases hv : v₀ <+: w
      · exact ⟨(w, f), e3.2, hv, fun q => h1 (hid w f hv q)⟩
      · exact absurd (.inr ⟨e1, .inr e3, hv⟩) h1
  · rintro ⟨⟨v, f⟩, hm, hv, hh⟩
    obtain ⟨n1, n2, n3⟩ := hne _ hm
    refine ⟨v, n3, f, n2, fun H => ?_⟩
    have h2 : Itel (offOn a v₀ m r P) v f := by
      cases r with
      | true => exact .inl ⟨v, n1, List.prefix_refl _, .inr ⟨rfl, hm⟩⟩
      | false => exact .inr ⟨n1, .inr ⟨rfl, hm⟩⟩
    rcases H.1.mpr h2 with ⟨u, e1, e2, e3, e4⟩ | ⟨e1, e3, e4⟩
    · rcases e3 with e3 | ⟨e3, e5⟩
      · rcases Nat.lt_or_ge u.length v₀.length with hlt | hge
        · exact hh ⟨u, hlt, List.prefix_of_prefix_length_le e2 hv (by omega), e3⟩
        · exact e4 (List.prefix_of_prefix_length_le hv e2 hge)
      · have := hr e3 _ _ hm e5
        have : v = u := congrArg Prod.fst this
        exact e4 (this ▸ hv)
    · exact e4 hv
theorem diff_same {a b : Ab} {ways : List Way} (h : a = b) : ¬ Diff a b ways := by
  rintro ⟨w, _, f, _, h'⟩
  exact h' (by rw [h]; exact ⟨Iff.rfl, Iff.rfl⟩)
noncomputable def marksA (a : Ab) (on : Cl) (x : Pr) : Prop := if on.1 < 2 then x = on.2 else if on.1 = 3 then a.P x else False
noncomputable def Hit (a : Ab) (off on : Cl) : Prop := off.1 = 4 ∧ ∃ x, marksA a on x ∧ off.2.1 <+: x.1 ∧ ¬ Hid a off.2.1 x.2
theorem diff_half {a : Ab} {ways : List Way} (nn : ∀ u g, a.D u g → u ≠ []) (hP : ∀ x, a.P x → x.1 ≠ [] ∧ (x.2 = 0 ∨ x.2 = 1) ∧ x.1 ∈ ways) {one other : Cl} (h1 : OkC one) (h2 : OkC other) (w1 : one.2.1 ∈ ways) (w2 : other.2.1 ∈ ways) (hle : one.1 ≤ other.1) :
    Diff (stepA (stepA a one) other) (stepA (stepA a other) one) ways ↔ (one.1 = 2 ∧ other.1 = 3) ∨ Hit a other one := by
  have k1 := h1.kind
  have k2 := h2.kind
  have c1 : one.1 = 0 ∨ one.1 = 1 ∨ one.1 = 2 ∨ one.1 = 3 ∨ one.1 = 4 := by omega
  have c2 : other.1 = 0 ∨ other.1 = 1 ∨ other.1 = 2 ∨ other.1 = 3 ∨ other.1 = 4 := by omega
  have z1 : ∀ {a : Ab} {c : Cl}, c.1 = 0 → stepA a c = ⟨a.D, fun u g => a.T u g ∨ (u = c.2.1 ∧ g = c.2.2), a.P⟩ := fun e => by unfold stepA; rw [if_pos e]
  have z2 : ∀ {a : Ab} {c : Cl}, c.1 = 1 → stepA a c = ⟨fun u g => a.D u g ∨ (u = c.2.1 ∧ g = c.2.2), a.T, a.P⟩ := fun e => by unfold stepA; rw [if_neg (by omega), if_pos e]
  have z3 : ∀ {a : Ab} {c : Cl}, c.1 = 2 → stepA a c = ⟨a.D, a.T, fun x => a.P x ∨ x = c.2⟩ := fun e => by unfold stepA; rw [if_neg (by omega), if_neg (by omega), if_pos e]
  have z4 : ∀ {a : Ab} {c : Cl}, c.1 = 3 → stepA a c = ⟨a.D, fun u g => a.T u g ∨ a.P (u, g), fun _ => False⟩ := fun e => by unfold stepA; rw [if_neg (by omega), if_neg (by omega), if_neg (by omega), if_pos e]
  have z5 : ∀ {a : Ab} {c : Cl}, c.1 = 4 → stepA a c = ⟨fun u g => a.D u g ∧ ¬ c.2.1 <+: u, fun u g => a.T u g ∧ ¬ c.2.1 <+: u, a.P⟩ := fun e => by unfold stepA; rw [if_neg (by omega), if_neg (by omega), if_neg (by omega), if_neg (by omega)]
  by_cases h4 : other.1 = 4
  · have r0 : ¬ (one.1 = 2 ∧ other.1 = 3) := by omega
    rw [or_iff_right r0]
    have hx : ∀ (m : Pr → Prop) (r : Bool) (P : Pr → Prop), stepA (stepA a one) other = onOff a other.2.1 m r P → stepA (stepA a other) one = offOn a other.2.1 m r P → (∀ x, marksA a one x ↔ m x) → (r = true → ∀ x y, m x → m y → x = y) → (Diff (stepA (stepA a one) other) (stepA (stepA a other) one) ways ↔ Hit a other one) := by
      intro m r P e1 e2 em hr
      rw [e1, e2, core nn (fun x hx => ?_) hr]
      · unfold Hit
        simp only [em, h4, true_and]
      · have := (em x).mpr hx
        unfold marksA at this
        by_cases q : one.1 < 2
        · rw [if_pos q] at this; rw [this]; exact ⟨h1.ne, h1.flag, w1⟩
        · rw [if_neg q] at this
          by_cases q : one.1 = 3
          · rw [if_pos q] at this; exact hP x this
          · rw [if_neg q] at this; exact this.elim
    have eq2 : ∀ (u : Way) (g : Int), (u = one.2.1 ∧ g = one.2.2) = ((u, g) = one.2) := fun u g => propext ⟨fun h => Prod.ext h.1 h.2, fun h => ⟨congrArg Prod.fst h, congrArg Prod.snd h⟩⟩
    rcases c1 with e | e | e | e | e
    · refine hx (fun x => x = one.2) false a.P ?_ ?_ (fun x => by unfold marksA; rw [if_pos (by omega)]) (fun h => by cases h)
      · rw [z5 h4, z1 e]; simp only [onOff, eq2, Bool.false_eq_true, false_and, or_false, true_and]
      · rw [z1 e, z5 h4]; simp only [offOn, eq2, Bool.false_eq_true, false_and, or_false, true_and]
    · refine hx (fun x => x = one.2) true a.P ?_ ?_ (fun x => by unfold marksA; rw [if_pos (by omega)]) (fun _ x y h h' => h.trans h'.symm)
      · rw [z5 h4, z2 e]; simp only [onOff, eq2, Bool.true_eq_false, false_and, or_false, true_and]
      · rw [z2 e, z5 h4]; simp only [offOn, eq2, Bool.true_eq_false, false_and, or_false, true_and]
    · refine hx (fun x => False) false (fun x => a.P x ∨ x = one.2) ?_ ?_ (fun x => by unfold marksA; rw [if_neg (by omega), if_neg (by omega)]) (fun h => by cases h)
      · rw [z5 h4, z3 e]; simp only [onOff, Bool.false_eq_true, false_and, and_false, or_false, true_and]
      · rw [z3 e, z5 h4]; simp only [offOn, Bool.false_eq_true, false_and, and_false, or_false, true_and]
    · refine hx a.P false (fun _ => False) ?_ ?_ (fun x => by unfold marksA; rw [if_neg (by omega), if_pos e]) (fun h => by cases h)
      · rw [z5 h4, z4 e]; simp only [onOff, Bool.false_eq_true, false_and, or_false, true_and]
      · rw [z4 e, z5 h4]; simp only [offOn, Bool.false_eq_true, false_and, or_false, true_and]
    · constructor
      · intro h
        refine absurd h (diff_same ?_)
        rw [z5 h4, z5 e, z5 e, z5 h4]
        simp only [and_right_comm]
      · rintro ⟨_, x, hx, _⟩
        unfold marksA at hx
        rw [if_neg (by omega), if_neg (by omega)] at hx
        exact hx.elim
  · have r1 : ¬ Hit a other one := fun h => h4 h.1
    rw [or_iff_left r1]
    by_cases h23 : one.1 = 2 ∧ other.1 = 3
    · refine ⟨fun _ => h23, fun _ => ?_⟩
      rw [z4 h23.2, z3 h23.1, z3 h23.1, z4 h23.2]
      refine ⟨one.2.1, w1, one.2.2, h1.flag, fun H => ?_⟩
      exact H.2.mpr (.inr rfl)
    · refine ⟨fun h => absurd h (diff_same ?_), fun h => absurd h h23⟩
      rcases c1 with e | e | e | e | e <;> rcases c2 with f | f | f | f | f <;> first | omega | skip
      · rw [z1 e, z1 f, z1 f, z1 e]; simp only [or_right_comm]
      · rw [z1 e, z2 f, z2 f, z1 e]
      · rw [z1 e, z3 f, z3 f, z1 e]
      · rw [z1 e, z4 f, z4 f, z1 e]; simp only [or_right_comm]
      · rw [z2 e, z2 f, z2 f, z2 e]; simp only [or_right_comm]
      · rw [z2 e, z3 f, z3 f, z2 e]
      · rw [z2 e, z4 f, z4 f, z2 e]
      · rw [z3 e, z3 f, z3 f, z3 e]; simp only [or_right_comm]
      · rw [z4 e, z4 f, z4 f, z4 e]
theorem runC_two (ahead : List Cl) (a b : Cl) : runC (ahead ++ [a, b]) = stepC (stepC (runC ahead) a) b := by
  unfold runC; rw [List.foldl_append]; rfl
theorem OkS.nil : OkS st0 0 := ⟨Nat.le_refl _, by intro p hp; exact absurd hp List.not_mem_nil⟩
theorem mat_law {ways : List Way} {ahead : List Cl} {one other : Cl} (ha : ∀ c ∈ ahead, OkC c) (h1 : OkC one) (h2 : OkC other) (w1 : one.2.1 ∈ ways) (w2 : other.2.1 ∈ ways) (wa : ∀ c ∈ ahead, c.2.1 ∈ ways) :
    (!decide (toldC ways (runC (ahead ++ [one, other])) = toldC ways (runC (ahead ++ [other, one])))) = matC ahead one other := by
  have F : Fine (runC ahead) := Fine.run ahead st0 0 OkS.nil Fine.nil ha
  have O : OkS (runC ahead) (0 + ahead.length) := OkS.run ha OkS.nil
  have T : Tr (runC ahead) (ahead.foldl ovStep ([], [])) := Tr.run ahead st0 ([], []) 0 OkS.nil Fine.nil ⟨fun x => Iff.rfl, fun v f => by simp [st0, dp]⟩ ha
  have F1 := F.step h1 fun p hp => (O.ps p hp).2.1
  have F2 := F.step h2 fun p hp => (O.ps p hp).2.1
  have O1 := O.step h1
  have O2 := O.step h2
  have F12 := F1.step h2 fun p hp => (O1.ps p hp).2.1
  have F21 := F2.step h1 fun p hp => (O2.ps p hp).2.1
  have pw : ∀ (cs : List Cl) (σ : St2), (∀ p ∈ σ.2, p.1 ∈ ways) → (∀ c ∈ cs, c.2.1 ∈ ways) → ∀ p ∈ (cs.foldl stepC σ).2, p.1 ∈ ways := by
    intro cs
    induction cs with
    | nil => intro σ h _; exact h
    | cons c cs ih =>
      intro σ h hc
      refine ih _ (fun p hp => ?_) fun x hx => hc x (.tail _ hx)
      unfold stepC at hp
      split at hp
      · exact h p hp
      · split at hp
        · rcases addP_mem hp with hp | rfl
          · exact h p hp
          · exact hc c (.head _)
        · split at hp
          · exact absurd hp List.not_mem_nil
          · exact h p hp
  have nn : ∀ u g, (ab (runC ahead)).D u g → u ≠ [] := by
    intro u g h e
    subst e
    have h : dp (runC ahead).1 [] g = true := h
    cases e2 : (runC ahead).1 [] with
    | none => unfold dp at h; rw [e2] at h; cases h
    | some x =>
      obtain ⟨k, _, hk⟩ := F.hd [] (by rw [e2]; exact fun q => by cases q)
      exact absurd (List.prefix_nil.mp hk) (by simp)
  have hP : ∀ x, (ab (runC ahead)).P x → x.1 ≠ [] ∧ (x.2 = 0 ∨ x.2 = 1) ∧ x.1 ∈ ways := fun x hx => ⟨(O.ps x hx).2.2.2, (O.ps x hx).1, pw ahead st0 (by intro p hp; exact absurd hp List.not_mem_nil) wa x hx⟩
  have hhit : ∀ off on : Cl, hitC (ahead.foldl ovStep ([], [])) off on = true ↔ Hit (ab (runC ahead)) off on := by
    intro off on
    unfold hitC Hit
    rw [List.any_eq_true]
    have hm : ∀ x, x ∈ marksOf (ahead.foldl ovStep ([], [])).1 on ↔ marksA (ab (runC ahead)) on x := by
      intro x
      unfold marksOf marksA
      by_cases q : on.1 < 2
      · rw [if_pos q, if_pos q, List.mem_singleton]
      · rw [if_neg q, if_neg q]
        by_cases q : on.1 = 3
        · rw [if_pos q, if_pos q]; exact T.w x
        · rw [if_neg q, if_neg q]; simp
    constructor
    · rintro ⟨x, hx, h⟩
      rw [Bool.and_eq_true, Bool.and_eq_true, beq_iff_eq, decide_eq_true_eq, hid_iff T] at h
      exact ⟨h.1.1, x, (hm x).mp hx, List.prefix_iff_eq_take.mpr h.1.2.symm, h.2⟩
    · rintro ⟨h4, x, hx, hp, hh⟩
      refine ⟨x, (hm x).mpr hx, ?_⟩
      rw [Bool.and_eq_true, Bool.and_eq_true, beq_iff_eq, decide_eq_true_eq, hid_iff T]
      exact ⟨⟨h4, (List.prefix_iff_eq_take.mp hp).symm⟩, hh⟩
  rw [Bool.eq_iff_iff, Bool.not_eq_true', decide_eq_false_iff_not, runC_two, runC_two, told_ne F12 F21, ab_step F1 h2, ab_step F h1, ab_step F2 h1, ab_step F h2]
  have hmat : matC ahead one other = true ↔ ((one.1 = 2 ∧ other.1 = 3) ∨ (one.1 = 3 ∧ other.1 = 2)) ∨ Hit (ab (runC ahead)) one other ∨ Hit (ab (runC ahead)) other one := by
    unfold matC
    have hs : ((if one.1 ≤ other.1 then [one.1, other.1] else [other.1, one.1]) = [2, 3]) ↔ ((one.1 = 2 ∧ other.1 = 3) ∨ (one.1 = 3 ∧ other.1 = 2)) := by
      split
      · simp only [List.cons.injEq, and_true]; omega
      · simp only [List.cons.injEq, and_true]; omega
    by_cases q : ((one.1 = 2 ∧ other.1 = 3) ∨ (one.1 = 3 ∧ other.1 = 2))
    · rw [if_pos (hs.mpr q)]; exact ⟨fun _ => .inl q, fun _ => rfl⟩
    · rw [if_neg (fun h => q (hs.mp h)), Bool.or_eq_true, hhit, hhit, or_iff_right q]
  rw [hmat]
  have no : ∀ x y : Cl, y.1 < 4 → ¬ Hit (ab (runC ahead)) y x := fun x y h q => by have := q.1; omega
  have n4 : ∀ x y : Cl, x.1 = 4 → ¬ Hit (ab (runC ahead)) y x := by
    rintro x y e ⟨_, z, hz, _⟩
    unfold marksA at hz
    rw [if_neg (by omega), if_neg (by omega)] at hz
    exact hz
  have k1 := h1.kind
  have k2 := h2.kind
  rcases Int.le_total one.1 other.1 with hle | hle
  · rw [diff_half nn hP h1 h2 w1 w2 hle]
    have : ¬ Hit (ab (runC ahead)) one other := by
      by_cases e : one.1 = 4
      · exact n4 other one (by omega)
      · exact no other one (by omega)
    have h32 : ¬ (one.1 = 3 ∧ other.1 = 2) := by omega
    rw [or_iff_left h32, or_iff_right this]
  · rw [Diff.comm, diff_half nn hP h2 h1 w2 w1 hle]
    have : ¬ Hit (ab (runC ahead)) other one := by
      by_cases e : other.1 = 4
      · exact n4 one other (by omega)
      · exact no one other (by omega)
    have h32 : ¬ (one.1 = 2 ∧ other.1 = 3) := by omega
    rw [or_iff_right h32, or_iff_left this, and_comm]
end Mine
end
section
open PySem PySem.W PySem.Calls PyProof.Rows
set_option maxRecDepth 100000
set_option maxHeartbeats 8000000
namespace Mine
noncomputable def lawBody : List Stmt := match PySem.Challenge.pw_aa0050_02.main.body.getLast? with | some (.FunctionDef (body := b) ..) => b | _ => []
noncomputable def lawScope : Scope := match PySem.Challenge.pw_aa0050_02.main.body.getLast? with | some (.FunctionDef (scope := b) ..) => b | _ => ⟨.function, [], false, false, []⟩
noncomputable abbrev nsL : List Str := ["script", "row", "k", "ahead", "one", "other", "first", "second"]
structure LEnv (env : Env) (B : Nat) : Prop where
  kways : env.kindOf "ways" = some .cell
  kkind : env.kindOf "kind" = some .cell
  kway : env.kindOf "way" = some .cell
  kflag : env.kindOf "flag" = some .cell
  ktold : env.kindOf "told" = some .cell
  kdue : env.kindOf "due" = some .cell
  lways : env.cells.lookup ("ways" : Str) = some (B + 1)
  lkind : env.cells.lookup ("kind" : Str) = some (B + 2)
  lway : env.cells.lookup ("way" : Str) = some (B + 3)
  lflag : env.cells.lookup ("flag" : Str) = some (B + 4)
  ltold : env.cells.lookup ("told" : Str) = some (B + 5)
  ldue : env.cells.lookup ("due" : Str) = some (B + 6)
  klen : env.kindOf "len" = some .globalImplicit
  krange : env.kindOf "range" = some .globalImplicit
  krun : env.kindOf "_law_run" = some .globalImplicit
  ktoldf : env.kindOf "_law_told" = some .globalImplicit
  kmat : env.kindOf "_law_matters" = some .globalImplicit
  hint : interactive env = false
theorem lEnv (q : Str) (B : Nat) (f : Addr) (c : Value) : LEnv (envOfC q lawScope B f c) B := by
  constructor <;> rfl
theorem cellsAre_at {cm : Str → Option Value} {cs : List (Str × Addr)} {cells : Lg} (h : CellsAre cm cs cells) : ∀ (i : Nat) (n : Str) (c a : Addr) (o : Obj), cs[i]? = some (n, c) → cells[i]? = some (a, o) → a = c ∧ CellV o (cm n) := by
  induction h with
  | nil => intro i n c a o h; simp at h
  | cons e _ ih =>
    intro i n c a o h1 h2
    cases i with
    | zero =>
      simp at h1 h2
      obtain ⟨rfl, rfl⟩ := h1
      obtain ⟨rfl, rfl⟩ := h2
      exact ⟨rfl, e⟩
    | succ i => simp at h1 h2; exact ih i n c a o h1 h2
noncomputable def waysK (way : Way) (ways : List Way) (k : Nat) : List Way := ways ++ ([way.take k, way.take k ++ [("b.a" : Str)]].filter fun w => !decide (w ∈ ways))
noncomputable def waysC (ways : List Way) (c : Cl) : List Way := (List.range (c.2.1.length + 1)).foldl (waysK c.2.1) ways
noncomputable def waysOf (cs : List Cl) : List Way := cs.foldl waysC []
theorem intsAre_at {us : List Value} {ks : List Int} (h : IntsAre us ks) : ∀ {i : Nat} {v : Value}, us[i]? = some v → ∃ k t, v = .int k t ∧ ks[i]? = some k := by
  induction h with
  | nil => intro i v h; simp at h
  | cons n t _ ih =>
    intro i v h
    cases i with
    | zero => simp at h; subst h; exact ⟨n, t, rfl, rfl⟩
    | succ i => simp at h; obtain ⟨k, t', e, e2⟩ := ih h; exact ⟨k, t', e, by simpa using e2⟩
section
variable {prog : Program} {w : World} {A : Around} {E : Value → Shared → Prop} {env : Env} {ns : List Str} {h₀ : Heap} {vs : List (Option Value)} {l : Lg} {s₀ s : Shared}
theorem w_addlist {a b : Addr} {us ws : List Value} {Q : Value → Shared → Prop} (st : S env ns h₀ vs l s₀ s) (ha : s.heap.IsList a us.toArray) (hb : s.heap.IsList b ws.toArray) (hz : us.length + ws.length ≤ sizeLine)
    (h : ∀ c s', S env ns h₀ vs ((c, listO (us ++ ws) 0) :: l) s₀ s' → Q (.ref c) s') : W (model prog w) A (binaryOp .Add (.ref a) (.ref b)) Q E s := by
  refine .mk (add_lists st.fr st.nw ha hb (fun h' F N => h _ _ (st.toH F N ?_)) hz)
  refine List.nodup_cons.mpr ⟨fun q => ?_, st.nd⟩
  obtain ⟨p, hp, e⟩ := List.mem_map.mp q
  exact absurd (Heap.lt_size (st.nw p hp).1) (by rw [e]; exact Nat.lt_irrefl _)
end
theorem Vs.take {α : Type} {At : Value → α → Prop} : ∀ {us : List Value} {ps : List α} (r : Vs At us ps) (n : Nat), Vs At (us.take n) (ps.take n)
  | _, _, .nil, n => by simpa using Vs.nil
  | _, _, .cons h r, 0 => .nil
  | _, _, .cons h r, n + 1 => .cons h (r.take n)
theorem locOf_none : ∀ {ns : List Str} {vs : List (Option Value)}, (∀ x ∈ vs, x = none) → ∀ y, locOf ns vs y = none
  | [], _, _, _ => by unfold locOf; rfl
  | _ :: _, [], _, _ => by unfold locOf; rfl
  | n :: ns, v :: vs, h, y => by
    unfold locOf
    split
    · exact h v (.head _)
    · exact locOf_none (fun x hx => h x (.tail _ hx)) y
theorem locOf_first {n : Str} {v : Option Value} {ns : List Str} {vs : List (Option Value)} (h : ∀ x ∈ vs, x = none) : locOf (n :: ns) (v :: vs) = fun y => if y = n then v else none := by
  funext y
  show (if y = n then v else locOf ns vs y) = _
  rw [locOf_none h]
theorem nones (k : Nat) : ∀ x ∈ List.replicate k (none : Option Value), x = none := fun x hx => (List.mem_replicate.mp hx).2
theorem nd6 (b : Nat) : (List.map (fun i => b + i) [6, 5, 4, 3, 2, 1]).Nodup := List.Pairwise.map _ (fun x y h e => h (Nat.add_left_cancel e)) (by decide : ([6, 5, 4, 3, 2, 1] : List Nat).Pairwise (· ≠ ·))
theorem dict_notup {prog : Program} {w : World} {o : Obj} {kvs : List (Str × Value)} (h : o.IsDictOf (strKind prog w) kvs) (us : List Value) : o ≠ tupO us := by
  rintro rfl
  obtain ⟨es, ep, ⟨h1, _⟩, _⟩ := h
  exact absurd (Value.type.inj h1) (by decide)
theorem set_notup {prog : Program} {w : World} {o : Obj} {X : Int → Bool} {n : Nat} (h : o.SetObjOf (intKind prog w) X n) (us : List Value) : o ≠ tupO us := by
  rintro rfl
  obtain ⟨⟨h1, _⟩, _⟩ := h
  exact absurd (Value.type.inj h1) (by decide)
theorem cells_notup {prog : Program} {w : World} {M : List Str} {F : FO} {τ : AbsT} {At : Value → Way × Int → Prop} {ps : List (Way × Int)} (H : F.Is prog w M τ) (P : PT prog w At F.opd ps) {a : Addr} {us : List Value} (h : (a, tupO us) ∈ F.cells) : False := by
  unfold FO.cells at h
  rcases List.mem_cons.mp h with h | h
  · have := congrArg (fun x => x.2.cls) h; cases this
  rcases List.mem_cons.mp h with h | h
  · obtain ⟨a0, t0, a1, t1, n, e⟩ := H.fd
    have := congrArg (fun x => x.2.cls) h
    rw [show ((F.fd, F.ofd) : Addr × Obj).2.cls = F.ofd.cls from rfl, e] at this
    exact absurd (Value.type.inj this) (by decide)
  rcases List.mem_cons.mp h with h | h
  · obtain ⟨kvs, hk, _⟩ := H.kids [] F.root F.oroot (by unfold FO.dictAt; rw [if_pos rfl])
    exact dict_notup hk us (congrArg Prod.snd h).symm
  rcases List.mem_cons.mp h with h | h
  · obtain ⟨es, ep, t, qs, e, _⟩ := P
    have := congrArg (fun x => x.2.cls) h
    rw [show ((F.pd, F.opd) : Addr × Obj).2.cls = F.opd.cls from rfl, e] at this
    exact absurd (Value.type.inj this) (by decide)
  obtain ⟨p, hp, h⟩ := List.mem_flatMap.mp h
  obtain ⟨X, Y, _, hX, hY⟩ := H.flags p hp
  have hl : F.look p.1 = some p.2 := FO.look_of_mem H.keys hp
  obtain ⟨kvs, hk, _⟩ := H.kids _ _ _ (H.dict_of hl)
  simp only [Nd.cells, List.mem_cons, List.not_mem_nil, or_false] at h
  rcases h with h | h | h | h
  · exact dict_notup (H.node p hp) us (congrArg Prod.snd h).symm
  · exact set_notup hX.1 us (congrArg Prod.snd h).symm
  · exact set_notup hY.1 us (congrArg Prod.snd h).symm
  · exact dict_notup hk us (congrArg Prod.snd h).symm
theorem pm5 {α : Type} (a b c : α) (f g z t : List α) : (a :: (g ++ (z ++ (b :: c :: (f ++ t))))).Perm (f ++ (g ++ (a :: (z ++ (b :: c :: t))))) := by
  have h1 : (z ++ (b :: c :: (f ++ t))).Perm (f ++ (z ++ (b :: c :: t))) := by simpa using List.perm_append_comm_assoc (z ++ [b, c]) f t
  have h2 : (g ++ (z ++ (b :: c :: (f ++ t)))).Perm (f ++ (g ++ (z ++ (b :: c :: t)))) := (h1.append_left g).trans (List.perm_append_comm_assoc g f _)
  refine (h2.cons a).trans ?_
  refine List.perm_middle.symm.trans ?_
  exact (List.perm_middle.symm).append_left f
theorem dummyLB : (PySem.Challenge.rw_aa0050_02 = PySem.Challenge.rw_aa0050_02 ∧ hd2.heap_39 = hd2.heap_39) := by k_fill; exact ⟨rfl, rfl⟩
end Mine
end
section
open PySem PySem.W PySem.Calls PyProof.Rows
set_option maxRecDepth 100000
set_option maxHeartbeats 8000000
namespace Mine
theorem dummyL1 : (PySem.Challenge.rw_aa0050_02 = PySem.Challenge.rw_aa0050_02 ∧ hd2.heap_39 = hd2.heap_39) := by k_fill; exact ⟨rfl, rfl⟩
theorem pmv1 {α : Type} (X H z L : List α) : (X ++ (H ++ (z ++ L))).Perm (H ++ ((X ++ z) ++ L)) := by simpa using List.perm_append_comm_assoc X H (z ++ L)
theorem mA1 {α : Type} {x b : α} {p q r R : List α} (h : x ∈ r ++ R) : x ∈ (p ++ (b :: (q ++ r))) ++ R := by
  rcases List.mem_append.mp h with h | h <;> simp [h]
theorem mA2 {α : Type} {x b : α} {p q r R : List α} (h : x ∈ p ++ (b :: (q ++ R))) : x ∈ (p ++ (b :: (q ++ r))) ++ R := by
  rcases List.mem_append.mp h with h | h
  · simp [h]
  · rcases List.mem_cons.mp h with h | h
    · simp [h]
    · rcases List.mem_append.mp h with h | h <;> simp [h]
theorem mA3 {α : Type} {x b : α} {p q r R H : List α} (h : x ∈ (p ++ (b :: (q ++ r))) ++ R) (k : ∀ y ∈ R, y ∈ H) : x ∈ p ++ (b :: (q ++ (r ++ H))) := by
  rcases List.mem_append.mp h with h | h
  · rcases List.mem_append.mp h with h | h
    · simp [h]
    · rcases List.mem_cons.mp h with h | h
      · simp [h]
      · rcases List.mem_append.mp h with h | h <;> simp [h]
  · simp [k _ h]
theorem asc5 {α : Type} (a b c : α) (p q r T : List α) : a :: b :: (p ++ (c :: (q ++ (r ++ T)))) = (a :: b :: (p ++ (c :: (q ++ r)))) ++ T := by simp
theorem mem_waysK {way : Way} {ways : List Way} {k : Nat} {x : Way} (h : x ∈ waysK way ways k) : x ∈ ways ∨ x = way.take k ∨ x = way.take k ++ [("b.a" : Str)] := by
  unfold waysK at h
  rcases List.mem_append.mp h with h | h
  · exact .inl h
  · have := (List.mem_filter.mp h).1
    exact .inr (by simpa using this)
theorem okw_ba {way : Way} (h : Okw way) : Okw (way ++ [("b.a" : Str)]) := fun x hx => by
  rcases List.mem_append.mp hx with hx | hx
  · exact h x hx
  · rw [List.mem_singleton] at hx; subst hx; decide +kernel
theorem okw_foldK {way : Way} (hm : ∀ z ∈ way, z ∈ LM) : ∀ (ks : List Nat) (ways : List Way), (∀ x ∈ ways, Okw x) → ∀ x ∈ ks.foldl (waysK way) ways, Okw x
  | [], _, h => h
  | k :: ks, ways, h => okw_foldK hm ks _ fun x hx => by
    have ht : Okw (way.take k) := okw_menu fun z hz => hm z (List.mem_of_mem_take hz)
    rcases mem_waysK hx with hx | rfl | rfl
    · exact h x hx
    · exact ht
    · exact okw_ba ht
theorem okw_waysOf {cs : List Cl} (hc : ∀ c ∈ cs, OkC c) : ∀ x ∈ waysOf cs, Okw x := by
  have : ∀ (cs : List Cl) (ways : List Way), (∀ c ∈ cs, OkC c) → (∀ x ∈ ways, Okw x) → ∀ x ∈ cs.foldl waysC ways, Okw x := by
    intro cs
    induction cs with
    | nil => intro ways _ h; exact h
    | cons c cs ih => intro ways hc h; exact ih _ (fun c h => hc c (.tail _ h)) (okw_foldK (hc c (.head _)).menu _ _ h)
  exact this cs [] hc (by intro x h; exact absurd h List.not_mem_nil)
theorem len_foldK {way : Way} : ∀ (ks : List Nat) (ways : List Way), (ks.foldl (waysK way) ways).length ≤ ways.length + 2 * ks.length
  | [], ways => by simp
  | k :: ks, ways => by
    have h1 := len_foldK (way := way) ks (waysK way ways k)
    have h2 : (waysK way ways k).length ≤ ways.length + 2 := by
      unfold waysK
      rw [List.length_append]
      have := List.length_filter_le (fun w => !decide (w ∈ ways)) [way.take k, way.take k ++ [("b.a" : Str)]]
      have e : ([way.take k, way.take k ++ [("b.a" : Str)]] : List Way).length = 2 := rfl
      omega
    rw [List.foldl_cons, List.length_cons]
    omega
theorem len_waysOf {cs : List Cl} (hc : ∀ c ∈ cs, OkC c) : (waysOf cs).length ≤ 8 * cs.length := by
  have : ∀ (cs : List Cl) (ways : List Way), (∀ c ∈ cs, OkC c) → (cs.foldl waysC ways).length ≤ ways.length + 8 * cs.length := by
    intro cs
    induction cs with
    | nil => intro ways _; simp
    | cons c cs ih =>
      intro ways hc
      have h1 := ih (waysC ways c) fun c h => hc c (.tail _ h)
      have h2 : (waysC ways c).length ≤ ways.length + 2 * (List.range (c.2.1.length + 1)).length := len_foldK _ _
      rw [List.length_range] at h2
      have h3 := (hc c (.head _)).len
      rw [List.foldl_cons, List.length_cons]
      omega
  have h := this cs [] hc
  rw [List.length_nil, Nat.zero_add] at h
  exact h
theorem sub_foldK {way : Way} : ∀ (ks : List Nat) (ways : List Way), ∀ x ∈ ways, x ∈ ks.foldl (waysK way) ways
  | [], _, x, h => h
  | k :: ks, ways, x, h => sub_foldK ks _ x (List.mem_append_left _ h)
theorem mem_waysOf {cs : List Cl} {c : Cl} (hc : c ∈ cs) : c.2.1 ∈ waysOf cs := by
  have sub : ∀ (cs : List Cl) (ways : List Way), ∀ x ∈ ways, x ∈ cs.foldl waysC ways := by
    intro cs
    induction cs with
    | nil => intro ways x h; exact h
    | cons c cs ih => intro ways x h; exact ih _ x (sub_foldK _ _ x h)
  have : ∀ (cs : List Cl) (ways : List Way), c ∈ cs → c.2.1 ∈ cs.foldl waysC ways := by
    intro cs
    induction cs with
    | nil => intro ways h; cases h
    | cons d cs ih =>
      intro ways h
      rcases List.mem_cons.mp h with rfl | h
      · refine sub cs _ _ ?_
        show c.2.1 ∈ (List.range (c.2.1.length + 1)).foldl (waysK c.2.1) ways
        rw [List.range_succ, List.foldl_append]
        generalize (List.range c.2.1.length).foldl (waysK c.2.1) ways = W
        show c.2.1 ∈ waysK c.2.1 W c.2.1.length
        unfold waysK
        rw [List.take_length]
        by_cases hm : c.2.1 ∈ W
        · exact List.mem_append_left _ hm
        · exact List.mem_append_right _ (List.mem_filter.mpr ⟨.head _, by simp [hm]⟩)
      · exact ih _ h
  exact this cs [] hc
inductive L1J (B : Nat) (RB : Lg) (aw D : Addr) (o5 o4 o0 : Obj) (v0 : Option Value) (row : List Cl) (i : Nat) : List (Option Value) → Lg → Prop
  | mk (uw : List Value) (kw : Nat) (z : Lg) (o3 o2 o1 : Obj) (x3 x2 x1 kx : Option Value) : CellV o3 x3 → CellV o2 x2 → CellV o1 x1 → Vs (WAt (z ++ RB)) uw (waysOf (row.take i)) → L1J B RB aw D o5 o4 o0 v0 row i [v0, some (.ref D), kx, none, none, none, none, none]
      ((aw, listO uw kw) :: (B + 6, o5) :: (B + 5, o4) :: (B + 4, o3) :: (B + 3, o2) :: (B + 2, o1) :: (B + 1, o0) :: (z ++ RB))
section
variable {prog : Program} {w : World} {A : Around} {E : Value → Shared → Prop} {env : Env} {h₀ : Heap} {vs : List (Option Value)} {l : Lg} {s₀ s : Shared}
  {p : Program} {loose : List Str} {mean : ExcName → Option Value} {mg mb : Str → Option Value} {B : Nat}
theorem loop1 {RB : Lg} {D aw : Addr} {ys : List Value} {kD : Nat} {v0 : Option Value} {row : List Cl} {o0' o5 o4 o3 o2 o1 : Obj} {Q : Flow → Shared → Prop}
    (fn : Fn env nsL) (he : ∃ q f c, env = envOfC q lawScope B f c) (cx : Cx (hd2.heap_39 w.params) p loose mean mg mb 200 200 A env h₀)
    (st10 : S env nsL h₀ [v0, some (.ref D), none, none, none, none, none, none] ((aw, listO [] 0) :: (B + 6, o5) :: (B + 5, o4) :: (B + 4, o3) :: (B + 3, o2) :: (B + 2, o1) :: (B + 1, o0') :: RB) s₀ s) (hc3 : CellV o3 none) (hc2' : CellV o2 none) (hc1' : CellV o1 none) (hw0 : CellV o0' (some (.ref aw)))
    (hD : (D, listO ys kD) ∈ RB) (hrow : Vs (CAt RB) ys row) (hrowok : ∀ c ∈ row, OkC c) (hrlen : row.length ≤ 65)
    (h : ∀ (z : Lg) (uw : List Value) (kw : Nat) (p3 p2 p1 : Obj) (x3 x2 x1 kx : Option Value) s', CellV p3 x3 → CellV p2 x2 → CellV p1 x1 → Vs (WAt (z ++ RB)) uw (waysOf row) → S env nsL h₀ [v0, some (.ref D), kx, none, none, none, none, none] ((B + 6, o5) :: (B + 5, o4) :: (B + 4, p3) :: (B + 3, p2) :: (B + 2, p1) :: ((aw, listO uw kw) :: (B + 1, o0') :: (z ++ RB))) s₀ s' →
      W (model prog w) A (execs (lawBody.drop 3) env) Q E s') : W (model prog w) A (execs (lawBody.drop 2) env) Q E s := by
  have le : LEnv env B := by obtain ⟨q, f, c, rfl⟩ := he; exact lEnv q B f c
  have hsl : sizeLine = 2 ^ 24 := rfl
  have rways : ∀ lq : Lg, (B + 1, o0') ∈ lq → Rd prog w env lq "ways" (.ref aw) := fun lq hq => Rd.cell fn.kind le.kways le.lways hq hw0
  refine w_cons (w_for (w_name 1 fn st10 rfl rfl ?_))
  refine w_for_list cx.hand st10 (.tail _ (.tail _ (.tail _ (.tail _ (.tail _ (.tail _ (.tail _ hD))))))) (L1J B RB aw D o5 o4 o0' v0 row)
    (.mk [] 0 [] o3 o2 o1 none none none none hc3 hc2' hc1' .nil) (fun i vs' l' hJ => by obtain ⟨_, _, z⟩ := hJ; exact .tail _ (.tail _ (.tail _ (.tail _ (.tail _ (.tail _ (.tail _ (List.mem_append_right _ hD)))))))) ?_ ?_
  · intro i v vs' l' I oI s10 E2 hvi hJ st11
    generalize hLP : LPost _ _ _ _ _ _ _ _ = QQ; revert QQ; refine hold ?_; intro QQ hLP
    obtain ⟨uw, kw, z, o3, o2, o1, x3, x2, x1, kx, hc3, hc2, hc1, hway⟩ := hJ
    obtain ⟨cc, hci, ac, qc, usc, tk1, tk2, rfl, mc1, mc2, hwc⟩ := hrow.at hvi
    have mR : ∀ (p3 p2 p1 : Obj), ∀ x ∈ RB, x ∈ (I, oI) :: (aw, listO uw kw) :: (B + 6, o5) :: (B + 5, o4) :: (B + 4, p3) :: (B + 3, p2) :: (B + 2, p1) :: (B + 1, o0') :: (z ++ RB) := fun _ _ _ x hx => .tail _ (.tail _ (.tail _ (.tail _ (.tail _ (.tail _ (.tail _ (.tail _ (List.mem_append_right _ hx))))))))
    refine w_unpack cx.hand st11 (mR _ _ _ _ mc1) rfl rfl fun s11 st12 => ?_
    refine w_inorder (w_aname (w_setcell (l' := fun o' => (I, oI) :: (aw, listO uw kw) :: (B + 6, o5) :: (B + 5, o4) :: (B + 4, o3) :: (B + 3, o2) :: (B + 2, o') :: (B + 1, o0') :: (z ++ RB)) fn.gl st12 le.kkind le.lkind (fun o' => .tail (.tail (.tail (.tail (.tail (.tail .head)))))) hc1 fun o1' s12 hk1 st13 => ?_))
    refine w_inorder (w_aname (w_setcell (l' := fun o' => (I, oI) :: (aw, listO uw kw) :: (B + 6, o5) :: (B + 5, o4) :: (B + 4, o3) :: (B + 3, o') :: (B + 2, o1') :: (B + 1, o0') :: (z ++ RB)) fn.gl st13 le.kway le.lway (fun o' => .tail (.tail (.tail (.tail (.tail .head))))) hc2 fun o2' s13 hk2 st14 => ?_))
    refine w_inorder (w_aname (w_setcell (l' := fun o' => (I, oI) :: (aw, listO uw kw) :: (B + 6, o5) :: (B + 5, o4) :: (B + 4, o') :: (B + 3, o2') :: (B + 2, o1') :: (B + 1, o0') :: (z ++ RB)) fn.gl st14 le.kflag le.lflag (fun o' => .tail (.tail (.tail (.tail .head)))) hc3 fun o3' s14 hk3 st15 => ?_))
    refine w_inorder0 ?_
    have rway : Rd prog w env [(B + 3, o2')] "way" (.ref qc) := Rd.cell fn.kind le.kway le.lway (.head _) hk2
    refine w_cons (w_for (w_callE (w_builtin fn cx st15 (by k_is) boot_range (by decide) le.krange (by decide) (w_cwType (w_args (w_binop (w_callE (w_builtin fn cx st15 (by k_is) boot_len (by decide) le.klen (by decide) (w_cwBuiltin (w_args ?_))))))))))
    refine w_rd rway st15 (mem1 (by (repeat (first | exact List.Mem.head _ | apply List.Mem.tail | apply List.mem_append_right)))) (w_args0 (w_lentup st15 (mR _ _ _ _ mc2) ?_ fun td s15 st16 => w_int st16 fun te s16 st17 => w_add st17 fun tf s17 st18 => w_args0 ?_))
    · rw [hwc.length, hsl]; have := (hrowok cc (List.mem_of_getElem? hci)).len; omega
    · have hokc := hrowok cc (List.mem_of_getElem? hci)
      have en : ((usc.length : Int) + 1) = ((cc.2.1.length + 1 : Nat) : Int) := by rw [hwc.length]; omega
      rw [en]
      refine w_range st18 fun ar t1 t2 s18 st19 => ?_
      have hro : ∃ ro : Obj, ro = { cls := .type "range", data := .fields #[.int 0 t1, .int (cc.2.1.length + 1 : Nat) tf, .int 1 t2] } := ⟨_, rfl⟩
      obtain ⟨ro, hro⟩ := hro
      refine w_for_range cx.hand st19 (.head _) (by have := hokc.len; omega) (fun j vs' l' => ∃ (uw : List Value) (kw : Nat) (z9 : Lg) (kx : Option Value),
        l' = (ar, ro) :: (I, oI) :: (aw, listO uw kw) :: (B + 6, o5) :: (B + 5, o4) :: (B + 4, o3') :: (B + 3, o2') :: (B + 2, o1') :: (B + 1, o0') :: ((z9 ++ z) ++ RB) ∧ Vs (WAt ((z9 ++ z) ++ RB)) uw ((List.range j).foldl (waysK cc.2.1) (waysOf (row.take i))) ∧ vs' = [v0, some (.ref D), kx, none, none, none, none, none])
        ?_ ?_ ?_
      · exact ⟨uw, kw, [], kx, by rw [hro]; rfl, hway, rfl⟩
      · intro j tk vs' l' I2 oI2 s19 E3 hj hJ st20
        generalize hLP2 : LPost _ _ _ _ _ _ _ _ = QQ2; revert QQ2; refine hold ?_; intro QQ2 hLP2
        obtain ⟨uw, kw, z9, kx, rfl, hw9, rfl⟩ := hJ
        refine w_aname (w_store 2 fn st20 rfl (Nat.le_of_ble_eq_true rfl) fun s20 st21 => ?_)
        have mR2 : ∀ x ∈ RB, x ∈ (I2, oI2) :: (ar, ro) :: (I, oI) :: (aw, listO uw kw) :: (B + 6, o5) :: (B + 5, o4) :: (B + 4, o3') :: (B + 3, o2') :: (B + 2, o1') :: (B + 1, o0') :: ((z9 ++ z) ++ RB) := fun x hx => .tail _ (.tail _ (.tail _ (.tail _ (.tail _ (.tail _ (.tail _ (.tail _ (.tail _ (.tail _ (List.mem_append_right _ hx))))))))))
        have hscz : usc.length ≤ sizeLine := by rw [hwc.length, hsl]; have := hokc.len; omega
        refine w_cons (w_exprA le.hint (w_meth (w_rd (rways [(B + 1, o0')] (.head _)) st21 (mem1 (by (repeat (first | exact List.Mem.head _ | apply List.Mem.tail | apply List.mem_append_right)))) (w_extend_meth st21 (.tail _ (.tail _ (.tail _ (.head _)))) (w_cwBuiltin (w_args (w_comp (w_listE (w_args ?_)) ?_ (fun x => rfl) rfl (by decide))))))))
        · refine w_subslice (w_rd rway st21 (mem1 (by (repeat (first | exact List.Mem.head _ | apply List.Mem.tail | apply List.mem_append_right)))) (wpart_0 (wpart_e (w_name 2 fn st21 rfl rfl ?_))))
          refine w_slice_tup st21 (mR2 _ mc2) .none (.int _ _) hscz fun z10 as s21 st22 has => ?_
          have hasR := has RB mc2
          rw [sl_to] at hasR
          have has := has _ (mR2 _ mc2)
          rw [sl_to] at has
          refine w_args (w_binop (w_subslice (w_rd rway st22 (fun x hx => by rw [List.mem_singleton] at hx; subst hx; exact List.mem_append_right _ (by simp)) (wpart_0 (wpart_e (w_name 2 fn st22 rfl rfl ?_))))))
          refine w_slice_tup st22 (List.mem_append_right _ (mR2 _ mc2)) .none (.int _ _) hscz fun z11 as2 s22 st23 has2 => ?_
          have hasR2 := has2 RB mc2
          rw [sl_to] at hasR2
          have has2 := has2 _ (List.mem_append_right z10 (mR2 _ mc2))
          rw [sl_to] at has2
          refine w_tupleE (w_args (w_str st23 fun th s23 st24 => w_args0 (w_tuple st24 (fun ab s24 st25 => ?_))))
          refine w_addtup st25 (.tail _ has2) (.head _) (by have h1 := hokc.len; have h2 := hwc.length; rw [List.length_take, hsl]; show min j usc.length + 1 ≤ 2 ^ 24; omega) fun z12 as3 s25 st26 has3 => w_args0 (w_list st26 fun al s26 st27 => ?_)
          have hasR3 := has3 ((ab, tupO [.str "b.a" th]) :: (z11 ++ RB)) (.tail _ hasR2) (.head _)
          have hw1 : WayV (usc.take j) (cc.2.1.take j) := hwc.take j
          have hw2 : WayV (usc.take j ++ [.str "b.a" th]) (cc.2.1.take j ++ [("b.a" : Str)]) := (hwc.take j).append (WayV.one _ th)
          obtain ⟨ZN, hZN⟩ : ∃ ZN : Lg, ZN = z12 ++ ((ab, tupO [.str "b.a" th]) :: (z11 ++ z10)) := ⟨_, rfl⟩
          have mN1 : (as, tupO (usc.take j)) ∈ ZN ++ RB := by
            rw [hZN]; exact mA1 hasR
          have mN2 : (as3, tupO (usc.take j ++ [.str "b.a" th])) ∈ ZN ++ RB := by
            rw [hZN]
            exact mA2 hasR3
          obtain ⟨W27, hW27⟩ : ∃ W27 : Lg, W27 = (al, listO [.ref as, .ref as3] 0) :: (z12 ++ ((ab, tupO [.str "b.a" th]) :: (z11 ++ (z10 ++ ((I2, oI2) :: (ar, ro) :: (I, oI) :: (aw, listO uw kw) :: (B + 6, o5) :: (B + 5, o4) :: (B + 4, o3') :: (B + 3, o2') :: (B + 2, o1') :: (B + 1, o0') :: ((z9 ++ z) ++ RB)))))) := ⟨_, rfl⟩
          rw [← hW27] at st27
          have mal : (al, listO [.ref as, .ref as3] 0) ∈ W27 := by rw [hW27]; exact .head _
          refine w_compName cx.hand fn.gl rfl rfl (fun C => rfl) (fun i2 ys2 l2 => W27 = l2 ∧ Vs (WAt (ZN ++ RB)) ys2 ((([cc.2.1.take j, cc.2.1.take j ++ [("b.a" : Str)]] : List Way).take i2).filter fun w => !decide (w ∈ (List.range j).foldl (waysK cc.2.1) (waysOf (row.take i))))) st27 mal ⟨rfl, .nil⟩ (by show 2 ≤ 2 ^ 20; decide) (fun i2 ys2 l2 hJ => hJ.1 ▸ mal) ?_ ?_
          · rintro cenv i2 v2 ys2 z13 l2 s27 E4 hcE hv2 hJ rw2 st28
            refine W.gen fun QB hQB => ?_
            obtain ⟨C, hcenv⟩ := hcE
            obtain ⟨rfl, hys2⟩ := hJ
            have hcw : cenv.cells.lookup ("ways" : Str) = some (B + 1) := by
              rw [hcenv]
              show List.lookup _ (cellsFrom _ _ (match env.cells.lookup ("ways" : Str) with | some c => [(("ways" : Str), c)] | none => [])) = _
              rw [le.lways]; rfl
            have hel : ∃ (q : Addr) (xs : List Value) (y : Way), v2 = .ref q ∧ (q, tupO xs) ∈ ZN ++ RB ∧ WayV xs y ∧ ([cc.2.1.take j, cc.2.1.take j ++ [("b.a" : Str)]] : List Way)[i2]? = some y ∧ Okw y ∧ y.length ≤ 100 := by
              have hmenu : Okw (cc.2.1.take j) := okw_menu fun x hx => hokc.menu x (List.mem_of_mem_take hx)
              have hl3 : (cc.2.1.take j).length ≤ 3 := by rw [List.length_take]; have := hokc.len; omega
              have : i2 < 2 := by have := (List.getElem?_eq_some_iff.mp hv2).1; simpa using this
              match i2, this with
              | 0, _ => cases hv2; exact ⟨as, _, _, rfl, mN1, hw1, rfl, hmenu, by omega⟩
              | 1, _ => cases hv2; exact ⟨as3, _, _, rfl, mN2, hw2, rfl, fun x hx => by
                  rcases List.mem_append.mp hx with hx | hx
                  · exact hmenu x hx
                  · rw [List.mem_singleton] at hx; subst hx; decide +kernel, by rw [List.length_append]; simp at hl3 ⊢; omega⟩
            have rwy : Rd prog w cenv [(B + 1, o0')] "ways" (.ref aw) := by subst hcenv; exact Rd.up rfl rfl hcw (.head _) hw0
            obtain ⟨qv, xsv, yv, rfl, mqv, hwv, hyv, okv, hlv⟩ := hel
            have mZN : ∀ x ∈ ZN ++ RB, x ∈ W27 := fun x hx => by
              rw [hW27]; rw [hZN] at hx
              exact .tail _ (mA3 hx fun y hy => .tail _ (.tail _ (.tail _ (.tail _ (.tail _ (.tail _ (.tail _ (.tail _ (.tail _ (.tail _ (List.mem_append_right _ hy)))))))))))
            have maw27 : (aw, listO uw kw) ∈ W27 := by rw [hW27]; (repeat (first | exact List.Mem.head _ | apply List.Mem.tail | apply List.mem_append_right))
            have mo27 : (B + 1, o0') ∈ W27 := by rw [hW27]; (repeat (first | exact List.Mem.head _ | apply List.Mem.tail | apply List.mem_append_right))
            refine w_tests1 (w_testcmp (w_rd rw2 st28 (fun x hx => List.mem_append_left _ hx) (w_rd rwy st28 (fun x hx => by rw [List.mem_singleton] at hx; subst hx; exact List.mem_append_right _ mo27) ?_)))
            have mB27 : ∀ x ∈ (z9 ++ z) ++ RB, x ∈ W27 := fun x hx => by rw [hW27]; refine .tail _ (List.mem_append_right _ (.tail _ (List.mem_append_right _ (List.mem_append_right _ ?_)))); exact .tail _ (.tail _ (.tail _ (.tail _ (.tail _ (.tail _ (.tail _ (.tail _ (.tail _ (.tail _ hx)))))))))
            refine w_notin_ways (ways := (List.range j).foldl (waysK cc.2.1) (waysOf (row.take i))) st28 (List.mem_append_right _ maw27) (List.mem_append_right _ (mZN _ mqv)) hwv okv (by show A.units + 66 < cLine; have := cx.units; omega) ?_ hw9.length (w_tbool (hQB _ _ ?_))
            · intro i3 v3 hv3
              obtain ⟨y, hy, q3, zs3, e3, hq3, hwv3, hl3⟩ := hw9.at hv3
              exact ⟨y, hy, q3, zs3, e3, List.mem_append_right _ (mB27 _ hq3), hwv3, okw_foldK hokc.menu _ _ (okw_waysOf fun c hc => hrowok c (List.mem_of_mem_take hc)) y (List.mem_of_getElem? hy)⟩
            · have et : ([cc.2.1.take j, cc.2.1.take j ++ [("b.a" : Str)]] : List Way).take (i2 + 1) = ([cc.2.1.take j, cc.2.1.take j ++ [("b.a" : Str)]] : List Way).take i2 ++ [yv] := by rw [List.take_add_one, hyv]; rfl
              by_cases hm : yv ∈ (List.range j).foldl (waysK cc.2.1) (waysOf (row.take i))
              · rw [decide_eq_true hm, if_neg (by decide)]
                refine ⟨_, st28, rfl, ?_⟩
                rw [et, List.filter_append, List.filter_cons_of_neg (by simp [hm]), List.filter_nil, List.append_nil]
                exact hys2
              · rw [decide_eq_false hm, if_pos (by decide)]
                refine w_rd rw2 st28 (fun x hx => List.mem_append_left _ hx) ⟨_, st28, rfl, ?_⟩
                rw [et, List.filter_append, List.filter_cons_of_pos (by simp [hm]), List.filter_nil]
                exact hys2.append (.cons ⟨qv, xsv, rfl, mqv, hwv, hlv⟩ .nil)
          · rintro ys2 k2 D2 C oC mN l2 s28 ⟨rfl, hys2⟩ hle2 hN2 st28
            refine RRn_done st28 hN2 fun s29 st29 => ?_
            rw [show ([Value.ref as, .ref as3] : List Value).length = 2 from rfl] at hys2
            have hys2 : Vs (WAt (ZN ++ RB)) ys2 (([cc.2.1.take j, cc.2.1.take j ++ [("b.a" : Str)]] : List Way).filter fun w => !decide (w ∈ (List.range j).foldl (waysK cc.2.1) (waysOf (row.take i)))) := hys2
            have hl9 : uw.length ≤ 8 * i + 2 * j := by
              have h1 := len_foldK (way := cc.2.1) (List.range j) (waysOf (row.take i))
              have h2 := len_waysOf (cs := row.take i) fun c hc => hrowok c (List.mem_of_mem_take hc)
              rw [List.length_range] at h1
              rw [List.length_take] at h2
              rw [hw9.length]
              omega
            have hi65 : i < row.length := (List.getElem?_eq_some_iff.mp hci).1
            rw [hW27] at st29
            refine w_args0 (w_extend (l' := fun o' => (D2, listO ys2 k2) :: (al, listO [.ref as, .ref as3] 0) :: (z12 ++ ((ab, tupO [.str "b.a" th]) :: (z11 ++ (z10 ++ ((I2, oI2) :: (ar, ro) :: (I, oI) :: (aw, o') :: (B + 6, o5) :: (B + 5, o4) :: (B + 4, o3') :: (B + 3, o2') :: (B + 2, o1') :: (B + 1, o0') :: ((z9 ++ z) ++ RB))))))) st29 (fun o' => .tail (.tail (.app (.tail (.app (.app (.tail (.tail (.tail .head))))))))) (.head _) (by have h1 : ys2.length ≤ 2 := hle2; have := hokc.len; omega) fun n' s30 st30 => ?_)
            refine w_nil ?_
            obtain ⟨X, hX⟩ : ∃ X : Lg, X = (D2, listO ys2 k2) :: (al, listO [.ref as, .ref as3] 0) :: (z12 ++ ((ab, tupO [.str "b.a" th]) :: (z11 ++ z10))) := ⟨_, rfl⟩
            have st31 : S env nsL h₀ [v0, some (.ref D), some (.int j tk), none, none, none, none, none] ((I2, oI2) :: (ar, ro) :: (I, oI) :: (aw, listO (uw ++ ys2) n') :: (B + 6, o5) :: (B + 5, o4) :: (B + 4, o3') :: (B + 3, o2') :: (B + 2, o1') :: (B + 1, o0') :: (((X ++ z9) ++ z) ++ RB)) s₀ s30 := by
              rw [asc5, ← hX] at st30
              exact st30.perm (pmv1 X ((I2, oI2) :: (ar, ro) :: (I, oI) :: (aw, listO (uw ++ ys2) n') :: (B + 6, o5) :: (B + 5, o4) :: (B + 4, o3') :: (B + 3, o2') :: (B + 2, o1') :: [(B + 1, o0')]) (z9 ++ z) RB |> fun h => (List.append_assoc X z9 z ▸ h))
            subst hLP2
            refine ⟨_, _, st31, uw ++ ys2, n', X ++ z9, _, rfl, ?_, rfl⟩
            rw [List.range_succ, List.foldl_append]
            refine (hw9.imp (WAt.mono fun x hx => ?_)).append (hys2.imp (WAt.mono fun x hx => ?_))
            · rcases List.mem_append.mp hx with hx | hx
              · rcases List.mem_append.mp hx with hx | hx
                · exact List.mem_append_left _ (List.mem_append_left _ (List.mem_append_right _ hx))
                · exact List.mem_append_left _ (List.mem_append_right _ hx)
              · exact List.mem_append_right _ hx
            · rcases List.mem_append.mp hx with hx | hx
              · exact List.mem_append_left _ (List.mem_append_left _ (List.mem_append_left _ (by rw [hX, ← hZN]; exact .tail _ (.tail _ hx))))
              · exact List.mem_append_right _ hx
        · intro x hx hfr
          simp only [List.mem_cons, List.not_mem_nil, or_false] at hx
          rcases hx with rfl | rfl | rfl
          · cases hfr
          · cases hfr
          · show (env.cells.lookup ("ways" : Str)).isSome = true
            rw [le.lways]; rfl
      · rintro vs' l' s' ⟨uw, kw, z9, kx, rfl, hw9, rfl⟩ st'
        refine w_nil ?_
        subst hLP
        refine ⟨_, _, st'.drop, .mk uw kw (z9 ++ z) o3' o2' o1' _ _ _ kx hk3 hk2 hk1 ?_⟩
        have e : row.take (i + 1) = row.take i ++ [cc] := by rw [List.take_add_one, hci]; rfl
        rw [e]
        unfold waysOf at hw9 ⊢
        rw [List.foldl_append]
        exact hw9
  · rintro vs' l' s' ⟨uw, kw, z, o3, o2, o1, x3, x2, x1, kx, hc3, hc2, hc1, hway⟩ st'
    rw [hrow.length, List.take_length] at hway
    refine h z uw kw o3 o2 o1 x3 x2 x1 kx s' hc3 hc2 hc1 hway (st'.perm ?_)
    have := List.perm_middle (a := (aw, listO uw kw)) (l₁ := [(B + 6, o5), (B + 5, o4), (B + 4, o3), (B + 3, o2), (B + 2, o1)]) (l₂ := (B + 1, o0') :: (z ++ RB))
    simpa using this.symm
end
end Mine
end
section
open PySem PySem.W PySem.Calls PyProof.Rows PySem.Spec
set_option maxRecDepth 100000
namespace Mine
section
variable {prog : Program} {w : World} {A : Around} {E : Value → Shared → Prop} {env env2 : Env} {ns : List Str} {h₀ : Heap} {vs : List (Option Value)} {l : Lg} {s₀ s : Shared}

theorem w_compNone {elt i0 tst : Expr} {kx gx : Str} {pk pg p1 p2 p3 pos : Pos} {scope : Scope} {RR : Value → Addr → Result → Shared → Prop} {ar : Addr} {n : Nat} {t t1 t2 : Tok} (hh : A.handled = none) (gl : Gl env2) (hk : scope.kind = .function) (hx : scope.names.lookup kx = some .local) (hy : scope.names.lookup gx = some .local) (hxy : kx ≠ gx) (hcell : ∀ C, cellL (C + 1) scope.names = [])
    (st : S env ns h₀ vs l s₀ s) (hm : (ar, { cls := .type "range", data := .fields #[.int 0 t1, .int n t, .int 1 t2] }) ∈ l) (hn : n ≤ 2 ^ 20)
    (test : ∀ A' cenv (i : Nat) tk (f : Int) tf z s' E', A'.units = A.units → (∃ C, cenv = cE scope (closL env2.cells scope.names []) env2 C) → i < n → (f = 0 ∨ f = 1) → Rd prog w cenv z kx (.int i tk) → Rd prog w cenv z gx (.int f tf) → S env ns h₀ vs (z ++ l) s₀ s' →
      W (model prog w) A' (testsOf [tst] cenv) (fun ok s3 => ok = false ∧ S env ns h₀ vs (z ++ l) s₀ s3) E' s')
    (done : ∀ D C oC m z s', LCg.NsObj oC m → S env ns h₀ vs ((C, oC) :: (D, listO [] 0) :: (z ++ l)) s₀ s' → RR (.ref D) C (.ok .next) s')
    (hb : autoParam ((kx == ("__debug__" : Str)) = false) tDec) (hb2 : autoParam ((gx == ("__debug__" : Str)) = false) tDec) :
    W (model prog w) A (pyIter (.ref ar)) (CompRest prog w A env2 E elt [⟨.Name kx pk, i0, [], 0⟩, ⟨.Name gx pg, .List [.Constant (.int 0) 0 p1, .Constant (.int 1) 0 p2] p3, [tst], 0⟩] scope pos RR) E s := by
  refine .mk (wpAny_pyIter_range (st.at hm) (range_small (by omega)) ?_)
  rw [rangeSize_n]
  have stI := st.push (rgO 0 n) rfl
  generalize hI : s.heap.objs.size = I at stI ⊢
  refine g_list stI (fun D s1 st1 => ?_) (by simp)
  refine g_newEnvC (env2 := env2) (scope := scope) (cl := closL env2.cells scope.names []) st1 fun C s2 st2 => ?_
  rw [hcell] at st2
  have st3 : S env ns h₀ vs ((I, rgO 0 n) :: (C, emptyD) :: (D, listO [] 0) :: l) s₀ s2 := by
    refine st2.perm ?_
    have := List.perm_middle (a := (I, rgO 0 n)) (l₁ := [(C, emptyD), (D, listO [] 0)]) (l₂ := l)
    simpa using this
  refine g_compStart ?_ fun Q E hQ => wpAny_pyIter_rangeiter (x := (0 : Nat)) (left := (n : Int) - (0 : Nat)) (step := 1) (st3.at (.head _)) hQ
  refine g_compLoop2 (iter_range hh n) (fun i l1 => ∃ oC m z, LCg.NsObj oC m ∧ l1 = (C, oC) :: (D, listO [] 0) :: (z ++ l)) st3 rfl ⟨_, _, [], nsObj_empty, rfl⟩ (fun _ _ _ _ _ _ => trivial) (fun x => rfl) ?_ ?_
  · rintro i v l1 z s' E' hi ⟨tk, rfl⟩ ⟨oC, m, z0, hN, rfl⟩ st'
    refine wpAny_assign_Name (g_setloc (l' := fun o' => z ++ ((C, o') :: (D, listO [] 0) :: (z0 ++ l))) (gl.comp hk) st' (kind_other hx rfl) (fun o' => .app .head) hN fun oC1 s4 hN1 st4 => ?_)
    refine g_tests0 ?_
    refine ite_t rfl ?_
    refine W.out (w_listE (w_args (w_cint st4 fun ta s5 st5 => w_args (w_cint st5 fun tb s6 st6 => w_args0 (w_list st6 fun a s7 st7 => ?_)))))
    refine wpAny_pyIter_list (st7.list (.head _)) ?_
    have hne : a ≠ s7.heap.objs.size := Nat.ne_of_lt (Heap.lt_size (st7.at (.head _)))
    have st8 := st7.push { cls := .type "list_iterator", data := .fields #[.ref a, .int (0 : Nat) 0] } rfl
    refine g_compStart1 ?_ fun Q E hQ => wpAny_pyIter_listiter ⟨_, st8.at (.head _), rfl, rfl⟩ hQ
    refine g_compLoop (turn_two1 ..) (iter_list (A := A.mark none) (by rw [Around.mark_none]; exact hh) hne [.int 0 ta, .int 1 tb]) (fun i2 l2 => ∃ oC2 m2, LCg.NsObj oC2 m2 ∧ m2 kx = some (.int i tk) ∧ l2 = (a, listO [.int 0 ta, .int 1 tb] 0) :: (z ++ ((C, oC2) :: (D, listO [] 0) :: (z0 ++ l)))) st8 ⟨rfl, rfl⟩ ⟨oC1, _, hN1, by simp, rfl⟩ (fun i2 l2 s9 o hJ st9 => by obtain ⟨_, _, _, _, rfl⟩ := hJ; exact st9.list (.tail _ (.head _))) ?_ ?_
    · rintro i2 v2 l2 z2 s9 E9 hi2 hv2 ⟨oC2, m2, hN2, hm2, rfl⟩ st9
      have hv2' : ∃ (f : Int) (tf : Tok), v2 = .int f tf ∧ (f = 0 ∨ f = 1) := by
        have : i2 < 2 := by have := (List.getElem?_eq_some_iff.mp hv2).1; simpa using this
        match i2, this with
        | 0, _ => cases hv2; exact ⟨_, _, rfl, .inl rfl⟩
        | 1, _ => cases hv2; exact ⟨_, _, rfl, .inr rfl⟩
      obtain ⟨f, tf, rfl, hf⟩ := hv2'
      refine wpAny_assign_Name (g_setloc (l' := fun o' => z2 ++ ((a, listO [.int 0 ta, .int 1 tb] 0) :: (z ++ ((C, o') :: (D, listO [] 0) :: (z0 ++ l))))) (gl.comp hk) st9 (kind_other hy rfl) (fun o' => .app (.tail (.app .head))) hN2 fun oC3 s10 hN3 st10 => ?_)
      obtain ⟨ZZ, hZZ⟩ : ∃ ZZ : Lg, ZZ = z2 ++ ((a, listO [.int 0 ta, .int 1 tb] 0) :: (z ++ ((C, oC3) :: (D, listO [] 0) :: z0))) := ⟨_, rfl⟩
      have eZ : z2 ++ ((a, listO [.int 0 ta, .int 1 tb] 0) :: (z ++ ((C, oC3) :: (D, listO [] 0) :: (z0 ++ l)))) = ZZ ++ l := by rw [hZZ]; simp
      have mC : (C, oC3) ∈ ZZ := by rw [hZZ]; simp
      rw [eZ] at st10
      refine wpAny_mono (test (A.mark none) _ i tk f tf ZZ s10 E9 rfl ⟨C, rfl⟩ hi hf (Rd.loc hk (kind_other hx rfl) mC hN3 (by simp [hxy, hm2]) hb) (Rd.loc hk (kind_other hy rfl) mC hN3 (by simp) hb2) st10).out (fun ok s11 h11 => ?_) fun _ _ e => e
      obtain ⟨rfl, st11⟩ := h11
      rw [if_neg Bool.false_ne_true]
      rw [← eZ] at st11
      exact ⟨_, st11, oC3, _, hN3, by simp [hxy, hm2], rfl⟩
    · rintro l2 s9 ⟨oC2, m2, hN2, hm2, rfl⟩ st9
      exact ⟨_, st9.drop, oC2, m2, z0, hN2, rfl⟩
  · rintro l1 s' ⟨oC, m, z, hN, rfl⟩ st'
    exact done D C oC m z s' hN st'
end
end Mine
end
section
open PySem PySem.W PySem.Calls PyProof.Rows
set_option maxRecDepth 100000
set_option maxHeartbeats 8000000
namespace Mine
theorem dummyL2 : (PySem.Challenge.rw_aa0050_02 = PySem.Challenge.rw_aa0050_02 ∧ hd2.heap_39 = hd2.heap_39) := by k_fill; exact ⟨rfl, rfl⟩
noncomputable abbrev scD1 : Scope := ⟨.function, [(".0", .local), ("w", .cell), ("flag", .free), ("kind", .free), ("way", .free)], false, false, []⟩
noncomputable abbrev scD2 : Scope := ⟨.function, [(".0", .local), ("g", .local), ("len", .globalImplicit), ("flag", .free), ("kind", .free), ("w", .free), ("way", .free)], false, false, []⟩
noncomputable abbrev clD (B : Nat) : List (Str × Addr) := [(("way" : Str), B + 3), (("kind" : Str), B + 2), (("flag" : Str), B + 4)]
noncomputable abbrev scE1 : Scope := ⟨.function, [(".0", .local), ("k", .local), ("g", .local), ("due", .free), ("told", .free)], false, false, []⟩
theorem pmv {α : Type} (X H z L : List α) : (X ++ (H ++ (z ++ L))).Perm (H ++ ((X ++ z) ++ L)) := by simpa using List.perm_append_comm_assoc X H (z ++ L)
inductive L2J (B : Nat) (L : Lg) (vs : List (Option Value)) (i : Nat) : List (Option Value) → Lg → Prop
  | mk (z : Lg) (o5 o4 o3 o2 o1 : Obj) (x5 x4 x3 x2 x1 : Option Value) : CellV o5 x5 → CellV o4 x4 → CellV o3 x3 → CellV o2 x2 → CellV o1 x1 → L2J B L vs i vs ((B + 6, o5) :: (B + 5, o4) :: (B + 4, o3) :: (B + 3, o2) :: (B + 2, o1) :: (z ++ L))
section
variable {prog : Program} {w : World} {A : Around} {E : Value → Shared → Prop} {env : Env} {h₀ : Heap} {vs : List (Option Value)} {s₀ s : Shared}
  {p : Program} {loose : List Str} {mean : ExcName → Option Value} {mg mb : Str → Option Value} {B : Nat}
theorem loop2 {L : Lg} {D aw : Addr} {ys uw : List Value} {kD kw : Nat} {v0 v2 v3 v4 v5 v6 v7 x5 x4 x3 x2 x1 : Option Value} {row : List Cl} {ways : List Way} {oc o5 o4 o3 o2 o1 : Obj} {Q : Flow → Shared → Prop}
    (fn : Fn env nsL) (he : ∃ q f c, env = envOfC q lawScope B f c) (cx : Cx (hd2.heap_39 w.params) p loose mean mg mb 200 200 A env h₀)
    (st : S env nsL h₀ [v0, some (.ref D), v2, v3, v4, v5, v6, v7] ((B + 6, o5) :: (B + 5, o4) :: (B + 4, o3) :: (B + 3, o2) :: (B + 2, o1) :: L) s₀ s) (hc5 : CellV o5 x5) (hc4 : CellV o4 x4) (hc3 : CellV o3 x3) (hc2 : CellV o2 x2) (hc1 : CellV o1 x1)
    (hD : (D, listO ys kD) ∈ L) (hrow : Vs (CAt L) ys row) (hok : ∀ c ∈ row, OkC c) (hlen : row.length ≤ 65) (hc : (B + 1, oc) ∈ L) (hcv : CellV oc (some (.ref aw))) (haw : (aw, listO uw kw) ∈ L) (hw : Vs (WAt L) uw ways) (hwo : ∀ x ∈ ways, Okw x) (hwl : ways.length ≤ 1000)
    (h : ∀ z s', S env nsL h₀ [v0, some (.ref D), v2, v3, v4, v5, v6, v7] (z ++ L) s₀ s' → W (model prog w) A (execs (lawBody.drop 4) env) Q E s') : W (model prog w) A (execs (lawBody.drop 3) env) Q E s := by
  have le : LEnv env B := by obtain ⟨q, f, c, rfl⟩ := he; exact lEnv q B f c
  have hsl : sizeLine = 2 ^ 24 := rfl
  have hyl : ys.length = row.length := hrow.length
  refine w_cons (w_for (w_name 1 fn st rfl rfl ?_))
  refine w_for_list cx.hand st (.tail _ (.tail _ (.tail _ (.tail _ (.tail _ hD))))) (L2J B L [v0, some (.ref D), v2, v3, v4, v5, v6, v7])
    (.mk [] o5 o4 o3 o2 o1 x5 x4 x3 x2 x1 hc5 hc4 hc3 hc2 hc1) (fun i vs' l' hJ => by obtain ⟨z⟩ := hJ; exact .tail _ (.tail _ (.tail _ (.tail _ (.tail _ (List.mem_append_right _ hD)))))) ?_ ?_
  · clear hc5 hc4 hc3 hc2 hc1 st
    intro i v vs' l' I oI s10 E2 hvi hJ st11
    generalize hLP : LPost _ _ _ _ _ _ _ _ = QQ; revert QQ; refine hold ?_; intro QQ hLP
    obtain ⟨z, o5, o4, o3, o2, o1, x5, x4, x3, x2, x1, hc5, hc4, hc3, hc2, hc1⟩ := hJ
    obtain ⟨cc, hci, ac, qc, usc, tk1, tk2, rfl, mc1, mc2, hwc⟩ := hrow.at hvi
    have hokc := hok cc (List.mem_of_getElem? hci)
    have mL : ∀ (p3 p2 p1 : Obj), ∀ x ∈ L, x ∈ (I, oI) :: (B + 6, o5) :: (B + 5, o4) :: (B + 4, p3) :: (B + 3, p2) :: (B + 2, p1) :: (z ++ L) := fun _ _ _ x hx => .tail _ (.tail _ (.tail _ (.tail _ (.tail _ (.tail _ (List.mem_append_right _ hx))))))
    refine w_unpack cx.hand st11 (mL _ _ _ _ mc1) rfl rfl fun s11 st12 => ?_
    refine w_inorder (w_aname (w_setcell (l' := fun o' => (I, oI) :: (B + 6, o5) :: (B + 5, o4) :: (B + 4, o3) :: (B + 3, o2) :: (B + 2, o') :: (z ++ L)) fn.gl st12 le.kkind le.lkind (fun o' => .tail (.tail (.tail (.tail (.tail .head))))) hc1 fun o1' s12 hk1 st13 => ?_))
    refine w_inorder (w_aname (w_setcell (l' := fun o' => (I, oI) :: (B + 6, o5) :: (B + 5, o4) :: (B + 4, o3) :: (B + 3, o') :: (B + 2, o1') :: (z ++ L)) fn.gl st13 le.kway le.lway (fun o' => .tail (.tail (.tail (.tail .head)))) hc2 fun o2' s13 hk2 st14 => ?_))
    refine w_inorder (w_aname (w_setcell (l' := fun o' => (I, oI) :: (B + 6, o5) :: (B + 5, o4) :: (B + 4, o') :: (B + 3, o2') :: (B + 2, o1') :: (z ++ L)) fn.gl st14 le.kflag le.lflag (fun o' => .tail (.tail (.tail .head))) hc3 fun o3' s14 hk3 st15 => ?_))
    refine w_inorder0 ?_
    have rkind : Rd prog w env [(B + 2, o1')] "kind" (.int cc.1 tk1) := Rd.cell fn.kind le.kkind le.lkind (.head _) hk1
    have rway : Rd prog w env [(B + 3, o2')] "way" (.ref qc) := Rd.cell fn.kind le.kway le.lway (.head _) hk2
    have rflag : Rd prog w env [(B + 4, o3')] "flag" (.int cc.2.2 tk2) := Rd.cell fn.kind le.kflag le.lflag (.head _) hk3
    have rways : Rd prog w env [(B + 1, oc)] "ways" (.ref aw) := Rd.cell fn.kind le.kways le.lways (.head _) hcv
    obtain ⟨H3, hH3⟩ : ∃ H3 : Lg, H3 = [(B + 4, o3'), (B + 3, o2'), (B + 2, o1')] := ⟨_, rfl⟩
    have st15 : S env nsL h₀ [v0, some (.ref D), v2, v3, v4, v5, v6, v7] ((I, oI) :: (B + 6, o5) :: (B + 5, o4) :: (H3 ++ (z ++ L))) s₀ s14 := by rw [hH3]; exact st15
    have mk : ∀ x ∈ [(B + 2, o1')], x ∈ H3 := mem1 (by rw [hH3]; (repeat (first | exact List.Mem.head _ | apply List.Mem.tail | apply List.mem_append_right)))
    have mw : ∀ x ∈ [(B + 3, o2')], x ∈ H3 := mem1 (by rw [hH3]; (repeat (first | exact List.Mem.head _ | apply List.Mem.tail | apply List.mem_append_right)))
    have mf : ∀ x ∈ [(B + 4, o3')], x ∈ H3 := mem1 (by rw [hH3]; (repeat (first | exact List.Mem.head _ | apply List.Mem.tail | apply List.mem_append_right)))
    have mL : ∀ (a b c : Addr × Obj) (Z : Lg), ∀ x ∈ L, x ∈ a :: b :: c :: (H3 ++ (Z ++ L)) := fun _ _ _ _ x hx => .tail _ (.tail _ (.tail _ (List.mem_append_right _ (List.mem_append_right _ hx))))
    have mH : ∀ (a b c : Addr × Obj) (Z : Lg), ∀ x ∈ H3, x ∈ a :: b :: c :: (H3 ++ (Z ++ L)) := fun _ _ _ _ x hx => .tail _ (.tail _ (.tail _ (List.mem_append_left _ hx)))
    have fin : ∀ (Z : Lg) (p5 p4 : Obj) (y5 y4 : Option Value) (s' : Shared), CellV p5 y5 → CellV p4 y4 → S env nsL h₀ [v0, some (.ref D), v2, v3, v4, v5, v6, v7] ((I, oI) :: (B + 6, p5) :: (B + 5, p4) :: (H3 ++ (Z ++ L))) s₀ s' →
        ∃ vs' l', S env nsL h₀ vs' ((I, oI) :: l') s₀ s' ∧ L2J B L [v0, some (.ref D), v2, v3, v4, v5, v6, v7] (i + 1) vs' l' := by
      intro Z p5 p4 y5 y4 s' h5 h4 st'
      rw [hH3] at st'
      exact ⟨_, _, st', .mk Z p5 p4 o3' o2' o1' _ _ _ _ _ h5 h4 hk3 hk2 hk1⟩
    refine w_cons (w_if (w_testcmp (w_rd rkind st15 (fun x hx => mH _ _ _ _ _ (mk x hx)) (w_int st15 fun ta s15 st16 => w_lt (w_tbool ?_)))))
    by_cases hlt3 : cc.1 < 3
    · refine ite_t (decide_eq_true hlt3) ?_
      refine w_cons (w_assignC (w_subE (w_callE (w_global fn cx st16 (by k_is) le.ktoldf (by decide) (w_ccwK cx (by k_is) (w_args (w_callE (w_global fn cx st16 (by k_is) le.krun (by decide) (w_ccwK cx (by k_is) (w_args (w_listE (w_args (w_tupleE (w_args (w_rd rkind st16 (fun x hx => mH _ _ _ _ _ (mk x hx)) (w_args (w_rd rway st16 (fun x hx => mH _ _ _ _ _ (mw x hx)) (w_args (w_rd rflag st16 (fun x hx => mH _ _ _ _ _ (mf x hx)) (w_args0 (w_tuple st16 fun ap s16 st17 => w_args0 (w_list st17 fun al s17 st18 => w_args0 ⟨st18.inK cx, w_callF ?_⟩))))))))))))))))))))))
      have mc2' : ∀ (a b c d e : Addr × Obj) (Z : Lg), (qc, tupO usc) ∈ a :: b :: c :: d :: e :: (H3 ++ (Z ++ L)) := fun a b c d e Z => .tail _ (.tail _ (mL _ _ _ _ _ mc2))
      refine run_spec (d := 196) (u := 120) (cs := [cc]) fn cx st18 (.head _) (.cons ⟨ap, qc, usc, tk1, tk2, rfl, .tail _ (.head _), mc2' _ _ _ _ _ _, hwc⟩ .nil) (fun c hc => by rw [List.mem_singleton] at hc; subst hc; exact hokc) (by show 1 < 70; decide) fun F z1 s19 H1 P1 st19 => ?_
      obtain ⟨LB, hLB⟩ : ∃ LB : Lg, LB = (al, listO [.ref ap] 0) :: (ap, tupO [.int cc.1 tk1, .ref qc, .int cc.2.2 tk2]) :: (I, oI) :: (B + 6, o5) :: (B + 5, o4) :: (H3 ++ (z ++ L)) := ⟨_, rfl⟩
      rw [← hLB] at st19 P1
      have mLB : ∀ x ∈ L, x ∈ LB := fun x hx => by rw [hLB]; exact .tail _ (.tail _ (mL _ _ _ _ _ hx))
      have mHB : ∀ x ∈ H3, x ∈ LB := fun x hx => by rw [hLB]; exact .tail _ (.tail _ (mH _ _ _ _ _ hx))
      have O1 : OkS (runC [cc]) (0 + 1) := OkS.run (cs := [cc]) (fun c hc => by rw [List.mem_singleton] at hc; subst hc; exact hokc) OkS.nil
      refine w_args (w_rd rways st19 (fun x hx => by rw [List.mem_singleton] at hx; subst hx; exact List.mem_append_right _ (List.mem_append_right _ (mLB _ hc))) (w_args0 ⟨st19.inK cx, w_callF ?_⟩))
      refine told_spec (d := 196) (u := 190) fn cx st19 H1 (fun c hc => hc) P1 (by have := O1.len; omega) O1.ps (List.mem_append_right _ (mLB _ haw)) (hw.imp (WAt.mono fun x hx => List.mem_append_right _ (mLB _ hx))) hwl fun a1 D1 D2 k1 k2 ys1 ys2 z3 s20 st20 ma1 mD1 mD2 r1 r2 => ?_
      have hsel : ∃ (j : Nat) (Dj : Addr) (kj : Nat) (ysj : List Value), seqIndex? (cc.1.fdiv 2) 2 = some j ∧ ([Value.ref D1, .ref D2] : List Value)[j]? = some (.ref Dj) ∧ (Dj, listO ysj kj) ∈ z3 ∧ Vs (TB z3) ysj (ways.map (dueC cc)) := by
        have hk := hokc.kind
        have e := due_ok (ways := ways) hokc hlt3
        rcases (by omega : cc.1 = 0 ∨ cc.1 = 1 ∨ cc.1 = 2) with e1 | e1 | e1
        · refine ⟨0, D1, k1, ys1, by rw [e1]; rfl, rfl, mD1, ?_⟩
          rw [← e, told01, if_neg (by omega)]; exact r1
        · refine ⟨0, D1, k1, ys1, by rw [e1]; rfl, rfl, mD1, ?_⟩
          rw [← e, told01, if_neg (by omega)]; exact r1
        · refine ⟨1, D2, k2, ys2, by rw [e1]; rfl, rfl, mD2, ?_⟩
          rw [← e, told01, if_pos e1]; exact r2
      obtain ⟨j, Dj, kj, ysj, hj, hxj, mDj, rj⟩ := hsel
      have hf2 : cc.1.fdiv 2 < 2 ^ 63 ∧ -(2 ^ 63) ≤ cc.1.fdiv 2 := by
        have hk := hokc.kind
        rcases (by omega : cc.1 = 0 ∨ cc.1 = 1 ∨ cc.1 = 2) with e1 | e1 | e1 <;> rw [e1] <;> decide
      refine w_binop (w_rd rkind st20 (fun x hx => List.mem_append_right _ (List.mem_append_right _ (mHB _ (mk x hx)))) (w_int st20 fun tb s21 st21 => w_div (by decide) (byPy _ _ (by decide +kernel)) st21 fun tc s22 st22 => ?_))
      refine w_item_tup st22 (List.mem_append_left _ ma1) hf2.2 hf2.1 hj hxj ?_
      have st23 : S env nsL h₀ [v0, some (.ref D), v2, v3, v4, v5, v6, v7] ((I, oI) :: (B + 6, o5) :: (B + 5, o4) :: (H3 ++ ((z3 ++ z1 ++ [(al, listO [.ref ap] 0), (ap, tupO [.int cc.1 tk1, .ref qc, .int cc.2.2 tk2])] ++ z) ++ L))) s₀ s22 := by
        refine st22.perm ?_
        have := pmv (z3 ++ z1 ++ [(al, listO [.ref ap] 0), (ap, tupO [.int cc.1 tk1, .ref qc, .int cc.2.2 tk2])]) ((I, oI) :: (B + 6, o5) :: (B + 5, o4) :: H3) z L
        rw [hLB]
        simpa using this
      obtain ⟨Z1, hZ1⟩ : ∃ Z1 : Lg, Z1 = z3 ++ z1 ++ [(al, listO [.ref ap] 0), (ap, tupO [.int cc.1 tk1, .ref qc, .int cc.2.2 tk2])] ++ z := ⟨_, rfl⟩
      rw [← hZ1] at st23
      have m3Z : ∀ x ∈ z3, x ∈ Z1 := fun x hx => by rw [hZ1]; simp [hx]
      refine w_setcell (l' := fun o' => (I, oI) :: (B + 6, o5) :: (B + 5, o') :: (H3 ++ (Z1 ++ L))) fn.gl st23 le.ktold le.ltold (fun o' => .tail (.tail .head)) hc4 fun o4' s23 hk4 st24 => ?_
      have rj := rj.imp (TB.mono m3Z)
      have mDj := m3Z _ mDj
      clear st23 st22 st21 st20 st19 st18 st17 mLB mHB m3Z hZ1 hLB mc2' P1 H1 r1 r2 ma1 mD1 mD2
      obtain ⟨LL, hLL⟩ : ∃ LL : Lg, LL = (I, oI) :: (B + 6, o5) :: (B + 5, o4') :: (H3 ++ (Z1 ++ L)) := ⟨_, rfl⟩
      rw [← hLL] at st24
      have mL1 : ∀ x ∈ L, x ∈ LL := fun x hx => by rw [hLL]; exact mL _ _ _ _ _ hx
      have mH1 : ∀ x ∈ H3, x ∈ LL := fun x hx => by rw [hLL]; exact mH _ _ _ _ _ hx
      have mZ1 : ∀ x ∈ Z1, x ∈ LL := fun x hx => by rw [hLL]; exact .tail _ (.tail _ (.tail _ (List.mem_append_right _ (List.mem_append_left _ hx))))
      have hcl1 : closL env.cells scD1.names [] = clD B := by
        show (match env.cells.lookup ("flag" : Str) with | some c => (match env.cells.lookup ("kind" : Str) with | some c2 => (match env.cells.lookup ("way" : Str) with | some c3 => [(("way" : Str), c3), (("kind" : Str), c2), (("flag" : Str), c)] | none => [(("kind" : Str), c2), (("flag" : Str), c)]) | none => _) | none => _) = _
        rw [le.lflag, le.lkind, le.lway]
      refine w_cons (w_assignC (w_comp (w_rd rways st24 (fun x hx => by rw [List.mem_singleton] at hx; subst hx; exact mL1 _ hc) ?_) ?_ (fun x => rfl) rfl (by decide)) (by obtain ⟨q, f, c, rfl⟩ := he; rfl))
      · refine w_compList (scope := scD1) cx.hand FC (fun C v fr => ∃ oc oC, fr = [(C + 1, oc), (C, oC)] ∧ CellV oc (some v)) (fun i ys l' => ∃ z', l' = z' ++ LL ∧ Vs (TB z') ys ((ways.take i).map (dueC cc)))
          st24 (mL1 _ haw) ⟨[], rfl, .nil⟩ (by rw [hw.length]; omega) (fun i ys l' hJ => by obtain ⟨z', rfl, _⟩ := hJ; exact List.mem_append_right _ (mL1 _ haw))
          (fun C => FC.start) (fun C fr h => h.end_) ?_ ?_ ?_
        · intro C i2 v fr2 fr l' z2 s' E' hv hJ hfr st'
          rw [hcl1]
          exact w_asgcell fn.gl rfl rfl rfl hfr st'
        · rintro C i2 v ys2 fr l' z2 s' E' hv ⟨z', rfl, hys⟩ ⟨oc1, oC1, rfl, hcv1⟩ st'
          obtain ⟨w0, hw0, q, xs, rfl, hq, hwv, hwl2⟩ := hw.at hv
          obtain ⟨lr, hlr⟩ : ∃ lr, lr = z' ++ LL := ⟨_, rfl⟩
          rw [← hlr] at st'
          have mlr : ∀ x ∈ LL, x ∈ lr := fun x hx => hlr ▸ List.mem_append_right _ hx
          refine w_tests0 ?_
          rw [if_pos rfl, hcl1]
          refine w_comp ?_ (by
            intro x hx hfr
            simp only [List.mem_cons, List.not_mem_nil, or_false] at hx
            rcases hx with rfl | rfl | rfl | rfl | rfl | rfl | rfl <;> first | rfl | cases hfr) (fun x => rfl) rfl (by decide)
          refine w_listE (w_args (w_cint st' fun ta2 s2 st2 => w_args (w_cint st2 fun tb2 s3 st3 => w_args0 (w_list st3 fun a s4 st4 => ?_))))
          refine w_compList (scope := scD2) cx.hand FL (fun C2 v fr => Rd prog w (cE scD2 (closL (cE scD1 (clD B) env C).cells scD2.names []) (cE scD1 (clD B) env C) C2) fr "g" v)
            (fun i3 ys3 l3 => l3 = (a, listO [.int 0 ta2, .int 1 tb2] 0) :: (z2 ++ ([(C + 1, oc1), (C, oC1)] ++ lr)) ∧ ys3 = ((dueC cc w0).take i3).map .bool) st4 (.head _) ⟨rfl, rfl⟩ (by show 2 ≤ 2 ^ 20; decide) (fun i ys l' hJ => by rw [hJ.1]; exact .head _)
            (fun C => FL.start) (fun C fr h => h.end_) ?_ ?_ ?_
          · intro C2 i3 v3 ys3 fr2 l3 z3 s5 E5 hv3 hJ3 hfr3 st5
            exact w_asgloc (fn.gl.comp rfl) rfl rfl hfr3 st5
          · rintro C2 i3 v3 ys3 fr2 l3 z3 s5 E5 hv3 ⟨rfl, rfl⟩ hfx st5
            refine w_tests0 ?_
            refine ite_t rfl ?_
            refine W.gen fun QB hQB => ?_
            have hv3' : ∃ (f : Int) (t : Tok), v3 = .int f t ∧ (dueC cc w0)[i3]? = some ((f == cc.2.2) && (decide (w0 = cc.2.1) || (cc.1 == 1 && decide (w0.take cc.2.1.length = cc.2.1)))) := by
              have : i3 < 2 := by have := (List.getElem?_eq_some_iff.mp hv3).1; simpa using this
              match i3, this with
              | 0, _ => cases hv3; exact ⟨_, _, rfl, rfl⟩
              | 1, _ => cases hv3; exact ⟨_, _, rfl, rfl⟩
            obtain ⟨f, tf, rfl, hrow3⟩ := hv3'
            have mAll : ∀ x ∈ lr, x ∈ z3 ++ (fr2 ++ ((a, listO [.int 0 ta2, .int 1 tb2] 0) :: (z2 ++ ([(C + 1, oc1), (C, oC1)] ++ lr)))) := fun x hx => List.mem_append_right _ (List.mem_append_right _ (.tail _ (List.mem_append_right _ (List.mem_append_right _ hx))))
            have mC1 : ∀ x ∈ [(C + 1, oc1)], x ∈ z3 ++ (fr2 ++ ((a, listO [.int 0 ta2, .int 1 tb2] 0) :: (z2 ++ ([(C + 1, oc1), (C, oC1)] ++ lr)))) := mem1 (by (repeat (first | exact List.Mem.head _ | apply List.Mem.tail | apply List.mem_append_right)))
            obtain ⟨LI, hLI⟩ : ∃ LI : Lg, LI = z3 ++ (fr2 ++ ((a, listO [.int 0 ta2, .int 1 tb2] 0) :: (z2 ++ ([(C + 1, oc1), (C, oC1)] ++ lr)))) := ⟨_, rfl⟩
            have mfr : ∀ x ∈ fr2, x ∈ LI := fun x hx => by rw [hLI]; exact List.mem_append_right _ (List.mem_append_left _ hx)
            rw [← hLI] at st5 mAll mC1
            obtain ⟨cenv, hcenv⟩ : ∃ cenv : Env, cenv = cE scD2 (closL (cE scD1 (clD B) env C).cells scD2.names []) (cE scD1 (clD B) env C) C2 := ⟨_, rfl⟩
            have rflag2 : Rd prog w cenv [(B + 4, o3')] "flag" (.int cc.2.2 tk2) := by rw [hcenv]; exact Rd.up (c := B + 4) (oc := o3') rfl rfl rfl (.head _) hk3
            have rkind2 : Rd prog w cenv [(B + 2, o1')] "kind" (.int cc.1 tk1) := by rw [hcenv]; exact Rd.up (c := B + 2) (oc := o1') rfl rfl rfl (.head _) hk1
            have rway2 : Rd prog w cenv [(B + 3, o2')] "way" (.ref qc) := by rw [hcenv]; exact Rd.up (c := B + 3) (oc := o2') rfl rfl rfl (.head _) hk2
            have rw2 : Rd prog w cenv [(C + 1, oc1)] "w" (.ref q) := by rw [hcenv]; exact Rd.up (c := C + 1) (oc := oc1) rfl rfl rfl (.head _) hcv1
            have klen2 : cenv.kindOf "len" = some .globalImplicit := by rw [hcenv]; exact kind_other rfl rfl
            have gl2 : Gl cenv := by rw [hcenv]; exact (fn.gl.comp rfl).comp rfl
            have hfx : Rd prog w cenv fr2 "g" (.int f tf) := by rw [hcenv]; exact hfx
            rw [← hcenv]
            have mH2 : ∀ x ∈ H3, x ∈ LI := fun x hx => mAll _ (mlr _ (mH1 _ hx))
            have mq : (q, tupO xs) ∈ LI := mAll _ (mlr _ (mL1 _ hq))
            have mqc : (qc, tupO usc) ∈ LI := mAll _ (mlr _ (mL1 _ mc2))
            have okw0 : Okw w0 := hwo _ (List.mem_of_getElem? hw0)
            have okwc : Okw cc.2.1 := okw_menu hokc.menu
            have hun : A.units + 64 < cLine := by have := cx.units; omega
            have hzx : xs.length ≤ sizeLine := by rw [hwv.length, hsl]; omega
            have hzc : usc.length ≤ sizeLine := by rw [hwc.length, hsl]; have := hokc.len; omega
            have fin5 : ∀ (b : Bool) (s6 : Shared), b = ((f == cc.2.2) && (decide (w0 = cc.2.1) || (cc.1 == 1 && decide (w0.take cc.2.1.length = cc.2.1)))) → S env nsL h₀ [v0, some (.ref D), v2, v3, v4, v5, v6, v7] LI s₀ s6 →
                ∃ l'', S env nsL h₀ [v0, some (.ref D), v2, v3, v4, v5, v6, v7] (z3 ++ (fr2 ++ l'')) s₀ s6 ∧ l'' = (a, listO [.int 0 ta2, .int 1 tb2] 0) :: (z2 ++ ([(C + 1, oc1), (C, oC1)] ++ lr)) ∧ ((dueC cc w0).take i3).map Value.bool ++ [.bool b] = ((dueC cc w0).take (i3 + 1)).map .bool := by
              intro b s6 hb st6
              refine ⟨_, hLI ▸ st6, rfl, ?_⟩
              rw [List.take_add_one, hrow3, hb]
              simp
            refine w_and (w_cmp (w_rd hfx st5 mfr (w_rd rflag2 st5 (fun x hx => mH2 _ (mf x hx)) (w_eq (w_tbool ?_)))))
            by_cases hg : (f == cc.2.2) = true
            · refine ite_t hg ?_
              refine w_or (w_cmp (w_rd rw2 st5 mC1 (w_rd rway2 st5 (fun x hx => mH2 _ (mw x hx)) (w_eqway st5 mq mqc hwv hwc okw0 okwc hun (w_tbool ?_)))))
              by_cases hwq : w0 = cc.2.1
              · refine ite_t (decide_eq_true hwq) ?_
                exact hQB _ _ <| fin5 _ _ (by rw [hg, decide_eq_true hwq]; rfl) st5
              · refine ite_f (decide_eq_false hwq) ?_
                refine w_and (w_cmp (w_rd rkind2 st5 (fun x hx => mH2 _ (mk x hx)) (w_cint st5 fun tc2 s6 st6 => w_eq (w_tbool ?_))))
                by_cases hk1' : (cc.1 == 1) = true
                · refine ite_t hk1' ?_
                  refine w_cmp (w_subslice (w_rd rw2 st6 mC1 (wpart_0 (wpart_e (w_lenR gl2 cx klen2 (by k_is) rway2 st6 (fun x hx => mH2 _ (mw x hx)) mqc hzc fun td2 s7 st7 => ?_)))))
                  refine w_slice_tup st7 mq .none (.int _ _) hzx fun z6 as s8 st8 has => ?_
                  have has := has _ mq
                  rw [hwc.length, sl_to] at has
                  refine w_rd rway2 st8 (fun x hx => List.mem_append_right _ (mH2 _ (mw x hx))) (w_eqway st8 has (List.mem_append_right _ mqc) (hwv.take _) hwc (fun x hx => okw0 x (List.mem_of_mem_take hx)) okwc hun ?_)
                  exact hQB _ _ <| fin5 _ _ (by rw [hg, decide_eq_false hwq, hk1']; rfl) st8.dropL
                · refine ite_n hk1' ?_
                  have hk1' : (cc.1 == 1) = false := by simpa using hk1'
                  exact hQB _ _ <| fin5 _ _ (by rw [hg, decide_eq_false hwq, hk1']; rfl) st6
            · refine ite_n hg ?_
              have hg : (f == cc.2.2) = false := by simpa using hg
              exact hQB _ _ <| fin5 _ _ (by rw [hg]; rfl) st5
          · rintro ys3 k3 D3 C3 oC3 m3 l3 s5 ⟨rfl, rfl⟩ hle3 hN3 st5
            refine RRn_done st5 hN3 fun s6 st6 => ?_
            refine ⟨(D3, listO (((dueC cc w0).take 2).map .bool) k3) :: lr, ?_, (D3, listO (((dueC cc w0).take 2).map .bool) k3) :: z', by rw [hlr]; rfl, ?_⟩
            · have st7 := S.sub (l' := (D3, listO (((dueC cc w0).take 2).map .bool) k3) :: (z2 ++ ([(C + 1, oc1), (C, oC1)] ++ lr))) st6 ((List.sublist_cons_self _ _).cons_cons _)
              have := List.perm_middle (a := (D3, listO (((dueC cc w0).take 2).map .bool) k3)) (l₁ := z2 ++ [(C + 1, oc1), (C, oC1)]) (l₂ := lr)
              exact st7.perm (by simpa using this.symm)
            · have e : ways.take (i2 + 1) = ways.take i2 ++ [w0] := by rw [List.take_add_one, hw0]; rfl
              rw [e, List.map_append]
              exact Vs.append (hys.imp (TB.mono fun x hx => .tail _ hx)) (.cons ⟨D3, k3, rfl, .head _⟩ .nil)
        · rintro ys2 k2 D2 C oC m l' s' ⟨z', rfl, hys⟩ hle hN st'
          rw [hw.length, List.take_length] at hys
          refine RRn_done st' hN fun s25 st25 => ?_
          have st26 : S env nsL h₀ [v0, some (.ref D), v2, v3, v4, v5, v6, v7] ((I, oI) :: (B + 6, o5) :: (B + 5, o4') :: (H3 ++ ((((D2, listO ys2 k2) :: z') ++ Z1) ++ L))) s₀ s25 := by
            refine st25.perm ?_
            have := pmv ((D2, listO ys2 k2) :: z') ((I, oI) :: (B + 6, o5) :: (B + 5, o4') :: H3) Z1 L
            rw [hLL]
            simpa using this
          obtain ⟨Z2, hZ2⟩ : ∃ Z2 : Lg, Z2 = ((D2, listO ys2 k2) :: z') ++ Z1 := ⟨_, rfl⟩
          rw [← hZ2] at st26
          have mD2 : (D2, listO ys2 k2) ∈ Z2 := by rw [hZ2]; exact .head _
          have mz2 : ∀ x ∈ z', x ∈ Z2 := fun x hx => by rw [hZ2]; exact .tail _ (List.mem_append_left _ hx)
          have mZ2 : ∀ x ∈ Z1, x ∈ Z2 := fun x hx => by rw [hZ2]; exact .tail _ (List.mem_append_right _ hx)
          refine w_setcell (l' := fun o' => (I, oI) :: (B + 6, o') :: (B + 5, o4') :: (H3 ++ (Z2 ++ L))) fn.gl st26 le.kdue le.ldue (fun o' => .tail .head) hc5 fun o5' s27 hk5 st27 => ?_
          clear st25 st26 st' st24 hLL mL1 mH1 mZ1
          obtain ⟨LL2, hLL2⟩ : ∃ LL2 : Lg, LL2 = (I, oI) :: (B + 6, o5') :: (B + 5, o4') :: (H3 ++ (Z2 ++ L)) := ⟨_, rfl⟩
          rw [← hLL2] at st27
          have mL2 : ∀ x ∈ L, x ∈ LL2 := fun x hx => by rw [hLL2]; exact mL _ _ _ _ _ hx
          have mZ3 : ∀ x ∈ Z2, x ∈ LL2 := fun x hx => by rw [hLL2]; exact .tail _ (.tail _ (.tail _ (List.mem_append_right _ (List.mem_append_left _ hx))))
          have m5 : ∀ x ∈ [(B + 6, o5')], x ∈ LL2 := mem1 (by rw [hLL2]; (repeat (first | exact List.Mem.head _ | apply List.Mem.tail | apply List.mem_append_right)))
          have m4 : ∀ x ∈ [(B + 5, o4')], x ∈ LL2 := mem1 (by rw [hLL2]; (repeat (first | exact List.Mem.head _ | apply List.Mem.tail | apply List.mem_append_right)))
          have hwl3 : uw.length = ways.length := hw.length
          refine w_cons (w_if (w_testcmp (w_comp (w_callE (w_builtin fn cx st27 (by k_is) boot_range (by decide) le.krange (by decide) (w_cwType (w_args (w_callE (w_builtin fn cx st27 (by k_is) boot_len (by decide) le.klen (by decide) (w_cwBuiltin (w_args (w_rd rways st27 (fun x hx => by rw [List.mem_singleton] at hx; subst hx; exact mL2 _ hc) (w_args0 (w_lenlist st27 (mL2 _ haw) (by omega) fun td s28 st28 => w_args0 ?_))))))))))) ?_ (fun x => rfl) rfl (by decide))))
          · refine w_range st28 fun ar t1 t2 s29 st29 => ?_
            refine w_compNone (scope := scE1) cx.hand fn.gl rfl rfl rfl (by decide) (fun C => rfl) st29 (.head _) (by omega) ?_ ?_
            · rintro A' cenv i3 tk f tf z5 s30 E6 hu hcE hi hf rk rg st30
              refine W.gen fun QB hQB => ?_
              obtain ⟨C3, hcenv⟩ := hcE
              have m30 : ∀ x ∈ LL2, x ∈ z5 ++ ((ar, { cls := .type "range", data := .fields #[.int 0 t1, .int uw.length td, .int 1 t2] }) :: LL2) := fun x hx => List.mem_append_right _ (.tail _ hx)
              have hcl3 : closL env.cells scE1.names [] = [(("told" : Str), B + 5), (("due" : Str), B + 6)] := by
                show (match env.cells.lookup ("due" : Str) with | some c => (match env.cells.lookup ("told" : Str) with | some c2 => [(("told" : Str), c2), (("due" : Str), c)] | none => [(("due" : Str), c)]) | none => _) = _
                rw [le.ldue, le.ltold]
              rw [hcl3] at hcenv
              have rtold2 : Rd prog w cenv [(B + 5, o4')] "told" (.ref Dj) := by rw [hcenv]; exact Rd.up (c := B + 5) (oc := o4') rfl rfl rfl (.head _) hk4
              have rdue2 : Rd prog w cenv [(B + 6, o5')] "due" (.ref D2) := by rw [hcenv]; exact Rd.up (c := B + 6) (oc := o5') rfl rfl rfl (.head _) hk5
              obtain ⟨vj, hvj⟩ : ∃ v, ysj[i3]? = some v := ⟨_, List.getElem?_eq_getElem (by rw [rj.length, List.length_map]; omega)⟩
              obtain ⟨vd, hvd⟩ : ∃ v, ys2[i3]? = some v := ⟨_, List.getElem?_eq_getElem (by rw [hys.length, List.length_map]; omega)⟩
              obtain ⟨bj, hbj, aj, nj, rfl, maj⟩ := rj.at hvj
              obtain ⟨bd, hbd, ad, nd, rfl, mad⟩ := hys.at hvd
              have hbb : bj = bd := Option.some.inj (hbj.symm.trans hbd)
              have hb : ∃ b, (bj.map Value.bool)[f.toNat]? = some (.bool b) := by
                rw [List.getElem?_map] at hbj
                obtain ⟨wq, _, rfl⟩ := Option.map_eq_some_iff.mp hbj
                rcases hf with rfl | rfl
                · exact ⟨_, rfl⟩
                · exact ⟨_, rfl⟩
              obtain ⟨b, hb⟩ := hb
              have hf0 : 0 ≤ f ∧ f < 2 ^ 63 := by rcases hf with rfl | rfl <;> decide
              refine w_tests1 (w_testcmp (w_subE (w_subE (w_rd rtold2 st30 (fun x hx => m30 _ (m4 x hx)) (w_rd rk st30 (fun x hx => List.mem_append_left _ hx) (w_item_list st30 (m30 _ (mZ3 _ (mZ2 _ mDj))) (by omega) (by omega) (by simpa using hvj) ?_))))))
              refine w_rd rg st30 (fun x hx => List.mem_append_left _ hx) (w_item_list st30 (m30 _ (mZ3 _ (mZ2 _ maj))) hf0.1 hf0.2 hb ?_)
              refine w_subE (w_subE (w_rd rdue2 st30 (fun x hx => m30 _ (m5 x hx)) (w_rd rk st30 (fun x hx => List.mem_append_left _ hx) (w_item_list st30 (m30 _ (mZ3 _ mD2)) (by omega) (by omega) (by simpa using hvd) ?_))))
              refine w_rd rg st30 (fun x hx => List.mem_append_left _ hx) (w_item_list st30 (m30 _ (mZ3 _ (mz2 _ mad))) hf0.1 hf0.2 (by rw [← hbb]; exact hb) ?_)
              refine w_isnot_bool (w_tbool (hQB _ _ ⟨by simp, st30⟩))
            · rintro D3 C3 oC3 m3 z5 s30 hN3 st30
              refine RRn_done st30 hN3 fun s31 st31 => ?_
              refine w_listE (w_args0 (w_list st31 fun nb s32 st32 => ?_))
              refine w_nenil (ways := []) st32 (.tail _ (.head _)) (.head _) (fun i v h => by simp at h) rfl (by simp) (by have := cx.units; omega) (w_tbool ?_)
              rw [if_neg (by decide)]
              refine w_nil (w_nil (w_nil ?_))
              subst hLP
              refine fin ((nb, listO [] 0) :: (D3, listO [] 0) :: (z5 ++ [(ar, { cls := .type "range", data := .fields #[.int 0 t1, .int uw.length td, .int 1 t2] })]) ++ Z2) o5' o4' _ _ _ hk5 hk4 (st32.perm ?_)
              have := pmv ((nb, listO [] 0) :: (D3, listO [] 0) :: (z5 ++ [(ar, { cls := .type "range", data := .fields #[.int 0 t1, .int uw.length td, .int 1 t2] })])) ((I, oI) :: (B + 6, o5') :: (B + 5, o4') :: H3) Z2 L
              rw [hLL2]
              simpa using this
          · intro x hx hfr
            simp only [List.mem_cons, List.not_mem_nil, or_false] at hx
            rcases hx with rfl | rfl | rfl | rfl | rfl
            · cases hfr
            · cases hfr
            · cases hfr
            · show (env.cells.lookup ("due" : Str)).isSome = true
              rw [le.ldue]; rfl
            · show (env.cells.lookup ("told" : Str)).isSome = true
              rw [le.ltold]; rfl
      · intro x hx hfr
        simp only [List.mem_cons, List.not_mem_nil, or_false] at hx
        rcases hx with rfl | rfl | rfl | rfl | rfl
        · cases hfr
        · cases hfr
        · show (env.cells.lookup ("flag" : Str)).isSome = true
          rw [le.lflag]; rfl
        · show (env.cells.lookup ("kind" : Str)).isSome = true
          rw [le.lkind]; rfl
        · show (env.cells.lookup ("way" : Str)).isSome = true
          rw [le.lway]; rfl
    · refine ite_f (decide_eq_false hlt3) ?_
      refine w_nil (w_nil ?_)
      subst hLP
      exact fin z o5 o4 x5 x4 _ hc5 hc4 st16
  · rintro vs' l' s' ⟨z, o5, o4, o3, o2, o1, x5, x4, x3, x2, x1, hc5, hc4, hc3, hc2, hc1⟩ st'
    exact h ((B + 6, o5) :: (B + 5, o4) :: (B + 4, o3) :: (B + 3, o2) :: (B + 2, o1) :: z) s' (by simpa using st')
end
end Mine
end
section
open PySem PySem.W PySem.Calls PyProof.Rows
set_option maxRecDepth 100000
set_option maxHeartbeats 8000000
namespace Mine
theorem dummyL3 : (PySem.Challenge.rw_aa0050_02 = PySem.Challenge.rw_aa0050_02 ∧ hd2.heap_39 = hd2.heap_39) := by k_fill; exact ⟨rfl, rfl⟩
inductive L3J (D : Addr) (v0 : Option Value) (l : Lg) (j : Nat) : List (Option Value) → Lg → Prop
  | mk (z : Lg) (x2 x3 x4 x5 x6 x7 : Option Value) : L3J D v0 l j [v0, some (.ref D), x2, x3, x4, x5, x6, x7] (z ++ l)
section
variable {prog : Program} {w : World} {A : Around} {E : Value → Shared → Prop} {env : Env} {h₀ : Heap} {vs : List (Option Value)} {l : Lg} {s₀ s : Shared}
  {p : Program} {loose : List Str} {mean : ExcName → Option Value} {mg mb : Str → Option Value} {B : Nat}
theorem loop3 {D aw : Addr} {ys uw : List Value} {kD kw : Nat} {v0 v2 v3 v4 v5 v6 v7 : Option Value} {row : List Cl} {ways : List Way} {oc : Obj} {Q : Flow → Shared → Prop}
    (fn : Fn env nsL) (he : ∃ q f c, env = envOfC q lawScope B f c) (cx : Cx (hd2.heap_39 w.params) p loose mean mg mb 200 200 A env h₀) (st : S env nsL h₀ [v0, some (.ref D), v2, v3, v4, v5, v6, v7] l s₀ s)
    (hD : (D, listO ys kD) ∈ l) (hrow : Vs (CAt l) ys row) (hok : ∀ c ∈ row, OkC c) (hlen : row.length ≤ 65 ∧ 2 ≤ row.length) (hc : (B + 1, oc) ∈ l) (hcv : CellV oc (some (.ref aw))) (haw : (aw, listO uw kw) ∈ l) (hw : Vs (WAt l) uw ways)
    (hways : ∀ c ∈ row, c.2.1 ∈ ways) (hwl : ways.length ≤ 1000)
    (h : ∀ vs' l' s', S env nsL h₀ vs' l' s₀ s' → Q (.ret (.bool true)) s') : W (model prog w) A (execs (lawBody.drop 4) env) Q E s := by
  have le : LEnv env B := by obtain ⟨q, f, c, rfl⟩ := he; exact lEnv q B f c
  have hsl : sizeLine = 2 ^ 24 := rfl
  have hyl : ys.length = row.length := hrow.length
  refine w_cons (w_for (w_callE (w_builtin fn cx st (by k_is) boot_range (by decide) le.krange (by decide) (w_cwType (w_args (w_binop (w_callE (w_builtin fn cx st (by k_is) boot_len (by decide) le.klen (by decide) (w_cwBuiltin (w_args (w_name 1 fn st rfl rfl (w_args0 (w_lenlist st hD (by omega) fun td s1 st1 => w_int st1 fun te s2 st2 => w_sub st2 fun tf s3 st3 => w_args0 ?_)))))))))))))
  have en : ((ys.length : Int) - 1) = ((row.length - 1 : Nat) : Int) := by omega
  rw [en]
  refine w_range st3 fun ar t1 t2 s4 st4 => ?_
  refine w_for_range cx.hand st4 (.head _) (by omega) (L3J D v0 l)
    (.mk [_] v2 v3 v4 v5 v6 v7) ?_ ?_
  · intro i tk vs' l' I oI s5 E2 hi hJ st5
    generalize hLP : LPost _ _ _ _ _ _ _ _ = QQ; revert QQ; refine hold ?_; intro QQ hLP
    obtain ⟨z, x2, x3, x4, x5, x6, x7⟩ := hJ
    refine w_aname (w_store 2 fn st5 rfl (Nat.le_of_ble_eq_true rfl) fun s6 st6 => ?_)
    have mL : ∀ x ∈ l, x ∈ (I, oI) :: (z ++ l) := fun x hx => .tail _ (List.mem_append_right _ hx)
    refine w_cons (w_swapped ["ahead", "one", "other"] (w_tupleE (w_args ?_)) (by obtain ⟨q, f, c, rfl⟩ := he; rfl) (by obtain ⟨q, f, c, rfl⟩ := he; rfl))
    refine w_subslice (w_name 1 fn st6 rfl rfl (wpart_0 (wpart_e (w_name 2 fn st6 rfl rfl ?_))))
    refine w_slice_list (k := i) st6 (mL _ hD) (.int _ _) (by omega) (by omega) (fun ah s7 st7 => ?_)
    have ehr : ∀ {j : Nat}, j < row.length → ∃ v c, ys[j]? = some v ∧ row[j]? = some c ∧ CAt l v c := fun {j} hj => by
      obtain ⟨v, hv⟩ : ∃ v, ys[j]? = some v := ⟨_, List.getElem?_eq_getElem (by omega)⟩
      obtain ⟨c, hc, h⟩ := hrow.at hv
      exact ⟨v, c, hv, hc, h⟩
    obtain ⟨va, ca, hva, hca, hCa⟩ := ehr (j := i) (by omega)
    obtain ⟨vb, cb, hvb, hcb, hCb⟩ := ehr (j := i + 1) (by omega)
    refine w_args (w_subE (w_name 1 fn st7 rfl rfl (w_name 2 fn st7 rfl rfl (w_item_list st7 (.tail _ (mL _ hD)) (by omega) (by omega) (by simpa using hva) ?_))))
    refine w_args (w_subE (w_name 1 fn st7 rfl rfl (w_binop (w_name 2 fn st7 rfl rfl (w_int st7 fun tg s8 st8 => w_add st8 fun th s9 st9 => w_item_list st9 (.tail _ (mL _ hD)) (by omega) (by omega) (by simpa using hvb) ?_)))))
    refine w_args0 (w_tuple st9 fun at1 s10 st10 => ?_)
    refine w_unpackItems cx.hand st10 (.head _) rfl fun s11 st11 => ?_
    refine w_inorder (w_bind (w_store 5 fn st11 rfl (Nat.le_of_ble_eq_true rfl) fun s12 st12 => ?_))
    refine w_inorder (w_bind (w_store 4 fn st12 rfl (Nat.le_of_ble_eq_true rfl) fun s13 st13 => ?_))
    refine w_inorder (w_bind (w_store 3 fn st13 rfl (Nat.le_of_ble_eq_true rfl) fun s14 st14 => w_inorder0 ?_))
    obtain ⟨Y, hY⟩ : ∃ Y : Lg, Y = [(at1, tupO [.ref ah, va, vb]), (ah, listO (ys.take i) 0)] := ⟨_, rfl⟩
    have st14 : S env nsL h₀ [v0, some (.ref D), some (.int i tk), some (.ref ah), some va, some vb, x6, x7] (Y ++ ((I, oI) :: (z ++ l))) s₀ s14 := by rw [hY]; exact st14
    have mah : ∀ X : Lg, (ah, listO (ys.take i) 0) ∈ Y ++ X := fun X => by rw [hY]; simp
    have mL2 : ∀ x ∈ l, x ∈ Y ++ ((I, oI) :: (z ++ l)) := fun x hx => List.mem_append_right _ (mL x hx)
    obtain ⟨L1, hL1⟩ : ∃ L1 : Lg, L1 = Y ++ ((I, oI) :: (z ++ l)) := ⟨_, rfl⟩
    rw [← hL1] at st14 mL2
    have mah : (ah, listO (ys.take i) 0) ∈ L1 := by rw [hL1]; exact mah _
    have ila : ∀ {zz : Lg} {vs' s'} (st' : S env nsL h₀ vs' (zz ++ L1) s₀ s'), s'.heap.IsList ah (ys.take i).toArray := fun st' => st'.list (List.mem_append_right _ mah)
    have oka : OkC ca := hok _ (List.mem_of_getElem? hca)
    have okb : OkC cb := hok _ (List.mem_of_getElem? hcb)
    have okt : ∀ c ∈ row.take i, OkC c := fun c hc => hok c (List.mem_of_mem_take hc)
    have okab : ∀ (x y : Cl), OkC x → OkC y → ∀ c ∈ row.take i ++ [x, y], OkC c := fun x y hx hy c hc => by
      rcases List.mem_append.mp hc with hc | hc
      · exact okt c hc
      · simp only [List.mem_cons, List.not_mem_nil, or_false] at hc
        rcases hc with rfl | rfl
        · exact hx
        · exact hy
    have lab : ∀ x y : Cl, (row.take i ++ [x, y]).length ≤ 66 := fun x y => by
      rw [List.length_append, List.length_take]; show min i row.length + 2 ≤ 66; omega
    have lad : ∀ x y : Value, (ys.take i).length + [x, y].length ≤ sizeLine := fun x y => by
      rw [List.length_take, hsl]; show min i ys.length + 2 ≤ 2 ^ 24; omega
    have hVt : Vs (CAt L1) (ys.take i) (row.take i) := (hrow.take i).imp (CAt.imp fun a us h => mL2 _ h)
    have hCa1 : CAt L1 va ca := CAt.imp (fun a us h => mL2 _ h) _ _ hCa
    have hCb1 : CAt L1 vb cb := CAt.imp (fun a us h => mL2 _ h) _ _ hCb
    refine w_cons (w_swapped ["first", "second"] (w_tupleE (w_args ?_)) (by obtain ⟨q, f, c, rfl⟩ := he; rfl) (by obtain ⟨q, f, c, rfl⟩ := he; rfl))
    refine w_callE (w_global fn cx st14 (by k_is) le.krun (by decide) (w_ccwK cx (by k_is) (w_args (w_binop (w_name 3 fn st14 rfl rfl (w_listE (w_args (w_name 4 fn st14 rfl rfl (w_args (w_name 5 fn st14 rfl rfl (w_args0 (w_list st14 fun lb s15 st15 => ?_))))))))))))
    refine w_addlist st15 (st15.list (.tail _ mah)) (st15.list (.head _)) (lad _ _) fun lc s16 st16 => w_args0 ⟨st16.inK cx, w_callF ?_⟩
    refine run_spec (d := 196) (u := 120) fn cx st16 (.head _) ((hVt.append (.cons hCa1 (.cons hCb1 .nil))).imp (CAt.imp fun a us h => .tail _ (.tail _ h))) (okab _ _ oka okb) (Nat.lt_of_le_of_lt (lab _ _) (by decide)) fun F1 z1 s17 H1 P1 st17 => ?_
    refine w_args (w_callE (w_global fn cx st17 (by k_is) le.krun (by decide) (w_ccwK cx (by k_is) (w_args (w_binop (w_name 3 fn st17 rfl rfl (w_listE (w_args (w_name 5 fn st17 rfl rfl (w_args (w_name 4 fn st17 rfl rfl (w_args0 (w_list st17 fun ld s18 st18 => ?_)))))))))))))
    have m17 : ∀ x ∈ L1, x ∈ F1.cells ++ (z1 ++ ((lc, listO (ys.take i ++ [va, vb]) 0) :: (lb, listO [va, vb] 0) :: L1)) := fun x hx => List.mem_append_right _ (List.mem_append_right _ (.tail _ (.tail _ hx)))
    refine w_addlist st18 (st18.list (.tail _ (m17 _ mah))) (st18.list (.head _)) (lad _ _) fun le2 s19 st19 => w_args0 ⟨st19.inK cx, w_callF ?_⟩
    refine run_spec (d := 196) (u := 120) fn cx st19 (.head _) ((hVt.append (.cons hCb1 (.cons hCa1 .nil))).imp (CAt.imp fun a us h => .tail _ (.tail _ (m17 _ h)))) (okab _ _ okb oka) (Nat.lt_of_le_of_lt (lab _ _) (by decide)) fun F2 z2 s20 H2 P2 st20 => ?_
    refine w_args0 (w_tuple st20 fun at2 s21 st21 => ?_)
    refine w_unpackItems cx.hand st21 (.head _) rfl fun s22 st22 => ?_
    refine w_inorder (w_bind (w_store 7 fn st22 rfl (Nat.le_of_ble_eq_true rfl) fun s23 st23 => ?_))
    refine w_inorder (w_bind (w_store 6 fn st23 rfl (Nat.le_of_ble_eq_true rfl) fun s24 st24 => w_inorder0 ?_))
    obtain ⟨R, hR⟩ : ∃ R : Lg, R = (at2, tupO [.ref F1.f, .ref F2.f]) :: (z2 ++ ((le2, listO (ys.take i ++ [vb, va]) 0) :: (ld, listO [vb, va] 0) :: (z1 ++ ((lc, listO (ys.take i ++ [va, vb]) 0) :: (lb, listO [va, vb] 0) :: L1)))) := ⟨_, rfl⟩
    have st25 : S env nsL h₀ [v0, some (.ref D), some (.int i tk), some (.ref ah), some va, some vb, some (.ref F1.f), some (.ref F2.f)] (F1.cells ++ (F2.cells ++ R)) s₀ s24 := by
      rw [hR]; exact st24.perm (pm5 _ _ _ _ _ _ _)
    have mR : ∀ x ∈ L1, x ∈ R := fun x hx => by rw [hR]; exact .tail _ (List.mem_append_right _ (.tail _ (.tail _ (List.mem_append_right _ (.tail _ (.tail _ hx))))))
    have O1 : OkS (runC (row.take i ++ [ca, cb])) (0 + (row.take i ++ [ca, cb]).length) := OkS.run (okab _ _ oka okb) OkS.nil
    have O2 : OkS (runC (row.take i ++ [cb, ca])) (0 + (row.take i ++ [cb, ca]).length) := OkS.run (okab _ _ okb oka) OkS.nil
    have hl1 : (runC (row.take i ++ [ca, cb])).2.length ≤ 100 := Nat.le_trans O1.len (Nat.le_trans (Nat.le_of_eq (Nat.zero_add _)) (Nat.le_trans (lab _ _) (by decide)))
    have hl2 : (runC (row.take i ++ [cb, ca])).2.length ≤ 100 := Nat.le_trans O2.len (Nat.le_trans (Nat.le_of_eq (Nat.zero_add _)) (Nat.le_trans (lab _ _) (by decide)))
    have rways : Rd prog w env [(B + 1, oc)] "ways" (.ref aw) := Rd.cell fn.kind le.kways le.lways (.head _) hcv
    refine w_cons (w_if (w_testcmp (w_cmp (w_callE (w_global fn cx st25 (by k_is) le.ktoldf (by decide) (w_ccwK cx (by k_is) (w_args (w_name 6 fn st25 rfl rfl (w_args (w_rd rways st25 (fun x hx => by rw [List.mem_singleton] at hx; subst hx; exact List.mem_append_right _ (List.mem_append_right _ (mR _ (mL2 _ hc)))) (w_args0 ⟨st25.inK cx, w_callF ?_⟩)))))))))))
    refine told_spec (d := 196) (u := 190) fn cx st25 H1 (zz := z1 ++ ((lc, listO (ys.take i ++ [va, vb]) 0) :: (lb, listO [va, vb] 0) :: L1)) (fun c hc => ?_) P1 hl1 O1.ps (List.mem_append_right _ (mR _ (mL2 _ haw))) (hw.imp (WAt.mono fun x hx => List.mem_append_right _ (mR _ (mL2 _ hx)))) hwl fun a1 D1 D2 k1 k2 ys1 ys2 z3 s26 st26 ma1 mD1 mD2 r1 r2 => ?_
    · rw [hR]; exact List.mem_append_right _ (.tail _ (List.mem_append_right _ (.tail _ (.tail _ hc))))
    have st27 : S env nsL h₀ [v0, some (.ref D), some (.int i tk), some (.ref ah), some va, some vb, some (.ref F1.f), some (.ref F2.f)] (F2.cells ++ (z3 ++ R)) s₀ s26 := st26.perm (List.perm_append_comm_assoc _ _ _)
    refine w_callE (w_global fn cx st27 (by k_is) le.ktoldf (by decide) (w_ccwK cx (by k_is) (w_args (w_name 7 fn st27 rfl rfl (w_args (w_rd rways st27 (fun x hx => by rw [List.mem_singleton] at hx; subst hx; exact List.mem_append_right _ (List.mem_append_right _ (mR _ (mL2 _ hc)))) (w_args0 ⟨st27.inK cx, w_callF ?_⟩)))))))
    have P2' : PT prog w (AtL (z2 ++ ((le2, listO (ys.take i ++ [vb, va]) 0) :: (ld, listO [vb, va] 0) :: (z1 ++ ((lc, listO (ys.take i ++ [va, vb]) 0) :: (lb, listO [va, vb] 0) :: L1))))) F2.opd (runC (row.take i ++ [cb, ca])).2 := by
      refine P2.imp (AtL.imp fun a us hm => ?_)
      rcases List.mem_append.mp hm with hm | hm
      · exact List.mem_append_left _ hm
      · refine List.mem_append_right _ ?_
        rcases List.mem_cons.mp hm with hm | hm
        · exact hm ▸ .head _
        rcases List.mem_cons.mp hm with hm | hm
        · exact hm ▸ .tail _ (.head _)
        rcases List.mem_append.mp hm with hm | hm
        · exact (cells_notup H1 P1 hm).elim
        · exact .tail _ (.tail _ hm)
    refine told_spec (d := 196) (u := 190) fn cx st27 H2 (zz := z2 ++ ((le2, listO (ys.take i ++ [vb, va]) 0) :: (ld, listO [vb, va] 0) :: (z1 ++ ((lc, listO (ys.take i ++ [va, vb]) 0) :: (lb, listO [va, vb] 0) :: L1)))) (fun c hc => ?_) P2' hl2 O2.ps (List.mem_append_right _ (mR _ (mL2 _ haw))) (hw.imp (WAt.mono fun x hx => List.mem_append_right _ (mR _ (mL2 _ hx)))) hwl fun a2 D3 D4 k3 k4 ys3 ys4 z4 s28 st28 ma2 mD3 mD4 r3 r4 => ?_
    · rw [hR]; exact List.mem_append_right _ (.tail _ hc)
    have m3 : ∀ x ∈ z3, x ∈ z4 ++ (z3 ++ R) := fun x hx => List.mem_append_right _ (List.mem_append_left _ hx)
    have m4 : ∀ x ∈ z4, x ∈ z4 ++ (z3 ++ R) := fun x hx => List.mem_append_left _ hx
    refine w_netold (t1 := toldC ways (runC (row.take i ++ [ca, cb]))) (t2 := toldC ways (runC (row.take i ++ [cb, ca]))) st28 (m3 _ ma1) (m4 _ ma2) (m3 _ mD1) (m3 _ mD2) (m4 _ mD3) (m4 _ mD4) (r1.imp (TB.mono m3)) (r2.imp (TB.mono m3)) (r3.imp (TB.mono m4)) (r4.imp (TB.mono m4)) (by have := cx.units; omega) ?_
    rw [mat_law okt oka okb (hways _ (List.mem_of_getElem? hca)) (hways _ (List.mem_of_getElem? hcb)) fun c hc => hways c (List.mem_of_mem_take hc)]
    refine w_callE (w_global fn cx st28 (by k_is) le.kmat (by decide) (w_ccwK cx (by k_is) (w_args (w_name 3 fn st28 rfl rfl (w_args (w_name 4 fn st28 rfl rfl (w_args (w_name 5 fn st28 rfl rfl (w_args0 ⟨st28.inK cx, w_callF ?_⟩)))))))))
    have mR2 : ∀ x ∈ L1, x ∈ z4 ++ (z3 ++ R) := fun x hx => List.mem_append_right _ (List.mem_append_right _ (mR _ hx))
    refine mat_spec (d := 199) (u := 130) fn cx st28 (mR2 _ mah) (hVt.imp (CAt.imp fun a us h => mR2 _ h)) okt (by rw [List.length_take]; omega) (CAt.imp (fun a us h => mR2 _ h) _ _ hCa1) (CAt.imp (fun a us h => mR2 _ h) _ _ hCb1) oka okb fun s29 st29 => ?_
    refine w_isnot_bool (w_tbool ?_)
    rw [beq_self_eq_true, Bool.not_true, if_neg Bool.false_ne_true]
    refine w_nil (w_nil ?_)
    rw [hR, hL1] at st29
    obtain ⟨PRE, hPRE⟩ : ∃ PRE : Lg, PRE = z4 ++ (z3 ++ ((at2, tupO [.ref F1.f, .ref F2.f]) :: (z2 ++ ((le2, listO (ys.take i ++ [vb, va]) 0) :: (ld, listO [vb, va] 0) :: (z1 ++ ((lc, listO (ys.take i ++ [va, vb]) 0) :: (lb, listO [va, vb] 0) :: Y)))))) := ⟨_, rfl⟩
    have st30 : S env nsL h₀ [v0, some (.ref D), some (.int i tk), some (.ref ah), some va, some vb, some (.ref F1.f), some (.ref F2.f)] ((I, oI) :: ((PRE ++ z) ++ l)) s₀ s29 := by
      refine st29.perm ?_
      have := List.perm_middle (a := (I, oI)) (l₁ := PRE) (l₂ := z ++ l)
      rw [hPRE] at this ⊢
      simpa using this
    subst hLP
    exact ⟨_, _, st30, .mk (PRE ++ z) _ _ _ _ _ _⟩
  · rintro vs' l' s' ⟨z, x2, x3, x4, x5, x6, x7⟩ st'
    refine w_cons (w_ret (w_bool ?_))
    exact h _ _ _ st'
end
end Mine
end
section
open PySem PySem.W PySem.Calls PyProof.Rows
set_option maxRecDepth 100000
set_option maxHeartbeats 8000000
namespace Mine
theorem dummyLW : (PySem.Challenge.rw_aa0050_02 = PySem.Challenge.rw_aa0050_02 ∧ hd2.heap_39 = hd2.heap_39) := by k_fill; exact ⟨rfl, rfl⟩
theorem lawX : PySem.Challenge.rw_aa0050_02.Holds := hd2 (by
  w_strict (k_go0
            rename_i W0 s0 s1 mg mb G Y fa o pm doc ho hg KX X V GL T B TE TW w15 w14 M w13 w12 hcd ks hs hlay0 hL1 hr1 hl2 w10 w9 sc us w6 hL ra w1 r0 hI hr hc1 hc0 K0 hD h1 tk1 F o5 o4 o3 o2 o1 o0 l5 l4 l3 l2 l1 l0 N0 C0
            clear G Y ho X V GL B TE TW M hcd hs hlay0 hL1 hr1 hl2 hr hD ra w1 r0 l5 l4 l3 l2 l1 l0
            refine W.out ?_
            generalize he : envOfC _ _ _ fa _ = env1 at F C0 ⊢
            revert env1; refine hold ?_; intro env1 he F C0
            have hloc : env1.locals = s1.heap.objs.size := by rw [← he]; rfl
            have fn : Fn env1 ["script", "row", "k", "ahead", "one", "other", "first", "second"] := by rw [← he]; exact fn_ofC (by rfl) (by decide) rfl _
            have hfr : Fr s1.heap env1.locals h1 (locOf ["script", "row", "k", "ahead", "one", "other", "first", "second"] [some (.ref sc), none, none, none, none, none, none, none]) := by
              rw [hloc]
              rw [locOf_first (ns := ["row", "k", "ahead", "one", "other", "first", "second"]) (vs := [none, none, none, none, none, none, none]) (nones 7)]
              rw [← he] at F
              exact F
            have cx : Cx (hd2.heap_39 W0.params) _ _ _ mg mb 200 200 (callerA.deeper env1) env1 s1.heap :=
              ⟨⟨_, _, _, K0, by show callerA.frames.map _ = _; rw [K0.stack]; rfl⟩, KX, T, by show callerA.depth + 1 + 200 < recursionLimit; decide +kernel, by show callerA.units + 3 + 200 < cLine; decide +kernel, rfl⟩
            have hcv : ∀ (i : Nat) (n : Str) (c a : Addr) (o : Obj), ([((("due" : Str)), s1.heap.objs.size + 6), (("told" : Str), s1.heap.objs.size + 5), (("flag" : Str), s1.heap.objs.size + 4), (("way" : Str), s1.heap.objs.size + 3), (("kind" : Str), s1.heap.objs.size + 2), (("ways" : Str), s1.heap.objs.size + 1)] : List (Str × Addr))[i]? = some (n, c) → ([(s1.heap.objs.size + 6, o5), (s1.heap.objs.size + 5, o4), (s1.heap.objs.size + 4, o3), (s1.heap.objs.size + 3, o2), (s1.heap.objs.size + 2, o1), (s1.heap.objs.size + 1, o0)] : Lg)[i]? = some (a, o) → a = c ∧ CellV o (bindC env1.kindOf [("script", Value.ref sc)] (fun _ => none) n) := cellsAre_at C0
            have hbc : ∀ n : Str, n ≠ "script" → bindC env1.kindOf [("script", Value.ref sc)] (fun _ => none) n = none := by
              intro n hn
              have : env1.kindOf "script" = some .local := by rw [← he]; rfl
              unfold bindC bindC
              rw [if_pos this]
            have hc5 : CellV o5 none := hbc "due" (by decide) ▸ (hcv 0 _ _ _ _ rfl rfl).2
            have hc4 : CellV o4 none := hbc "told" (by decide) ▸ (hcv 1 _ _ _ _ rfl rfl).2
            have hc3 : CellV o3 none := hbc "flag" (by decide) ▸ (hcv 2 _ _ _ _ rfl rfl).2
            have hc2 : CellV o2 none := hbc "way" (by decide) ▸ (hcv 3 _ _ _ _ rfl rfl).2
            have hc1' : CellV o1 none := hbc "kind" (by decide) ▸ (hcv 4 _ _ _ _ rfl rfl).2
            have hc0' : CellV o0 none := hbc "ways" (by decide) ▸ (hcv 5 _ _ _ _ rfl rfl).2
            have st : S env1 ["script", "row", "k", "ahead", "one", "other", "first", "second"] s1.heap [some (.ref sc), none, none, none, none, none, none, none]
                [(s1.heap.objs.size + 6, o5), (s1.heap.objs.size + 5, o4), (s1.heap.objs.size + 4, o3), (s1.heap.objs.size + 3, o2), (s1.heap.objs.size + 2, o1), (s1.heap.objs.size + 1, o0)] s1 ⟨h1, s1.gens, s1.drawn, tk1, s1.os⟩ :=
              ⟨rfl, hfr, by rw [hloc]; exact N0, nd6 s1.heap.objs.size⟩
            have hks : ks.length ≤ 63 := by omega
            have hul : us.length = ks.length := hI.length
            have hscl : ∀ l' vs' s', S env1 ["script", "row", "k", "ahead", "one", "other", "first", "second"] s1.heap vs' l' s1 s' → s'.heap.IsList sc us.toArray := fun l' vs' s' st' => by
              obtain ⟨o, ho, r⟩ := hL
              exact ⟨o, st'.fr.keep _ _ ho, r⟩
            generalize hcc : [(s1.heap.objs.size + 6, o5), (s1.heap.objs.size + 5, o4), (s1.heap.objs.size + 4, o3), (s1.heap.objs.size + 3, o2), (s1.heap.objs.size + 2, o1), (s1.heap.objs.size + 1, o0)] = CC at st
            refine w_cons (w_compAssign (w_binop (w_listE (w_args (w_int st fun ta s2 st2 => w_args (w_int st2 fun tb s3 st3 => w_args0 (w_list st3 fun a s4 st4 => ?_)))))) (by rw [← he]; rfl) ?_ (fun x => rfl) rfl (by decide))
            · refine w_name 0 fn st4 rfl rfl (w_addlist st4 (st4.list (.head _)) (hscl _ _ _ st4) (by have h1 : sizeLine = 2 ^ 24 := rfl; simp; omega) fun c s5 st5 => ?_)
              have hI2 : IntsAre ([Value.int 2 ta, Value.int 4 tb] ++ us) (2 :: 4 :: ks) := .cons 2 ta (.cons 4 tb hI)
              refine w_compName cx.hand fn.gl rfl rfl (fun C => rfl) (fun i ys l2 => ∃ z, l2 = z ++ ((c, listO ([Value.int 2 ta, Value.int 4 tb] ++ us) 0) :: (a, listO [Value.int 2 ta, Value.int 4 tb] 0) :: CC) ∧ Vs (CAt z) ys (((2 :: 4 :: ks).take i).map callOf))
                st5 (.head _) ⟨[], rfl, .nil⟩ (by simp; omega) (fun i ys l' hJ => by obtain ⟨z, rfl, _⟩ := hJ; exact List.mem_append_right _ (.head _)) ?_ ?_
              · rintro cenv i v ys z2 l2 s6 E6 ⟨C, hcenv⟩ hv ⟨z, rfl, hys⟩ rx st6
                obtain ⟨k, t, rfl, hk⟩ := intsAre_at hI2 hv
                refine w_tests0 ?_
                rw [if_pos rfl]
                have kc : cenv.kindOf "_law_call" = some .globalImplicit := by rw [hcenv]; exact kind_other rfl rfl
                have glc : Gl cenv := by rw [hcenv]; exact fn.gl.comp rfl
                refine w_callE (w_cglobal glc cx st6 (by k_is) kc (by decide) (w_ccwK cx (by k_is) (w_args (w_rd rx st6 (fun x hx => List.mem_append_left _ hx) (w_args0 ⟨st6.inK cx, w_callF ?_⟩)))))
                refine call_spec (d := 199) (u := 197) fn cx st6 fun z3 v3 s7 st7 hca => ?_
                refine ⟨(z3 ++ z) ++ ((c, listO ([Value.int 2 ta, Value.int 4 tb] ++ us) 0) :: (a, listO [Value.int 2 ta, Value.int 4 tb] 0) :: CC), ?_, z3 ++ z, rfl, ?_⟩
                · have := List.perm_append_comm_assoc z3 z2 (z ++ ((c, listO ([Value.int 2 ta, Value.int 4 tb] ++ us) 0) :: (a, listO [Value.int 2 ta, Value.int 4 tb] 0) :: CC))
                  exact st7.perm (by simpa using this)
                · have e : (2 :: 4 :: ks).take (i + 1) = (2 :: 4 :: ks).take i ++ [k] := by rw [List.take_add_one, hk]; rfl
                  rw [e, List.map_append]
                  exact Vs.append (hys.imp (CAt.imp fun a us h => List.mem_append_right _ h)) (.cons (CAt.imp (fun a us h => List.mem_append_left _ h) _ _ hca) .nil)
              · rintro ys k D C oC mC l2 s6 ⟨z, rfl, hys⟩ hle hN st6
                rw [show ([Value.int 2 ta, Value.int 4 tb] ++ us).length = (2 :: 4 :: ks).length from hI2.length, List.take_length] at hys
                refine RRu_done 1 fn st6 hN rfl (Nat.le_of_ble_eq_true rfl) fun s7 st7 => ?_
                obtain ⟨RB, hRB⟩ : ∃ RB : Lg, RB = (D, listO ys k) :: (z ++ [(c, listO ([Value.int 2 ta, Value.int 4 tb] ++ us) 0), (a, listO [Value.int 2 ta, Value.int 4 tb] 0)]) := ⟨_, rfl⟩
                have st8 : S env1 ["script", "row", "k", "ahead", "one", "other", "first", "second"] s1.heap [some (.ref sc), some (.ref D), none, none, none, none, none, none]
                    ((s1.heap.objs.size + 6, o5) :: (s1.heap.objs.size + 5, o4) :: (s1.heap.objs.size + 4, o3) :: (s1.heap.objs.size + 3, o2) :: (s1.heap.objs.size + 2, o1) :: (s1.heap.objs.size + 1, o0) :: RB) s1 s7 := by
                  refine st7.perm ?_
                  rw [hRB, ← hcc]
                  have := List.perm_append_comm (l₁ := (D, listO ys k) :: (z ++ [(c, listO ([Value.int 2 ta, Value.int 4 tb] ++ us) 0), (a, listO [Value.int 2 ta, Value.int 4 tb] 0)])) (l₂ := [(s1.heap.objs.size + 6, o5), (s1.heap.objs.size + 5, o4), (s1.heap.objs.size + 4, o3), (s1.heap.objs.size + 3, o2), (s1.heap.objs.size + 2, o1), (s1.heap.objs.size + 1, o0)])
                  simpa using this
                have hrow : Vs (CAt RB) ys ((2 :: 4 :: ks).map callOf) := hys.imp (CAt.imp fun a us h => by rw [hRB]; exact .tail _ (List.mem_append_left _ h))
                have hD : (D, listO ys k) ∈ RB := by rw [hRB]; exact .head _
                clear hys st7 hle hRB
                obtain ⟨row, hrowe⟩ : ∃ row : List Cl, row = (2 :: 4 :: ks).map callOf := ⟨_, rfl⟩
                rw [← hrowe] at hrow
                have hrowok : ∀ c ∈ row, OkC c := fun c hc => by
                  rw [hrowe] at hc
                  obtain ⟨x, _, rfl⟩ := List.mem_map.mp hc
                  exact callOf_ok x
                have hsl : sizeLine = 2 ^ 24 := rfl
                have kways : env1.kindOf "ways" = some .cell := by rw [← he]; rfl
                have lways : env1.cells.lookup ("ways" : Str) = some (s1.heap.objs.size + 1) := by rw [← he]; rfl
                refine w_cons (w_assignC (w_listE (w_args0 (w_list st8 fun aw s8 st9 => ?_))))
                refine w_setcell (l' := fun o' => (aw, listO [] 0) :: (s1.heap.objs.size + 6, o5) :: (s1.heap.objs.size + 5, o4) :: (s1.heap.objs.size + 4, o3) :: (s1.heap.objs.size + 3, o2) :: (s1.heap.objs.size + 2, o1) :: (s1.heap.objs.size + 1, o') :: RB) fn.gl st9 kways lways (fun o' => .tail (.tail (.tail (.tail (.tail (.tail .head)))))) hc0' fun o0' s9 hw0 st10 => ?_
                have hex : ∃ q f c, env1 = envOfC q lawScope s1.heap.objs.size f c := ⟨_, _, _, he.symm⟩
                have hrl : row.length = ks.length + 2 := by rw [hrowe]; simp
                refine loop1 fn hex cx st10 hc3 hc2 hc1' hw0 hD hrow hrowok (by omega) fun z uw kw p3 p2 p1 x3 x2 x1 kx s11 hp3 hp2 hp1 hways st11 => ?_
                have hwl : (waysOf row).length ≤ 1000 := by have := len_waysOf hrowok; omega
                refine loop2 fn hex cx st11 hc5 hc4 hp3 hp2 hp1 (.tail _ (.tail _ (List.mem_append_right _ hD))) (hrow.imp (CAt.imp fun a us h => .tail _ (.tail _ (List.mem_append_right _ h)))) hrowok (by omega) (.tail _ (.head _)) hw0 (.head _) (hways.imp (WAt.mono fun x hx => .tail _ (.tail _ hx))) (okw_waysOf hrowok) hwl fun z2 s12 st12 => ?_
                refine loop3 fn hex cx st12 (List.mem_append_right _ (.tail _ (.tail _ (List.mem_append_right _ hD)))) (hrow.imp (CAt.imp fun a us h => List.mem_append_right _ (.tail _ (.tail _ (List.mem_append_right _ h))))) hrowok ⟨by omega, by omega⟩ (List.mem_append_right _ (.tail _ (.head _))) hw0 (List.mem_append_right _ (.head _)) (hways.imp (WAt.mono fun x hx => List.mem_append_right _ (.tail _ (.tail _ hx)))) (fun c hc => mem_waysOf hc) hwl fun vs' l' s' st' => ?_
                have hsame := st'.same
                refine ⟨.inl ⟨.bool true, .bool true, [], rfl, fun cls => rfl, .bool true, by wrow_post, fun _ => ⟨.nil, fun a ha => absurd ha List.not_mem_nil⟩⟩, st'.fr.keep, ?_, ?_⟩
                · rw [hsame]
                · rw [hsame]; exact hg
            · intro x hx hfr
              simp only [List.mem_cons, List.not_mem_nil, or_false] at hx
              rcases hx with rfl | rfl | rfl <;> cases hfr))
end Mine
end
theorem PySem.Challenge.cw_aa0050_02_holds : PySem.Challenge.rw_aa0050_02.Holds :=
  Mine.lawX
