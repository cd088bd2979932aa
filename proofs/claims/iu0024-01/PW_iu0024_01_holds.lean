import PyProof.Rows.All
import Wide.All
import OpenK.AllK
import Wide.FinOn
import KE.KTryDeep
import KE.LcTurns
import KE.KItem
import KE.KItemAt
import PySem.Challenge.RW_iu0024_01
set_option Elab.async false
set_option compiler.extract_closed false
set_option linter.all false
section
open PySem PySem.W PyProof.Rows PySem.Calls PySem.Spec
set_option maxRecDepth 100000
namespace Mine
noncomputable def mk (l : List Nat) : Str := ⟨l.toArray⟩
theorem mk_len (l : List Nat) : (mk l).length = l.length := by simp [mk, Str.length]
theorem mk_cps (l : List Nat) : (mk l).cps.toList = l := by simp [mk]
theorem mk_inj {a b : List Nat} (h : mk a = mk b) : a = b := by rw [← mk_cps a, h, mk_cps]
theorem mk_of (x : Str) : mk x.cps.toList = x := by cases x; simp [mk]
theorem mk_beq (a b : List Nat) : (mk a == mk b) = decide (a = b) := by
  by_cases h : a = b
  · subst h; simp
  · rw [decide_eq_false h]; exact beq_eq_false_iff_ne.mpr fun e => h (mk_inj e)
theorem mk_app (a b : List Nat) : mk a ++ mk b = mk (a ++ b) := by
  show Str.append _ _ = _
  simp [Str.append, mk]
theorem slice_ss {l : List Nat} {i j : Int} (h0 : 0 ≤ i) (h1 : i ≤ j) (h2 : j ≤ l.length) : Txt.slice (mk l) (some i) (some j) = mk ((l.take j.toNat).drop i.toNat) := by
  have e := eq_of_beq (slice_closesL (x := mk l) h0 h1 (by rw [mk_len]; exact h2))
  rw [e, mk_cps]
  unfold mk
  congr 2
  rw [List.drop_take]
  congr 1
  lia
theorem slice_ns {l : List Nat} {j : Int} (h0 : 0 ≤ j) (h2 : j ≤ l.length) : Txt.slice (mk l) none (some j) = mk (l.take j.toNat) := by
  have e := eq_of_beq (slice_closes_toL (x := mk l) h0 (by rw [mk_len]; exact h2))
  rw [e, mk_cps]
  unfold mk
  congr 2
  simp
theorem slice_sn {l : List Nat} {i : Int} (h0 : 0 ≤ i) (h2 : i ≤ l.length) : Txt.slice (mk l) (some i) none = mk (l.drop i.toNat) := by
  have e := slice_from_eq (x := mk l) (b := (l.length : Int)) h0 (by rw [mk_len]; exact h2) (by rw [mk_len])
  rw [e, mk_cps]
  unfold mk
  congr 2
  rw [List.take_of_length_le]
  rw [List.length_drop]
  lia
theorem ends_mk (x y : List Nat) : Txt.endswith (mk x) (mk y) = decide (y <:+ x) := by
  unfold Txt.endswith
  rw [StrLaws.subAt_eq, mk_cps, mk_cps, mk_len, mk_len, Nat.zero_add]
  by_cases h : y <:+ x
  · rw [decide_eq_true h]
    obtain ⟨t, rfl⟩ := h
    simp
  · rw [decide_eq_false h]
    by_cases hl : y.length ≤ x.length
    · rw [decide_eq_true hl, Bool.true_and]
      refine beq_eq_false_iff_ne.mpr fun e => h ?_
      rw [List.take_of_length_le (by rw [List.length_drop]; lia)] at e
      exact ⟨x.take (x.length - y.length), by conv => rhs; rw [← List.take_append_drop (x.length - y.length) x, e]⟩
    · rw [decide_eq_false hl]; rfl
section
variable {prog : Program} {w : World} {A : Around} {E : Value → Shared → Prop} {s : Shared} {h₀ : Heap} {L : Addr} {m : Str → Option Value} {news : List (Addr × Obj)} {l : List Nat} {t : Tok} {value slice : PySem.Expr} {Q : Value → Shared → Prop}
theorem r_item {i : Int} {u : Tok} (h0 : 0 ≤ i) (h1 : i < l.length) (hn : l.length ≤ 1000) (h : ∀ t' tk, Q (.str (mk [l.getD i.toNat 0]) t') { s with toks := tk })
    (hs : subscripted slice false (.str (mk l) t) (.int i u) = operate [.str (mk l) t, .int i u] (getItem (.str (mk l) t) (.int i u)) := by with_unfolding_all rfl)
    (ht : ∀ r, letTemporaryGo value (.str (mk l) t) r = pure () := by intro _; with_unfolding_all rfl) :
    wpAny (model prog w) A (subscriptTail value slice (.str (mk l) t) (.int i u)) Q E s := by
  have e : Txt.item (mk l) i = mk [l.getD i.toNat 0] := by
    unfold Txt.item Txt.charAt
    have q : seqIndex? i (mk l).length = some i.toNat := by
      rw [mk_len]
      unfold seqIndex?
      have a1 : ¬ i < 0 := by lia
      simp only [a1, if_false, h0, h1, decide_true, Bool.and_self, if_true]
    rw [q, Option.bind_some]
    have hlt : i.toNat < l.length := by lia
    simp [mk, hlt]
  refine KXi.item (n := l.length) (mk_len l) (by lia) h1 (by lia) (fun _ => ?_) hs ht
  rw [e]
  exact h _ _
theorem r_slice_ss {i j : Int} {ui uj : Tok} (hF : Fr h₀ L s.heap m) (hN : News h₀ L s.heap news) (h0 : 0 ≤ i) (h1 : i ≤ j) (h2 : j ≤ l.length) (hn : l.length ≤ 1000)
    (h : ∀ h' t' k, Fr h₀ L h' m → News h₀ L h' news → Q (.str (mk ((l.take j.toNat).drop i.toNat)) t') { s with heap := h', toks := k })
    (hs : subscripted slice false (.str (mk l) t) (.ref s.heap.objs.size) = operate [.ref s.heap.objs.size, .str (mk l) t] (getItem (.str (mk l) t) (.ref s.heap.objs.size)) := by with_unfolding_all rfl)
    (ht : ∀ r, letTemporaryGo value (.str (mk l) t) r = pure () := by intro _; with_unfolding_all rfl) :
    wpAny (model prog w) A (subscriptTail value slice (.str (mk l) t) (.ref s.heap.objs.size)) Q E { s with heap := s.heap.push { cls := .type "slice", data := .fields #[.int i ui, .int j uj, .none] } } :=
  slice_strN_ss hF hN (fun h' t' k a b => by rw [slice_ss h0 h1 h2]; exact h h' t' k a b) hs ht (by rw [mk_len]; exact Nat.le_trans hn (by decide))
theorem r_slice_ns {j : Int} {uj : Tok} (hF : Fr h₀ L s.heap m) (hN : News h₀ L s.heap news) (h0 : 0 ≤ j) (h2 : j ≤ l.length) (hn : l.length ≤ 1000)
    (h : ∀ h' t' k, Fr h₀ L h' m → News h₀ L h' news → Q (.str (mk (l.take j.toNat)) t') { s with heap := h', toks := k })
    (hs : subscripted slice false (.str (mk l) t) (.ref s.heap.objs.size) = operate [.ref s.heap.objs.size, .str (mk l) t] (getItem (.str (mk l) t) (.ref s.heap.objs.size)) := by with_unfolding_all rfl)
    (ht : ∀ r, letTemporaryGo value (.str (mk l) t) r = pure () := by intro _; with_unfolding_all rfl) :
    wpAny (model prog w) A (subscriptTail value slice (.str (mk l) t) (.ref s.heap.objs.size)) Q E { s with heap := s.heap.push { cls := .type "slice", data := .fields #[.none, .int j uj, .none] } } :=
  slice_strN_ns hF hN (fun h' t' k a b => by rw [slice_ns h0 h2]; exact h h' t' k a b) hs ht (by rw [mk_len]; exact Nat.le_trans hn (by decide))
theorem r_slice_sn {i : Int} {ui : Tok} (hF : Fr h₀ L s.heap m) (hN : News h₀ L s.heap news) (h0 : 0 ≤ i) (h2 : i ≤ l.length) (hn : l.length ≤ 1000)
    (h : ∀ h' t' k, Fr h₀ L h' m → News h₀ L h' news → Q (.str (mk (l.drop i.toNat)) t') { s with heap := h', toks := k })
    (hs : subscripted slice false (.str (mk l) t) (.ref s.heap.objs.size) = operate [.ref s.heap.objs.size, .str (mk l) t] (getItem (.str (mk l) t) (.ref s.heap.objs.size)) := by with_unfolding_all rfl)
    (ht : ∀ r, letTemporaryGo value (.str (mk l) t) r = pure () := by intro _; with_unfolding_all rfl) :
    wpAny (model prog w) A (subscriptTail value slice (.str (mk l) t) (.ref s.heap.objs.size)) Q E { s with heap := s.heap.push { cls := .type "slice", data := .fields #[.int i ui, .none, .none] } } :=
  slice_strN_sn hF hN (fun h' t' k a b => by rw [slice_sn h0 h2]; exact h h' t' k a b) hs ht (by rw [mk_len]; exact Nat.le_trans hn (by decide))
theorem r_len (hn : l.length ≤ 1000) (h : ∀ t' tk, Q (.int (l.length : Int) t') { s with toks := tk }) : wpAny (model prog w) A (call (.builtin "len") [.str (mk l) t]) Q E s := by
  refine P.len_str (by rw [mk_len]; lia) ?_
  rw [mk_len]
  exact h _ _
theorem r_add {l' : List Nat} {u : Tok} (hn : l.length ≤ 1000) (hn' : l'.length ≤ 1000) (h : ∀ t' tk, Q (.str (mk (l ++ l')) t') { s with toks := tk }) : wpAny (model prog w) A (binaryOp .Add (.str (mk l) t) (.str (mk l') u)) Q E s := by
  refine PyProof.Rows.add_str (fun t' tk => ?_) (by rw [mk_len, mk_len]; exact Nat.le_trans (Nat.add_le_add hn hn') (by decide))
  rw [mk_app]
  exact h _ _
theorem r_eq {l' : List Nat} {u : Tok} (h : Q (.bool (decide (l = l'))) s) : wpAny (model prog w) A (compareOp .Eq (.str (mk l) t) (.str (mk l') u)) Q E s := by
  refine PyProof.Rows.eq_str ?_
  rw [mk_beq]; exact h
theorem r_ne {l' : List Nat} {u : Tok} (h : Q (.bool (!decide (l = l'))) s) : wpAny (model prog w) A (compareOp .NotEq (.str (mk l) t) (.str (mk l') u)) Q E s := by
  refine PyProof.Rows.ne_str ?_
  show Q (.bool (!(mk l == mk l'))) s
  rw [mk_beq]; exact h
theorem r_ends {l' : List Nat} {u : Tok} (h : Q (.bool (decide (l' <:+ l))) s) : wpAny (model prog w) A (call (.builtin "str.endswith") [.str (mk l) t, .str (mk l') u]) Q E s := by
  refine SC.endswith ?_
  rw [ends_mk]; exact h
theorem r_ord {c : Nat} (h : ∀ t' tk, Q (.int (c : Int) t') { s with toks := tk }) : wpAny (model prog w) A (call (.builtin "ord") [.str (mk [c]) t]) Q E s := by
  refine ord_of_one (by rw [mk_len]; rfl) ?_
  exact h _ _
end
end Mine
end
section
open PySem PySem.W PySem.Calls PyProof.Rows
namespace MineH
/-- a look into the tree -/
noncomputable def getR (t : BT) : Nat → Option Obj :=
  @BT.rec (fun _ => Nat → Option Obj) (fun _ => none)
    (fun v _ _ l r i => @Bool.rec (fun _ => Option Obj)
      (@Bool.rec (fun _ => Option Obj) (r (i / 2 - 1)) (l (i / 2)) (Nat.beq (i % 2) 1))
      (some v) (Nat.beq i 0)) t
theorem getR_eq : ∀ (t : BT) (i : Nat), getR t i = t.get i
  | .nil, i => rfl
  | .node v l r, i => by
    show @Bool.rec (fun _ => Option Obj) (@Bool.rec (fun _ => Option Obj) (getR r (i / 2 - 1)) (getR l (i / 2)) (Nat.beq (i % 2) 1)) (some v) (Nat.beq i 0) =
      (match Nat.beq i 0 with | true => some v | false => match Nat.beq (i % 2) 1 with | true => l.get (i / 2) | false => r.get (i / 2 - 1))
    rw [getR_eq l, getR_eq r]
    cases Nat.beq i 0
    · cases Nat.beq (i % 2) 1 <;> rfl
    · rfl
/-- a store, the new tree handed on as a value -/
noncomputable def setK {β : Type} (t : BT) : Nat → (Obj → Obj) → (BT → β) → β :=
  @BT.rec (fun _ => Nat → (Obj → Obj) → (BT → β) → β) (fun _ _ k => k .nil)
    (fun v l r sl sr i f k => @Bool.rec (fun _ => β)
      (@Bool.rec (fun _ => β) (sr (i / 2 - 1) f (fun r' => k (.node v l r'))) (sl (i / 2) f (fun l' => k (.node v l' r))) (Nat.beq (i % 2) 1))
      (k (.node (f v) l r)) (Nat.beq i 0)) t
theorem setK_eq {β : Type} : ∀ (t : BT) (i : Nat) (f : Obj → Obj) (k : BT → β), setK t i f k = k (t.set i f)
  | .nil, i, f, k => rfl
  | .node v l r, i, f, k => by
    show @Bool.rec (fun _ => β) (@Bool.rec (fun _ => β) (setK r (i / 2 - 1) f (fun r' => k (.node v l r'))) (setK l (i / 2) f (fun l' => k (.node v l' r))) (Nat.beq (i % 2) 1)) (k (.node (f v) l r)) (Nat.beq i 0) =
      k (match Nat.beq i 0 with | true => .node (f v) l r | false => match Nat.beq (i % 2) 1 with | true => .node v (l.set (i / 2) f) r | false => .node v l (r.set (i / 2 - 1) f))
    rw [setK_eq l, setK_eq r]
    cases Nat.beq i 0
    · cases Nat.beq (i % 2) 1 <;> rfl
    · rfl
noncomputable def insK {β : Type} (t : BT) : Nat → Obj → (BT → β) → β :=
  @BT.rec (fun _ => Nat → Obj → (BT → β) → β) (fun _ o k => k (.node o .nil .nil))
    (fun v l r sl sr i o k => @Bool.rec (fun _ => β)
      (@Bool.rec (fun _ => β) (sr (i / 2 - 1) o (fun r' => k (.node v l r'))) (sl (i / 2) o (fun l' => k (.node v l' r))) (Nat.beq (i % 2) 1))
      (k (.node o l r)) (Nat.beq i 0)) t
theorem insK_eq {β : Type} : ∀ (t : BT) (i : Nat) (o : Obj) (k : BT → β), insK t i o k = k (t.ins i o)
  | .nil, i, f, k => rfl
  | .node v l r, i, f, k => by
    show @Bool.rec (fun _ => β) (@Bool.rec (fun _ => β) (insK r (i / 2 - 1) f (fun r' => k (.node v l r'))) (insK l (i / 2) f (fun l' => k (.node v l' r))) (Nat.beq (i % 2) 1)) (k (.node f l r)) (Nat.beq i 0) =
      k (match Nat.beq i 0 with | true => .node f l r | false => match Nat.beq (i % 2) 1 with | true => .node v (l.ins (i / 2) f) r | false => .node v l (r.ins (i / 2 - 1) f))
    rw [insK_eq l, insK_eq r]
    cases Nat.beq i 0
    · cases Nat.beq (i % 2) 1 <;> rfl
    · rfl
/-- a number handed on as a numeral -/
noncomputable def numK {β : Type} (n : Nat) (k : Nat → β) : β := @Nat.rec (fun _ => β) (k 0) (fun m _ => k m) (Nat.succ n)
theorem numK_eq {β : Type} (n : Nat) (k : Nat → β) : numK n k = k n := rfl
/-- the state -/
structure St where
  t : BT
  n : Nat
  k : Nat
inductive Res (α : Type) where
  | ok (a : α) (p : Pos) (s : St)
  | err (e : Value) (p : Pos) (s : St)
  | no
inductive CRes where
  | ret (r : Result) (s : St)
  | no
noncomputable abbrev CallF := Ctx → Code → Pos → St → CRes
noncomputable def ev (S : Setting) (cf : CallF) (Γ : Ctx) {α : Type} (x : Sem α) : Pos → St → Res α :=
  @Sem.rec α (fun _ => Pos → St → Res α)
    (fun a p s => .ok a p s)
    (fun e p s => .err e p s)
    (fun _ _ _ => .no)
    (fun _ _ _ => .no)
    (fun _ _ k p s => k () p s)
    (fun q _ k _ s => k () q s)
    (fun a _ _ k p s => @Bool.rec (fun _ => Res α) .no (@Option.rec Obj (fun _ => Res α) .no (fun o => @Option.rec Obj (fun _ => Res α) .no (fun o' => k o' p s) (alive o)) (getR s.t a)) (Nat.blt a s.n))
    (fun a _ f _ k p s => @Bool.rec (fun _ => Res α) .no (@Option.rec Obj (fun _ => Res α) .no (fun o => @Option.rec Obj (fun _ => Res α) .no (fun _ => setK s.t a f (fun t' => k () p ⟨t', s.n, s.k⟩)) (alive o)) (getR s.t a)) (Nat.blt a s.n))
    (fun o _ k p s => numK s.n (fun n => insK s.t n o (fun t' => @Option.rec Obj (fun _ => Res α) .no (fun _ => k n p ⟨t', Nat.succ n, s.k⟩) (getR t' n))))
    (fun a _ k p s => @Bool.rec (fun _ => Res α) (k none p s) (@Option.rec Obj (fun _ => Res α) .no (fun o => k (alive o) p s) (getR s.t a)) (Nat.blt a s.n))
    (fun _ _ k p s => k () p s)
    (fun _ _ _ _ _ => .no)
    (fun _ k p s => numK s.k (fun m => k m p ⟨s.t, s.n, Nat.succ m⟩))
    (fun _ k p s => k S p s)
    (fun _ _ _ _ _ _ => .no)
    (fun _ _ _ _ _ _ => .no)
    (fun c h _ _ _ k p s => @CRes.rec (fun _ => Res α) (fun r s' => k r p s') .no (cf (Γ.enter c h p) c p s))
    (fun own _ k p s => k (@Bool.rec (fun _ => Option Value) Γ.handled Γ.own own) p s)
    (fun _ _ _ _ _ => .no)
    (fun _ _ _ _ _ => .no)
    (fun _ _ _ _ _ _ _ => .no)
    (fun _ _ _ _ _ _ _ => .no)
    (fun _ k p s => k ((Γ.code, p) :: Γ.below) p s)
    (fun _ _ _ _ _ => .no)
    (fun _ k p s => k 0 p s)
    (fun _ _ _ _ _ _ _ _ => .no)
    x
/-- a whole code, with fuel -/
noncomputable def evC (S : Setting) (den : Code → Sem PySem.Fin) (fuel : Nat) : CallF :=
  @Nat.rec (fun _ => CallF) (fun _ _ _ _ => .no)
    (fun _ rec Γ c p s => @Res.rec PySem.Fin (fun _ => CRes)
      (fun fin p' s' => @PySem.Fin.rec (fun _ => CRes) (fun f => .ret (.ok f) s') (fun c' => @Bool.rec (fun _ => CRes) .no (rec (Γ.goto c') c' p' s') c'.quiet) fin)
      (fun e _ s' => .ret (.error e) s') .no (ev S rec Γ (den c) p s)) fuel
section
variable {M : Model} {life : Life} {drawn : Drawn} {os : OsState}
noncomputable def St.abs (life : Life) (drawn : Drawn) (os : OsState) (s : St) : Shared := ⟨absHeap s.t s.n life, #[], drawn, s.k, os⟩
/-- what an answer says -/
noncomputable def Res.Says {α : Type} (M : Model) (Γ : Ctx) (life : Life) (drawn : Drawn) (os : OsState) (x : Sem α) (p : Pos) (s : Shared) : Res α → Prop
  | .ok a p' s' => Sem.wp M Γ x (fun a' p'' s'' => a' = a ∧ p'' = p' ∧ s'' = s'.abs life drawn os) (fun _ _ _ => False) p s
  | .err e p' s' => Sem.wp M Γ x (fun _ _ _ => False) (fun e' p'' s'' => e' = e ∧ p'' = p' ∧ s'' = s'.abs life drawn os) p s
  | .no => True
noncomputable def CRes.Says (M : Model) (Γ : Ctx) (life : Life) (drawn : Drawn) (os : OsState) (p : Pos) (s : Shared) : CRes → Prop
  | .ret r s' => wpCode M Γ (fun r' s'' => r' = r ∧ s'' = s'.abs life drawn os) p s
  | .no => True
noncomputable def Sound (M : Model) (life : Life) (drawn : Drawn) (os : OsState) (cf : CallF) : Prop := ∀ Γ c p s, Γ.code = c → (cf Γ c p s).Says M Γ life drawn os p (s.abs life drawn os)
theorem Res.Says.of {α : Type} {Γ Γ' : Ctx} {x y : Sem α} {p q : Pos} {s t : Shared} (h : ∀ Q E, Sem.wp M Γ x Q E p s → Sem.wp M Γ' y Q E q t) : ∀ {r : Res α}, r.Says M Γ life drawn os x p s → r.Says M Γ' life drawn os y q t
  | .ok .., z => h _ _ z
  | .err .., z => h _ _ z
  | .no, _ => trivial
theorem ev_sound {cf : CallF} (hcf : Sound M life drawn os cf) (Γ : Ctx) {α : Type} (x : Sem α) : ∀ (p : Pos) (s : St), (ev ⟨M.prog, M.w.params⟩ cf Γ x p s).Says M Γ life drawn os x p (s.abs life drawn os) := by
  induction x with
  | pure a => intro p s; exact ⟨rfl, rfl, rfl⟩
  | raise e => intro p s; exact ⟨rfl, rfl, rfl⟩
  | unsupported => intro p s; trivial
  | finish => intro p s; trivial
  | rule _ k ih => intro p s; exact (ih () p s).of fun Q E h => h
  | «at» q k ih => intro p s; exact (ih () q s).of fun Q E h => h
  | load a part k ih =>
    intro p s
    show Res.Says M Γ life drawn os _ p _ (@Bool.rec (fun _ => Res α) .no (@Option.rec Obj (fun _ => Res α) .no (fun o => @Option.rec Obj (fun _ => Res α) .no (fun o' => ev ⟨M.prog, M.w.params⟩ cf Γ (k o') p s) (alive o)) (getR s.t a)) (Nat.blt a s.n))
    cases hb : Nat.blt a s.n with
    | false => trivial
    | true =>
      cases hg : getR s.t a with
      | none => trivial
      | some o =>
        cases ho : alive o with
        | none => dsimp only; rw [ho]; trivial
        | some o' =>
          dsimp only
          rw [ho]
          refine (ih o' p s).of fun Q E h => ?_
          rw [Sem.wp_load]
          exact ⟨o', (abs_get (Nat.le_of_ble_eq_true hb) ((getR_eq _ _).symm.trans hg)).trans ho, h⟩
  | update a part f k ih =>
    intro p s
    show Res.Says M Γ life drawn os _ p _ (@Bool.rec (fun _ => Res α) .no (@Option.rec Obj (fun _ => Res α) .no (fun o => @Option.rec Obj (fun _ => Res α) .no (fun _ => setK s.t a f (fun t' => ev ⟨M.prog, M.w.params⟩ cf Γ (k ()) p ⟨t', s.n, s.k⟩)) (alive o)) (getR s.t a)) (Nat.blt a s.n))
    cases hb : Nat.blt a s.n with
    | false => trivial
    | true =>
      cases hg : getR s.t a with
      | none => trivial
      | some o =>
        cases ho : alive o with
        | none => dsimp only; rw [ho]; trivial
        | some o' =>
          dsimp only
          rw [ho]
          dsimp only
          rw [setK_eq]
          refine (ih () p _).of fun Q E h => ?_
          rw [Sem.wp_update]
          have hg' := (getR_eq _ _).symm.trans hg
          refine ⟨by rw [show (s.abs life drawn os).heap = absHeap s.t s.n life from rfl, abs_get (Nat.le_of_ble_eq_true hb) hg', ho]; rfl, ?_⟩
          rw [show ({ s.abs life drawn os with heap := (s.abs life drawn os).heap.update a f } : Shared) = St.abs life drawn os ⟨s.t.set a f, s.n, s.k⟩ from by
            unfold St.abs; rw [absHeap_set hg']]
          exact h
  | alloc o k ih =>
    intro p s
    show Res.Says M Γ life drawn os _ p _ (insK s.t s.n o (fun t' => @Option.rec Obj (fun _ => Res α) .no (fun _ => ev ⟨M.prog, M.w.params⟩ cf Γ (k s.n) p ⟨t', Nat.succ s.n, s.k⟩) (getR t' s.n)))
    rw [insK_eq]
    cases hg : getR (s.t.ins s.n o) s.n with
    | none => trivial
    | some o' =>
      dsimp only
      refine (ih s.n p _).of fun Q E h => ?_
      rw [Sem.wp_alloc]
      have e : (absHeap s.t s.n life).objs.size = s.n := absHeap_size _ _ _
      rw [show (s.abs life drawn os).heap.objs.size = s.n from e]
      rw [show ({ s.abs life drawn os with heap := (s.abs life drawn os).heap.push o } : Shared) = St.abs life drawn os ⟨s.t.ins s.n o, Nat.succ s.n, s.k⟩ from by
        unfold St.abs
        have := absHeap_ins (t := s.t) (n := s.n) (life := life) (o := o) (by rw [← getR_eq, hg]; rfl)
        dsimp only
        rw [show Nat.succ s.n = s.n + 1 from rfl, this]]
      exact h
  | loadIfAlive a k ih =>
    intro p s
    show Res.Says M Γ life drawn os _ p _ (@Bool.rec (fun _ => Res α) (ev ⟨M.prog, M.w.params⟩ cf Γ (k none) p s) (@Option.rec Obj (fun _ => Res α) .no (fun o => ev ⟨M.prog, M.w.params⟩ cf Γ (k (alive o)) p s) (getR s.t a)) (Nat.blt a s.n))
    cases hb : Nat.blt a s.n with
    | false =>
      refine (ih none p s).of fun Q E h => ?_
      rw [Sem.wp_loadIfAlive]
      have : ¬ a < s.n := fun q => by
        have : Nat.blt a s.n = true := Nat.ble_eq_true_of_le q
        rw [hb] at this; cases this
      rw [show (s.abs life drawn os).heap.get? a = none from abs_get_none this]
      exact h
    | true =>
      cases hg : getR s.t a with
      | none => trivial
      | some o =>
        dsimp only
        refine (ih (alive o) p s).of fun Q E h => ?_
        rw [Sem.wp_loadIfAlive]
        rw [show (s.abs life drawn os).heap.get? a = alive o from abs_get (Nat.le_of_ble_eq_true hb) ((getR_eq _ _).symm.trans hg)]
        exact h
  | point l k ih => intro p s; exact (ih () p s).of fun Q E h => h
  | register => intro p s; trivial
  | fresh k ih => intro p s; exact (ih s.k p ⟨s.t, s.n, Nat.succ s.k⟩).of fun Q E h => h
  | ask k ih => intro p s; exact (ih _ p s).of fun Q E h => h
  | choose => intro p s; trivial
  | os => intro p s; trivial
  | call c h g l k ih =>
    intro p s
    show Res.Says M Γ life drawn os _ p _ (@CRes.rec (fun _ => Res α) (fun r s' => ev ⟨M.prog, M.w.params⟩ cf Γ (k r) p s') .no (cf (Γ.enter c h p) c p s))
    have hc := hcf (Γ.enter c h p) c p s rfl
    cases hr : cf (Γ.enter c h p) c p s with
    | no => trivial
    | ret r s' =>
      rw [hr] at hc
      dsimp only
      refine (ih r p s').of fun Q E q => ?_
      rw [Sem.wp_call]
      exact wpCode_mono (fun r' s'' z => by obtain ⟨rfl, rfl⟩ := z; exact q) hc
  | handled own k ih =>
    intro p s
    have e : @Bool.rec (fun _ => Option Value) Γ.handled Γ.own own = (if own then Γ.own else Γ.handled) := by cases own <;> rfl
    show Res.Says M Γ life drawn os _ p _ (ev ⟨M.prog, M.w.params⟩ cf Γ (k (@Bool.rec (fun _ => Option Value) Γ.handled Γ.own own)) p s)
    rw [e]
    refine (ih _ p s).of fun Q E h => ?_
    rw [Sem.wp_handled]; exact h
  | newGen => intro p s; trivial
  | genState => intro p s; trivial
  | resume => intro p s; trivial
  | «yield» => intro p s; trivial
  | stack k ih => intro p s; exact (ih _ p s).of fun Q E h => h
  | fork => intro p s; trivial
  | thread k ih => intro p s; exact (ih _ p s).of fun Q E h => h
  | await => intro p s; trivial
theorem evC_sound : ∀ (fuel : Nat), Sound M life drawn os (evC ⟨M.prog, M.w.params⟩ M.den fuel)
  | 0 => fun _ _ _ _ _ => trivial
  | n + 1 => fun Γ c p s hc => by
    subst hc
    have ih := evC_sound n
    show CRes.Says M Γ life drawn os p _ (@Res.rec PySem.Fin (fun _ => CRes)
      (fun fin p' s' => @PySem.Fin.rec (fun _ => CRes) (fun f => .ret (.ok f) s') (fun c' => @Bool.rec (fun _ => CRes) .no (evC ⟨M.prog, M.w.params⟩ M.den n (Γ.goto c') c' p' s') c'.quiet) fin)
      (fun e _ s' => .ret (.error e) s') .no (ev ⟨M.prog, M.w.params⟩ (evC ⟨M.prog, M.w.params⟩ M.den n) Γ (M.den Γ.code) p s))
    have h := ev_sound ih Γ (M.den Γ.code) p s
    cases hr : ev ⟨M.prog, M.w.params⟩ (evC ⟨M.prog, M.w.params⟩ M.den n) Γ (M.den Γ.code) p s with
    | no => trivial
    | err e p' s' =>
      rw [hr] at h
      show wpCode _ _ _ _ _
      rw [wpCode_iff_wp]
      exact Sem.wp_mono M Γ _ (fun _ _ _ z => z.elim) (fun e' _ s'' z => ⟨congrArg _ z.1, z.2.2⟩) _ _ h
    | ok fin p' s' =>
      rw [hr] at h
      cases fin with
      | done f =>
        show wpCode _ _ _ _ _
        rw [wpCode_iff_wp]
        exact Sem.wp_mono M Γ _ (fun a _ s'' z => by obtain ⟨rfl, _, rfl⟩ := z; exact ⟨rfl, rfl⟩) (fun _ _ _ z => z.elim) _ _ h
      | again c' =>
        dsimp only
        cases hq : c'.quiet with
        | false => trivial
        | true =>
          dsimp only
          have h2 := ih (Γ.goto c') c' p' s' rfl
          cases hr2 : evC ⟨M.prog, M.w.params⟩ M.den n (Γ.goto c') c' p' s' with
          | no => trivial
          | ret r s₂ =>
            rw [hr2] at h2
            show wpCode _ _ _ _ _
            rw [wpCode_iff_wp]
            exact Sem.wp_mono M Γ _ (fun a p₂ s'' z => by obtain ⟨rfl, rfl, rfl⟩ := z; exact ⟨hq, h2⟩) (fun _ _ _ z => z.elim) _ _ h
end
end MineH
end
section
open PySem PySem.W PySem.Calls PyProof.Rows
set_option maxRecDepth 1000000
set_option maxHeartbeats 0
set_option linter.unusedVariables false
namespace MineH
noncomputable def clsBody : Stmt → List Stmt
  | .ClassDef _ _ _ b .. => b
  | _ => []
noncomputable def fnName : Stmt → Str
  | .FunctionDef n .. => n
  | _ => Str.empty
noncomputable def fnArgs : Stmt → Arguments
  | .FunctionDef _ a .. => a
  | _ => default
noncomputable def fnBody : Stmt → List Stmt
  | .FunctionDef _ _ b .. => b
  | _ => []
noncomputable def fnScope : Stmt → Scope
  | .FunctionDef _ _ _ _ _ _ s .. => s
  | _ => default
noncomputable def stTop (i : Nat) : Stmt := PySem.Challenge.pw_iu0024_01.main.body.getD i (.Pass default)
noncomputable def stIn (i j : Nat) : Stmt := (clsBody (stTop i)).getD j (.Pass default)
noncomputable def fnF (st : Stmt) (qual : Str) (g : Addr) (m c : Value) (b : Addr) : FuncData :=
  { name := fnName st, qualname := qual, params := fnArgs st, body := .stmts (fnBody st), scope := fnScope st, globals := g, closure := [], defaults := .none, kwdefaults := .none, pyModule := m, code := c, builtins := b }
/-- an Among's dict, the Among, its maker's frame -/
noncomputable def aD (P : Params) (k1 : Tok) (s : Str) (t1 : Tok) (k2 : Tok) (i : Int) (t2 : Tok) (k3 : Tok) (r : Int) (t3 : Tok) : Obj :=
  ⟨.type "dict", none, .dict [⟨PyData.keyHash P (Str.ofString "s"), .str (Str.ofString "s") k1, .str s t1⟩, ⟨PyData.keyHash P (Str.ofString "substring_i"), .str (Str.ofString "substring_i") k2, .int i t2⟩, ⟨PyData.keyHash P (Str.ofString "result"), .str (Str.ofString "result") k3, .int r t3⟩].toArray 3, #[]⟩
noncomputable def aI (d : Addr) : Obj := ⟨.ref 220, some d, .plain, #[]⟩
noncomputable def aF (P : Params) (k0 : Tok) (a : Addr) (k1 : Tok) (s : Str) (t1 : Tok) (k2 : Tok) (i : Int) (t2 : Tok) (k3 : Tok) (r : Int) (t3 : Tok) : Obj :=
  ⟨.type "frame", none, .dict [⟨PyData.keyHash P (Str.ofString "self"), .str (Str.ofString "self") k0, .ref a⟩, ⟨PyData.keyHash P (Str.ofString "s"), .str (Str.ofString "s") k1, .str s t1⟩, ⟨PyData.keyHash P (Str.ofString "substring_i"), .str (Str.ofString "substring_i") k2, .int i t2⟩, ⟨PyData.keyHash P (Str.ofString "result"), .str (Str.ofString "result") k3, .int r t3⟩].toArray 4, #[]⟩
noncomputable abbrev o_2 (P : Params) : Obj := ⟨.none, none, (.dict [⟨PyData.keyHash P (Str.ofString "type.__subclasses__.Exception.0"), (.str (Str.ofString "type.__subclasses__.Exception.0") 4418), (.int 1099 0)⟩, ⟨PyData.keyHash P (Str.ofString "type.__subclasses__.Exception.n"), (.str (Str.ofString "type.__subclasses__.Exception.n") 4419), (.int 2 0)⟩, ⟨PyData.keyHash P (Str.ofString "type.__subclasses__.Exception.1"), (.str (Str.ofString "type.__subclasses__.Exception.1") 4438), (.int 1112 0)⟩].toArray 3), [].toArray⟩
noncomputable abbrev o_3 (P : Params) : Obj := ⟨(.type "dict"), none, (.dict [⟨PyData.keyHash P (Str.ofString "__name__"), (.str (Str.ofString "__name__") 165), (.str (Str.ofString "law_iu0024_01") 4442)⟩, ⟨PyData.keyHash P (Str.ofString "__doc__"), (.str (Str.ofString "__doc__") 166), .none⟩, ⟨PyData.keyHash P (Str.ofString "__package__"), (.str (Str.ofString "__package__") 167), .none⟩, ⟨PyData.keyHash P (Str.ofString "__loader__"), (.str (Str.ofString "__loader__") 168), (.builtin "__main__.__loader__#opaque")⟩, ⟨PyData.keyHash P (Str.ofString "__spec__"), (.str (Str.ofString "__spec__") 169), .none⟩, ⟨PyData.keyHash P (Str.ofString "__annotations__"), (.str (Str.ofString "__annotations__") 170), (.ref 6)⟩, ⟨PyData.keyHash P (Str.ofString "__builtins__"), (.str (Str.ofString "__builtins__") 171), (.ref 4)⟩, ⟨PyData.keyHash P (Str.ofString "__file__"), (.str (Str.ofString "__file__") 173), (.str (Str.ofString "/claim/cut.py") 172)⟩, ⟨PyData.keyHash P (Str.ofString "__cached__"), (.str (Str.ofString "__cached__") 174), .none⟩, ⟨PyData.keyHash P (Str.ofString "_wall"), (.str (Str.ofString "_wall") 193), (.ref 21)⟩, ⟨PyData.keyHash P (Str.ofString "BaseStemmer"), (.str (Str.ofString "BaseStemmer") 425), (.ref 199)⟩, ⟨PyData.keyHash P (Str.ofString "Among"), (.str (Str.ofString "Among") 460), (.ref 220)⟩, ⟨PyData.keyHash P (Str.ofString "LithuanianStemmer"), (.str (Str.ofString "LithuanianStemmer") 4401), (.ref 1087)⟩, ⟨PyData.keyHash P (Str.ofString "lab0"), (.str (Str.ofString "lab0") 4421), (.ref 1099)⟩, ⟨PyData.keyHash P (Str.ofString "lab1"), (.str (Str.ofString "lab1") 4441), (.ref 1112)⟩, ⟨PyData.keyHash P (Str.ofString "_law_signs"), (.str (Str.ofString "_law_signs") 4445), (.str (Str.ofString "aąbcčdeęėfghiįyjklmnoprsštuųūvzž'qwxAĖ-") 4444)⟩, ⟨PyData.keyHash P (Str.ofString "_law_vowels"), (.str (Str.ofString "_law_vowels") 4451), (.ref 1122)⟩, ⟨PyData.keyHash P (Str.ofString "_law_clash"), (.str (Str.ofString "_law_clash") 4474), (.ref 1134)⟩, ⟨PyData.keyHash P (Str.ofString "_law_hard"), (.str (Str.ofString "_law_hard") 4479), (.ref 1137)⟩, ⟨PyData.keyHash P (Str.ofString "_law_gd"), (.str (Str.ofString "_law_gd") 4482), (.ref 1139)⟩, ⟨PyData.keyHash P (Str.ofString "_law_mark"), (.str (Str.ofString "_law_mark") 4485), (.ref 1141)⟩, ⟨PyData.keyHash P (Str.ofString "_law_once"), (.str (Str.ofString "_law_once") 4593), (.ref 1142)⟩, ⟨PyData.keyHash P (Str.ofString "_law_once_also_with_i"), (.str (Str.ofString "_law_once_also_with_i") 4637), (.ref 1143)⟩, ⟨PyData.keyHash P (Str.ofString "_law_often"), (.str (Str.ofString "_law_often") 4672), (.ref 1144)⟩, ⟨PyData.keyHash P (Str.ofString "_law_often_also_with_i"), (.str (Str.ofString "_law_often_also_with_i") 4687), (.ref 1145)⟩, ⟨PyData.keyHash P (Str.ofString "_law_both"), (.str (Str.ofString "_law_both") 4693), (.ref 1150)⟩, ⟨PyData.keyHash P (Str.ofString "_law_edge"), (.str (Str.ofString "_law_edge") 4702), (.ref 1157)⟩, ⟨PyData.keyHash P (Str.ofString "_law_anew"), (.str (Str.ofString "_law_anew") 4712), (.ref 1164)⟩, ⟨PyData.keyHash P (Str.ofString "_law_without"), (.str (Str.ofString "_law_without") 4722), (.ref 1171)⟩, ⟨PyData.keyHash P (Str.ofString "_law_stem"), (.str (Str.ofString "_law_stem") 4734), (.ref 1178)⟩, ⟨PyData.keyHash P (Str.ofString "law"), (.str (Str.ofString "law") 4740), (.ref 1183)⟩].toArray 31), [].toArray⟩
noncomputable abbrev o_11 (P : Params) : Obj := ⟨(.type "tuple"), none, (.seq [].toArray 0), [].toArray⟩
noncomputable abbrev o_12 (P : Params) : Obj := ⟨.none, none, (.fields [(.int 1 0), (.int 0 0), (.ref 20), (.int 5 0), (.int 0 0), (.ref 27), (.int 151 0), (.int 0 0), (.ref 209), (.int 158 0), (.int 0 0), (.ref 230), (.int 283 0), (.int 0 0), (.ref 1095), (.int 285 0), (.int 0 0), (.ref 1108), (.int 289 0), (.int 0 0), (.ref 1121), (.int 299 0), (.int 0 0), (.ref 1149), (.int 301 0), (.int 0 0), (.ref 1156), (.int 307 0), (.int 0 0), (.ref 1163), (.int 312 0), (.int 0 0), (.ref 1170), (.int 317 0), (.int 0 0), (.ref 1177), (.int 330 0), (.int 0 0), (.ref 1182)].toArray), [].toArray⟩
noncomputable abbrev o_13 (P : Params) : Obj := ⟨(.type "code"), none, (.fields [(.str (Str.ofString "<module>") 182), (.str (Str.ofString "<module>") 183), (.str (Str.ofString "/claim/cut.py") 184), (.int 1 0), (.int 0 0), (.int 0 0), (.int 0 0), (.int 0 0), (.ref 11), (.bool false), (.int 181 0), (.ref 12), .none, .none, .none, .none, (.int 185 0), (.int 1 0), (.str (Str.ofString "/claim/cut.py") 186)].toArray), [].toArray⟩
noncomputable abbrev o_14 (P : Params) : Obj := ⟨(.type "frame"), none, .plain, [(some (.ref 13)), (some (.ref 3)), (some (.ref 3)), none, (some (.str (Str.ofString "__main__") 164)), none, (some (.ref 0))].toArray⟩
noncomputable abbrev o_15 (P : Params) : Obj := ⟨(.type "tuple"), none, (.seq [].toArray 0), [].toArray⟩
noncomputable abbrev o_16 (P : Params) : Obj := ⟨.none, none, (.fields [].toArray), [].toArray⟩
noncomputable abbrev o_17 (P : Params) : Obj := ⟨(.type "tuple"), none, (.seq [(.str (Str.ofString "k") 190)].toArray 0), [].toArray⟩
noncomputable abbrev o_18 (P : Params) : Obj := ⟨(.type "tuple"), none, (.seq [].toArray 0), [].toArray⟩
noncomputable abbrev o_19 (P : Params) : Obj := ⟨.none, none, (.func (fnF (stTop 0) (Str.ofString "_wall") 0 .none .none 0)), [].toArray⟩
noncomputable abbrev o_20 (P : Params) : Obj := ⟨(.type "code"), none, (.fields [(.str (Str.ofString "_wall") 187), (.str (Str.ofString "_wall") 188), (.str (Str.ofString "/claim/cut.py") 189), (.int 1 0), (.int 1 0), (.int 0 0), (.int 0 0), (.int 3 0), (.ref 15), (.bool true), (.int 181 0), (.ref 16), .none, (.ref 17), (.ref 18), (.ref 19), (.int 191 0), (.int 1 0), (.str (Str.ofString "/claim/cut.py") 192)].toArray), [].toArray⟩
noncomputable abbrev o_21 (P : Params) : Obj := ⟨(.type "function"), none, (.func (fnF (stTop 0) (Str.ofString "_wall") 3 (.str (Str.ofString "__main__") 164) (.ref 20) 0)), [].toArray⟩
noncomputable abbrev o_22 (P : Params) : Obj := ⟨(.type "tuple"), none, (.seq [].toArray 0), [].toArray⟩
noncomputable abbrev o_23 (P : Params) : Obj := ⟨(.type "builtin_function_or_method"), none, (.fields [(.builtin "type.__prepare__"), (.type "type")].toArray), [].toArray⟩
noncomputable abbrev o_24 (P : Params) : Obj := ⟨(.type "dict"), none, (.dict [⟨PyData.keyHash P (Str.ofString "__module__"), (.str (Str.ofString "__module__") 203), (.str (Str.ofString "snowballstemmer.basestemmer") 194)⟩, ⟨PyData.keyHash P (Str.ofString "__qualname__"), (.str (Str.ofString "__qualname__") 205), (.str (Str.ofString "BaseStemmer") 204)⟩, ⟨PyData.keyHash P (Str.ofString "__firstlineno__"), (.str (Str.ofString "__firstlineno__") 207), (.int 5 206)⟩, ⟨PyData.keyHash P (Str.ofString "__init__"), (.str (Str.ofString "__init__") 214), (.ref 35)⟩, ⟨PyData.keyHash P (Str.ofString "set_current"), (.str (Str.ofString "set_current") 222), (.ref 42)⟩, ⟨PyData.keyHash P (Str.ofString "get_current"), (.str (Str.ofString "get_current") 229), (.ref 49)⟩, ⟨PyData.keyHash P (Str.ofString "copy_from"), (.str (Str.ofString "copy_from") 237), (.ref 56)⟩, ⟨PyData.keyHash P (Str.ofString "in_grouping"), (.str (Str.ofString "in_grouping") 245), (.ref 63)⟩, ⟨PyData.keyHash P (Str.ofString "go_in_grouping"), (.str (Str.ofString "go_in_grouping") 253), (.ref 70)⟩, ⟨PyData.keyHash P (Str.ofString "in_grouping_b"), (.str (Str.ofString "in_grouping_b") 261), (.ref 77)⟩, ⟨PyData.keyHash P (Str.ofString "go_in_grouping_b"), (.str (Str.ofString "go_in_grouping_b") 269), (.ref 84)⟩, ⟨PyData.keyHash P (Str.ofString "out_grouping"), (.str (Str.ofString "out_grouping") 277), (.ref 91)⟩, ⟨PyData.keyHash P (Str.ofString "go_out_grouping"), (.str (Str.ofString "go_out_grouping") 285), (.ref 98)⟩, ⟨PyData.keyHash P (Str.ofString "out_grouping_b"), (.str (Str.ofString "out_grouping_b") 293), (.ref 105)⟩, ⟨PyData.keyHash P (Str.ofString "go_out_grouping_b"), (.str (Str.ofString "go_out_grouping_b") 301), (.ref 112)⟩, ⟨PyData.keyHash P (Str.ofString "eq_s"), (.str (Str.ofString "eq_s") 309), (.ref 119)⟩, ⟨PyData.keyHash P (Str.ofString "eq_s_b"), (.str (Str.ofString "eq_s_b") 317), (.ref 126)⟩, ⟨PyData.keyHash P (Str.ofString "find_among"), (.str (Str.ofString "find_among") 325), (.ref 133)⟩, ⟨PyData.keyHash P (Str.ofString "find_among_b"), (.str (Str.ofString "find_among_b") 345), (.ref 140)⟩, ⟨PyData.keyHash P (Str.ofString "replace_s"), (.str (Str.ofString "replace_s") 356), (.ref 147)⟩, ⟨PyData.keyHash P (Str.ofString "slice_from"), (.str (Str.ofString "slice_from") 364), (.ref 154)⟩, ⟨PyData.keyHash P (Str.ofString "slice_del"), (.str (Str.ofString "slice_del") 371), (.ref 161)⟩, ⟨PyData.keyHash P (Str.ofString "insert"), (.str (Str.ofString "insert") 381), (.ref 168)⟩, ⟨PyData.keyHash P (Str.ofString "slice_to"), (.str (Str.ofString "slice_to") 388), (.ref 175)⟩, ⟨PyData.keyHash P (Str.ofString "assign_to"), (.str (Str.ofString "assign_to") 395), (.ref 182)⟩, ⟨PyData.keyHash P (Str.ofString "stemWord"), (.str (Str.ofString "stemWord") 403), (.ref 189)⟩, ⟨PyData.keyHash P (Str.ofString "stemWords"), (.str (Str.ofString "stemWords") 411), (.ref 196)⟩, ⟨PyData.keyHash P (Str.ofString "__static_attributes__"), (.str (Str.ofString "__static_attributes__") 418), (.ref 197)⟩].toArray 28), [].toArray⟩
noncomputable abbrev o_25 (P : Params) : Obj := ⟨(.type "tuple"), none, (.seq [].toArray 0), [].toArray⟩
noncomputable abbrev o_26 (P : Params) : Obj := ⟨.none, none, (.fields [(.int 7 0), (.int 4 0), (.ref 34), (.int 10 0), (.int 4 0), (.ref 41), (.int 18 0), (.int 4 0), (.ref 48), (.int 21 0), (.int 4 0), (.ref 55), (.int 24 0), (.int 4 0), (.ref 62), (.int 27 0), (.int 4 0), (.ref 69), (.int 34 0), (.int 4 0), (.ref 76), (.int 37 0), (.int 4 0), (.ref 83), (.int 40 0), (.int 4 0), (.ref 90), (.int 43 0), (.int 4 0), (.ref 97), (.int 50 0), (.int 4 0), (.ref 104), (.int 53 0), (.int 4 0), (.ref 111), (.int 56 0), (.int 4 0), (.ref 118), (.int 59 0), (.int 4 0), (.ref 125), (.int 65 0), (.int 4 0), (.ref 132), (.int 68 0), (.int 4 0), (.ref 139), (.int 113 0), (.int 4 0), (.ref 146), (.int 123 0), (.int 4 0), (.ref 153), (.int 131 0), (.int 4 0), (.ref 160), (.int 134 0), (.int 4 0), (.ref 167), (.int 137 0), (.int 4 0), (.ref 174), (.int 140 0), (.int 4 0), (.ref 181), (.int 143 0), (.int 4 0), (.ref 188), (.int 148 0), (.int 4 0), (.ref 195)].toArray), [].toArray⟩
noncomputable abbrev o_27 (P : Params) : Obj := ⟨(.type "code"), none, (.fields [(.str (Str.ofString "BaseStemmer") 198), (.str (Str.ofString "BaseStemmer") 199), (.str (Str.ofString "/claim/cut.py") 200), (.int 5 0), (.int 0 0), (.int 0 0), (.int 0 0), (.int 0 0), (.ref 25), (.bool false), (.int 181 0), (.ref 26), .none, .none, .none, .none, (.int 201 0), (.int 5 0), (.str (Str.ofString "/claim/cut.py") 202)].toArray), [].toArray⟩
noncomputable abbrev o_28 (P : Params) : Obj := ⟨(.type "frame"), none, .plain, [(some (.ref 27)), (some (.ref 3)), (some (.ref 24)), none, (some (.str (Str.ofString "snowballstemmer.basestemmer") 194)), none, (some (.ref 0))].toArray⟩
noncomputable abbrev o_29 (P : Params) : Obj := ⟨(.type "tuple"), none, (.seq [].toArray 0), [].toArray⟩
noncomputable abbrev o_30 (P : Params) : Obj := ⟨.none, none, (.fields [].toArray), [].toArray⟩
noncomputable abbrev o_31 (P : Params) : Obj := ⟨(.type "tuple"), none, (.seq [(.str (Str.ofString "self") 211)].toArray 0), [].toArray⟩
noncomputable abbrev o_32 (P : Params) : Obj := ⟨(.type "tuple"), none, (.seq [].toArray 0), [].toArray⟩
noncomputable abbrev o_33 (P : Params) : Obj := ⟨.none, none, (.func (fnF (stIn 2 0) (Str.ofString "BaseStemmer.__init__") 0 .none .none 0)), [].toArray⟩
noncomputable abbrev o_34 (P : Params) : Obj := ⟨(.type "code"), none, (.fields [(.str (Str.ofString "__init__") 208), (.str (Str.ofString "BaseStemmer.__init__") 209), (.str (Str.ofString "/claim/cut.py") 210), (.int 7 0), (.int 1 0), (.int 0 0), (.int 0 0), (.int 3 0), (.ref 29), (.bool true), (.int 181 0), (.ref 30), .none, (.ref 31), (.ref 32), (.ref 33), (.int 212 0), (.int 7 0), (.str (Str.ofString "/claim/cut.py") 213)].toArray), [].toArray⟩
noncomputable abbrev o_35 (P : Params) : Obj := ⟨(.type "function"), none, (.func (fnF (stIn 2 0) (Str.ofString "BaseStemmer.__init__") 3 (.str (Str.ofString "snowballstemmer.basestemmer") 194) (.ref 34) 0)), [].toArray⟩
noncomputable abbrev o_36 (P : Params) : Obj := ⟨(.type "tuple"), none, (.seq [].toArray 0), [].toArray⟩
noncomputable abbrev o_37 (P : Params) : Obj := ⟨.none, none, (.fields [].toArray), [].toArray⟩
noncomputable abbrev o_38 (P : Params) : Obj := ⟨(.type "tuple"), none, (.seq [(.str (Str.ofString "self") 218), (.str (Str.ofString "value") 219)].toArray 0), [].toArray⟩
noncomputable abbrev o_39 (P : Params) : Obj := ⟨(.type "tuple"), none, (.seq [].toArray 0), [].toArray⟩
noncomputable abbrev o_40 (P : Params) : Obj := ⟨.none, none, (.func (fnF (stIn 2 1) (Str.ofString "BaseStemmer.set_current") 0 .none .none 0)), [].toArray⟩
noncomputable abbrev o_41 (P : Params) : Obj := ⟨(.type "code"), none, (.fields [(.str (Str.ofString "set_current") 215), (.str (Str.ofString "BaseStemmer.set_current") 216), (.str (Str.ofString "/claim/cut.py") 217), (.int 10 0), (.int 2 0), (.int 0 0), (.int 0 0), (.int 3 0), (.ref 36), (.bool true), (.int 181 0), (.ref 37), .none, (.ref 38), (.ref 39), (.ref 40), (.int 220 0), (.int 10 0), (.str (Str.ofString "/claim/cut.py") 221)].toArray), [].toArray⟩
noncomputable abbrev o_42 (P : Params) : Obj := ⟨(.type "function"), none, (.func (fnF (stIn 2 1) (Str.ofString "BaseStemmer.set_current") 3 (.str (Str.ofString "snowballstemmer.basestemmer") 194) (.ref 41) 0)), [].toArray⟩
noncomputable abbrev o_43 (P : Params) : Obj := ⟨(.type "tuple"), none, (.seq [].toArray 0), [].toArray⟩
noncomputable abbrev o_44 (P : Params) : Obj := ⟨.none, none, (.fields [].toArray), [].toArray⟩
noncomputable abbrev o_45 (P : Params) : Obj := ⟨(.type "tuple"), none, (.seq [(.str (Str.ofString "self") 226)].toArray 0), [].toArray⟩
noncomputable abbrev o_46 (P : Params) : Obj := ⟨(.type "tuple"), none, (.seq [].toArray 0), [].toArray⟩
noncomputable abbrev o_47 (P : Params) : Obj := ⟨.none, none, (.func (fnF (stIn 2 2) (Str.ofString "BaseStemmer.get_current") 0 .none .none 0)), [].toArray⟩
noncomputable abbrev o_48 (P : Params) : Obj := ⟨(.type "code"), none, (.fields [(.str (Str.ofString "get_current") 223), (.str (Str.ofString "BaseStemmer.get_current") 224), (.str (Str.ofString "/claim/cut.py") 225), (.int 18 0), (.int 1 0), (.int 0 0), (.int 0 0), (.int 3 0), (.ref 43), (.bool true), (.int 181 0), (.ref 44), .none, (.ref 45), (.ref 46), (.ref 47), (.int 227 0), (.int 18 0), (.str (Str.ofString "/claim/cut.py") 228)].toArray), [].toArray⟩
noncomputable abbrev o_49 (P : Params) : Obj := ⟨(.type "function"), none, (.func (fnF (stIn 2 2) (Str.ofString "BaseStemmer.get_current") 3 (.str (Str.ofString "snowballstemmer.basestemmer") 194) (.ref 48) 0)), [].toArray⟩
noncomputable abbrev o_50 (P : Params) : Obj := ⟨(.type "tuple"), none, (.seq [].toArray 0), [].toArray⟩
noncomputable abbrev o_51 (P : Params) : Obj := ⟨.none, none, (.fields [].toArray), [].toArray⟩
noncomputable abbrev o_52 (P : Params) : Obj := ⟨(.type "tuple"), none, (.seq [(.str (Str.ofString "self") 233), (.str (Str.ofString "other") 234)].toArray 0), [].toArray⟩
noncomputable abbrev o_53 (P : Params) : Obj := ⟨(.type "tuple"), none, (.seq [].toArray 0), [].toArray⟩
noncomputable abbrev o_54 (P : Params) : Obj := ⟨.none, none, (.func (fnF (stIn 2 3) (Str.ofString "BaseStemmer.copy_from") 0 .none .none 0)), [].toArray⟩
noncomputable abbrev o_55 (P : Params) : Obj := ⟨(.type "code"), none, (.fields [(.str (Str.ofString "copy_from") 230), (.str (Str.ofString "BaseStemmer.copy_from") 231), (.str (Str.ofString "/claim/cut.py") 232), (.int 21 0), (.int 2 0), (.int 0 0), (.int 0 0), (.int 3 0), (.ref 50), (.bool true), (.int 181 0), (.ref 51), .none, (.ref 52), (.ref 53), (.ref 54), (.int 235 0), (.int 21 0), (.str (Str.ofString "/claim/cut.py") 236)].toArray), [].toArray⟩
noncomputable abbrev o_56 (P : Params) : Obj := ⟨(.type "function"), none, (.func (fnF (stIn 2 3) (Str.ofString "BaseStemmer.copy_from") 3 (.str (Str.ofString "snowballstemmer.basestemmer") 194) (.ref 55) 0)), [].toArray⟩
noncomputable abbrev o_57 (P : Params) : Obj := ⟨(.type "tuple"), none, (.seq [].toArray 0), [].toArray⟩
noncomputable abbrev o_58 (P : Params) : Obj := ⟨.none, none, (.fields [].toArray), [].toArray⟩
noncomputable abbrev o_59 (P : Params) : Obj := ⟨(.type "tuple"), none, (.seq [(.str (Str.ofString "self") 241), (.str (Str.ofString "s") 242)].toArray 0), [].toArray⟩
noncomputable abbrev o_60 (P : Params) : Obj := ⟨(.type "tuple"), none, (.seq [].toArray 0), [].toArray⟩
noncomputable abbrev o_61 (P : Params) : Obj := ⟨.none, none, (.func (fnF (stIn 2 4) (Str.ofString "BaseStemmer.in_grouping") 0 .none .none 0)), [].toArray⟩
noncomputable abbrev o_62 (P : Params) : Obj := ⟨(.type "code"), none, (.fields [(.str (Str.ofString "in_grouping") 238), (.str (Str.ofString "BaseStemmer.in_grouping") 239), (.str (Str.ofString "/claim/cut.py") 240), (.int 24 0), (.int 2 0), (.int 0 0), (.int 0 0), (.int 3 0), (.ref 57), (.bool true), (.int 181 0), (.ref 58), .none, (.ref 59), (.ref 60), (.ref 61), (.int 243 0), (.int 24 0), (.str (Str.ofString "/claim/cut.py") 244)].toArray), [].toArray⟩
noncomputable abbrev o_63 (P : Params) : Obj := ⟨(.type "function"), none, (.func (fnF (stIn 2 4) (Str.ofString "BaseStemmer.in_grouping") 3 (.str (Str.ofString "snowballstemmer.basestemmer") 194) (.ref 62) 0)), [].toArray⟩
noncomputable abbrev o_64 (P : Params) : Obj := ⟨(.type "tuple"), none, (.seq [].toArray 0), [].toArray⟩
noncomputable abbrev o_65 (P : Params) : Obj := ⟨.none, none, (.fields [].toArray), [].toArray⟩
noncomputable abbrev o_66 (P : Params) : Obj := ⟨(.type "tuple"), none, (.seq [(.str (Str.ofString "self") 249), (.str (Str.ofString "s") 250)].toArray 0), [].toArray⟩
noncomputable abbrev o_67 (P : Params) : Obj := ⟨(.type "tuple"), none, (.seq [].toArray 0), [].toArray⟩
noncomputable abbrev o_68 (P : Params) : Obj := ⟨.none, none, (.func (fnF (stIn 2 5) (Str.ofString "BaseStemmer.go_in_grouping") 0 .none .none 0)), [].toArray⟩
noncomputable abbrev o_69 (P : Params) : Obj := ⟨(.type "code"), none, (.fields [(.str (Str.ofString "go_in_grouping") 246), (.str (Str.ofString "BaseStemmer.go_in_grouping") 247), (.str (Str.ofString "/claim/cut.py") 248), (.int 27 0), (.int 2 0), (.int 0 0), (.int 0 0), (.int 3 0), (.ref 64), (.bool true), (.int 181 0), (.ref 65), .none, (.ref 66), (.ref 67), (.ref 68), (.int 251 0), (.int 27 0), (.str (Str.ofString "/claim/cut.py") 252)].toArray), [].toArray⟩
noncomputable abbrev o_70 (P : Params) : Obj := ⟨(.type "function"), none, (.func (fnF (stIn 2 5) (Str.ofString "BaseStemmer.go_in_grouping") 3 (.str (Str.ofString "snowballstemmer.basestemmer") 194) (.ref 69) 0)), [].toArray⟩
noncomputable abbrev o_71 (P : Params) : Obj := ⟨(.type "tuple"), none, (.seq [].toArray 0), [].toArray⟩
noncomputable abbrev o_72 (P : Params) : Obj := ⟨.none, none, (.fields [].toArray), [].toArray⟩
noncomputable abbrev o_73 (P : Params) : Obj := ⟨(.type "tuple"), none, (.seq [(.str (Str.ofString "self") 257), (.str (Str.ofString "s") 258)].toArray 0), [].toArray⟩
noncomputable abbrev o_74 (P : Params) : Obj := ⟨(.type "tuple"), none, (.seq [].toArray 0), [].toArray⟩
noncomputable abbrev o_75 (P : Params) : Obj := ⟨.none, none, (.func (fnF (stIn 2 6) (Str.ofString "BaseStemmer.in_grouping_b") 0 .none .none 0)), [].toArray⟩
noncomputable abbrev o_76 (P : Params) : Obj := ⟨(.type "code"), none, (.fields [(.str (Str.ofString "in_grouping_b") 254), (.str (Str.ofString "BaseStemmer.in_grouping_b") 255), (.str (Str.ofString "/claim/cut.py") 256), (.int 34 0), (.int 2 0), (.int 0 0), (.int 0 0), (.int 3 0), (.ref 71), (.bool true), (.int 181 0), (.ref 72), .none, (.ref 73), (.ref 74), (.ref 75), (.int 259 0), (.int 34 0), (.str (Str.ofString "/claim/cut.py") 260)].toArray), [].toArray⟩
noncomputable abbrev o_77 (P : Params) : Obj := ⟨(.type "function"), none, (.func (fnF (stIn 2 6) (Str.ofString "BaseStemmer.in_grouping_b") 3 (.str (Str.ofString "snowballstemmer.basestemmer") 194) (.ref 76) 0)), [].toArray⟩
noncomputable abbrev o_78 (P : Params) : Obj := ⟨(.type "tuple"), none, (.seq [].toArray 0), [].toArray⟩
noncomputable abbrev o_79 (P : Params) : Obj := ⟨.none, none, (.fields [].toArray), [].toArray⟩
noncomputable abbrev o_80 (P : Params) : Obj := ⟨(.type "tuple"), none, (.seq [(.str (Str.ofString "self") 265), (.str (Str.ofString "s") 266)].toArray 0), [].toArray⟩
noncomputable abbrev o_81 (P : Params) : Obj := ⟨(.type "tuple"), none, (.seq [].toArray 0), [].toArray⟩
noncomputable abbrev o_82 (P : Params) : Obj := ⟨.none, none, (.func (fnF (stIn 2 7) (Str.ofString "BaseStemmer.go_in_grouping_b") 0 .none .none 0)), [].toArray⟩
noncomputable abbrev o_83 (P : Params) : Obj := ⟨(.type "code"), none, (.fields [(.str (Str.ofString "go_in_grouping_b") 262), (.str (Str.ofString "BaseStemmer.go_in_grouping_b") 263), (.str (Str.ofString "/claim/cut.py") 264), (.int 37 0), (.int 2 0), (.int 0 0), (.int 0 0), (.int 3 0), (.ref 78), (.bool true), (.int 181 0), (.ref 79), .none, (.ref 80), (.ref 81), (.ref 82), (.int 267 0), (.int 37 0), (.str (Str.ofString "/claim/cut.py") 268)].toArray), [].toArray⟩
noncomputable abbrev o_84 (P : Params) : Obj := ⟨(.type "function"), none, (.func (fnF (stIn 2 7) (Str.ofString "BaseStemmer.go_in_grouping_b") 3 (.str (Str.ofString "snowballstemmer.basestemmer") 194) (.ref 83) 0)), [].toArray⟩
noncomputable abbrev o_85 (P : Params) : Obj := ⟨(.type "tuple"), none, (.seq [].toArray 0), [].toArray⟩
noncomputable abbrev o_86 (P : Params) : Obj := ⟨.none, none, (.fields [].toArray), [].toArray⟩
noncomputable abbrev o_87 (P : Params) : Obj := ⟨(.type "tuple"), none, (.seq [(.str (Str.ofString "self") 273), (.str (Str.ofString "s") 274)].toArray 0), [].toArray⟩
noncomputable abbrev o_88 (P : Params) : Obj := ⟨(.type "tuple"), none, (.seq [].toArray 0), [].toArray⟩
noncomputable abbrev o_89 (P : Params) : Obj := ⟨.none, none, (.func (fnF (stIn 2 8) (Str.ofString "BaseStemmer.out_grouping") 0 .none .none 0)), [].toArray⟩
noncomputable abbrev o_90 (P : Params) : Obj := ⟨(.type "code"), none, (.fields [(.str (Str.ofString "out_grouping") 270), (.str (Str.ofString "BaseStemmer.out_grouping") 271), (.str (Str.ofString "/claim/cut.py") 272), (.int 40 0), (.int 2 0), (.int 0 0), (.int 0 0), (.int 3 0), (.ref 85), (.bool true), (.int 181 0), (.ref 86), .none, (.ref 87), (.ref 88), (.ref 89), (.int 275 0), (.int 40 0), (.str (Str.ofString "/claim/cut.py") 276)].toArray), [].toArray⟩
noncomputable abbrev o_91 (P : Params) : Obj := ⟨(.type "function"), none, (.func (fnF (stIn 2 8) (Str.ofString "BaseStemmer.out_grouping") 3 (.str (Str.ofString "snowballstemmer.basestemmer") 194) (.ref 90) 0)), [].toArray⟩
noncomputable abbrev o_92 (P : Params) : Obj := ⟨(.type "tuple"), none, (.seq [].toArray 0), [].toArray⟩
noncomputable abbrev o_93 (P : Params) : Obj := ⟨.none, none, (.fields [].toArray), [].toArray⟩
noncomputable abbrev o_94 (P : Params) : Obj := ⟨(.type "tuple"), none, (.seq [(.str (Str.ofString "self") 281), (.str (Str.ofString "s") 282)].toArray 0), [].toArray⟩
noncomputable abbrev o_95 (P : Params) : Obj := ⟨(.type "tuple"), none, (.seq [].toArray 0), [].toArray⟩
noncomputable abbrev o_96 (P : Params) : Obj := ⟨.none, none, (.func (fnF (stIn 2 9) (Str.ofString "BaseStemmer.go_out_grouping") 0 .none .none 0)), [].toArray⟩
noncomputable abbrev o_97 (P : Params) : Obj := ⟨(.type "code"), none, (.fields [(.str (Str.ofString "go_out_grouping") 278), (.str (Str.ofString "BaseStemmer.go_out_grouping") 279), (.str (Str.ofString "/claim/cut.py") 280), (.int 43 0), (.int 2 0), (.int 0 0), (.int 0 0), (.int 3 0), (.ref 92), (.bool true), (.int 181 0), (.ref 93), .none, (.ref 94), (.ref 95), (.ref 96), (.int 283 0), (.int 43 0), (.str (Str.ofString "/claim/cut.py") 284)].toArray), [].toArray⟩
noncomputable abbrev o_98 (P : Params) : Obj := ⟨(.type "function"), none, (.func (fnF (stIn 2 9) (Str.ofString "BaseStemmer.go_out_grouping") 3 (.str (Str.ofString "snowballstemmer.basestemmer") 194) (.ref 97) 0)), [].toArray⟩
noncomputable abbrev o_99 (P : Params) : Obj := ⟨(.type "tuple"), none, (.seq [].toArray 0), [].toArray⟩
noncomputable abbrev o_100 (P : Params) : Obj := ⟨.none, none, (.fields [].toArray), [].toArray⟩
noncomputable abbrev o_101 (P : Params) : Obj := ⟨(.type "tuple"), none, (.seq [(.str (Str.ofString "self") 289), (.str (Str.ofString "s") 290)].toArray 0), [].toArray⟩
noncomputable abbrev o_102 (P : Params) : Obj := ⟨(.type "tuple"), none, (.seq [].toArray 0), [].toArray⟩
noncomputable abbrev o_103 (P : Params) : Obj := ⟨.none, none, (.func (fnF (stIn 2 10) (Str.ofString "BaseStemmer.out_grouping_b") 0 .none .none 0)), [].toArray⟩
noncomputable abbrev o_104 (P : Params) : Obj := ⟨(.type "code"), none, (.fields [(.str (Str.ofString "out_grouping_b") 286), (.str (Str.ofString "BaseStemmer.out_grouping_b") 287), (.str (Str.ofString "/claim/cut.py") 288), (.int 50 0), (.int 2 0), (.int 0 0), (.int 0 0), (.int 3 0), (.ref 99), (.bool true), (.int 181 0), (.ref 100), .none, (.ref 101), (.ref 102), (.ref 103), (.int 291 0), (.int 50 0), (.str (Str.ofString "/claim/cut.py") 292)].toArray), [].toArray⟩
noncomputable abbrev o_105 (P : Params) : Obj := ⟨(.type "function"), none, (.func (fnF (stIn 2 10) (Str.ofString "BaseStemmer.out_grouping_b") 3 (.str (Str.ofString "snowballstemmer.basestemmer") 194) (.ref 104) 0)), [].toArray⟩
noncomputable abbrev o_106 (P : Params) : Obj := ⟨(.type "tuple"), none, (.seq [].toArray 0), [].toArray⟩
noncomputable abbrev o_107 (P : Params) : Obj := ⟨.none, none, (.fields [].toArray), [].toArray⟩
noncomputable abbrev o_108 (P : Params) : Obj := ⟨(.type "tuple"), none, (.seq [(.str (Str.ofString "self") 297), (.str (Str.ofString "s") 298)].toArray 0), [].toArray⟩
noncomputable abbrev o_109 (P : Params) : Obj := ⟨(.type "tuple"), none, (.seq [].toArray 0), [].toArray⟩
noncomputable abbrev o_110 (P : Params) : Obj := ⟨.none, none, (.func (fnF (stIn 2 11) (Str.ofString "BaseStemmer.go_out_grouping_b") 0 .none .none 0)), [].toArray⟩
noncomputable abbrev o_111 (P : Params) : Obj := ⟨(.type "code"), none, (.fields [(.str (Str.ofString "go_out_grouping_b") 294), (.str (Str.ofString "BaseStemmer.go_out_grouping_b") 295), (.str (Str.ofString "/claim/cut.py") 296), (.int 53 0), (.int 2 0), (.int 0 0), (.int 0 0), (.int 3 0), (.ref 106), (.bool true), (.int 181 0), (.ref 107), .none, (.ref 108), (.ref 109), (.ref 110), (.int 299 0), (.int 53 0), (.str (Str.ofString "/claim/cut.py") 300)].toArray), [].toArray⟩
noncomputable abbrev o_112 (P : Params) : Obj := ⟨(.type "function"), none, (.func (fnF (stIn 2 11) (Str.ofString "BaseStemmer.go_out_grouping_b") 3 (.str (Str.ofString "snowballstemmer.basestemmer") 194) (.ref 111) 0)), [].toArray⟩
noncomputable abbrev o_113 (P : Params) : Obj := ⟨(.type "tuple"), none, (.seq [].toArray 0), [].toArray⟩
noncomputable abbrev o_114 (P : Params) : Obj := ⟨.none, none, (.fields [].toArray), [].toArray⟩
noncomputable abbrev o_115 (P : Params) : Obj := ⟨(.type "tuple"), none, (.seq [(.str (Str.ofString "self") 305), (.str (Str.ofString "s") 306)].toArray 0), [].toArray⟩
noncomputable abbrev o_116 (P : Params) : Obj := ⟨(.type "tuple"), none, (.seq [].toArray 0), [].toArray⟩
noncomputable abbrev o_117 (P : Params) : Obj := ⟨.none, none, (.func (fnF (stIn 2 12) (Str.ofString "BaseStemmer.eq_s") 0 .none .none 0)), [].toArray⟩
noncomputable abbrev o_118 (P : Params) : Obj := ⟨(.type "code"), none, (.fields [(.str (Str.ofString "eq_s") 302), (.str (Str.ofString "BaseStemmer.eq_s") 303), (.str (Str.ofString "/claim/cut.py") 304), (.int 56 0), (.int 2 0), (.int 0 0), (.int 0 0), (.int 3 0), (.ref 113), (.bool true), (.int 181 0), (.ref 114), .none, (.ref 115), (.ref 116), (.ref 117), (.int 307 0), (.int 56 0), (.str (Str.ofString "/claim/cut.py") 308)].toArray), [].toArray⟩
noncomputable abbrev o_119 (P : Params) : Obj := ⟨(.type "function"), none, (.func (fnF (stIn 2 12) (Str.ofString "BaseStemmer.eq_s") 3 (.str (Str.ofString "snowballstemmer.basestemmer") 194) (.ref 118) 0)), [].toArray⟩
noncomputable abbrev o_120 (P : Params) : Obj := ⟨(.type "tuple"), none, (.seq [].toArray 0), [].toArray⟩
noncomputable abbrev o_121 (P : Params) : Obj := ⟨.none, none, (.fields [].toArray), [].toArray⟩
noncomputable abbrev o_122 (P : Params) : Obj := ⟨(.type "tuple"), none, (.seq [(.str (Str.ofString "self") 313), (.str (Str.ofString "s") 314)].toArray 0), [].toArray⟩
noncomputable abbrev o_123 (P : Params) : Obj := ⟨(.type "tuple"), none, (.seq [].toArray 0), [].toArray⟩
noncomputable abbrev o_124 (P : Params) : Obj := ⟨.none, none, (.func (fnF (stIn 2 13) (Str.ofString "BaseStemmer.eq_s_b") 0 .none .none 0)), [].toArray⟩
noncomputable abbrev o_125 (P : Params) : Obj := ⟨(.type "code"), none, (.fields [(.str (Str.ofString "eq_s_b") 310), (.str (Str.ofString "BaseStemmer.eq_s_b") 311), (.str (Str.ofString "/claim/cut.py") 312), (.int 59 0), (.int 2 0), (.int 0 0), (.int 0 0), (.int 3 0), (.ref 120), (.bool true), (.int 181 0), (.ref 121), .none, (.ref 122), (.ref 123), (.ref 124), (.int 315 0), (.int 59 0), (.str (Str.ofString "/claim/cut.py") 316)].toArray), [].toArray⟩
noncomputable abbrev o_126 (P : Params) : Obj := ⟨(.type "function"), none, (.func (fnF (stIn 2 13) (Str.ofString "BaseStemmer.eq_s_b") 3 (.str (Str.ofString "snowballstemmer.basestemmer") 194) (.ref 125) 0)), [].toArray⟩
noncomputable abbrev o_127 (P : Params) : Obj := ⟨(.type "tuple"), none, (.seq [].toArray 0), [].toArray⟩
noncomputable abbrev o_128 (P : Params) : Obj := ⟨.none, none, (.fields [].toArray), [].toArray⟩
noncomputable abbrev o_129 (P : Params) : Obj := ⟨(.type "tuple"), none, (.seq [(.str (Str.ofString "self") 321), (.str (Str.ofString "v") 322)].toArray 0), [].toArray⟩
noncomputable abbrev o_130 (P : Params) : Obj := ⟨(.type "tuple"), none, (.seq [].toArray 0), [].toArray⟩
noncomputable abbrev o_131 (P : Params) : Obj := ⟨.none, none, (.func (fnF (stIn 2 14) (Str.ofString "BaseStemmer.find_among") 0 .none .none 0)), [].toArray⟩
noncomputable abbrev o_132 (P : Params) : Obj := ⟨(.type "code"), none, (.fields [(.str (Str.ofString "find_among") 318), (.str (Str.ofString "BaseStemmer.find_among") 319), (.str (Str.ofString "/claim/cut.py") 320), (.int 65 0), (.int 2 0), (.int 0 0), (.int 0 0), (.int 3 0), (.ref 127), (.bool true), (.int 181 0), (.ref 128), .none, (.ref 129), (.ref 130), (.ref 131), (.int 323 0), (.int 65 0), (.str (Str.ofString "/claim/cut.py") 324)].toArray), [].toArray⟩
noncomputable abbrev o_133 (P : Params) : Obj := ⟨(.type "function"), none, (.func (fnF (stIn 2 14) (Str.ofString "BaseStemmer.find_among") 3 (.str (Str.ofString "snowballstemmer.basestemmer") 194) (.ref 132) 0)), [].toArray⟩
noncomputable abbrev o_134 (P : Params) : Obj := ⟨(.type "tuple"), none, (.seq [].toArray 0), [].toArray⟩
noncomputable abbrev o_135 (P : Params) : Obj := ⟨.none, none, (.fields [].toArray), [].toArray⟩
noncomputable abbrev o_136 (P : Params) : Obj := ⟨(.type "tuple"), none, (.seq [(.str (Str.ofString "self") 329), (.str (Str.ofString "v") 330), (.str (Str.ofString "i") 331), (.str (Str.ofString "j") 332), (.str (Str.ofString "c") 333), (.str (Str.ofString "lb") 334), (.str (Str.ofString "common_i") 335), (.str (Str.ofString "common_j") 336), (.str (Str.ofString "first_key_inspected") 337), (.str (Str.ofString "k") 338), (.str (Str.ofString "diff") 339), (.str (Str.ofString "common") 340), (.str (Str.ofString "w") 341), (.str (Str.ofString "i2") 342)].toArray 0), [].toArray⟩
noncomputable abbrev o_137 (P : Params) : Obj := ⟨(.type "tuple"), none, (.seq [].toArray 0), [].toArray⟩
noncomputable abbrev o_138 (P : Params) : Obj := ⟨.none, none, (.func (fnF (stIn 2 15) (Str.ofString "BaseStemmer.find_among_b") 0 .none .none 0)), [].toArray⟩
noncomputable abbrev o_139 (P : Params) : Obj := ⟨(.type "code"), none, (.fields [(.str (Str.ofString "find_among_b") 326), (.str (Str.ofString "BaseStemmer.find_among_b") 327), (.str (Str.ofString "/claim/cut.py") 328), (.int 68 0), (.int 2 0), (.int 0 0), (.int 0 0), (.int 3 0), (.ref 134), (.bool true), (.int 181 0), (.ref 135), .none, (.ref 136), (.ref 137), (.ref 138), (.int 343 0), (.int 68 0), (.str (Str.ofString "/claim/cut.py") 344)].toArray), [].toArray⟩
noncomputable abbrev o_140 (P : Params) : Obj := ⟨(.type "function"), none, (.func (fnF (stIn 2 15) (Str.ofString "BaseStemmer.find_among_b") 3 (.str (Str.ofString "snowballstemmer.basestemmer") 194) (.ref 139) 0)), [].toArray⟩
noncomputable abbrev o_141 (P : Params) : Obj := ⟨(.type "tuple"), none, (.seq [].toArray 0), [].toArray⟩
noncomputable abbrev o_142 (P : Params) : Obj := ⟨.none, none, (.fields [].toArray), [].toArray⟩
noncomputable abbrev o_143 (P : Params) : Obj := ⟨(.type "tuple"), none, (.seq [(.str (Str.ofString "self") 349), (.str (Str.ofString "c_bra") 350), (.str (Str.ofString "c_ket") 351), (.str (Str.ofString "s") 352), (.str (Str.ofString "adjustment") 353)].toArray 0), [].toArray⟩
noncomputable abbrev o_144 (P : Params) : Obj := ⟨(.type "tuple"), none, (.seq [].toArray 0), [].toArray⟩
noncomputable abbrev o_145 (P : Params) : Obj := ⟨.none, none, (.func (fnF (stIn 2 16) (Str.ofString "BaseStemmer.replace_s") 0 .none .none 0)), [].toArray⟩
noncomputable abbrev o_146 (P : Params) : Obj := ⟨(.type "code"), none, (.fields [(.str (Str.ofString "replace_s") 346), (.str (Str.ofString "BaseStemmer.replace_s") 347), (.str (Str.ofString "/claim/cut.py") 348), (.int 113 0), (.int 4 0), (.int 0 0), (.int 0 0), (.int 3 0), (.ref 141), (.bool true), (.int 181 0), (.ref 142), .none, (.ref 143), (.ref 144), (.ref 145), (.int 354 0), (.int 113 0), (.str (Str.ofString "/claim/cut.py") 355)].toArray), [].toArray⟩
noncomputable abbrev o_147 (P : Params) : Obj := ⟨(.type "function"), none, (.func (fnF (stIn 2 16) (Str.ofString "BaseStemmer.replace_s") 3 (.str (Str.ofString "snowballstemmer.basestemmer") 194) (.ref 146) 0)), [].toArray⟩
noncomputable abbrev o_148 (P : Params) : Obj := ⟨(.type "tuple"), none, (.seq [].toArray 0), [].toArray⟩
noncomputable abbrev o_149 (P : Params) : Obj := ⟨.none, none, (.fields [].toArray), [].toArray⟩
noncomputable abbrev o_150 (P : Params) : Obj := ⟨(.type "tuple"), none, (.seq [(.str (Str.ofString "self") 360), (.str (Str.ofString "s") 361)].toArray 0), [].toArray⟩
noncomputable abbrev o_151 (P : Params) : Obj := ⟨(.type "tuple"), none, (.seq [].toArray 0), [].toArray⟩
noncomputable abbrev o_152 (P : Params) : Obj := ⟨.none, none, (.func (fnF (stIn 2 17) (Str.ofString "BaseStemmer.slice_from") 0 .none .none 0)), [].toArray⟩
noncomputable abbrev o_153 (P : Params) : Obj := ⟨(.type "code"), none, (.fields [(.str (Str.ofString "slice_from") 357), (.str (Str.ofString "BaseStemmer.slice_from") 358), (.str (Str.ofString "/claim/cut.py") 359), (.int 123 0), (.int 2 0), (.int 0 0), (.int 0 0), (.int 3 0), (.ref 148), (.bool true), (.int 181 0), (.ref 149), .none, (.ref 150), (.ref 151), (.ref 152), (.int 362 0), (.int 123 0), (.str (Str.ofString "/claim/cut.py") 363)].toArray), [].toArray⟩
noncomputable abbrev o_154 (P : Params) : Obj := ⟨(.type "function"), none, (.func (fnF (stIn 2 17) (Str.ofString "BaseStemmer.slice_from") 3 (.str (Str.ofString "snowballstemmer.basestemmer") 194) (.ref 153) 0)), [].toArray⟩
noncomputable abbrev o_155 (P : Params) : Obj := ⟨(.type "tuple"), none, (.seq [].toArray 0), [].toArray⟩
noncomputable abbrev o_156 (P : Params) : Obj := ⟨.none, none, (.fields [].toArray), [].toArray⟩
noncomputable abbrev o_157 (P : Params) : Obj := ⟨(.type "tuple"), none, (.seq [(.str (Str.ofString "self") 368)].toArray 0), [].toArray⟩
noncomputable abbrev o_158 (P : Params) : Obj := ⟨(.type "tuple"), none, (.seq [].toArray 0), [].toArray⟩
noncomputable abbrev o_159 (P : Params) : Obj := ⟨.none, none, (.func (fnF (stIn 2 18) (Str.ofString "BaseStemmer.slice_del") 0 .none .none 0)), [].toArray⟩
noncomputable abbrev o_160 (P : Params) : Obj := ⟨(.type "code"), none, (.fields [(.str (Str.ofString "slice_del") 365), (.str (Str.ofString "BaseStemmer.slice_del") 366), (.str (Str.ofString "/claim/cut.py") 367), (.int 131 0), (.int 1 0), (.int 0 0), (.int 0 0), (.int 3 0), (.ref 155), (.bool true), (.int 181 0), (.ref 156), .none, (.ref 157), (.ref 158), (.ref 159), (.int 369 0), (.int 131 0), (.str (Str.ofString "/claim/cut.py") 370)].toArray), [].toArray⟩
noncomputable abbrev o_161 (P : Params) : Obj := ⟨(.type "function"), none, (.func (fnF (stIn 2 18) (Str.ofString "BaseStemmer.slice_del") 3 (.str (Str.ofString "snowballstemmer.basestemmer") 194) (.ref 160) 0)), [].toArray⟩
noncomputable abbrev o_162 (P : Params) : Obj := ⟨(.type "tuple"), none, (.seq [].toArray 0), [].toArray⟩
noncomputable abbrev o_163 (P : Params) : Obj := ⟨.none, none, (.fields [].toArray), [].toArray⟩
noncomputable abbrev o_164 (P : Params) : Obj := ⟨(.type "tuple"), none, (.seq [(.str (Str.ofString "self") 375), (.str (Str.ofString "c_bra") 376), (.str (Str.ofString "c_ket") 377), (.str (Str.ofString "s") 378)].toArray 0), [].toArray⟩
noncomputable abbrev o_165 (P : Params) : Obj := ⟨(.type "tuple"), none, (.seq [].toArray 0), [].toArray⟩
noncomputable abbrev o_166 (P : Params) : Obj := ⟨.none, none, (.func (fnF (stIn 2 19) (Str.ofString "BaseStemmer.insert") 0 .none .none 0)), [].toArray⟩
noncomputable abbrev o_167 (P : Params) : Obj := ⟨(.type "code"), none, (.fields [(.str (Str.ofString "insert") 372), (.str (Str.ofString "BaseStemmer.insert") 373), (.str (Str.ofString "/claim/cut.py") 374), (.int 134 0), (.int 4 0), (.int 0 0), (.int 0 0), (.int 3 0), (.ref 162), (.bool true), (.int 181 0), (.ref 163), .none, (.ref 164), (.ref 165), (.ref 166), (.int 379 0), (.int 134 0), (.str (Str.ofString "/claim/cut.py") 380)].toArray), [].toArray⟩
noncomputable abbrev o_168 (P : Params) : Obj := ⟨(.type "function"), none, (.func (fnF (stIn 2 19) (Str.ofString "BaseStemmer.insert") 3 (.str (Str.ofString "snowballstemmer.basestemmer") 194) (.ref 167) 0)), [].toArray⟩
noncomputable abbrev o_169 (P : Params) : Obj := ⟨(.type "tuple"), none, (.seq [].toArray 0), [].toArray⟩
noncomputable abbrev o_170 (P : Params) : Obj := ⟨.none, none, (.fields [].toArray), [].toArray⟩
noncomputable abbrev o_171 (P : Params) : Obj := ⟨(.type "tuple"), none, (.seq [(.str (Str.ofString "self") 385)].toArray 0), [].toArray⟩
noncomputable abbrev o_172 (P : Params) : Obj := ⟨(.type "tuple"), none, (.seq [].toArray 0), [].toArray⟩
noncomputable abbrev o_173 (P : Params) : Obj := ⟨.none, none, (.func (fnF (stIn 2 20) (Str.ofString "BaseStemmer.slice_to") 0 .none .none 0)), [].toArray⟩
noncomputable abbrev o_174 (P : Params) : Obj := ⟨(.type "code"), none, (.fields [(.str (Str.ofString "slice_to") 382), (.str (Str.ofString "BaseStemmer.slice_to") 383), (.str (Str.ofString "/claim/cut.py") 384), (.int 137 0), (.int 1 0), (.int 0 0), (.int 0 0), (.int 3 0), (.ref 169), (.bool true), (.int 181 0), (.ref 170), .none, (.ref 171), (.ref 172), (.ref 173), (.int 386 0), (.int 137 0), (.str (Str.ofString "/claim/cut.py") 387)].toArray), [].toArray⟩
noncomputable abbrev o_175 (P : Params) : Obj := ⟨(.type "function"), none, (.func (fnF (stIn 2 20) (Str.ofString "BaseStemmer.slice_to") 3 (.str (Str.ofString "snowballstemmer.basestemmer") 194) (.ref 174) 0)), [].toArray⟩
noncomputable abbrev o_176 (P : Params) : Obj := ⟨(.type "tuple"), none, (.seq [].toArray 0), [].toArray⟩
noncomputable abbrev o_177 (P : Params) : Obj := ⟨.none, none, (.fields [].toArray), [].toArray⟩
noncomputable abbrev o_178 (P : Params) : Obj := ⟨(.type "tuple"), none, (.seq [(.str (Str.ofString "self") 392)].toArray 0), [].toArray⟩
noncomputable abbrev o_179 (P : Params) : Obj := ⟨(.type "tuple"), none, (.seq [].toArray 0), [].toArray⟩
noncomputable abbrev o_180 (P : Params) : Obj := ⟨.none, none, (.func (fnF (stIn 2 21) (Str.ofString "BaseStemmer.assign_to") 0 .none .none 0)), [].toArray⟩
noncomputable abbrev o_181 (P : Params) : Obj := ⟨(.type "code"), none, (.fields [(.str (Str.ofString "assign_to") 389), (.str (Str.ofString "BaseStemmer.assign_to") 390), (.str (Str.ofString "/claim/cut.py") 391), (.int 140 0), (.int 1 0), (.int 0 0), (.int 0 0), (.int 3 0), (.ref 176), (.bool true), (.int 181 0), (.ref 177), .none, (.ref 178), (.ref 179), (.ref 180), (.int 393 0), (.int 140 0), (.str (Str.ofString "/claim/cut.py") 394)].toArray), [].toArray⟩
noncomputable abbrev o_182 (P : Params) : Obj := ⟨(.type "function"), none, (.func (fnF (stIn 2 21) (Str.ofString "BaseStemmer.assign_to") 3 (.str (Str.ofString "snowballstemmer.basestemmer") 194) (.ref 181) 0)), [].toArray⟩
noncomputable abbrev o_183 (P : Params) : Obj := ⟨(.type "tuple"), none, (.seq [].toArray 0), [].toArray⟩
noncomputable abbrev o_184 (P : Params) : Obj := ⟨.none, none, (.fields [].toArray), [].toArray⟩
noncomputable abbrev o_185 (P : Params) : Obj := ⟨(.type "tuple"), none, (.seq [(.str (Str.ofString "self") 399), (.str (Str.ofString "word") 400)].toArray 0), [].toArray⟩
noncomputable abbrev o_186 (P : Params) : Obj := ⟨(.type "tuple"), none, (.seq [].toArray 0), [].toArray⟩
noncomputable abbrev o_187 (P : Params) : Obj := ⟨.none, none, (.func (fnF (stIn 2 22) (Str.ofString "BaseStemmer.stemWord") 0 .none .none 0)), [].toArray⟩
noncomputable abbrev o_188 (P : Params) : Obj := ⟨(.type "code"), none, (.fields [(.str (Str.ofString "stemWord") 396), (.str (Str.ofString "BaseStemmer.stemWord") 397), (.str (Str.ofString "/claim/cut.py") 398), (.int 143 0), (.int 2 0), (.int 0 0), (.int 0 0), (.int 3 0), (.ref 183), (.bool true), (.int 181 0), (.ref 184), .none, (.ref 185), (.ref 186), (.ref 187), (.int 401 0), (.int 143 0), (.str (Str.ofString "/claim/cut.py") 402)].toArray), [].toArray⟩
noncomputable abbrev o_189 (P : Params) : Obj := ⟨(.type "function"), none, (.func (fnF (stIn 2 22) (Str.ofString "BaseStemmer.stemWord") 3 (.str (Str.ofString "snowballstemmer.basestemmer") 194) (.ref 188) 0)), [].toArray⟩
noncomputable abbrev o_190 (P : Params) : Obj := ⟨(.type "tuple"), none, (.seq [].toArray 0), [].toArray⟩
noncomputable abbrev o_191 (P : Params) : Obj := ⟨.none, none, (.fields [].toArray), [].toArray⟩
noncomputable abbrev o_192 (P : Params) : Obj := ⟨(.type "tuple"), none, (.seq [(.str (Str.ofString "self") 407), (.str (Str.ofString "words") 408)].toArray 0), [].toArray⟩
noncomputable abbrev o_193 (P : Params) : Obj := ⟨(.type "tuple"), none, (.seq [].toArray 0), [].toArray⟩
noncomputable abbrev o_194 (P : Params) : Obj := ⟨.none, none, (.func (fnF (stIn 2 23) (Str.ofString "BaseStemmer.stemWords") 0 .none .none 0)), [].toArray⟩
noncomputable abbrev o_195 (P : Params) : Obj := ⟨(.type "code"), none, (.fields [(.str (Str.ofString "stemWords") 404), (.str (Str.ofString "BaseStemmer.stemWords") 405), (.str (Str.ofString "/claim/cut.py") 406), (.int 148 0), (.int 2 0), (.int 0 0), (.int 0 0), (.int 3 0), (.ref 190), (.bool true), (.int 181 0), (.ref 191), .none, (.ref 192), (.ref 193), (.ref 194), (.int 409 0), (.int 148 0), (.str (Str.ofString "/claim/cut.py") 410)].toArray), [].toArray⟩
noncomputable abbrev o_196 (P : Params) : Obj := ⟨(.type "function"), none, (.func (fnF (stIn 2 23) (Str.ofString "BaseStemmer.stemWords") 3 (.str (Str.ofString "snowballstemmer.basestemmer") 194) (.ref 195) 0)), [].toArray⟩
noncomputable abbrev o_197 (P : Params) : Obj := ⟨(.type "tuple"), none, (.seq [(.str (Str.ofString "bra") 412), (.str (Str.ofString "current") 413), (.str (Str.ofString "cursor") 414), (.str (Str.ofString "ket") 415), (.str (Str.ofString "limit") 416), (.str (Str.ofString "limit_backward") 417)].toArray 0), [].toArray⟩
noncomputable abbrev o_198 (P : Params) : Obj := ⟨(.type "dict"), none, (.dict [⟨PyData.keyHash P (Str.ofString "__module__"), (.str (Str.ofString "__module__") 203), (.str (Str.ofString "snowballstemmer.basestemmer") 194)⟩, ⟨PyData.keyHash P (Str.ofString "__firstlineno__"), (.str (Str.ofString "__firstlineno__") 207), (.int 5 206)⟩, ⟨PyData.keyHash P (Str.ofString "__init__"), (.str (Str.ofString "__init__") 214), (.ref 35)⟩, ⟨PyData.keyHash P (Str.ofString "set_current"), (.str (Str.ofString "set_current") 222), (.ref 42)⟩, ⟨PyData.keyHash P (Str.ofString "get_current"), (.str (Str.ofString "get_current") 229), (.ref 49)⟩, ⟨PyData.keyHash P (Str.ofString "copy_from"), (.str (Str.ofString "copy_from") 237), (.ref 56)⟩, ⟨PyData.keyHash P (Str.ofString "in_grouping"), (.str (Str.ofString "in_grouping") 245), (.ref 63)⟩, ⟨PyData.keyHash P (Str.ofString "go_in_grouping"), (.str (Str.ofString "go_in_grouping") 253), (.ref 70)⟩, ⟨PyData.keyHash P (Str.ofString "in_grouping_b"), (.str (Str.ofString "in_grouping_b") 261), (.ref 77)⟩, ⟨PyData.keyHash P (Str.ofString "go_in_grouping_b"), (.str (Str.ofString "go_in_grouping_b") 269), (.ref 84)⟩, ⟨PyData.keyHash P (Str.ofString "out_grouping"), (.str (Str.ofString "out_grouping") 277), (.ref 91)⟩, ⟨PyData.keyHash P (Str.ofString "go_out_grouping"), (.str (Str.ofString "go_out_grouping") 285), (.ref 98)⟩, ⟨PyData.keyHash P (Str.ofString "out_grouping_b"), (.str (Str.ofString "out_grouping_b") 293), (.ref 105)⟩, ⟨PyData.keyHash P (Str.ofString "go_out_grouping_b"), (.str (Str.ofString "go_out_grouping_b") 301), (.ref 112)⟩, ⟨PyData.keyHash P (Str.ofString "eq_s"), (.str (Str.ofString "eq_s") 309), (.ref 119)⟩, ⟨PyData.keyHash P (Str.ofString "eq_s_b"), (.str (Str.ofString "eq_s_b") 317), (.ref 126)⟩, ⟨PyData.keyHash P (Str.ofString "find_among"), (.str (Str.ofString "find_among") 325), (.ref 133)⟩, ⟨PyData.keyHash P (Str.ofString "find_among_b"), (.str (Str.ofString "find_among_b") 345), (.ref 140)⟩, ⟨PyData.keyHash P (Str.ofString "replace_s"), (.str (Str.ofString "replace_s") 356), (.ref 147)⟩, ⟨PyData.keyHash P (Str.ofString "slice_from"), (.str (Str.ofString "slice_from") 364), (.ref 154)⟩, ⟨PyData.keyHash P (Str.ofString "slice_del"), (.str (Str.ofString "slice_del") 371), (.ref 161)⟩, ⟨PyData.keyHash P (Str.ofString "insert"), (.str (Str.ofString "insert") 381), (.ref 168)⟩, ⟨PyData.keyHash P (Str.ofString "slice_to"), (.str (Str.ofString "slice_to") 388), (.ref 175)⟩, ⟨PyData.keyHash P (Str.ofString "assign_to"), (.str (Str.ofString "assign_to") 395), (.ref 182)⟩, ⟨PyData.keyHash P (Str.ofString "stemWord"), (.str (Str.ofString "stemWord") 403), (.ref 189)⟩, ⟨PyData.keyHash P (Str.ofString "stemWords"), (.str (Str.ofString "stemWords") 411), (.ref 196)⟩, ⟨PyData.keyHash P (Str.ofString "__static_attributes__"), (.str (Str.ofString "__static_attributes__") 418), (.ref 197)⟩, ⟨PyData.keyHash P (Str.ofString "__dict__"), (.str (Str.ofString "__dict__") 420), (.ref 200)⟩, ⟨PyData.keyHash P (Str.ofString "__weakref__"), (.str (Str.ofString "__weakref__") 422), (.ref 201)⟩, ⟨PyData.keyHash P (Str.ofString "__doc__"), (.str (Str.ofString "__doc__") 423), .none⟩].toArray 4), [].toArray⟩
noncomputable abbrev o_199 (P : Params) : Obj := ⟨(.type "type"), none, (.cls ⟨(Str.ofString "BaseStemmer"), [(.type "object")], [(.ref 199), (.type "object")], 198, (Str.ofString "BaseStemmer"), true, [], [(.ref 1087)], false, none, false⟩), [none, none, (some (.str (Str.ofString "BaseStemmer") 196)), (some (.str (Str.ofString "BaseStemmer") 204)), (some (.builtin "object.__new__")), (some (.bool true))].toArray⟩
noncomputable abbrev o_200 (P : Params) : Obj := ⟨(.type "getset_descriptor"), none, (.fields [(.str (Str.ofString "__dict__") 419), (.ref 199), (.builtin "function.__dict__"), (.builtin "function.__dict__#set")].toArray), [].toArray⟩
noncomputable abbrev o_201 (P : Params) : Obj := ⟨(.type "getset_descriptor"), none, (.fields [(.str (Str.ofString "__weakref__") 421), (.ref 199), (.builtin "ExceptionGroup.__weakref__"), .none].toArray), [].toArray⟩
noncomputable abbrev o_202 (P : Params) : Obj := ⟨(.type "super"), none, (.fields [(.ref 199), (.ref 199), (.ref 199)].toArray), [].toArray⟩
noncomputable abbrev o_203 (P : Params) : Obj := ⟨(.type "builtin_function_or_method"), none, (.fields [(.builtin "object.__init_subclass__"), (.ref 199)].toArray), [].toArray⟩
noncomputable abbrev o_204 (P : Params) : Obj := ⟨(.type "tuple"), none, (.seq [].toArray 0), [].toArray⟩
noncomputable abbrev o_205 (P : Params) : Obj := ⟨(.type "builtin_function_or_method"), none, (.fields [(.builtin "type.__prepare__"), (.type "type")].toArray), [].toArray⟩
noncomputable abbrev o_206 (P : Params) : Obj := ⟨(.type "dict"), none, (.dict [⟨PyData.keyHash P (Str.ofString "__module__"), (.str (Str.ofString "__module__") 435), (.str (Str.ofString "snowballstemmer.among") 426)⟩, ⟨PyData.keyHash P (Str.ofString "__qualname__"), (.str (Str.ofString "__qualname__") 437), (.str (Str.ofString "Among") 436)⟩, ⟨PyData.keyHash P (Str.ofString "__firstlineno__"), (.str (Str.ofString "__firstlineno__") 439), (.int 151 438)⟩, ⟨PyData.keyHash P (Str.ofString "__init__"), (.str (Str.ofString "__init__") 449), (.ref 217)⟩, ⟨PyData.keyHash P (Str.ofString "__static_attributes__"), (.str (Str.ofString "__static_attributes__") 453), (.ref 218)⟩].toArray 5), [].toArray⟩
noncomputable abbrev o_207 (P : Params) : Obj := ⟨(.type "tuple"), none, (.seq [].toArray 0), [].toArray⟩
noncomputable abbrev o_208 (P : Params) : Obj := ⟨.none, none, (.fields [(.int 153 0), (.int 4 0), (.ref 216)].toArray), [].toArray⟩
noncomputable abbrev o_209 (P : Params) : Obj := ⟨(.type "code"), none, (.fields [(.str (Str.ofString "Among") 430), (.str (Str.ofString "Among") 431), (.str (Str.ofString "/claim/cut.py") 432), (.int 151 0), (.int 0 0), (.int 0 0), (.int 0 0), (.int 0 0), (.ref 207), (.bool false), (.int 181 0), (.ref 208), .none, .none, .none, .none, (.int 433 0), (.int 151 0), (.str (Str.ofString "/claim/cut.py") 434)].toArray), [].toArray⟩
noncomputable abbrev o_210 (P : Params) : Obj := ⟨(.type "frame"), none, .plain, [(some (.ref 209)), (some (.ref 3)), (some (.ref 206)), none, (some (.str (Str.ofString "snowballstemmer.among") 426)), none, (some (.ref 0))].toArray⟩
noncomputable abbrev o_211 (P : Params) : Obj := ⟨(.type "tuple"), none, (.seq [].toArray 0), [].toArray⟩
noncomputable abbrev o_212 (P : Params) : Obj := ⟨.none, none, (.fields [].toArray), [].toArray⟩
noncomputable abbrev o_213 (P : Params) : Obj := ⟨(.type "tuple"), none, (.seq [(.str (Str.ofString "self") 443), (.str (Str.ofString "s") 444), (.str (Str.ofString "substring_i") 445), (.str (Str.ofString "result") 446)].toArray 0), [].toArray⟩
noncomputable abbrev o_214 (P : Params) : Obj := ⟨(.type "tuple"), none, (.seq [].toArray 0), [].toArray⟩
noncomputable abbrev o_215 (P : Params) : Obj := ⟨.none, none, (.func (fnF (stIn 4 0) (Str.ofString "Among.__init__") 0 .none .none 0)), [].toArray⟩
noncomputable abbrev o_216 (P : Params) : Obj := ⟨(.type "code"), none, (.fields [(.str (Str.ofString "__init__") 440), (.str (Str.ofString "Among.__init__") 441), (.str (Str.ofString "/claim/cut.py") 442), (.int 153 0), (.int 4 0), (.int 0 0), (.int 0 0), (.int 3 0), (.ref 211), (.bool true), (.int 181 0), (.ref 212), .none, (.ref 213), (.ref 214), (.ref 215), (.int 447 0), (.int 153 0), (.str (Str.ofString "/claim/cut.py") 448)].toArray), [].toArray⟩
noncomputable abbrev o_217 (P : Params) : Obj := ⟨(.type "function"), none, (.func (fnF (stIn 4 0) (Str.ofString "Among.__init__") 3 (.str (Str.ofString "snowballstemmer.among") 426) (.ref 216) 0)), [].toArray⟩
noncomputable abbrev o_218 (P : Params) : Obj := ⟨(.type "tuple"), none, (.seq [(.str (Str.ofString "result") 450), (.str (Str.ofString "s") 451), (.str (Str.ofString "substring_i") 452)].toArray 0), [].toArray⟩
noncomputable abbrev o_219 (P : Params) : Obj := ⟨(.type "dict"), none, (.dict [⟨PyData.keyHash P (Str.ofString "__module__"), (.str (Str.ofString "__module__") 435), (.str (Str.ofString "snowballstemmer.among") 426)⟩, ⟨PyData.keyHash P (Str.ofString "__firstlineno__"), (.str (Str.ofString "__firstlineno__") 439), (.int 151 438)⟩, ⟨PyData.keyHash P (Str.ofString "__init__"), (.str (Str.ofString "__init__") 449), (.ref 217)⟩, ⟨PyData.keyHash P (Str.ofString "__static_attributes__"), (.str (Str.ofString "__static_attributes__") 453), (.ref 218)⟩, ⟨PyData.keyHash P (Str.ofString "__dict__"), (.str (Str.ofString "__dict__") 455), (.ref 221)⟩, ⟨PyData.keyHash P (Str.ofString "__weakref__"), (.str (Str.ofString "__weakref__") 457), (.ref 222)⟩, ⟨PyData.keyHash P (Str.ofString "__doc__"), (.str (Str.ofString "__doc__") 458), .none⟩].toArray 4), [].toArray⟩
noncomputable abbrev o_220 (P : Params) : Obj := ⟨(.type "type"), none, (.cls ⟨(Str.ofString "Among"), [(.type "object")], [(.ref 220), (.type "object")], 219, (Str.ofString "Among"), true, [], [], false, none, false⟩), [none, none, (some (.str (Str.ofString "Among") 428)), (some (.str (Str.ofString "Among") 436)), (some (.builtin "object.__new__")), (some (.bool true))].toArray⟩
noncomputable abbrev o_221 (P : Params) : Obj := ⟨(.type "getset_descriptor"), none, (.fields [(.str (Str.ofString "__dict__") 454), (.ref 220), (.builtin "function.__dict__"), (.builtin "function.__dict__#set")].toArray), [].toArray⟩
noncomputable abbrev o_222 (P : Params) : Obj := ⟨(.type "getset_descriptor"), none, (.fields [(.str (Str.ofString "__weakref__") 456), (.ref 220), (.builtin "ExceptionGroup.__weakref__"), .none].toArray), [].toArray⟩
noncomputable abbrev o_223 (P : Params) : Obj := ⟨(.type "super"), none, (.fields [(.ref 220), (.ref 220), (.ref 220)].toArray), [].toArray⟩
noncomputable abbrev o_224 (P : Params) : Obj := ⟨(.type "builtin_function_or_method"), none, (.fields [(.builtin "object.__init_subclass__"), (.ref 220)].toArray), [].toArray⟩
noncomputable abbrev o_225 (P : Params) : Obj := ⟨(.type "tuple"), none, (.seq [(.ref 199)].toArray 0), [].toArray⟩
noncomputable abbrev o_226 (P : Params) : Obj := ⟨(.type "builtin_function_or_method"), none, (.fields [(.builtin "type.__prepare__"), (.type "type")].toArray), [].toArray⟩
noncomputable abbrev o_227 (P : Params) : Obj := ⟨(.type "dict"), none, (.dict [⟨PyData.keyHash P (Str.ofString "__module__"), (.str (Str.ofString "__module__") 470), (.str (Str.ofString "snowballstemmer.lithuanian_stemmer") 461)⟩, ⟨PyData.keyHash P (Str.ofString "__qualname__"), (.str (Str.ofString "__qualname__") 472), (.str (Str.ofString "LithuanianStemmer") 471)⟩, ⟨PyData.keyHash P (Str.ofString "__firstlineno__"), (.str (Str.ofString "__firstlineno__") 474), (.int 158 473)⟩, ⟨PyData.keyHash P (Str.ofString "g_v"), (.str (Str.ofString "g_v") 499), (.ref 232)⟩, ⟨PyData.keyHash P (Str.ofString "I_p1"), (.str (Str.ofString "I_p1") 501), (.int 0 500)⟩, ⟨PyData.keyHash P (Str.ofString "r_step1"), (.str (Str.ofString "r_step1") 509), (.ref 239)⟩, ⟨PyData.keyHash P (Str.ofString "r_step2"), (.str (Str.ofString "r_step2") 518), (.ref 246)⟩, ⟨PyData.keyHash P (Str.ofString "r_fix_conflicts"), (.str (Str.ofString "r_fix_conflicts") 526), (.ref 253)⟩, ⟨PyData.keyHash P (Str.ofString "r_fix_chdz"), (.str (Str.ofString "r_fix_chdz") 534), (.ref 260)⟩, ⟨PyData.keyHash P (Str.ofString "r_fix_gd"), (.str (Str.ofString "r_fix_gd") 541), (.ref 267)⟩, ⟨PyData.keyHash P (Str.ofString "_stem"), (.str (Str.ofString "_stem") 556), (.ref 274)⟩, ⟨PyData.keyHash P (Str.ofString "a_0"), (.str (Str.ofString "a_0") 3288), (.ref 854)⟩, ⟨PyData.keyHash P (Str.ofString "a_1"), (.str (Str.ofString "a_1") 4196), (.ref 1041)⟩, ⟨PyData.keyHash P (Str.ofString "a_2"), (.str (Str.ofString "a_2") 4351), (.ref 1075)⟩, ⟨PyData.keyHash P (Str.ofString "as_2"), (.str (Str.ofString "as_2") 4360), (.ref 1076)⟩, ⟨PyData.keyHash P (Str.ofString "a_3"), (.str (Str.ofString "a_3") 4389), (.ref 1083)⟩, ⟨PyData.keyHash P (Str.ofString "as_3"), (.str (Str.ofString "as_3") 4392), (.ref 1084)⟩, ⟨PyData.keyHash P (Str.ofString "__static_attributes__"), (.str (Str.ofString "__static_attributes__") 4398), (.ref 1085)⟩].toArray 18), [].toArray⟩
noncomputable abbrev o_228 (P : Params) : Obj := ⟨(.type "tuple"), none, (.seq [].toArray 0), [].toArray⟩
noncomputable abbrev o_229 (P : Params) : Obj := ⟨.none, none, (.fields [(.int 162 0), (.int 4 0), (.ref 238), (.int 176 0), (.int 4 0), (.ref 245), (.int 198 0), (.int 4 0), (.ref 252), (.int 207 0), (.int 4 0), (.ref 259), (.int 216 0), (.int 4 0), (.ref 266), (.int 224 0), (.int 4 0), (.ref 273)].toArray), [].toArray⟩
noncomputable abbrev o_230 (P : Params) : Obj := ⟨(.type "code"), none, (.fields [(.str (Str.ofString "LithuanianStemmer") 465), (.str (Str.ofString "LithuanianStemmer") 466), (.str (Str.ofString "/claim/cut.py") 467), (.int 158 0), (.int 0 0), (.int 0 0), (.int 0 0), (.int 0 0), (.ref 228), (.bool false), (.int 181 0), (.ref 229), .none, .none, .none, .none, (.int 468 0), (.int 158 0), (.str (Str.ofString "/claim/cut.py") 469)].toArray), [].toArray⟩
noncomputable abbrev o_231 (P : Params) : Obj := ⟨(.type "frame"), none, .plain, [(some (.ref 230)), (some (.ref 3)), (some (.ref 227)), none, (some (.str (Str.ofString "snowballstemmer.lithuanian_stemmer") 461)), none, (some (.ref 0))].toArray⟩
noncomputable abbrev o_233 (P : Params) : Obj := ⟨(.type "tuple"), none, (.seq [].toArray 0), [].toArray⟩
noncomputable abbrev o_234 (P : Params) : Obj := ⟨.none, none, (.fields [].toArray), [].toArray⟩
noncomputable abbrev o_235 (P : Params) : Obj := ⟨(.type "tuple"), none, (.seq [(.str (Str.ofString "self") 505), (.str (Str.ofString "v_2") 506)].toArray 0), [].toArray⟩
noncomputable abbrev o_236 (P : Params) : Obj := ⟨(.type "tuple"), none, (.seq [].toArray 0), [].toArray⟩
noncomputable abbrev o_237 (P : Params) : Obj := ⟨.none, none, (.func (fnF (stIn 6 2) (Str.ofString "LithuanianStemmer.r_step1") 0 .none .none 0)), [].toArray⟩
noncomputable abbrev o_238 (P : Params) : Obj := ⟨(.type "code"), none, (.fields [(.str (Str.ofString "r_step1") 502), (.str (Str.ofString "LithuanianStemmer.r_step1") 503), (.str (Str.ofString "/claim/cut.py") 504), (.int 162 0), (.int 1 0), (.int 0 0), (.int 0 0), (.int 3 0), (.ref 233), (.bool true), (.int 181 0), (.ref 234), .none, (.ref 235), (.ref 236), (.ref 237), (.int 507 0), (.int 162 0), (.str (Str.ofString "/claim/cut.py") 508)].toArray), [].toArray⟩
noncomputable abbrev o_239 (P : Params) : Obj := ⟨(.type "function"), none, (.func (fnF (stIn 6 2) (Str.ofString "LithuanianStemmer.r_step1") 3 (.str (Str.ofString "snowballstemmer.lithuanian_stemmer") 461) (.ref 238) 0)), [].toArray⟩
noncomputable abbrev o_240 (P : Params) : Obj := ⟨(.type "tuple"), none, (.seq [].toArray 0), [].toArray⟩
noncomputable abbrev o_241 (P : Params) : Obj := ⟨.none, none, (.fields [].toArray), [].toArray⟩
noncomputable abbrev o_242 (P : Params) : Obj := ⟨(.type "tuple"), none, (.seq [(.str (Str.ofString "self") 513), (.str (Str.ofString "v_1") 514), (.str (Str.ofString "v_3") 515)].toArray 0), [].toArray⟩
noncomputable abbrev o_243 (P : Params) : Obj := ⟨(.type "tuple"), none, (.seq [].toArray 0), [].toArray⟩
noncomputable abbrev o_244 (P : Params) : Obj := ⟨.none, none, (.func (fnF (stIn 6 3) (Str.ofString "LithuanianStemmer.r_step2") 0 .none .none 0)), [].toArray⟩
noncomputable abbrev o_245 (P : Params) : Obj := ⟨(.type "code"), none, (.fields [(.str (Str.ofString "r_step2") 510), (.str (Str.ofString "LithuanianStemmer.r_step2") 511), (.str (Str.ofString "/claim/cut.py") 512), (.int 176 0), (.int 1 0), (.int 0 0), (.int 0 0), (.int 3 0), (.ref 240), (.bool true), (.int 181 0), (.ref 241), .none, (.ref 242), (.ref 243), (.ref 244), (.int 516 0), (.int 176 0), (.str (Str.ofString "/claim/cut.py") 517)].toArray), [].toArray⟩
noncomputable abbrev o_246 (P : Params) : Obj := ⟨(.type "function"), none, (.func (fnF (stIn 6 3) (Str.ofString "LithuanianStemmer.r_step2") 3 (.str (Str.ofString "snowballstemmer.lithuanian_stemmer") 461) (.ref 245) 0)), [].toArray⟩
noncomputable abbrev o_247 (P : Params) : Obj := ⟨(.type "tuple"), none, (.seq [].toArray 0), [].toArray⟩
noncomputable abbrev o_248 (P : Params) : Obj := ⟨.none, none, (.fields [].toArray), [].toArray⟩
noncomputable abbrev o_249 (P : Params) : Obj := ⟨(.type "tuple"), none, (.seq [(.str (Str.ofString "self") 522), (.str (Str.ofString "among_var") 523)].toArray 0), [].toArray⟩
noncomputable abbrev o_250 (P : Params) : Obj := ⟨(.type "tuple"), none, (.seq [].toArray 0), [].toArray⟩
noncomputable abbrev o_251 (P : Params) : Obj := ⟨.none, none, (.func (fnF (stIn 6 4) (Str.ofString "LithuanianStemmer.r_fix_conflicts") 0 .none .none 0)), [].toArray⟩
noncomputable abbrev o_252 (P : Params) : Obj := ⟨(.type "code"), none, (.fields [(.str (Str.ofString "r_fix_conflicts") 519), (.str (Str.ofString "LithuanianStemmer.r_fix_conflicts") 520), (.str (Str.ofString "/claim/cut.py") 521), (.int 198 0), (.int 1 0), (.int 0 0), (.int 0 0), (.int 3 0), (.ref 247), (.bool true), (.int 181 0), (.ref 248), .none, (.ref 249), (.ref 250), (.ref 251), (.int 524 0), (.int 198 0), (.str (Str.ofString "/claim/cut.py") 525)].toArray), [].toArray⟩
noncomputable abbrev o_253 (P : Params) : Obj := ⟨(.type "function"), none, (.func (fnF (stIn 6 4) (Str.ofString "LithuanianStemmer.r_fix_conflicts") 3 (.str (Str.ofString "snowballstemmer.lithuanian_stemmer") 461) (.ref 252) 0)), [].toArray⟩
noncomputable abbrev o_254 (P : Params) : Obj := ⟨(.type "tuple"), none, (.seq [].toArray 0), [].toArray⟩
noncomputable abbrev o_255 (P : Params) : Obj := ⟨.none, none, (.fields [].toArray), [].toArray⟩
noncomputable abbrev o_256 (P : Params) : Obj := ⟨(.type "tuple"), none, (.seq [(.str (Str.ofString "self") 530), (.str (Str.ofString "among_var") 531)].toArray 0), [].toArray⟩
noncomputable abbrev o_257 (P : Params) : Obj := ⟨(.type "tuple"), none, (.seq [].toArray 0), [].toArray⟩
noncomputable abbrev o_258 (P : Params) : Obj := ⟨.none, none, (.func (fnF (stIn 6 5) (Str.ofString "LithuanianStemmer.r_fix_chdz") 0 .none .none 0)), [].toArray⟩
noncomputable abbrev o_259 (P : Params) : Obj := ⟨(.type "code"), none, (.fields [(.str (Str.ofString "r_fix_chdz") 527), (.str (Str.ofString "LithuanianStemmer.r_fix_chdz") 528), (.str (Str.ofString "/claim/cut.py") 529), (.int 207 0), (.int 1 0), (.int 0 0), (.int 0 0), (.int 3 0), (.ref 254), (.bool true), (.int 181 0), (.ref 255), .none, (.ref 256), (.ref 257), (.ref 258), (.int 532 0), (.int 207 0), (.str (Str.ofString "/claim/cut.py") 533)].toArray), [].toArray⟩
noncomputable abbrev o_260 (P : Params) : Obj := ⟨(.type "function"), none, (.func (fnF (stIn 6 5) (Str.ofString "LithuanianStemmer.r_fix_chdz") 3 (.str (Str.ofString "snowballstemmer.lithuanian_stemmer") 461) (.ref 259) 0)), [].toArray⟩
noncomputable abbrev o_261 (P : Params) : Obj := ⟨(.type "tuple"), none, (.seq [].toArray 0), [].toArray⟩
noncomputable abbrev o_262 (P : Params) : Obj := ⟨.none, none, (.fields [].toArray), [].toArray⟩
noncomputable abbrev o_263 (P : Params) : Obj := ⟨(.type "tuple"), none, (.seq [(.str (Str.ofString "self") 538)].toArray 0), [].toArray⟩
noncomputable abbrev o_264 (P : Params) : Obj := ⟨(.type "tuple"), none, (.seq [].toArray 0), [].toArray⟩
noncomputable abbrev o_265 (P : Params) : Obj := ⟨.none, none, (.func (fnF (stIn 6 6) (Str.ofString "LithuanianStemmer.r_fix_gd") 0 .none .none 0)), [].toArray⟩
noncomputable abbrev o_266 (P : Params) : Obj := ⟨(.type "code"), none, (.fields [(.str (Str.ofString "r_fix_gd") 535), (.str (Str.ofString "LithuanianStemmer.r_fix_gd") 536), (.str (Str.ofString "/claim/cut.py") 537), (.int 216 0), (.int 1 0), (.int 0 0), (.int 0 0), (.int 3 0), (.ref 261), (.bool true), (.int 181 0), (.ref 262), .none, (.ref 263), (.ref 264), (.ref 265), (.int 539 0), (.int 216 0), (.str (Str.ofString "/claim/cut.py") 540)].toArray), [].toArray⟩
noncomputable abbrev o_267 (P : Params) : Obj := ⟨(.type "function"), none, (.func (fnF (stIn 6 6) (Str.ofString "LithuanianStemmer.r_fix_gd") 3 (.str (Str.ofString "snowballstemmer.lithuanian_stemmer") 461) (.ref 266) 0)), [].toArray⟩
noncomputable abbrev o_268 (P : Params) : Obj := ⟨(.type "tuple"), none, (.seq [].toArray 0), [].toArray⟩
noncomputable abbrev o_269 (P : Params) : Obj := ⟨.none, none, (.fields [].toArray), [].toArray⟩
noncomputable abbrev o_270 (P : Params) : Obj := ⟨(.type "tuple"), none, (.seq [(.str (Str.ofString "self") 545), (.str (Str.ofString "v_1") 546), (.str (Str.ofString "v_2") 547), (.str (Str.ofString "v_3") 548), (.str (Str.ofString "v_4") 549), (.str (Str.ofString "v_5") 550), (.str (Str.ofString "v_6") 551), (.str (Str.ofString "v_7") 552), (.str (Str.ofString "v_8") 553)].toArray 0), [].toArray⟩
noncomputable abbrev o_271 (P : Params) : Obj := ⟨(.type "tuple"), none, (.seq [].toArray 0), [].toArray⟩
noncomputable abbrev o_272 (P : Params) : Obj := ⟨.none, none, (.func (fnF (stIn 6 7) (Str.ofString "LithuanianStemmer._stem") 0 .none .none 0)), [].toArray⟩
noncomputable abbrev o_273 (P : Params) : Obj := ⟨(.type "code"), none, (.fields [(.str (Str.ofString "_stem") 542), (.str (Str.ofString "LithuanianStemmer._stem") 543), (.str (Str.ofString "/claim/cut.py") 544), (.int 224 0), (.int 1 0), (.int 0 0), (.int 0 0), (.int 3 0), (.ref 268), (.bool true), (.int 181 0), (.ref 269), .none, (.ref 270), (.ref 271), (.ref 272), (.int 554 0), (.int 224 0), (.str (Str.ofString "/claim/cut.py") 555)].toArray), [].toArray⟩
noncomputable abbrev o_274 (P : Params) : Obj := ⟨(.type "function"), none, (.func (fnF (stIn 6 7) (Str.ofString "LithuanianStemmer._stem") 3 (.str (Str.ofString "snowballstemmer.lithuanian_stemmer") 461) (.ref 273) 0)), [].toArray⟩
noncomputable abbrev o_854 (P : Params) : Obj := ⟨(.type "list"), none, (.seq [(.ref 276), (.ref 279), (.ref 282), (.ref 285), (.ref 288), (.ref 291), (.ref 294), (.ref 297), (.ref 300), (.ref 303), (.ref 306), (.ref 309), (.ref 312), (.ref 315), (.ref 318), (.ref 321), (.ref 324), (.ref 327), (.ref 330), (.ref 333), (.ref 336), (.ref 339), (.ref 342), (.ref 345), (.ref 348), (.ref 351), (.ref 354), (.ref 357), (.ref 360), (.ref 363), (.ref 366), (.ref 369), (.ref 372), (.ref 375), (.ref 378), (.ref 381), (.ref 384), (.ref 387), (.ref 390), (.ref 393), (.ref 396), (.ref 399), (.ref 402), (.ref 405), (.ref 408), (.ref 411), (.ref 414), (.ref 417), (.ref 420), (.ref 423), (.ref 426), (.ref 429), (.ref 432), (.ref 435), (.ref 438), (.ref 441), (.ref 444), (.ref 447), (.ref 450), (.ref 453), (.ref 456), (.ref 459), (.ref 462), (.ref 465), (.ref 468), (.ref 471), (.ref 474), (.ref 477), (.ref 480), (.ref 483), (.ref 486), (.ref 489), (.ref 492), (.ref 495), (.ref 498), (.ref 501), (.ref 504), (.ref 507), (.ref 510), (.ref 513), (.ref 516), (.ref 519), (.ref 522), (.ref 525), (.ref 528), (.ref 531), (.ref 534), (.ref 537), (.ref 540), (.ref 543), (.ref 546), (.ref 549), (.ref 552), (.ref 555), (.ref 558), (.ref 561), (.ref 564), (.ref 567), (.ref 570), (.ref 573), (.ref 576), (.ref 579), (.ref 582), (.ref 585), (.ref 588), (.ref 591), (.ref 594), (.ref 597), (.ref 600), (.ref 603), (.ref 606), (.ref 609), (.ref 612), (.ref 615), (.ref 618), (.ref 621), (.ref 624), (.ref 627), (.ref 630), (.ref 633), (.ref 636), (.ref 639), (.ref 642), (.ref 645), (.ref 648), (.ref 651), (.ref 654), (.ref 657), (.ref 660), (.ref 663), (.ref 666), (.ref 669), (.ref 672), (.ref 675), (.ref 678), (.ref 681), (.ref 684), (.ref 687), (.ref 690), (.ref 693), (.ref 696), (.ref 699), (.ref 702), (.ref 705), (.ref 708), (.ref 711), (.ref 714), (.ref 717), (.ref 720), (.ref 723), (.ref 726), (.ref 729), (.ref 732), (.ref 735), (.ref 738), (.ref 741), (.ref 744), (.ref 747), (.ref 750), (.ref 753), (.ref 756), (.ref 759), (.ref 762), (.ref 765), (.ref 768), (.ref 771), (.ref 774), (.ref 777), (.ref 780), (.ref 783), (.ref 786), (.ref 789), (.ref 792), (.ref 795), (.ref 798), (.ref 801), (.ref 804), (.ref 807), (.ref 810), (.ref 813), (.ref 816), (.ref 819), (.ref 822), (.ref 825), (.ref 828), (.ref 831), (.ref 834), (.ref 837), (.ref 840), (.ref 843), (.ref 846), (.ref 849), (.ref 852)].toArray 0), [].toArray⟩
noncomputable abbrev o_1041 (P : Params) : Obj := ⟨(.type "list"), none, (.seq [(.ref 856), (.ref 859), (.ref 862), (.ref 865), (.ref 868), (.ref 871), (.ref 874), (.ref 877), (.ref 880), (.ref 883), (.ref 886), (.ref 889), (.ref 892), (.ref 895), (.ref 898), (.ref 901), (.ref 904), (.ref 907), (.ref 910), (.ref 913), (.ref 916), (.ref 919), (.ref 922), (.ref 925), (.ref 928), (.ref 931), (.ref 934), (.ref 937), (.ref 940), (.ref 943), (.ref 946), (.ref 949), (.ref 952), (.ref 955), (.ref 958), (.ref 961), (.ref 964), (.ref 967), (.ref 970), (.ref 973), (.ref 976), (.ref 979), (.ref 982), (.ref 985), (.ref 988), (.ref 991), (.ref 994), (.ref 997), (.ref 1000), (.ref 1003), (.ref 1006), (.ref 1009), (.ref 1012), (.ref 1015), (.ref 1018), (.ref 1021), (.ref 1024), (.ref 1027), (.ref 1030), (.ref 1033), (.ref 1036), (.ref 1039)].toArray 0), [].toArray⟩
noncomputable abbrev o_1075 (P : Params) : Obj := ⟨(.type "list"), none, (.seq [(.ref 1043), (.ref 1046), (.ref 1049), (.ref 1052), (.ref 1055), (.ref 1058), (.ref 1061), (.ref 1064), (.ref 1067), (.ref 1070), (.ref 1073)].toArray 0), [].toArray⟩
noncomputable abbrev o_1076 (P : Params) : Obj := ⟨(.type "tuple"), none, (.seq [(.str (Str.ofString "aitė") 4352), (.str (Str.ofString "uotė") 4353), (.str (Str.ofString "ėjimas") 4354), (.str (Str.ofString "esys") 4355), (.str (Str.ofString "asys") 4356), (.str (Str.ofString "avimas") 4357), (.str (Str.ofString "ojimas") 4358), (.str (Str.ofString "okatė") 4359)].toArray 0), [].toArray⟩
noncomputable abbrev o_1083 (P : Params) : Obj := ⟨(.type "list"), none, (.seq [(.ref 1078), (.ref 1081)].toArray 0), [].toArray⟩
noncomputable abbrev o_1084 (P : Params) : Obj := ⟨(.type "tuple"), none, (.seq [(.str (Str.ofString "t") 4390), (.str (Str.ofString "d") 4391)].toArray 0), [].toArray⟩
noncomputable abbrev o_1085 (P : Params) : Obj := ⟨(.type "tuple"), none, (.seq [(.str (Str.ofString "I_p1") 4393), (.str (Str.ofString "bra") 4394), (.str (Str.ofString "cursor") 4395), (.str (Str.ofString "ket") 4396), (.str (Str.ofString "limit_backward") 4397)].toArray 0), [].toArray⟩
noncomputable abbrev o_1086 (P : Params) : Obj := ⟨(.type "dict"), none, (.dict [⟨PyData.keyHash P (Str.ofString "__module__"), (.str (Str.ofString "__module__") 470), (.str (Str.ofString "snowballstemmer.lithuanian_stemmer") 461)⟩, ⟨PyData.keyHash P (Str.ofString "__firstlineno__"), (.str (Str.ofString "__firstlineno__") 474), (.int 158 473)⟩, ⟨PyData.keyHash P (Str.ofString "g_v"), (.str (Str.ofString "g_v") 499), (.ref 232)⟩, ⟨PyData.keyHash P (Str.ofString "I_p1"), (.str (Str.ofString "I_p1") 501), (.int 0 500)⟩, ⟨PyData.keyHash P (Str.ofString "r_step1"), (.str (Str.ofString "r_step1") 509), (.ref 239)⟩, ⟨PyData.keyHash P (Str.ofString "r_step2"), (.str (Str.ofString "r_step2") 518), (.ref 246)⟩, ⟨PyData.keyHash P (Str.ofString "r_fix_conflicts"), (.str (Str.ofString "r_fix_conflicts") 526), (.ref 253)⟩, ⟨PyData.keyHash P (Str.ofString "r_fix_chdz"), (.str (Str.ofString "r_fix_chdz") 534), (.ref 260)⟩, ⟨PyData.keyHash P (Str.ofString "r_fix_gd"), (.str (Str.ofString "r_fix_gd") 541), (.ref 267)⟩, ⟨PyData.keyHash P (Str.ofString "_stem"), (.str (Str.ofString "_stem") 556), (.ref 274)⟩, ⟨PyData.keyHash P (Str.ofString "a_0"), (.str (Str.ofString "a_0") 3288), (.ref 854)⟩, ⟨PyData.keyHash P (Str.ofString "a_1"), (.str (Str.ofString "a_1") 4196), (.ref 1041)⟩, ⟨PyData.keyHash P (Str.ofString "a_2"), (.str (Str.ofString "a_2") 4351), (.ref 1075)⟩, ⟨PyData.keyHash P (Str.ofString "as_2"), (.str (Str.ofString "as_2") 4360), (.ref 1076)⟩, ⟨PyData.keyHash P (Str.ofString "a_3"), (.str (Str.ofString "a_3") 4389), (.ref 1083)⟩, ⟨PyData.keyHash P (Str.ofString "as_3"), (.str (Str.ofString "as_3") 4392), (.ref 1084)⟩, ⟨PyData.keyHash P (Str.ofString "__static_attributes__"), (.str (Str.ofString "__static_attributes__") 4398), (.ref 1085)⟩, ⟨PyData.keyHash P (Str.ofString "__doc__"), (.str (Str.ofString "__doc__") 4399), .none⟩].toArray 2), [].toArray⟩
noncomputable abbrev o_1087 (P : Params) : Obj := ⟨(.type "type"), none, (.cls ⟨(Str.ofString "LithuanianStemmer"), [(.ref 199)], [(.ref 1087), (.ref 199), (.type "object")], 1086, (Str.ofString "LithuanianStemmer"), true, [], [], false, none, false⟩), [(some (.ref 225)), none, (some (.str (Str.ofString "LithuanianStemmer") 463)), (some (.str (Str.ofString "LithuanianStemmer") 471)), (some (.builtin "object.__new__")), (some (.bool true))].toArray⟩
noncomputable abbrev o_1088 (P : Params) : Obj := ⟨(.type "super"), none, (.fields [(.ref 1087), (.ref 1087), (.ref 1087)].toArray), [].toArray⟩
noncomputable abbrev o_1089 (P : Params) : Obj := ⟨(.type "builtin_function_or_method"), none, (.fields [(.builtin "object.__init_subclass__"), (.ref 1087)].toArray), [].toArray⟩
noncomputable abbrev o_1090 (P : Params) : Obj := ⟨(.type "tuple"), none, (.seq [(.type "Exception")].toArray 0), [].toArray⟩
noncomputable abbrev o_1091 (P : Params) : Obj := ⟨(.type "builtin_function_or_method"), none, (.fields [(.builtin "type.__prepare__"), (.type "type")].toArray), [].toArray⟩
noncomputable abbrev o_1092 (P : Params) : Obj := ⟨(.type "dict"), none, (.dict [⟨PyData.keyHash P (Str.ofString "__module__"), (.str (Str.ofString "__module__") 4409), (.str (Str.ofString "snowballstemmer.lithuanian_stemmer") 461)⟩, ⟨PyData.keyHash P (Str.ofString "__qualname__"), (.str (Str.ofString "__qualname__") 4411), (.str (Str.ofString "lab0") 4410)⟩, ⟨PyData.keyHash P (Str.ofString "__firstlineno__"), (.str (Str.ofString "__firstlineno__") 4413), (.int 283 4412)⟩, ⟨PyData.keyHash P (Str.ofString "__static_attributes__"), (.str (Str.ofString "__static_attributes__") 4414), (.ref 1097)⟩].toArray 4), [].toArray⟩
noncomputable abbrev o_1093 (P : Params) : Obj := ⟨(.type "tuple"), none, (.seq [].toArray 0), [].toArray⟩
noncomputable abbrev o_1094 (P : Params) : Obj := ⟨.none, none, (.fields [].toArray), [].toArray⟩
noncomputable abbrev o_1095 (P : Params) : Obj := ⟨(.type "code"), none, (.fields [(.str (Str.ofString "lab0") 4404), (.str (Str.ofString "lab0") 4405), (.str (Str.ofString "/claim/cut.py") 4406), (.int 283 0), (.int 0 0), (.int 0 0), (.int 0 0), (.int 0 0), (.ref 1093), (.bool false), (.int 181 0), (.ref 1094), .none, .none, .none, .none, (.int 4407 0), (.int 283 0), (.str (Str.ofString "/claim/cut.py") 4408)].toArray), [].toArray⟩
noncomputable abbrev o_1096 (P : Params) : Obj := ⟨(.type "frame"), none, .plain, [(some (.ref 1095)), (some (.ref 3)), (some (.ref 1092)), none, (some (.str (Str.ofString "snowballstemmer.lithuanian_stemmer") 461)), none, (some (.ref 0))].toArray⟩
noncomputable abbrev o_1097 (P : Params) : Obj := ⟨(.type "tuple"), none, (.seq [].toArray 0), [].toArray⟩
noncomputable abbrev o_1098 (P : Params) : Obj := ⟨(.type "dict"), none, (.dict [⟨PyData.keyHash P (Str.ofString "__module__"), (.str (Str.ofString "__module__") 4409), (.str (Str.ofString "snowballstemmer.lithuanian_stemmer") 461)⟩, ⟨PyData.keyHash P (Str.ofString "__firstlineno__"), (.str (Str.ofString "__firstlineno__") 4413), (.int 283 4412)⟩, ⟨PyData.keyHash P (Str.ofString "__static_attributes__"), (.str (Str.ofString "__static_attributes__") 4414), (.ref 1097)⟩, ⟨PyData.keyHash P (Str.ofString "__weakref__"), (.str (Str.ofString "__weakref__") 4416), (.ref 1100)⟩, ⟨PyData.keyHash P (Str.ofString "__doc__"), (.str (Str.ofString "__doc__") 4417), .none⟩].toArray 3), [].toArray⟩
noncomputable abbrev o_1099 (P : Params) : Obj := ⟨(.type "type"), none, (.cls ⟨(Str.ofString "lab0"), [(.type "Exception")], [(.ref 1099), (.type "Exception"), (.type "BaseException"), (.type "object")], 1098, (Str.ofString "lab0"), true, [], [], false, none, false⟩), [(some (.ref 1090)), none, (some (.str (Str.ofString "lab0") 4402)), (some (.str (Str.ofString "lab0") 4410)), (some (.builtin "Exception.__new__")), (some (.bool true))].toArray⟩
noncomputable abbrev o_1100 (P : Params) : Obj := ⟨(.type "getset_descriptor"), none, (.fields [(.str (Str.ofString "__weakref__") 4415), (.ref 1099), (.builtin "ExceptionGroup.__weakref__"), .none].toArray), [].toArray⟩
noncomputable abbrev o_1101 (P : Params) : Obj := ⟨(.type "super"), none, (.fields [(.ref 1099), (.ref 1099), (.ref 1099)].toArray), [].toArray⟩
noncomputable abbrev o_1102 (P : Params) : Obj := ⟨(.type "builtin_function_or_method"), none, (.fields [(.builtin "object.__init_subclass__"), (.ref 1099)].toArray), [].toArray⟩
noncomputable abbrev o_1103 (P : Params) : Obj := ⟨(.type "tuple"), none, (.seq [(.type "Exception")].toArray 0), [].toArray⟩
noncomputable abbrev o_1104 (P : Params) : Obj := ⟨(.type "builtin_function_or_method"), none, (.fields [(.builtin "type.__prepare__"), (.type "type")].toArray), [].toArray⟩
noncomputable abbrev o_1105 (P : Params) : Obj := ⟨(.type "dict"), none, (.dict [⟨PyData.keyHash P (Str.ofString "__module__"), (.str (Str.ofString "__module__") 4429), (.str (Str.ofString "snowballstemmer.lithuanian_stemmer") 461)⟩, ⟨PyData.keyHash P (Str.ofString "__qualname__"), (.str (Str.ofString "__qualname__") 4431), (.str (Str.ofString "lab1") 4430)⟩, ⟨PyData.keyHash P (Str.ofString "__firstlineno__"), (.str (Str.ofString "__firstlineno__") 4433), (.int 285 4432)⟩, ⟨PyData.keyHash P (Str.ofString "__static_attributes__"), (.str (Str.ofString "__static_attributes__") 4434), (.ref 1110)⟩].toArray 4), [].toArray⟩
noncomputable abbrev o_1106 (P : Params) : Obj := ⟨(.type "tuple"), none, (.seq [].toArray 0), [].toArray⟩
noncomputable abbrev o_1107 (P : Params) : Obj := ⟨.none, none, (.fields [].toArray), [].toArray⟩
noncomputable abbrev o_1108 (P : Params) : Obj := ⟨(.type "code"), none, (.fields [(.str (Str.ofString "lab1") 4424), (.str (Str.ofString "lab1") 4425), (.str (Str.ofString "/claim/cut.py") 4426), (.int 285 0), (.int 0 0), (.int 0 0), (.int 0 0), (.int 0 0), (.ref 1106), (.bool false), (.int 181 0), (.ref 1107), .none, .none, .none, .none, (.int 4427 0), (.int 285 0), (.str (Str.ofString "/claim/cut.py") 4428)].toArray), [].toArray⟩
noncomputable abbrev o_1109 (P : Params) : Obj := ⟨(.type "frame"), none, .plain, [(some (.ref 1108)), (some (.ref 3)), (some (.ref 1105)), none, (some (.str (Str.ofString "snowballstemmer.lithuanian_stemmer") 461)), none, (some (.ref 0))].toArray⟩
noncomputable abbrev o_1110 (P : Params) : Obj := ⟨(.type "tuple"), none, (.seq [].toArray 0), [].toArray⟩
noncomputable abbrev o_1111 (P : Params) : Obj := ⟨(.type "dict"), none, (.dict [⟨PyData.keyHash P (Str.ofString "__module__"), (.str (Str.ofString "__module__") 4429), (.str (Str.ofString "snowballstemmer.lithuanian_stemmer") 461)⟩, ⟨PyData.keyHash P (Str.ofString "__firstlineno__"), (.str (Str.ofString "__firstlineno__") 4433), (.int 285 4432)⟩, ⟨PyData.keyHash P (Str.ofString "__static_attributes__"), (.str (Str.ofString "__static_attributes__") 4434), (.ref 1110)⟩, ⟨PyData.keyHash P (Str.ofString "__weakref__"), (.str (Str.ofString "__weakref__") 4436), (.ref 1113)⟩, ⟨PyData.keyHash P (Str.ofString "__doc__"), (.str (Str.ofString "__doc__") 4437), .none⟩].toArray 3), [].toArray⟩
noncomputable abbrev o_1112 (P : Params) : Obj := ⟨(.type "type"), none, (.cls ⟨(Str.ofString "lab1"), [(.type "Exception")], [(.ref 1112), (.type "Exception"), (.type "BaseException"), (.type "object")], 1111, (Str.ofString "lab1"), true, [], [], false, none, false⟩), [(some (.ref 1103)), none, (some (.str (Str.ofString "lab1") 4422)), (some (.str (Str.ofString "lab1") 4430)), (some (.builtin "Exception.__new__")), (some (.bool true))].toArray⟩
noncomputable abbrev o_1113 (P : Params) : Obj := ⟨(.type "getset_descriptor"), none, (.fields [(.str (Str.ofString "__weakref__") 4435), (.ref 1112), (.builtin "ExceptionGroup.__weakref__"), .none].toArray), [].toArray⟩
noncomputable abbrev o_1114 (P : Params) : Obj := ⟨(.type "super"), none, (.fields [(.ref 1112), (.ref 1112), (.ref 1112)].toArray), [].toArray⟩
noncomputable abbrev o_1115 (P : Params) : Obj := ⟨(.type "builtin_function_or_method"), none, (.fields [(.builtin "object.__init_subclass__"), (.ref 1112)].toArray), [].toArray⟩
noncomputable abbrev o_1116 (P : Params) : Obj := ⟨(.type "tuple"), none, (.seq [].toArray 0), [].toArray⟩
noncomputable abbrev o_1117 (P : Params) : Obj := ⟨.none, none, (.fields [].toArray), [].toArray⟩
noncomputable abbrev o_1118 (P : Params) : Obj := ⟨(.type "tuple"), none, (.seq [].toArray 0), [].toArray⟩
noncomputable abbrev o_1119 (P : Params) : Obj := ⟨(.type "tuple"), none, (.seq [].toArray 0), [].toArray⟩
noncomputable abbrev o_1120 (P : Params) : Obj := ⟨.none, none, (.func (fnF (stTop 11) (Str.ofString "_law_vowels") 0 .none .none 0)), [].toArray⟩
noncomputable abbrev o_1121 (P : Params) : Obj := ⟨(.type "code"), none, (.fields [(.str (Str.ofString "_law_vowels") 4446), (.str (Str.ofString "_law_vowels") 4447), (.str (Str.ofString "/claim/cut.py") 4448), (.int 289 0), (.int 0 0), (.int 0 0), (.int 0 0), (.int 3 0), (.ref 1116), (.bool true), (.int 181 0), (.ref 1117), .none, (.ref 1118), (.ref 1119), (.ref 1120), (.int 4449 0), (.int 289 0), (.str (Str.ofString "/claim/cut.py") 4450)].toArray), [].toArray⟩
noncomputable abbrev o_1122 (P : Params) : Obj := ⟨(.type "function"), none, (.func (fnF (stTop 11) (Str.ofString "_law_vowels") 3 (.str (Str.ofString "law_iu0024_01") 4442) (.ref 1121) 0)), [].toArray⟩
noncomputable abbrev o_1123 (P : Params) : Obj := ⟨(.type "tuple"), none, (.seq [(.str (Str.ofString "aite") 4452), (.str (Str.ofString "aitė") 4453)].toArray 0), [].toArray⟩
noncomputable abbrev o_1124 (P : Params) : Obj := ⟨(.type "tuple"), none, (.seq [(.str (Str.ofString "aitės") 4454), (.str (Str.ofString "aitė") 4455)].toArray 0), [].toArray⟩
noncomputable abbrev o_1125 (P : Params) : Obj := ⟨(.type "tuple"), none, (.seq [(.str (Str.ofString "uote") 4456), (.str (Str.ofString "uotė") 4457)].toArray 0), [].toArray⟩
noncomputable abbrev o_1126 (P : Params) : Obj := ⟨(.type "tuple"), none, (.seq [(.str (Str.ofString "uotės") 4458), (.str (Str.ofString "uotė") 4459)].toArray 0), [].toArray⟩
noncomputable abbrev o_1127 (P : Params) : Obj := ⟨(.type "tuple"), none, (.seq [(.str (Str.ofString "okate") 4460), (.str (Str.ofString "okatė") 4461)].toArray 0), [].toArray⟩
noncomputable abbrev o_1128 (P : Params) : Obj := ⟨(.type "tuple"), none, (.seq [(.str (Str.ofString "okatės") 4462), (.str (Str.ofString "okatė") 4463)].toArray 0), [].toArray⟩
noncomputable abbrev o_1129 (P : Params) : Obj := ⟨(.type "tuple"), none, (.seq [(.str (Str.ofString "ėjime") 4464), (.str (Str.ofString "ėjimas") 4465)].toArray 0), [].toArray⟩
noncomputable abbrev o_1130 (P : Params) : Obj := ⟨(.type "tuple"), none, (.seq [(.str (Str.ofString "avime") 4466), (.str (Str.ofString "avimas") 4467)].toArray 0), [].toArray⟩
noncomputable abbrev o_1131 (P : Params) : Obj := ⟨(.type "tuple"), none, (.seq [(.str (Str.ofString "ojime") 4468), (.str (Str.ofString "ojimas") 4469)].toArray 0), [].toArray⟩
noncomputable abbrev o_1132 (P : Params) : Obj := ⟨(.type "tuple"), none, (.seq [(.str (Str.ofString "asius") 4470), (.str (Str.ofString "asys") 4471)].toArray 0), [].toArray⟩
noncomputable abbrev o_1133 (P : Params) : Obj := ⟨(.type "tuple"), none, (.seq [(.str (Str.ofString "esiu") 4472), (.str (Str.ofString "esys") 4473)].toArray 0), [].toArray⟩
noncomputable abbrev o_1134 (P : Params) : Obj := ⟨(.type "list"), none, (.seq [(.ref 1123), (.ref 1124), (.ref 1125), (.ref 1126), (.ref 1127), (.ref 1128), (.ref 1129), (.ref 1130), (.ref 1131), (.ref 1132), (.ref 1133)].toArray 0), [].toArray⟩
noncomputable abbrev o_1135 (P : Params) : Obj := ⟨(.type "tuple"), none, (.seq [(.str (Str.ofString "č") 4475), (.str (Str.ofString "t") 4476)].toArray 0), [].toArray⟩
noncomputable abbrev o_1136 (P : Params) : Obj := ⟨(.type "tuple"), none, (.seq [(.str (Str.ofString "dž") 4477), (.str (Str.ofString "d") 4478)].toArray 0), [].toArray⟩
noncomputable abbrev o_1137 (P : Params) : Obj := ⟨(.type "list"), none, (.seq [(.ref 1135), (.ref 1136)].toArray 0), [].toArray⟩
noncomputable abbrev o_1138 (P : Params) : Obj := ⟨(.type "tuple"), none, (.seq [(.str (Str.ofString "gd") 4480), (.str (Str.ofString "g") 4481)].toArray 0), [].toArray⟩
noncomputable abbrev o_1139 (P : Params) : Obj := ⟨(.type "list"), none, (.seq [(.ref 1138)].toArray 0), [].toArray⟩
noncomputable abbrev o_1140 (P : Params) : Obj := ⟨(.type "tuple"), none, (.seq [(.str (Str.ofString "'") 4483), (.str (Str.ofString "") 4484)].toArray 0), [].toArray⟩
noncomputable abbrev o_1141 (P : Params) : Obj := ⟨(.type "list"), none, (.seq [(.ref 1140)].toArray 0), [].toArray⟩
noncomputable abbrev o_1142 (P : Params) : Obj := ⟨(.type "list"), none, (.seq [(.str (Str.ofString "ysna") 4486), (.str (Str.ofString "ėsna") 4487), (.str (Str.ofString "enie") 4488), (.str (Str.ofString "yje") 4489), (.str (Str.ofString "enyje") 4490), (.str (Str.ofString "ėje") 4491), (.str (Str.ofString "sime") 4492), (.str (Str.ofString "ome") 4493), (.str (Str.ofString "ėme") 4494), (.str (Str.ofString "tumėme") 4495), (.str (Str.ofString "yse") 4496), (.str (Str.ofString "enyse") 4497), (.str (Str.ofString "ėse") 4498), (.str (Str.ofString "ite") 4499), (.str (Str.ofString "kite") 4500), (.str (Str.ofString "site") 4501), (.str (Str.ofString "ote") 4502), (.str (Str.ofString "tute") 4503), (.str (Str.ofString "ėte") 4504), (.str (Str.ofString "tumėte") 4505), (.str (Str.ofString "i") 4506), (.str (Str.ofString "ei") 4507), (.str (Str.ofString "tumei") 4508), (.str (Str.ofString "ki") 4509), (.str (Str.ofString "imi") 4510), (.str (Str.ofString "siesi") 4511), (.str (Str.ofString "aisi") 4512), (.str (Str.ofString "eisi") 4513), (.str (Str.ofString "tumeisi") 4514), (.str (Str.ofString "uisi") 4515), (.str (Str.ofString "osi") 4516), (.str (Str.ofString "ėjosi") 4517), (.str (Str.ofString "siuosi") 4518), (.str (Str.ofString "usi") 4519), (.str (Str.ofString "ausi") 4520), (.str (Str.ofString "čiausi") 4521), (.str (Str.ofString "ąsi") 4522), (.str (Str.ofString "ėsi") 4523), (.str (Str.ofString "ųsi") 4524), (.str (Str.ofString "tųsi") 4525), (.str (Str.ofString "ti") 4526), (.str (Str.ofString "enti") 4527), (.str (Str.ofString "inti") 4528), (.str (Str.ofString "yti") 4529), (.str (Str.ofString "ėti") 4530), (.str (Str.ofString "telėti") 4531), (.str (Str.ofString "inėti") 4532), (.str (Str.ofString "terėti") 4533), (.str (Str.ofString "eniui") 4534), (.str (Str.ofString "oj") 4535), (.str (Str.ofString "ėj") 4536), (.str (Str.ofString "k") 4537), (.str (Str.ofString "iem") 4538), (.str (Str.ofString "im") 4539), (.str (Str.ofString "sim") 4540), (.str (Str.ofString "om") 4541), (.str (Str.ofString "tum") 4542), (.str (Str.ofString "ėm") 4543), (.str (Str.ofString "tumėm") 4544), (.str (Str.ofString "an") 4545), (.str (Str.ofString "ėn") 4546), (.str (Str.ofString "enio") 4547), (.str (Str.ofString "ėjo") 4548), (.str (Str.ofString "uo") 4549), (.str (Str.ofString "tumeis") 4550), (.str (Str.ofString "imis") 4551), (.str (Str.ofString "enimis") 4552), (.str (Str.ofString "umis") 4553), (.str (Str.ofString "ėmis") 4554), (.str (Str.ofString "enis") 4555), (.str (Str.ofString "asis") 4556), (.str (Str.ofString "ysis") 4557), (.str (Str.ofString "iems") 4558), (.str (Str.ofString "ims") 4559), (.str (Str.ofString "enims") 4560), (.str (Str.ofString "ums") 4561), (.str (Str.ofString "ėms") 4562), (.str (Str.ofString "ens") 4563), (.str (Str.ofString "ys") 4564), (.str (Str.ofString "enys") 4565), (.str (Str.ofString "ės") 4566), (.str (Str.ofString "imės") 4567), (.str (Str.ofString "kimės") 4568), (.str (Str.ofString "simės") 4569), (.str (Str.ofString "omės") 4570), (.str (Str.ofString "ėmės") 4571), (.str (Str.ofString "tumėmės") 4572), (.str (Str.ofString "sitės") 4573), (.str (Str.ofString "otės") 4574), (.str (Str.ofString "ėtės") 4575), (.str (Str.ofString "tumėtės") 4576), (.str (Str.ofString "įs") 4577), (.str (Str.ofString "ūs") 4578), (.str (Str.ofString "tųs") 4579), (.str (Str.ofString "it") 4580), (.str (Str.ofString "sit") 4581), (.str (Str.ofString "ot") 4582), (.str (Str.ofString "ėt") 4583), (.str (Str.ofString "tumėt") 4584), (.str (Str.ofString "čiau") 4585), (.str (Str.ofString "eniu") 4586), (.str (Str.ofString "siu") 4587), (.str (Str.ofString "y") 4588), (.str (Str.ofString "ė") 4589), (.str (Str.ofString "ę") 4590), (.str (Str.ofString "į") 4591), (.str (Str.ofString "enį") 4592)].toArray 0), [].toArray⟩
noncomputable abbrev o_1143 (P : Params) : Obj := ⟨(.type "list"), none, (.seq [(.str (Str.ofString "a") 4594), (.str (Str.ofString "osna") 4595), (.str (Str.ofString "uosna") 4596), (.str (Str.ofString "e") 4597), (.str (Str.ofString "oje") 4598), (.str (Str.ofString "uje") 4599), (.str (Str.ofString "ame") 4600), (.str (Str.ofString "ose") 4601), (.str (Str.ofString "uose") 4602), (.str (Str.ofString "ate") 4603), (.str (Str.ofString "ai") 4604), (.str (Str.ofString "umi") 4605), (.str (Str.ofString "si") 4606), (.str (Str.ofString "asi") 4607), (.str (Str.ofString "esi") 4608), (.str (Str.ofString "uosi") 4609), (.str (Str.ofString "oti") 4610), (.str (Str.ofString "uoti") 4611), (.str (Str.ofString "auti") 4612), (.str (Str.ofString "ui") 4613), (.str (Str.ofString "am") 4614), (.str (Str.ofString "on") 4615), (.str (Str.ofString "un") 4616), (.str (Str.ofString "o") 4617), (.str (Str.ofString "s") 4618), (.str (Str.ofString "as") 4619), (.str (Str.ofString "es") 4620), (.str (Str.ofString "ais") 4621), (.str (Str.ofString "omis") 4622), (.str (Str.ofString "ams") 4623), (.str (Str.ofString "oms") 4624), (.str (Str.ofString "os") 4625), (.str (Str.ofString "uos") 4626), (.str (Str.ofString "us") 4627), (.str (Str.ofString "aus") 4628), (.str (Str.ofString "ąs") 4629), (.str (Str.ofString "amės") 4630), (.str (Str.ofString "atės") 4631), (.str (Str.ofString "at") 4632), (.str (Str.ofString "u") 4633), (.str (Str.ofString "au") 4634), (.str (Str.ofString "ą") 4635), (.str (Str.ofString "ų") 4636)].toArray 0), [].toArray⟩
noncomputable abbrev o_1144 (P : Params) : Obj := ⟨(.type "list"), none, (.seq [(.str (Str.ofString "ing") 4638), (.str (Str.ofString "iej") 4639), (.str (Str.ofString "auj") 4640), (.str (Str.ofString "ėj") 4641), (.str (Str.ofString "iuk") 4642), (.str (Str.ofString "uliuk") 4643), (.str (Str.ofString "učiuk") 4644), (.str (Str.ofString "išk") 4645), (.str (Str.ofString "iul") 4646), (.str (Str.ofString "yl") 4647), (.str (Str.ofString "ėl") 4648), (.str (Str.ofString "am") 4649), (.str (Str.ofString "dam") 4650), (.str (Str.ofString "jam") 4651), (.str (Str.ofString "zgan") 4652), (.str (Str.ofString "ain") 4653), (.str (Str.ofString "esn") 4654), (.str (Str.ofString "ias") 4655), (.str (Str.ofString "ies") 4656), (.str (Str.ofString "ęs") 4657), (.str (Str.ofString "utėait") 4658), (.str (Str.ofString "siant") 4659), (.str (Str.ofString "int") 4660), (.str (Str.ofString "ot") 4661), (.str (Str.ofString "yt") 4662), (.str (Str.ofString "ėt") 4663), (.str (Str.ofString "ykšt") 4664), (.str (Str.ofString "iau") 4665), (.str (Str.ofString "dav") 4666), (.str (Str.ofString "sv") 4667), (.str (Str.ofString "šv") 4668), (.str (Str.ofString "ykšč") 4669), (.str (Str.ofString "ę") 4670), (.str (Str.ofString "ėję") 4671)].toArray 0), [].toArray⟩
noncomputable abbrev o_1145 (P : Params) : Obj := ⟨(.type "list"), none, (.seq [(.str (Str.ofString "aj") 4673), (.str (Str.ofString "oj") 4674), (.str (Str.ofString "uoj") 4675), (.str (Str.ofString "ąj") 4676), (.str (Str.ofString "ųj") 4677), (.str (Str.ofString "ok") 4678), (.str (Str.ofString "op") 4679), (.str (Str.ofString "ais") 4680), (.str (Str.ofString "os") 4681), (.str (Str.ofString "uos") 4682), (.str (Str.ofString "aus") 4683), (.str (Str.ofString "ąs") 4684), (.str (Str.ofString "ant") 4685), (.str (Str.ofString "uot") 4686)].toArray 0), [].toArray⟩
noncomputable abbrev o_1146 (P : Params) : Obj := ⟨(.type "tuple"), none, (.seq [].toArray 0), [].toArray⟩
noncomputable abbrev o_1147 (P : Params) : Obj := ⟨.none, none, (.fields [].toArray), [].toArray⟩
noncomputable abbrev o_1148 (P : Params) : Obj := ⟨.none, none, (.func (fnF (stTop 20) (Str.ofString "_law_both") 0 .none .none 0)), [].toArray⟩
noncomputable abbrev o_1149 (P : Params) : Obj := ⟨(.type "code"), none, (.fields [(.str (Str.ofString "_law_both") 4688), (.str (Str.ofString "_law_both") 4689), (.str (Str.ofString "/claim/cut.py") 4690), (.int 299 0), (.int 2 0), (.int 0 0), (.int 0 0), (.int 3 0), (.ref 1146), (.bool true), (.int 181 0), (.ref 1147), .none, .none, .none, (.ref 1148), (.int 4691 0), (.int 299 0), (.str (Str.ofString "/claim/cut.py") 4692)].toArray), [].toArray⟩
noncomputable abbrev o_1150 (P : Params) : Obj := ⟨(.type "function"), none, (.func (fnF (stTop 20) (Str.ofString "_law_both") 3 (.str (Str.ofString "law_iu0024_01") 4442) (.ref 1149) 0)), [].toArray⟩
noncomputable abbrev o_1151 (P : Params) : Obj := ⟨(.type "tuple"), none, (.seq [].toArray 0), [].toArray⟩
noncomputable abbrev o_1152 (P : Params) : Obj := ⟨.none, none, (.fields [].toArray), [].toArray⟩
noncomputable abbrev o_1153 (P : Params) : Obj := ⟨(.type "tuple"), none, (.seq [(.str (Str.ofString "word") 4697), (.str (Str.ofString "first") 4698), (.str (Str.ofString "place") 4699)].toArray 0), [].toArray⟩
noncomputable abbrev o_1154 (P : Params) : Obj := ⟨(.type "tuple"), none, (.seq [].toArray 0), [].toArray⟩
noncomputable abbrev o_1155 (P : Params) : Obj := ⟨.none, none, (.func (fnF (stTop 21) (Str.ofString "_law_edge") 0 .none .none 0)), [].toArray⟩
noncomputable abbrev o_1156 (P : Params) : Obj := ⟨(.type "code"), none, (.fields [(.str (Str.ofString "_law_edge") 4694), (.str (Str.ofString "_law_edge") 4695), (.str (Str.ofString "/claim/cut.py") 4696), (.int 301 0), (.int 1 0), (.int 0 0), (.int 0 0), (.int 3 0), (.ref 1151), (.bool true), (.int 181 0), (.ref 1152), .none, (.ref 1153), (.ref 1154), (.ref 1155), (.int 4700 0), (.int 301 0), (.str (Str.ofString "/claim/cut.py") 4701)].toArray), [].toArray⟩
noncomputable abbrev o_1157 (P : Params) : Obj := ⟨(.type "function"), none, (.func (fnF (stTop 21) (Str.ofString "_law_edge") 3 (.str (Str.ofString "law_iu0024_01") 4442) (.ref 1156) 0)), [].toArray⟩
noncomputable abbrev o_1158 (P : Params) : Obj := ⟨(.type "tuple"), none, (.seq [].toArray 0), [].toArray⟩
noncomputable abbrev o_1159 (P : Params) : Obj := ⟨.none, none, (.fields [].toArray), [].toArray⟩
noncomputable abbrev o_1160 (P : Params) : Obj := ⟨(.type "tuple"), none, (.seq [(.str (Str.ofString "word") 4706), (.str (Str.ofString "pairs") 4707), (.str (Str.ofString "old") 4708), (.str (Str.ofString "new") 4709)].toArray 0), [].toArray⟩
noncomputable abbrev o_1161 (P : Params) : Obj := ⟨(.type "tuple"), none, (.seq [].toArray 0), [].toArray⟩
noncomputable abbrev o_1162 (P : Params) : Obj := ⟨.none, none, (.func (fnF (stTop 22) (Str.ofString "_law_anew") 0 .none .none 0)), [].toArray⟩
noncomputable abbrev o_1163 (P : Params) : Obj := ⟨(.type "code"), none, (.fields [(.str (Str.ofString "_law_anew") 4703), (.str (Str.ofString "_law_anew") 4704), (.str (Str.ofString "/claim/cut.py") 4705), (.int 307 0), (.int 2 0), (.int 0 0), (.int 0 0), (.int 3 0), (.ref 1158), (.bool true), (.int 181 0), (.ref 1159), .none, (.ref 1160), (.ref 1161), (.ref 1162), (.int 4710 0), (.int 307 0), (.str (Str.ofString "/claim/cut.py") 4711)].toArray), [].toArray⟩
noncomputable abbrev o_1164 (P : Params) : Obj := ⟨(.type "function"), none, (.func (fnF (stTop 22) (Str.ofString "_law_anew") 3 (.str (Str.ofString "law_iu0024_01") 4442) (.ref 1163) 0)), [].toArray⟩
noncomputable abbrev o_1165 (P : Params) : Obj := ⟨(.type "tuple"), none, (.seq [].toArray 0), [].toArray⟩
noncomputable abbrev o_1166 (P : Params) : Obj := ⟨.none, none, (.fields [].toArray), [].toArray⟩
noncomputable abbrev o_1167 (P : Params) : Obj := ⟨(.type "tuple"), none, (.seq [(.str (Str.ofString "word") 4716), (.str (Str.ofString "edge") 4717), (.str (Str.ofString "ends") 4718), (.str (Str.ofString "place") 4719)].toArray 0), [].toArray⟩
noncomputable abbrev o_1168 (P : Params) : Obj := ⟨(.type "tuple"), none, (.seq [].toArray 0), [].toArray⟩
noncomputable abbrev o_1169 (P : Params) : Obj := ⟨.none, none, (.func (fnF (stTop 23) (Str.ofString "_law_without") 0 .none .none 0)), [].toArray⟩
noncomputable abbrev o_1170 (P : Params) : Obj := ⟨(.type "code"), none, (.fields [(.str (Str.ofString "_law_without") 4713), (.str (Str.ofString "_law_without") 4714), (.str (Str.ofString "/claim/cut.py") 4715), (.int 312 0), (.int 3 0), (.int 0 0), (.int 0 0), (.int 3 0), (.ref 1165), (.bool true), (.int 181 0), (.ref 1166), .none, (.ref 1167), (.ref 1168), (.ref 1169), (.int 4720 0), (.int 312 0), (.str (Str.ofString "/claim/cut.py") 4721)].toArray), [].toArray⟩
noncomputable abbrev o_1171 (P : Params) : Obj := ⟨(.type "function"), none, (.func (fnF (stTop 23) (Str.ofString "_law_without") 3 (.str (Str.ofString "law_iu0024_01") 4442) (.ref 1170) 0)), [].toArray⟩
noncomputable abbrev o_1172 (P : Params) : Obj := ⟨(.type "tuple"), none, (.seq [].toArray 0), [].toArray⟩
noncomputable abbrev o_1173 (P : Params) : Obj := ⟨.none, none, (.fields [].toArray), [].toArray⟩
noncomputable abbrev o_1174 (P : Params) : Obj := ⟨(.type "tuple"), none, (.seq [(.str (Str.ofString "word") 4726), (.str (Str.ofString "once") 4727), (.str (Str.ofString "often") 4728), (.str (Str.ofString "edge") 4729), (.str (Str.ofString "turn") 4730), (.str (Str.ofString "shorter") 4731)].toArray 0), [].toArray⟩
noncomputable abbrev o_1175 (P : Params) : Obj := ⟨(.type "tuple"), none, (.seq [].toArray 0), [].toArray⟩
noncomputable abbrev o_1176 (P : Params) : Obj := ⟨.none, none, (.func (fnF (stTop 24) (Str.ofString "_law_stem") 0 .none .none 0)), [].toArray⟩
noncomputable abbrev o_1177 (P : Params) : Obj := ⟨(.type "code"), none, (.fields [(.str (Str.ofString "_law_stem") 4723), (.str (Str.ofString "_law_stem") 4724), (.str (Str.ofString "/claim/cut.py") 4725), (.int 317 0), (.int 3 0), (.int 0 0), (.int 0 0), (.int 3 0), (.ref 1172), (.bool true), (.int 181 0), (.ref 1173), .none, (.ref 1174), (.ref 1175), (.ref 1176), (.int 4732 0), (.int 317 0), (.str (Str.ofString "/claim/cut.py") 4733)].toArray), [].toArray⟩
noncomputable abbrev o_1178 (P : Params) : Obj := ⟨(.type "function"), none, (.func (fnF (stTop 24) (Str.ofString "_law_stem") 3 (.str (Str.ofString "law_iu0024_01") 4442) (.ref 1177) 0)), [].toArray⟩
noncomputable abbrev o_1179 (P : Params) : Obj := ⟨(.type "tuple"), none, (.seq [].toArray 0), [].toArray⟩
noncomputable abbrev o_1180 (P : Params) : Obj := ⟨.none, none, (.fields [].toArray), [].toArray⟩
noncomputable abbrev o_1181 (P : Params) : Obj := ⟨.none, none, (.func (fnF (stTop 25) (Str.ofString "law") 0 .none .none 0)), [].toArray⟩
noncomputable abbrev o_1182 (P : Params) : Obj := ⟨(.type "code"), none, (.fields [(.str (Str.ofString "law") 4735), (.str (Str.ofString "law") 4736), (.str (Str.ofString "/claim/cut.py") 4737), (.int 330 0), (.int 1 0), (.int 0 0), (.int 0 0), (.int 3 0), (.ref 1179), (.bool true), (.int 181 0), (.ref 1180), .none, .none, .none, (.ref 1181), (.int 4738 0), (.int 330 0), (.str (Str.ofString "/claim/cut.py") 4739)].toArray), [].toArray⟩
noncomputable abbrev o_1183 (P : Params) : Obj := ⟨(.type "function"), none, (.func (fnF (stTop 25) (Str.ofString "law") 3 (.str (Str.ofString "law_iu0024_01") 4442) (.ref 1182) 0)), [].toArray⟩
noncomputable def TT (P : Params) (X : Obj) : BT := (.node (boot_o_0 P) (.node (boot_o_1 P) (.node (o_3 P) (.node (boot_o_7 P) (.node (o_15 P) (.node (o_31 P) (.node (o_63 P) (.node (o_127 P) (.node (o_255 P) (.node (aF P 1656 510 1657 (Str.ofString "iuoti") 1652 1658 77 1653 1659 (-1) 1655) (.node (aD P 4117 (Str.ofString "dav") 4107 4119 (-1) 4109 4121 (-1) 4111) .nil .nil) .nil) (.node (aD P 2880 (Str.ofString "otės") 2871 2882 152 2872 2884 (-1) 2874) .nil .nil)) (.node (aD P 1072 (Str.ofString "ote") 1063 1074 8 1064 1076 (-1) 1066) (.node (aI 638) (.node (o_1151 P) .nil .nil) .nil) (.node (aI 894) .nil .nil))) (.node (o_191 P) (.node (aF P 759 318 760 (Str.ofString "iuje") 755 761 13 756 762 (-1) 758) (.node (aD P 1978 (Str.ofString "tumėm") 1969 1980 99 1970 1982 (-1) 1972) (.node (o_1087 P) .nil .nil) .nil) (.node (aI 830) .nil .nil)) (.node (aI 446) (.node (aF P 2567 702 2568 (Str.ofString "uos") 2563 2569 140 2564 2570 (-1) 2566) .nil .nil) (.node (aF P 3791 958 3792 (Str.ofString "iais") 3787 3793 33 3788 3794 (-1) 3790) .nil .nil)))) (.node (o_95 P) (.node (o_159 P) (.node (aD P 623 (Str.ofString "uosna") 614 625 2 615 627 (-1) 617) (.node (aI 542) (.node (aI 1054) .nil .nil) .nil) (.node (aF P 3018 798 3019 (Str.ofString "ot") 3013 3020 (-1) 3015 3021 (-1) 3017) .nil .nil)) (.node (aF P 1208 414 1209 (Str.ofString "imi") 1204 1210 40 1205 1211 (-1) 1207) (.node (aD P 2432 (Str.ofString "iems") 2423 2434 112 2424 2436 (-1) 2426) (.node (o_1183 P) .nil .nil) .nil) (.node (aD P 3649 (Str.ofString "dam") 3640 3651 23 3641 3653 (-1) 3643) .nil .nil))) (.node (o_223 P) (.node (aI 350) (.node (aF P 2118 606 2119 (Str.ofString "ėjo") 2114 2120 107 2115 2121 (-1) 2117) (.node (o_1119 P) .nil .nil) .nil) (.node (aF P 3323 862 3324 (Str.ofString "iaj") 3319 3325 1 3320 3326 (-1) 3322) .nil .nil)) (.node (aD P 1521 (Str.ofString "ąsi") 1512 1523 49 1513 1525 (-1) 1515) (.node (aI 734) .nil .nil) (.node (aI 990) .nil .nil))))) (.node (o_47 P) (.node (o_79 P) (.node (o_143 P) (.node (o_271 P) (.node (aD P 1745 (Str.ofString "inėti") 1736 1747 82 1737 1749 (-1) 1739) (.node (aI 1038) .nil .nil) .nil) (.node (aI 782) .nil .nil)) (.node (aI 398) (.node (aF P 2343 654 2344 (Str.ofString "ėmis") 2339 2345 117 2340 2346 (-1) 2342) (.node (o_1167 P) .nil .nil) .nil) (.node (aF P 3555 910 3556 (Str.ofString "učiuk") 3551 3557 16 3552 3558 (-1) 3554) .nil .nil))) (.node (o_207 P) (.node (aD P 848 (Str.ofString "sime") 839 850 8 840 852 (-1) 842) (.node (aI 590) (.node (o_1103 P) .nil .nil) .nil) (.node (aF P 3249 846 3250 (Str.ofString "enį") 3245 3251 189 3246 3252 (-1) 3248) .nil .nil)) (.node (aF P 1432 462 1433 (Str.ofString "uosi") 1428 1434 60 1429 1435 (-1) 1431) (.node (aD P 2656 (Str.ofString "ys") 2647 2658 112 2648 2660 (-1) 2650) .nil .nil) (.node (aD P 3882 (Str.ofString "iaus") 3873 3884 39 3874 3886 (-1) 3876) .nil .nil)))) (.node (o_111 P) (.node (o_175 P) (.node (aI 302) (.node (aF P 1885 558 1886 (Str.ofString "iem") 1880 1887 (-1) 1882 1888 (-1) 1884) (.node (aF P 4327 1070 4328 (Str.ofString "uotės") 4323 4329 (-1) 4325 4330 2 4326) .nil .nil) .nil) (.node (aD P 3109 (Str.ofString "čiau") 3100 3111 179 3101 3113 (-1) 3103) .nil .nil)) (.node (aD P 1297 (Str.ofString "esi") 1288 1299 49 1289 1301 (-1) 1291) (.node (aI 686) .nil .nil) (.node (aI 942) .nil .nil))) (.node (o_239 P) (.node (aF P 983 366 984 (Str.ofString "ėse") 979 985 8 980 986 (-1) 982) (.node (aD P 2208 (Str.ofString "ies") 2199 2210 115 2200 2212 (-1) 2202) (.node (o_1135 P) .nil .nil) .nil) (.node (aD P 3415 (Str.ofString "auj") 3405 3417 (-1) 3407 3419 (-1) 3409) .nil .nil)) (.node (aI 494) (.node (aF P 2791 750 2792 (Str.ofString "omės") 2787 2793 152 2788 2794 (-1) 2790) .nil .nil) (.node (aF P 4023 1006 4024 (Str.ofString "uot") 4019 4025 49 4020 4026 (-1) 4022) .nil .nil)))))) (.node (o_23 P) (.node (o_39 P) (.node (o_71 P) (.node (o_135 P) (.node (o_263 P) (.node (aI 518) (.node (aF P 4142 1030 4143 (Str.ofString "šv") 4137 4144 (-1) 4139 4145 (-1) 4141) .nil .nil) .nil) (.node (aF P 2903 774 2904 (Str.ofString "tumėtės") 2899 2905 165 2900 2906 (-1) 2902) .nil .nil)) (.node (aF P 1095 390 1096 (Str.ofString "ėte") 1091 1097 8 1092 1098 (-1) 1094) (.node (aD P 2320 (Str.ofString "iomis") 2311 2322 123 2312 2324 (-1) 2314) (.node (o_1159 P) .nil .nil) .nil) (.node (aD P 3532 (Str.ofString "iuk") 3522 3534 (-1) 3524 3536 (-1) 3526) .nil .nil))) (.node (o_199 P) (.node (aI 326) (.node (aF P 2003 582 2004 (Str.ofString "on") 1998 2005 (-1) 2000 2006 (-1) 2002) (.node (o_1095 P) .nil .nil) .nil) (.node (aD P 3225 (Str.ofString "ę") 3215 3227 (-1) 3217 3229 (-1) 3219) .nil .nil)) (.node (aD P 1409 (Str.ofString "osi") 1400 1411 49 1401 1413 (-1) 1403) (.node (aI 710) .nil .nil) (.node (aI 966) .nil .nil)))) (.node (o_103 P) (.node (o_167 P) (.node (aF P 646 294 647 (Str.ofString "ysna") 642 648 0 643 649 (-1) 645) (.node (aD P 1861 (Str.ofString "am") 1851 1863 (-1) 1853 1865 (-1) 1855) (.node (aD P 4304 (Str.ofString "okatės") 4295 4306 (-1) 4297 4308 8 4298) .nil .nil) .nil) (.node (aI 806) .nil .nil)) (.node (aI 422) (.node (aF P 2455 678 2456 (Str.ofString "enims") 2451 2457 133 2452 2458 (-1) 2454) .nil .nil) (.node (aF P 3673 934 3674 (Str.ofString "zgan") 3668 3675 (-1) 3670 3676 (-1) 3672) .nil .nil))) (.node (o_231 P) (.node (aD P 960 (Str.ofString "yse") 951 962 8 952 964 (-1) 954) (.node (aI 614) (.node (o_1127 P) .nil .nil) .nil) (.node (aI 870) .nil .nil)) (.node (aF P 1544 486 1545 (Str.ofString "ųsi") 1540 1546 49 1541 1547 (-1) 1543) (.node (aD P 2768 (Str.ofString "kimės") 2759 2770 155 2760 2772 (-1) 2762) .nil .nil) (.node (aD P 3999 (Str.ofString "int") 3989 4001 (-1) 3991 4003 (-1) 3993) .nil .nil))))) (.node (o_55 P) (.node (o_87 P) (.node (o_151 P) (.node (aI 278) (.node (aF P 1768 534 1769 (Str.ofString "ui") 1764 1770 40 1765 1771 (-1) 1767) (.node (aF P 4215 1046 4216 (Str.ofString "ėjime") 4211 4217 (-1) 4213 4218 3 4214) .nil .nil) .nil) (.node (aD P 2994 (Str.ofString "it") 2984 2996 (-1) 2986 2998 (-1) 2988) .nil .nil)) (.node (aD P 1185 (Str.ofString "tumei") 1176 1187 43 1177 1189 (-1) 1179) (.node (aI 662) (.node (o_1175 P) .nil .nil) .nil) (.node (aI 918) .nil .nil))) (.node (o_215 P) (.node (aF P 871 342 872 (Str.ofString "ėme") 867 873 8 868 874 (-1) 870) (.node (aD P 2095 (Str.ofString "io") 2086 2097 107 2087 2099 (-1) 2089) (.node (o_1111 P) .nil .nil) .nil) (.node (aD P 3299 (Str.ofString "ing") 3289 3301 (-1) 3291 3303 (-1) 3293) .nil .nil)) (.node (aI 470) (.node (aF P 2679 726 2680 (Str.ofString "ąs") 2675 2681 112 2676 2682 (-1) 2678) .nil .nil) (.node (aF P 3906 982 3907 (Str.ofString "iąs") 3902 3908 41 3903 3909 (-1) 3905) .nil .nil)))) (.node (o_119 P) (.node (o_183 P) (.node (aD P 736 (Str.ofString "ioje") 727 738 11 728 740 (-1) 730) (.node (aI 566) (.node (aF P 4365 1078 4366 (Str.ofString "č") 4361 4367 (-1) 4363 4368 1 4364) .nil .nil) .nil) (.node (aF P 3132 822 3133 (Str.ofString "eniu") 3128 3134 181 3129 3135 (-1) 3131) .nil .nil)) (.node (aF P 1320 438 1321 (Str.ofString "siesi") 1316 1322 53 1317 1323 (-1) 1319) (.node (aD P 2544 (Str.ofString "os") 2535 2546 112 2536 2548 (-1) 2538) .nil .nil) (.node (aD P 3767 (Str.ofString "ies") 3757 3769 (-1) 3759 3771 (-1) 3761) .nil .nil))) (.node (o_247 P) (.node (aI 374) (.node (aF P 2231 630 2232 (Str.ofString "ais") 2227 2233 117 2228 2234 (-1) 2230) (.node (o_1143 P) .nil .nil) .nil) (.node (aF P 3439 886 3440 (Str.ofString "iąj") 3435 3441 9 3436 3442 (-1) 3438) .nil .nil)) (.node (aD P 1633 (Str.ofString "ioti") 1624 1635 75 1625 1637 (-1) 1627) (.node (aI 758) .nil .nil) (.node (aI 1014) .nil .nil))))))) (.node (o_11 P) (.node (o_19 P) (.node (o_35 P) (.node (o_67 P) (.node (o_131 P) (.node (o_259 P) (.node (aD P 1689 (Str.ofString "iauti") 1680 1691 79 1681 1693 (-1) 1683) (.node (aI 1026) .nil .nil) .nil) (.node (aI 770) .nil .nil)) (.node (aI 386) (.node (aF P 2287 642 2288 (Str.ofString "enimis") 2283 2289 121 2284 2290 (-1) 2286) (.node (o_1155 P) .nil .nil) .nil) (.node (aF P 3498 898 3499 (Str.ofString "ok") 3493 3500 (-1) 3495 3501 (-1) 3497) .nil .nil))) (.node (o_195 P) (.node (aD P 792 (Str.ofString "enyje") 783 794 15 784 796 (-1) 786) (.node (aI 578) (.node (o_1091 P) .nil .nil) .nil) (.node (aF P 3190 834 3191 (Str.ofString "ią") 3186 3192 185 3187 3193 (-1) 3189) .nil .nil)) (.node (aF P 1376 450 1377 (Str.ofString "tumeisi") 1372 1378 57 1373 1379 (-1) 1375) (.node (aD P 2600 (Str.ofString "us") 2591 2602 112 2592 2604 (-1) 2594) .nil .nil) (.node (aD P 3825 (Str.ofString "ios") 3816 3827 35 3817 3829 (-1) 3819) .nil .nil)))) (.node (o_99 P) (.node (o_163 P) (.node (aI 290) (.node (aF P 1826 546 1827 (Str.ofString "ėj") 1821 1828 (-1) 1823 1829 (-1) 1825) (.node (aF P 4271 1058 4272 (Str.ofString "uote") 4267 4273 (-1) 4269 4274 2 4270) .nil .nil) .nil) (.node (aD P 3052 (Str.ofString "tumėt") 3043 3054 175 3044 3056 (-1) 3046) .nil .nil)) (.node (aD P 1241 (Str.ofString "iumi") 1232 1243 47 1233 1245 (-1) 1235) (.node (aI 674) .nil .nil) (.node (aI 930) .nil .nil))) (.node (o_227 P) (.node (aF P 927 354 928 (Str.ofString "uose") 923 929 24 924 930 (-1) 926) (.node (aD P 2152 (Str.ofString "s") 2142 2154 (-1) 2144 2156 (-1) 2146) (.node (o_1123 P) .nil .nil) .nil) (.node (aD P 3358 (Str.ofString "oj") 3348 3360 (-1) 3350 3362 (-1) 3352) .nil .nil)) (.node (aI 482) (.node (aF P 2735 738 2736 (Str.ofString "iamės") 2731 2737 153 2732 2738 (-1) 2734) .nil .nil) (.node (aF P 3965 994 3966 (Str.ofString "iant") 3961 3967 45 3962 3968 (-1) 3964) .nil .nil))))) (.node (o_51 P) (.node (o_83 P) (.node (o_147 P) (.node (aD P 567 (Str.ofString "a") 557 569 (-1) 559 571 (-1) 561) (.node (aI 530) (.node (aI 1042) .nil .nil) .nil) (.node (aF P 2960 786 2961 (Str.ofString "at") 2955 2962 (-1) 2957 2963 (-1) 2959) .nil .nil)) (.node (aF P 1152 402 1153 (Str.ofString "iai") 1148 1154 41 1149 1155 (-1) 1151) (.node (aD P 2376 (Str.ofString "asis") 2367 2378 117 2368 2380 (-1) 2370) (.node (o_1171 P) .nil .nil) .nil) (.node (aD P 3590 (Str.ofString "iul") 3580 3592 (-1) 3582 3594 (-1) 3584) .nil .nil))) (.node (o_211 P) (.node (aI 338) (.node (aF P 2061 594 2062 (Str.ofString "ėn") 2056 2063 (-1) 2058 2064 (-1) 2060) (.node (o_1107 P) .nil .nil) .nil) (.node (aD P 3283 (Str.ofString "ių") 3274 3285 191 3275 3287 (-1) 3277) .nil .nil)) (.node (aD P 1465 (Str.ofString "siuosi") 1456 1467 63 1457 1469 (-1) 1459) (.node (aI 722) .nil .nil) (.node (aI 978) .nil .nil)))) (.node (o_115 P) (.node (o_179 P) (.node (aF P 703 306 704 (Str.ofString "enie") 699 705 9 700 706 (-1) 702) (.node (aD P 1919 (Str.ofString "sim") 1910 1921 95 1911 1923 (-1) 1913) (.node (o_1075 P) .nil .nil) .nil) (.node (aI 818) .nil .nil)) (.node (aI 434) (.node (aF P 2511 690 2512 (Str.ofString "ėms") 2507 2513 112 2508 2514 (-1) 2510) .nil .nil) (.node (aF P 3732 946 3733 (Str.ofString "iop") 3728 3734 29 3729 3735 (-1) 3731) .nil .nil))) (.node (o_243 P) (.node (aD P 1016 (Str.ofString "iate") 1007 1018 31 1008 1020 (-1) 1010) (.node (aI 626) (.node (o_1139 P) .nil .nil) .nil) (.node (aI 882) .nil .nil)) (.node (aF P 1600 498 1601 (Str.ofString "inti") 1596 1602 72 1597 1603 (-1) 1599) (.node (aD P 2824 (Str.ofString "tumėmės") 2815 2826 159 2816 2828 (-1) 2818) .nil .nil) (.node (aD P 4057 (Str.ofString "yt") 4047 4059 (-1) 4049 4061 (-1) 4051) .nil .nil)))))) (.node (o_27 P) (.node (o_43 P) (.node (o_75 P) (.node (o_139 P) (.node (o_267 P) (.node (aF P 1712 522 1713 (Str.ofString "ėti") 1708 1714 72 1709 1715 (-1) 1711) (.node (aD P 4177 (Str.ofString "ę") 4167 4179 (-1) 4169 4181 (-1) 4171) .nil .nil) .nil) (.node (aD P 2936 (Str.ofString "ūs") 2927 2938 112 2928 2940 (-1) 2930) .nil .nil)) (.node (aD P 1129 (Str.ofString "i") 1119 1131 (-1) 1121 1133 (-1) 1123) (.node (aI 650) (.node (o_1163 P) .nil .nil) .nil) (.node (aI 906) .nil .nil))) (.node (o_203 P) (.node (aF P 815 330 816 (Str.ofString "ame") 811 817 8 812 818 (-1) 814) (.node (aD P 2037 (Str.ofString "un") 2027 2039 (-1) 2029 2041 (-1) 2031) (.node (o_1099 P) .nil .nil) .nil) (.node (aI 842) .nil .nil)) (.node (aI 458) (.node (aF P 2623 714 2624 (Str.ofString "iaus") 2619 2625 145 2620 2626 (-1) 2622) .nil .nil) (.node (aF P 3848 970 3849 (Str.ofString "iuos") 3844 3850 37 3845 3851 (-1) 3847) .nil .nil)))) (.node (o_107 P) (.node (o_171 P) (.node (aD P 680 (Str.ofString "e") 670 682 (-1) 672 684 (-1) 674) (.node (aI 554) (.node (aI 1066) .nil .nil) .nil) (.node (aF P 3076 810 3077 (Str.ofString "au") 3072 3078 177 3073 3079 (-1) 3075) .nil .nil)) (.node (aF P 1264 426 1265 (Str.ofString "asi") 1260 1266 49 1261 1267 (-1) 1263) (.node (aD P 2488 (Str.ofString "ioms") 2479 2490 135 2480 2492 (-1) 2482) .nil .nil) (.node (aD P 3708 (Str.ofString "esn") 3698 3710 (-1) 3700 3712 (-1) 3702) .nil .nil))) (.node (o_235 P) (.node (aI 362) (.node (aF P 2175 618 2176 (Str.ofString "ias") 2171 2177 113 2172 2178 (-1) 2174) (.node (o_1131 P) .nil .nil) .nil) (.node (aF P 3381 874 3382 (Str.ofString "uoj") 3377 3383 4 3378 3384 (-1) 3380) .nil .nil)) (.node (aD P 1577 (Str.ofString "ti") 1568 1579 40 1569 1581 (-1) 1571) (.node (aI 746) .nil .nil) (.node (aI 1002) .nil .nil))))) (.node (o_59 P) (.node (o_91 P) (.node (o_155 P) (.node (aF P 590 282 591 (Str.ofString "osna") 586 592 0 587 593 (-1) 589) (.node (aD P 1801 (Str.ofString "eniui") 1792 1803 87 1793 1805 (-1) 1795) (.node (aD P 4248 (Str.ofString "okate") 4239 4250 (-1) 4241 4252 8 4242) .nil .nil) .nil) (.node (aI 794) .nil .nil)) (.node (aI 410) (.node (aF P 2399 666 2400 (Str.ofString "ams") 2395 2401 112 2396 2402 (-1) 2398) (.node (o_1179 P) .nil .nil) .nil) (.node (aF P 3615 922 3616 (Str.ofString "ėl") 3610 3617 (-1) 3612 3618 (-1) 3614) .nil .nil))) (.node (o_219 P) (.node (aD P 904 (Str.ofString "ose") 895 906 8 896 908 (-1) 898) (.node (aI 602) (.node (o_1115 P) .nil .nil) .nil) (.node (aI 858) .nil .nil)) (.node (aF P 1488 474 1489 (Str.ofString "ausi") 1484 1490 65 1485 1491 (-1) 1487) (.node (aD P 2712 (Str.ofString "ės") 2703 2714 112 2704 2716 (-1) 2706) .nil .nil) (.node (aD P 3941 (Str.ofString "utėait") 3931 3943 (-1) 3933 3945 (-1) 3935) .nil .nil)))) (.node (o_123 P) (.node (o_187 P) (.node (aI 314) (.node (aF P 1944 570 1945 (Str.ofString "tum") 1939 1946 (-1) 1941 1947 (-1) 1943) (.node (o_1083 P) .nil .nil) .nil) (.node (aD P 3166 (Str.ofString "y") 3156 3168 (-1) 3158 3170 (-1) 3160) .nil .nil)) (.node (aD P 1353 (Str.ofString "aisi") 1344 1355 55 1345 1357 (-1) 1347) (.node (aI 698) .nil .nil) (.node (aI 954) .nil .nil))) (.node (o_251 P) (.node (aF P 1039 378 1040 (Str.ofString "kite") 1035 1041 33 1036 1042 (-1) 1038) (.node (aD P 2264 (Str.ofString "tumeis") 2255 2266 117 2256 2268 (-1) 2258) (.node (o_1147 P) .nil .nil) .nil) (.node (aD P 3474 (Str.ofString "ųj") 3464 3476 (-1) 3466 3478 (-1) 3468) .nil .nil)) (.node (aI 506) (.node (aF P 2847 762 2848 (Str.ofString "iatės") 2843 2849 161 2844 2850 (-1) 2846) .nil .nil) (.node (aF P 4082 1018 4083 (Str.ofString "ykšt") 4077 4084 (-1) 4079 4085 (-1) 4081) .nil .nil)))))))) (.node (boot_o_5 P) (.node (boot_o_9 P) (.node (o_17 P) (.node (o_33 P) (.node (o_65 P) (.node (o_129 P) (.node (o_257 P) (.node (aI 512) (.node (aF P 4112 1024 4113 (Str.ofString "dav") 4107 4114 (-1) 4109 4115 (-1) 4111) .nil .nil) .nil) (.node (aF P 2875 768 2876 (Str.ofString "otės") 2871 2877 152 2872 2878 (-1) 2874) .nil .nil)) (.node (aF P 1067 384 1068 (Str.ofString "ote") 1063 1069 8 1064 1070 (-1) 1066) (.node (aD P 2292 (Str.ofString "enimis") 2283 2294 121 2284 2296 (-1) 2286) (.node (o_1153 P) .nil .nil) .nil) (.node (aD P 3503 (Str.ofString "ok") 3493 3505 (-1) 3495 3507 (-1) 3497) .nil .nil))) (.node (o_193 P) (.node (aI 320) (.node (aF P 1973 576 1974 (Str.ofString "tumėm") 1969 1975 99 1970 1976 (-1) 1972) (.node (o_1089 P) .nil .nil) .nil) (.node (aD P 3195 (Str.ofString "ią") 3186 3197 185 3187 3199 (-1) 3189) .nil .nil)) (.node (aD P 1381 (Str.ofString "tumeisi") 1372 1383 57 1373 1385 (-1) 1375) (.node (aI 704) .nil .nil) (.node (aI 960) .nil .nil)))) (.node (o_97 P) (.node (o_161 P) (.node (aF P 618 288 619 (Str.ofString "uosna") 614 620 2 615 621 (-1) 617) (.node (aD P 1831 (Str.ofString "ėj") 1821 1833 (-1) 1823 1835 (-1) 1825) (.node (aD P 4276 (Str.ofString "uote") 4267 4278 (-1) 4269 4280 2 4270) .nil .nil) .nil) (.node (aI 800) .nil .nil)) (.node (aI 416) (.node (aF P 2427 672 2428 (Str.ofString "iems") 2423 2429 112 2424 2430 (-1) 2426) .nil .nil) (.node (aF P 3644 928 3645 (Str.ofString "dam") 3640 3646 23 3641 3647 (-1) 3643) .nil .nil))) (.node (o_225 P) (.node (aD P 932 (Str.ofString "uose") 923 934 24 924 936 (-1) 926) (.node (aI 608) (.node (o_1121 P) .nil .nil) .nil) (.node (aI 864) .nil .nil)) (.node (aF P 1516 480 1517 (Str.ofString "ąsi") 1512 1518 49 1513 1519 (-1) 1515) (.node (aD P 2740 (Str.ofString "iamės") 2731 2742 153 2732 2744 (-1) 2734) .nil .nil) (.node (aD P 3970 (Str.ofString "iant") 3961 3972 45 3962 3974 (-1) 3964) .nil .nil))))) (.node (o_49 P) (.node (o_81 P) (.node (o_145 P) (.node (o_273 P) (.node (aF P 1740 528 1741 (Str.ofString "inėti") 1736 1742 82 1737 1743 (-1) 1739) (.node (o_1041 P) .nil .nil) .nil) (.node (aD P 2965 (Str.ofString "at") 2955 2967 (-1) 2957 2969 (-1) 2959) .nil .nil)) (.node (aD P 1157 (Str.ofString "iai") 1148 1159 41 1149 1161 (-1) 1151) (.node (aI 656) (.node (o_1169 P) .nil .nil) .nil) (.node (aI 912) .nil .nil))) (.node (o_209 P) (.node (aF P 843 336 844 (Str.ofString "sime") 839 845 8 840 846 (-1) 842) (.node (aD P 2066 (Str.ofString "ėn") 2056 2068 (-1) 2058 2070 (-1) 2060) (.node (o_1105 P) .nil .nil) .nil) (.node (aI 848) .nil .nil)) (.node (aI 464) (.node (aF P 2651 720 2652 (Str.ofString "ys") 2647 2653 112 2648 2654 (-1) 2650) .nil .nil) (.node (aF P 3877 976 3878 (Str.ofString "iaus") 3873 3879 39 3874 3880 (-1) 3876) .nil .nil)))) (.node (o_113 P) (.node (o_177 P) (.node (aD P 708 (Str.ofString "enie") 699 710 9 700 712 (-1) 702) (.node (aI 560) (.node (aI 1072) .nil .nil) .nil) (.node (aF P 3104 816 3105 (Str.ofString "čiau") 3100 3106 179 3101 3107 (-1) 3103) .nil .nil)) (.node (aF P 1292 432 1293 (Str.ofString "esi") 1288 1294 49 1289 1295 (-1) 1291) (.node (aD P 2516 (Str.ofString "ėms") 2507 2518 112 2508 2520 (-1) 2510) .nil .nil) (.node (aD P 3737 (Str.ofString "iop") 3728 3739 29 3729 3741 (-1) 3731) .nil .nil))) (.node (o_241 P) (.node (aI 368) (.node (aF P 2203 624 2204 (Str.ofString "ies") 2199 2205 115 2200 2206 (-1) 2202) (.node (o_1137 P) .nil .nil) .nil) (.node (aF P 3410 880 3411 (Str.ofString "auj") 3405 3412 (-1) 3407 3413 (-1) 3409) .nil .nil)) (.node (aD P 1605 (Str.ofString "inti") 1596 1607 72 1597 1609 (-1) 1599) (.node (aI 752) .nil .nil) (.node (aI 1008) .nil .nil)))))) (.node (o_25 P) (.node (o_41 P) (.node (o_73 P) (.node (o_137 P) (.node (o_265 P) (.node (aD P 1717 (Str.ofString "ėti") 1708 1719 72 1709 1721 (-1) 1711) (.node (aI 1032) .nil .nil) .nil) (.node (aI 776) .nil .nil)) (.node (aI 392) (.node (aF P 2315 648 2316 (Str.ofString "iomis") 2311 2317 123 2312 2318 (-1) 2314) (.node (o_1161 P) .nil .nil) .nil) (.node (aF P 3527 904 3528 (Str.ofString "iuk") 3522 3529 (-1) 3524 3530 (-1) 3526) .nil .nil))) (.node (o_201 P) (.node (aD P 820 (Str.ofString "ame") 811 822 8 812 824 (-1) 814) (.node (aI 584) (.node (o_1097 P) .nil .nil) .nil) (.node (aF P 3220 840 3221 (Str.ofString "ę") 3215 3222 (-1) 3217 3223 (-1) 3219) .nil .nil)) (.node (aF P 1404 456 1405 (Str.ofString "osi") 1400 1406 49 1401 1407 (-1) 1403) (.node (aD P 2628 (Str.ofString "iaus") 2619 2630 145 2620 2632 (-1) 2622) .nil .nil) (.node (aD P 3853 (Str.ofString "iuos") 3844 3855 37 3845 3857 (-1) 3847) .nil .nil)))) (.node (o_105 P) (.node (o_169 P) (.node (aI 296) (.node (aF P 1856 552 1857 (Str.ofString "am") 1851 1858 (-1) 1853 1859 (-1) 1855) (.node (aF P 4299 1064 4300 (Str.ofString "okatės") 4295 4301 (-1) 4297 4302 8 4298) .nil .nil) .nil) (.node (aD P 3081 (Str.ofString "au") 3072 3083 177 3073 3085 (-1) 3075) .nil .nil)) (.node (aD P 1269 (Str.ofString "asi") 1260 1271 49 1261 1273 (-1) 1263) (.node (aI 680) .nil .nil) (.node (aI 936) .nil .nil))) (.node (o_233 P) (.node (aF P 955 360 956 (Str.ofString "yse") 951 957 8 952 958 (-1) 954) (.node (aD P 2180 (Str.ofString "ias") 2171 2182 113 2172 2184 (-1) 2174) (.node (o_1129 P) .nil .nil) .nil) (.node (aD P 3386 (Str.ofString "uoj") 3377 3388 4 3378 3390 (-1) 3380) .nil .nil)) (.node (aI 488) (.node (aF P 2763 744 2764 (Str.ofString "kimės") 2759 2765 155 2760 2766 (-1) 2762) .nil .nil) (.node (aF P 3994 1000 3995 (Str.ofString "int") 3989 3996 (-1) 3991 3997 (-1) 3993) .nil .nil))))) (.node (o_57 P) (.node (o_89 P) (.node (o_153 P) (.node (aD P 595 (Str.ofString "osna") 586 597 0 587 599 (-1) 589) (.node (aI 536) (.node (aI 1048) .nil .nil) .nil) (.node (aF P 2989 792 2990 (Str.ofString "it") 2984 2991 (-1) 2986 2992 (-1) 2988) .nil .nil)) (.node (aF P 1180 408 1181 (Str.ofString "tumei") 1176 1182 43 1177 1183 (-1) 1179) (.node (aD P 2404 (Str.ofString "ams") 2395 2406 112 2396 2408 (-1) 2398) (.node (o_1177 P) .nil .nil) .nil) (.node (aD P 3620 (Str.ofString "ėl") 3610 3622 (-1) 3612 3624 (-1) 3614) .nil .nil))) (.node (o_217 P) (.node (aI 344) (.node (aF P 2090 600 2091 (Str.ofString "io") 2086 2092 107 2087 2093 (-1) 2089) (.node (o_1113 P) .nil .nil) .nil) (.node (aF P 3294 856 3295 (Str.ofString "ing") 3289 3296 (-1) 3291 3297 (-1) 3293) .nil .nil)) (.node (aD P 1493 (Str.ofString "ausi") 1484 1495 65 1485 1497 (-1) 1487) (.node (aI 728) .nil .nil) (.node (aI 984) .nil .nil)))) (.node (o_121 P) (.node (o_185 P) (.node (aF P 731 312 732 (Str.ofString "ioje") 727 733 11 728 734 (-1) 730) (.node (aD P 1949 (Str.ofString "tum") 1939 1951 (-1) 1941 1953 (-1) 1943) (.node (aI 1080) .nil .nil) .nil) (.node (aI 824) .nil .nil)) (.node (aI 440) (.node (aF P 2539 696 2540 (Str.ofString "os") 2535 2541 112 2536 2542 (-1) 2538) .nil .nil) (.node (aF P 3762 952 3763 (Str.ofString "ies") 3757 3764 (-1) 3759 3765 (-1) 3761) .nil .nil))) (.node (o_249 P) (.node (aD P 1044 (Str.ofString "kite") 1035 1046 33 1036 1048 (-1) 1038) (.node (aI 632) (.node (o_1145 P) .nil .nil) .nil) (.node (aI 888) .nil .nil)) (.node (aF P 1628 504 1629 (Str.ofString "ioti") 1624 1630 75 1625 1631 (-1) 1627) (.node (aD P 2852 (Str.ofString "iatės") 2843 2854 161 2844 2856 (-1) 2846) .nil .nil) (.node (aD P 4087 (Str.ofString "ykšt") 4077 4089 (-1) 4079 4091 (-1) 4081) .nil .nil))))))) (.node (o_13 P) (.node (o_21 P) (.node (o_37 P) (.node (o_69 P) (.node (o_133 P) (.node (o_261 P) (.node (aF P 1684 516 1685 (Str.ofString "iauti") 1680 1686 79 1681 1687 (-1) 1683) (.node (aD P 4147 (Str.ofString "šv") 4137 4149 (-1) 4139 4151 (-1) 4141) .nil .nil) .nil) (.node (aD P 2908 (Str.ofString "tumėtės") 2899 2910 165 2900 2912 (-1) 2902) .nil .nil)) (.node (aD P 1100 (Str.ofString "ėte") 1091 1102 8 1092 1104 (-1) 1094) (.node (aI 644) (.node (o_1157 P) .nil .nil) .nil) (.node (aI 900) .nil .nil))) (.node (o_197 P) (.node (aF P 787 324 788 (Str.ofString "enyje") 783 789 15 784 790 (-1) 786) (.node (aD P 2008 (Str.ofString "on") 1998 2010 (-1) 2000 2012 (-1) 2002) (.node (o_1093 P) .nil .nil) .nil) (.node (aI 836) .nil .nil)) (.node (aI 452) (.node (aF P 2595 708 2596 (Str.ofString "us") 2591 2597 112 2592 2598 (-1) 2594) .nil .nil) (.node (aF P 3820 964 3821 (Str.ofString "ios") 3816 3822 35 3817 3823 (-1) 3819) .nil .nil)))) (.node (o_101 P) (.node (o_165 P) (.node (aD P 651 (Str.ofString "ysna") 642 653 0 643 655 (-1) 645) (.node (aI 548) (.node (aI 1060) .nil .nil) .nil) (.node (aF P 3047 804 3048 (Str.ofString "tumėt") 3043 3049 175 3044 3050 (-1) 3046) .nil .nil)) (.node (aF P 1236 420 1237 (Str.ofString "iumi") 1232 1238 47 1233 1239 (-1) 1235) (.node (aD P 2460 (Str.ofString "enims") 2451 2462 133 2452 2464 (-1) 2454) .nil .nil) (.node (aD P 3678 (Str.ofString "zgan") 3668 3680 (-1) 3670 3682 (-1) 3672) .nil .nil))) (.node (o_229 P) (.node (aI 356) (.node (aF P 2147 612 2148 (Str.ofString "s") 2142 2149 (-1) 2144 2150 (-1) 2146) (.node (o_1125 P) .nil .nil) .nil) (.node (aF P 3353 868 3354 (Str.ofString "oj") 3348 3355 (-1) 3350 3356 (-1) 3352) .nil .nil)) (.node (aD P 1549 (Str.ofString "ųsi") 1540 1551 49 1541 1553 (-1) 1543) (.node (aI 740) .nil .nil) (.node (aI 996) .nil .nil))))) (.node (o_53 P) (.node (o_85 P) (.node (o_149 P) (.node (aF P 562 276 563 (Str.ofString "a") 557 564 (-1) 559 565 (-1) 561) (.node (aD P 1773 (Str.ofString "ui") 1764 1775 40 1765 1777 (-1) 1767) (.node (aD P 4220 (Str.ofString "ėjime") 4211 4222 (-1) 4213 4224 3 4214) .nil .nil) .nil) (.node (aI 788) .nil .nil)) (.node (aI 404) (.node (aF P 2371 660 2372 (Str.ofString "asis") 2367 2373 117 2368 2374 (-1) 2370) (.node (o_1173 P) .nil .nil) .nil) (.node (aF P 3585 916 3586 (Str.ofString "iul") 3580 3587 (-1) 3582 3588 (-1) 3584) .nil .nil))) (.node (o_213 P) (.node (aD P 876 (Str.ofString "ėme") 867 878 8 868 880 (-1) 870) (.node (aI 596) (.node (o_1109 P) .nil .nil) .nil) (.node (aF P 3278 852 3279 (Str.ofString "ių") 3274 3280 191 3275 3281 (-1) 3277) .nil .nil)) (.node (aF P 1460 468 1461 (Str.ofString "siuosi") 1456 1462 63 1457 1463 (-1) 1459) (.node (aD P 2684 (Str.ofString "ąs") 2675 2686 112 2676 2688 (-1) 2678) .nil .nil) (.node (aD P 3911 (Str.ofString "iąs") 3902 3913 41 3903 3915 (-1) 3905) .nil .nil)))) (.node (o_117 P) (.node (o_181 P) (.node (aI 308) (.node (aF P 1914 564 1915 (Str.ofString "sim") 1910 1916 95 1911 1917 (-1) 1913) (.node (aD P 4370 (Str.ofString "č") 4361 4372 (-1) 4363 4374 1 4364) .nil .nil) .nil) (.node (aD P 3137 (Str.ofString "eniu") 3128 3139 181 3129 3141 (-1) 3131) .nil .nil)) (.node (aD P 1325 (Str.ofString "siesi") 1316 1327 53 1317 1329 (-1) 1319) (.node (aI 692) .nil .nil) (.node (aI 948) .nil .nil))) (.node (o_245 P) (.node (aF P 1011 372 1012 (Str.ofString "iate") 1007 1013 31 1008 1014 (-1) 1010) (.node (aD P 2236 (Str.ofString "ais") 2227 2238 117 2228 2240 (-1) 2230) (.node (o_1141 P) .nil .nil) .nil) (.node (aD P 3444 (Str.ofString "iąj") 3435 3446 9 3436 3448 (-1) 3438) .nil .nil)) (.node (aI 500) (.node (aF P 2819 756 2820 (Str.ofString "tumėmės") 2815 2821 159 2816 2822 (-1) 2818) .nil .nil) (.node (aF P 4052 1012 4053 (Str.ofString "yt") 4047 4054 (-1) 4049 4055 (-1) 4051) .nil .nil)))))) (.node (o_29 P) (.node (o_45 P) (.node (o_77 P) (.node (o_141 P) (.node (o_269 P) (.node (aI 524) (.node (aF P 4172 1036 4173 (Str.ofString "ę") 4167 4174 (-1) 4169 4175 (-1) 4171) .nil .nil) .nil) (.node (aF P 2931 780 2932 (Str.ofString "ūs") 2927 2933 112 2928 2934 (-1) 2930) .nil .nil)) (.node (aF P 1124 396 1125 (Str.ofString "i") 1119 1126 (-1) 1121 1127 (-1) 1123) (.node (aD P 2348 (Str.ofString "ėmis") 2339 2350 117 2340 2352 (-1) 2342) (.node (o_1165 P) .nil .nil) .nil) (.node (aD P 3560 (Str.ofString "učiuk") 3551 3562 16 3552 3564 (-1) 3554) .nil .nil))) (.node (o_205 P) (.node (aI 332) (.node (aF P 2032 588 2033 (Str.ofString "un") 2027 2034 (-1) 2029 2035 (-1) 2031) (.node (o_1101 P) .nil .nil) .nil) (.node (aD P 3254 (Str.ofString "enį") 3245 3256 189 3246 3258 (-1) 3248) .nil .nil)) (.node (aD P 1437 (Str.ofString "uosi") 1428 1439 60 1429 1441 (-1) 1431) (.node (aI 716) .nil .nil) (.node (aI 972) .nil .nil)))) (.node (o_109 P) (.node (o_173 P) (.node (aF P 675 300 676 (Str.ofString "e") 670 677 (-1) 672 678 (-1) 674) (.node (aD P 1890 (Str.ofString "iem") 1880 1892 (-1) 1882 1894 (-1) 1884) (.node (aD P 4332 (Str.ofString "uotės") 4323 4334 (-1) 4325 4336 2 4326) .nil .nil) .nil) (.node (aI 812) .nil .nil)) (.node (aI 428) (.node (aF P 2483 684 2484 (Str.ofString "ioms") 2479 2485 135 2480 2486 (-1) 2482) .nil .nil) (.node (aF P 3703 940 3704 (Str.ofString "esn") 3698 3705 (-1) 3700 3706 (-1) 3702) .nil .nil))) (.node (o_237 P) (.node (aD P 988 (Str.ofString "ėse") 979 990 8 980 992 (-1) 982) (.node (aI 620) (.node (o_1133 P) .nil .nil) .nil) (.node (aI 876) .nil .nil)) (.node (aF P 1572 492 1573 (Str.ofString "ti") 1568 1574 40 1569 1575 (-1) 1571) (.node (aD P 2796 (Str.ofString "omės") 2787 2798 152 2788 2800 (-1) 2790) .nil .nil) (.node (aD P 4028 (Str.ofString "uot") 4019 4030 49 4020 4032 (-1) 4022) .nil .nil))))) (.node (o_61 P) (.node (o_93 P) (.node (o_157 P) (.node (aI 284) (.node (aF P 1796 540 1797 (Str.ofString "eniui") 1792 1798 87 1793 1799 (-1) 1795) (.node (aF P 4243 1052 4244 (Str.ofString "okate") 4239 4245 (-1) 4241 4246 8 4242) .nil .nil) .nil) (.node (aD P 3023 (Str.ofString "ot") 3013 3025 (-1) 3015 3027 (-1) 3017) .nil .nil)) (.node (aD P 1213 (Str.ofString "imi") 1204 1215 40 1205 1217 (-1) 1207) (.node (aI 668) (.node (o_1181 P) .nil .nil) .nil) (.node (aI 924) .nil .nil))) (.node (o_221 P) (.node (aF P 899 348 900 (Str.ofString "ose") 895 901 8 896 902 (-1) 898) (.node (aD P 2123 (Str.ofString "ėjo") 2114 2125 107 2115 2127 (-1) 2117) (.node (o_1117 P) .nil .nil) .nil) (.node (aD P 3328 (Str.ofString "iaj") 3319 3330 1 3320 3332 (-1) 3322) .nil .nil)) (.node (aI 476) (.node (aF P 2707 732 2708 (Str.ofString "ės") 2703 2709 112 2704 2710 (-1) 2706) .nil .nil) (.node (aF P 3936 988 3937 (Str.ofString "utėait") 3931 3938 (-1) 3933 3939 (-1) 3935) .nil .nil)))) (.node (o_125 P) (.node (o_189 P) (.node (aD P 764 (Str.ofString "iuje") 755 766 13 756 768 (-1) 758) (.node (aI 572) (.node (o_1085 P) .nil .nil) .nil) (.node (aF P 3161 828 3162 (Str.ofString "y") 3156 3163 (-1) 3158 3164 (-1) 3160) .nil .nil)) (.node (aF P 1348 444 1349 (Str.ofString "aisi") 1344 1350 55 1345 1351 (-1) 1347) (.node (aD P 2572 (Str.ofString "uos") 2563 2574 140 2564 2576 (-1) 2566) .nil .nil) (.node (aD P 3796 (Str.ofString "iais") 3787 3798 33 3788 3800 (-1) 3790) .nil .nil))) (.node (o_253 P) (.node (aI 380) (.node (aF P 2259 636 2260 (Str.ofString "tumeis") 2255 2261 117 2256 2262 (-1) 2258) (.node (o_1149 P) .nil .nil) .nil) (.node (aF P 3469 892 3470 (Str.ofString "ųj") 3464 3471 (-1) 3466 3472 (-1) 3468) .nil .nil)) (.node (aD P 1661 (Str.ofString "iuoti") 1652 1663 77 1653 1665 (-1) 1655) (.node (aI 764) .nil .nil) (.node (aI 1020) .nil .nil))))))))) (.node (o_2 P) (.node (boot_o_4 P) (.node (boot_o_8 P) (.node (o_16 P) (.node (o_32 P) (.node (o_64 P) (.node (o_128 P) (.node (o_256 P) (.node (aD P 1675 (Str.ofString "auti") 1666 1677 72 1667 1679 (-1) 1669) (.node (aI 1023) .nil .nil) .nil) (.node (aI 767) .nil .nil)) (.node (aI 383) (.node (aF P 2273 639 2274 (Str.ofString "imis") 2269 2275 117 2270 2276 (-1) 2272) (.node (o_1152 P) .nil .nil) .nil) (.node (aF P 3483 895 3484 (Str.ofString "iųj") 3479 3485 12 3480 3486 (-1) 3482) .nil .nil))) (.node (o_192 P) (.node (aD P 778 (Str.ofString "yje") 769 780 8 770 782 (-1) 772) (.node (aI 575) (.node (o_1088 P) .nil .nil) .nil) (.node (aF P 3176 831 3177 (Str.ofString "ą") 3171 3178 (-1) 3173 3179 (-1) 3175) .nil .nil)) (.node (aF P 1362 447 1363 (Str.ofString "eisi") 1358 1364 55 1359 1365 (-1) 1361) (.node (aD P 2586 (Str.ofString "iuos") 2577 2588 142 2578 2590 (-1) 2580) .nil .nil) (.node (aD P 3811 (Str.ofString "os") 3801 3813 (-1) 3803 3815 (-1) 3805) .nil .nil)))) (.node (o_96 P) (.node (o_160 P) (.node (aI 287) (.node (aF P 1811 543 1812 (Str.ofString "oj") 1806 1813 (-1) 1808 1814 (-1) 1810) (.node (aF P 4257 1055 4258 (Str.ofString "aite") 4253 4259 (-1) 4255 4260 1 4256) .nil .nil) .nil) (.node (aD P 3038 (Str.ofString "ėt") 3028 3040 (-1) 3030 3042 (-1) 3032) .nil .nil)) (.node (aD P 1227 (Str.ofString "umi") 1218 1229 40 1219 1231 (-1) 1221) (.node (aI 671) .nil .nil) (.node (aI 927) .nil .nil))) (.node (o_224 P) (.node (aF P 913 351 914 (Str.ofString "iose") 909 915 24 910 916 (-1) 912) (.node (aD P 2137 (Str.ofString "uo") 2128 2139 107 2129 2141 (-1) 2131) (.node (o_1120 P) .nil .nil) .nil) (.node (aD P 3343 (Str.ofString "iej") 3333 3345 (-1) 3335 3347 (-1) 3337) .nil .nil)) (.node (aI 479) (.node (aF P 2721 735 2722 (Str.ofString "amės") 2717 2723 152 2718 2724 (-1) 2720) .nil .nil) (.node (aF P 3951 991 3952 (Str.ofString "ant") 3946 3953 (-1) 3948 3954 (-1) 3950) .nil .nil))))) (.node (o_48 P) (.node (o_80 P) (.node (o_144 P) (.node (o_272 P) (.node (aI 527) (.node (aF P 4186 1039 4187 (Str.ofString "ėję") 4182 4188 60 4183 4189 (-1) 4185) .nil .nil) .nil) (.node (aF P 2945 783 2946 (Str.ofString "tųs") 2941 2947 112 2942 2948 (-1) 2944) .nil .nil)) (.node (aF P 1138 399 1139 (Str.ofString "ai") 1134 1140 40 1135 1141 (-1) 1137) (.node (aD P 2362 (Str.ofString "enis") 2353 2364 117 2354 2366 (-1) 2356) (.node (o_1168 P) .nil .nil) .nil) (.node (aD P 3575 (Str.ofString "išk") 3565 3577 (-1) 3567 3579 (-1) 3569) .nil .nil))) (.node (o_208 P) (.node (aI 335) (.node (aF P 2046 591 2047 (Str.ofString "iun") 2042 2048 104 2043 2049 (-1) 2045) (.node (o_1104 P) .nil .nil) .nil) (.node (aD P 3269 (Str.ofString "ų") 3259 3271 (-1) 3261 3273 (-1) 3263) .nil .nil)) (.node (aD P 1451 (Str.ofString "iuosi") 1442 1453 62 1443 1455 (-1) 1445) (.node (aI 719) .nil .nil) (.node (aI 975) .nil .nil)))) (.node (o_112 P) (.node (o_176 P) (.node (aF P 689 303 690 (Str.ofString "ie") 685 691 8 686 692 (-1) 688) (.node (aD P 1905 (Str.ofString "im") 1895 1907 (-1) 1897 1909 (-1) 1899) (.node (aD P 4346 (Str.ofString "esiu") 4337 4348 (-1) 4339 4350 4 4340) .nil .nil) .nil) (.node (aI 815) .nil .nil)) (.node (aI 431) (.node (aF P 2497 687 2498 (Str.ofString "ums") 2493 2499 112 2494 2500 (-1) 2496) .nil .nil) (.node (aF P 3718 943 3719 (Str.ofString "op") 3713 3720 (-1) 3715 3721 (-1) 3717) .nil .nil))) (.node (o_240 P) (.node (aD P 1002 (Str.ofString "ate") 993 1004 8 994 1006 (-1) 996) (.node (aI 623) (.node (o_1136 P) .nil .nil) .nil) (.node (aI 879) .nil .nil)) (.node (aF P 1586 495 1587 (Str.ofString "enti") 1582 1588 72 1583 1589 (-1) 1585) (.node (aD P 2810 (Str.ofString "ėmės") 2801 2812 152 2802 2814 (-1) 2804) .nil .nil) (.node (aD P 4042 (Str.ofString "iuot") 4033 4044 50 4034 4046 (-1) 4036) .nil .nil)))))) (.node (o_24 P) (.node (o_40 P) (.node (o_72 P) (.node (o_136 P) (.node (o_264 P) (.node (aF P 1698 519 1699 (Str.ofString "yti") 1694 1700 72 1695 1701 (-1) 1697) (.node (aD P 4162 (Str.ofString "ykšč") 4152 4164 (-1) 4154 4166 (-1) 4156) .nil .nil) .nil) (.node (aD P 2922 (Str.ofString "įs") 2913 2924 112 2914 2926 (-1) 2916) .nil .nil)) (.node (aD P 1114 (Str.ofString "tumėte") 1105 1116 38 1106 1118 (-1) 1108) (.node (aI 647) (.node (o_1160 P) .nil .nil) .nil) (.node (aI 903) .nil .nil))) (.node (o_200 P) (.node (aF P 801 327 802 (Str.ofString "ėje") 797 803 8 798 804 (-1) 800) (.node (aD P 2022 (Str.ofString "ion") 2013 2024 102 2014 2026 (-1) 2016) (.node (o_1096 P) .nil .nil) .nil) (.node (aI 839) .nil .nil)) (.node (aI 455) (.node (aF P 2609 711 2610 (Str.ofString "aus") 2605 2611 144 2606 2612 (-1) 2608) .nil .nil) (.node (aF P 3834 967 3835 (Str.ofString "uos") 3830 3836 35 3831 3837 (-1) 3833) .nil .nil)))) (.node (o_104 P) (.node (o_168 P) (.node (aD P 665 (Str.ofString "ėsna") 656 667 0 657 669 (-1) 659) (.node (aI 551) (.node (aI 1063) .nil .nil) .nil) (.node (aF P 3062 807 3063 (Str.ofString "u") 3057 3064 (-1) 3059 3065 (-1) 3061) .nil .nil)) (.node (aF P 1250 423 1251 (Str.ofString "si") 1246 1252 40 1247 1253 (-1) 1249) (.node (aD P 2474 (Str.ofString "oms") 2465 2476 112 2466 2478 (-1) 2468) .nil .nil) (.node (aD P 3693 (Str.ofString "ain") 3683 3695 (-1) 3685 3697 (-1) 3687) .nil .nil))) (.node X (.node (aI 359) (.node (aF P 2161 615 2162 (Str.ofString "as") 2157 2163 112 2158 2164 (-1) 2160) (.node (o_1128 P) .nil .nil) .nil) (.node (aF P 3367 871 3368 (Str.ofString "ioj") 3363 3369 4 3364 3370 (-1) 3366) .nil .nil)) (.node (aD P 1563 (Str.ofString "tųsi") 1554 1565 70 1555 1567 (-1) 1557) (.node (aI 743) .nil .nil) (.node (aI 999) .nil .nil))))) (.node (o_56 P) (.node (o_88 P) (.node (o_152 P) (.node (aF P 576 279 577 (Str.ofString "ia") 572 578 0 573 579 (-1) 575) (.node (aD P 1787 (Str.ofString "iui") 1778 1789 86 1779 1791 (-1) 1781) (.node (aD P 4234 (Str.ofString "avime") 4225 4236 (-1) 4227 4238 6 4228) .nil .nil) .nil) (.node (aI 791) .nil .nil)) (.node (aI 407) (.node (aF P 2385 663 2386 (Str.ofString "ysis") 2381 2387 117 2382 2388 (-1) 2384) (.node (o_1176 P) .nil .nil) .nil) (.node (aF P 3600 919 3601 (Str.ofString "yl") 3595 3602 (-1) 3597 3603 (-1) 3599) .nil .nil))) (.node (o_216 P) (.node (aD P 890 (Str.ofString "tumėme") 881 892 22 882 894 (-1) 884) (.node (aI 599) (.node (o_1112 P) .nil .nil) .nil) (.node (aI 855) .nil .nil)) (.node (aF P 1474 471 1475 (Str.ofString "usi") 1470 1476 49 1471 1477 (-1) 1473) (.node (aD P 2698 (Str.ofString "iąs") 2689 2700 150 2690 2702 (-1) 2692) .nil .nil) (.node (aD P 3926 (Str.ofString "ęs") 3916 3928 (-1) 3918 3930 (-1) 3920) .nil .nil)))) (.node (o_120 P) (.node (o_184 P) (.node (aI 311) (.node (aF P 1929 567 1930 (Str.ofString "om") 1924 1931 (-1) 1926 1932 (-1) 1928) (.node (aD P 4384 (Str.ofString "dž") 4375 4386 (-1) 4377 4388 2 4378) .nil .nil) .nil) (.node (aD P 3151 (Str.ofString "siu") 3142 3153 181 3143 3155 (-1) 3145) .nil .nil)) (.node (aD P 1339 (Str.ofString "isi") 1330 1341 49 1331 1343 (-1) 1333) (.node (aI 695) .nil .nil) (.node (aI 951) .nil .nil))) (.node (o_248 P) (.node (aF P 1025 375 1026 (Str.ofString "ite") 1021 1027 8 1022 1028 (-1) 1024) (.node (aD P 2250 (Str.ofString "iais") 2241 2252 118 2242 2254 (-1) 2244) (.node (o_1144 P) .nil .nil) .nil) (.node (aD P 3459 (Str.ofString "ėj") 3449 3461 (-1) 3451 3463 (-1) 3453) .nil .nil)) (.node (aI 503) (.node (aF P 2833 759 2834 (Str.ofString "atės") 2829 2835 152 2830 2836 (-1) 2832) .nil .nil) (.node (aF P 4067 1015 4068 (Str.ofString "ėt") 4062 4069 (-1) 4064 4070 (-1) 4066) .nil .nil))))))) (.node (o_12 P) (.node (o_20 P) (.node (o_36 P) (.node (o_68 P) (.node (o_132 P) (.node (o_260 P) (.node (aI 515) (.node (aF P 4127 1027 4128 (Str.ofString "sv") 4122 4129 (-1) 4124 4130 (-1) 4126) .nil .nil) .nil) (.node (aF P 2889 771 2890 (Str.ofString "ėtės") 2885 2891 152 2886 2892 (-1) 2888) .nil .nil)) (.node (aF P 1081 387 1082 (Str.ofString "tute") 1077 1083 8 1078 1084 (-1) 1080) (.node (aD P 2306 (Str.ofString "omis") 2297 2308 117 2298 2310 (-1) 2300) (.node (o_1156 P) .nil .nil) .nil) (.node (aD P 3517 (Str.ofString "iok") 3508 3519 14 3509 3521 (-1) 3511) .nil .nil))) (.node (o_196 P) (.node (aI 323) (.node (aF P 1988 579 1989 (Str.ofString "an") 1983 1990 (-1) 1985 1991 (-1) 1987) (.node (o_1092 P) .nil .nil) .nil) (.node (aD P 3210 (Str.ofString "ė") 3200 3212 (-1) 3202 3214 (-1) 3204) .nil .nil)) (.node (aD P 1395 (Str.ofString "uisi") 1386 1397 55 1387 1399 (-1) 1389) (.node (aI 707) .nil .nil) (.node (aI 963) .nil .nil)))) (.node (o_100 P) (.node (o_164 P) (.node (aF P 632 291 633 (Str.ofString "iuosna") 628 634 4 629 635 (-1) 631) (.node (aD P 1846 (Str.ofString "k") 1836 1848 (-1) 1838 1850 (-1) 1840) (.node (aD P 4290 (Str.ofString "asius") 4281 4292 (-1) 4283 4294 5 4284) .nil .nil) .nil) (.node (aI 803) .nil .nil)) (.node (aI 419) (.node (aF P 2441 675 2442 (Str.ofString "ims") 2437 2443 112 2438 2444 (-1) 2440) .nil .nil) (.node (aF P 3658 931 3659 (Str.ofString "jam") 3654 3660 23 3655 3661 (-1) 3657) .nil .nil))) (.node (o_228 P) (.node (aD P 946 (Str.ofString "iuose") 937 948 26 938 950 (-1) 940) (.node (aI 611) (.node (o_1124 P) .nil .nil) .nil) (.node (aI 867) .nil .nil)) (.node (aF P 1530 483 1531 (Str.ofString "ėsi") 1526 1532 49 1527 1533 (-1) 1529) (.node (aD P 2754 (Str.ofString "imės") 2745 2756 152 2746 2758 (-1) 2748) .nil .nil) (.node (aD P 3984 (Str.ofString "siant") 3975 3986 46 3976 3988 (-1) 3978) .nil .nil))))) (.node (o_52 P) (.node (o_84 P) (.node (o_148 P) (.node (aI 275) (.node (aF P 1754 531 1755 (Str.ofString "terėti") 1750 1756 82 1751 1757 (-1) 1753) (.node (aF P 4201 1043 4202 (Str.ofString "ojime") 4197 4203 (-1) 4199 4204 7 4200) .nil .nil) .nil) (.node (aD P 2979 (Str.ofString "iat") 2970 2981 170 2971 2983 (-1) 2973) .nil .nil)) (.node (aD P 1171 (Str.ofString "ei") 1162 1173 40 1163 1175 (-1) 1165) (.node (aI 659) (.node (o_1172 P) .nil .nil) .nil) (.node (aI 915) .nil .nil))) (.node (o_212 P) (.node (aF P 857 339 858 (Str.ofString "ome") 853 859 8 854 860 (-1) 856) (.node (aD P 2081 (Str.ofString "o") 2071 2083 (-1) 2073 2085 (-1) 2075) (.node (o_1108 P) .nil .nil) .nil) (.node (aI 851) .nil .nil)) (.node (aI 467) (.node (aF P 2665 723 2666 (Str.ofString "enys") 2661 2667 148 2662 2668 (-1) 2664) .nil .nil) (.node (aF P 3892 979 3893 (Str.ofString "ąs") 3887 3894 (-1) 3889 3895 (-1) 3891) .nil .nil)))) (.node (o_116 P) (.node (o_180 P) (.node (aD P 722 (Str.ofString "oje") 713 724 8 714 726 (-1) 716) (.node (aI 563) (.node (o_1076 P) .nil .nil) .nil) (.node (aF P 3118 819 3119 (Str.ofString "iu") 3114 3120 177 3115 3121 (-1) 3117) .nil .nil)) (.node (aF P 1306 435 1307 (Str.ofString "iesi") 1302 1308 52 1303 1309 (-1) 1305) (.node (aD P 2530 (Str.ofString "ens") 2521 2532 112 2522 2534 (-1) 2524) .nil .nil) (.node (aD P 3752 (Str.ofString "ias") 3742 3754 (-1) 3744 3756 (-1) 3746) .nil .nil))) (.node (o_244 P) (.node (aI 371) (.node (aF P 2217 627 2218 (Str.ofString "is") 2213 2219 112 2214 2220 (-1) 2216) (.node (o_1140 P) .nil .nil) .nil) (.node (aF P 3425 883 3426 (Str.ofString "ąj") 3420 3427 (-1) 3422 3428 (-1) 3424) .nil .nil)) (.node (aD P 1619 (Str.ofString "oti") 1610 1621 72 1611 1623 (-1) 1613) (.node (aI 755) .nil .nil) (.node (aI 1011) .nil .nil)))))) (.node (o_28 P) (.node (o_44 P) (.node (o_76 P) (.node (o_140 P) (.node (o_268 P) (.node (aD P 1731 (Str.ofString "telėti") 1722 1733 82 1723 1735 (-1) 1725) (.node (aI 1035) .nil .nil) .nil) (.node (aI 779) .nil .nil)) (.node (aI 395) (.node (aF P 2329 651 2330 (Str.ofString "umis") 2325 2331 117 2326 2332 (-1) 2328) (.node (o_1164 P) .nil .nil) .nil) (.node (aF P 3541 907 3542 (Str.ofString "uliuk") 3537 3543 16 3538 3544 (-1) 3540) .nil .nil))) (.node (o_204 P) (.node (aD P 834 (Str.ofString "iame") 825 836 18 826 838 (-1) 828) (.node (aI 587) (.node (o_1100 P) .nil .nil) .nil) (.node (aF P 3235 843 3236 (Str.ofString "į") 3230 3237 (-1) 3232 3238 (-1) 3234) .nil .nil)) (.node (aF P 1418 459 1419 (Str.ofString "ėjosi") 1414 1420 60 1415 1421 (-1) 1417) (.node (aD P 2642 (Str.ofString "ius") 2633 2644 144 2634 2646 (-1) 2636) .nil .nil) (.node (aD P 3868 (Str.ofString "aus") 3858 3870 (-1) 3860 3872 (-1) 3862) .nil .nil)))) (.node (o_108 P) (.node (o_172 P) (.node (aI 299) (.node (aF P 1870 555 1871 (Str.ofString "iam") 1866 1872 92 1867 1873 (-1) 1869) (.node (aF P 4313 1067 4314 (Str.ofString "aitės") 4309 4315 (-1) 4311 4316 1 4312) .nil .nil) .nil) (.node (aD P 3095 (Str.ofString "iau") 3086 3097 178 3087 3099 (-1) 3089) .nil .nil)) (.node (aD P 1283 (Str.ofString "iasi") 1274 1285 50 1275 1287 (-1) 1277) (.node (aI 683) .nil .nil) (.node (aI 939) .nil .nil))) (.node (o_236 P) (.node (aF P 969 363 970 (Str.ofString "enyse") 965 971 28 966 972 (-1) 968) (.node (aD P 2194 (Str.ofString "es") 2185 2196 112 2186 2198 (-1) 2188) (.node (o_1132 P) .nil .nil) .nil) (.node (aD P 3400 (Str.ofString "iuoj") 3391 3402 6 3392 3404 (-1) 3394) .nil .nil)) (.node (aI 491) (.node (aF P 2777 747 2778 (Str.ofString "simės") 2773 2779 155 2774 2780 (-1) 2776) .nil .nil) (.node (aF P 4009 1003 4010 (Str.ofString "ot") 4004 4011 (-1) 4006 4012 (-1) 4008) .nil .nil))))) (.node (o_60 P) (.node (o_92 P) (.node (o_156 P) (.node (aD P 609 (Str.ofString "iosna") 600 611 2 601 613 (-1) 603) (.node (aI 539) (.node (aI 1051) .nil .nil) .nil) (.node (aF P 3003 795 3004 (Str.ofString "sit") 2999 3005 172 3000 3006 (-1) 3002) .nil .nil)) (.node (aF P 1194 411 1195 (Str.ofString "ki") 1190 1196 40 1191 1197 (-1) 1193) (.node (aD P 2418 (Str.ofString "iams") 2409 2420 130 2410 2422 (-1) 2412) (.node (o_1180 P) .nil .nil) .nil) (.node (aD P 3635 (Str.ofString "am") 3625 3637 (-1) 3627 3639 (-1) 3629) .nil .nil))) (.node (o_220 P) (.node (aI 347) (.node (aF P 2104 603 2105 (Str.ofString "enio") 2100 2106 108 2101 2107 (-1) 2103) (.node (o_1116 P) .nil .nil) .nil) (.node (aF P 3309 859 3310 (Str.ofString "aj") 3304 3311 (-1) 3306 3312 (-1) 3308) .nil .nil)) (.node (aD P 1507 (Str.ofString "čiausi") 1498 1509 66 1499 1511 (-1) 1501) (.node (aI 731) .nil .nil) (.node (aI 987) .nil .nil)))) (.node (o_124 P) (.node (o_188 P) (.node (aF P 745 315 746 (Str.ofString "uje") 741 747 8 742 748 (-1) 744) (.node (aD P 1964 (Str.ofString "ėm") 1954 1966 (-1) 1956 1968 (-1) 1958) (.node (o_1084 P) .nil .nil) .nil) (.node (aI 827) .nil .nil)) (.node (aI 443) (.node (aF P 2553 699 2554 (Str.ofString "ios") 2549 2555 140 2550 2556 (-1) 2552) .nil .nil) (.node (aF P 3777 955 3778 (Str.ofString "ais") 3772 3779 (-1) 3774 3780 (-1) 3776) .nil .nil))) (.node (o_252 P) (.node (aD P 1058 (Str.ofString "site") 1049 1060 33 1050 1062 (-1) 1052) (.node (aI 635) (.node (o_1148 P) .nil .nil) .nil) (.node (aI 891) .nil .nil)) (.node (aF P 1642 507 1643 (Str.ofString "uoti") 1638 1644 75 1639 1645 (-1) 1641) (.node (aD P 2866 (Str.ofString "sitės") 2857 2868 152 2858 2870 (-1) 2860) .nil .nil) (.node (aD P 4102 (Str.ofString "iau") 4092 4104 (-1) 4094 4106 (-1) 4096) .nil .nil)))))))) (.node (boot_o_6 P) (.node (boot_o_10 P) (.node (o_18 P) (.node (o_34 P) (.node (o_66 P) (.node (o_130 P) (.node (o_258 P) (.node (aF P 1670 513 1671 (Str.ofString "auti") 1666 1672 72 1667 1673 (-1) 1669) (.node (aD P 4132 (Str.ofString "sv") 4122 4134 (-1) 4124 4136 (-1) 4126) .nil .nil) .nil) (.node (aD P 2894 (Str.ofString "ėtės") 2885 2896 152 2886 2898 (-1) 2888) .nil .nil)) (.node (aD P 1086 (Str.ofString "tute") 1077 1088 8 1078 1090 (-1) 1080) (.node (aI 641) (.node (o_1154 P) .nil .nil) .nil) (.node (aI 897) .nil .nil))) (.node (o_194 P) (.node (aF P 773 321 774 (Str.ofString "yje") 769 775 8 770 776 (-1) 772) (.node (aD P 1993 (Str.ofString "an") 1983 1995 (-1) 1985 1997 (-1) 1987) (.node (o_1090 P) .nil .nil) .nil) (.node (aI 833) .nil .nil)) (.node (aI 449) (.node (aF P 2581 705 2582 (Str.ofString "iuos") 2577 2583 142 2578 2584 (-1) 2580) .nil .nil) (.node (aF P 3806 961 3807 (Str.ofString "os") 3801 3808 (-1) 3803 3809 (-1) 3805) .nil .nil)))) (.node (o_98 P) (.node (o_162 P) (.node (aD P 637 (Str.ofString "iuosna") 628 639 4 629 641 (-1) 631) (.node (aI 545) (.node (aI 1057) .nil .nil) .nil) (.node (aF P 3033 801 3034 (Str.ofString "ėt") 3028 3035 (-1) 3030 3036 (-1) 3032) .nil .nil)) (.node (aF P 1222 417 1223 (Str.ofString "umi") 1218 1224 40 1219 1225 (-1) 1221) (.node (aD P 2446 (Str.ofString "ims") 2437 2448 112 2438 2450 (-1) 2440) .nil .nil) (.node (aD P 3663 (Str.ofString "jam") 3654 3665 23 3655 3667 (-1) 3657) .nil .nil))) (.node (o_226 P) (.node (aI 353) (.node (aF P 2132 609 2133 (Str.ofString "uo") 2128 2134 107 2129 2135 (-1) 2131) (.node (o_1122 P) .nil .nil) .nil) (.node (aF P 3338 865 3339 (Str.ofString "iej") 3333 3340 (-1) 3335 3341 (-1) 3337) .nil .nil)) (.node (aD P 1535 (Str.ofString "ėsi") 1526 1537 49 1527 1539 (-1) 1529) (.node (aI 737) .nil .nil) (.node (aI 993) .nil .nil))))) (.node (o_50 P) (.node (o_82 P) (.node (o_146 P) (.node (o_274 P) (.node (aD P 1759 (Str.ofString "terėti") 1750 1761 82 1751 1763 (-1) 1753) (.node (aD P 4206 (Str.ofString "ojime") 4197 4208 (-1) 4199 4210 7 4200) .nil .nil) .nil) (.node (aI 785) .nil .nil)) (.node (aI 401) (.node (aF P 2357 657 2358 (Str.ofString "enis") 2353 2359 117 2354 2360 (-1) 2356) (.node (o_1170 P) .nil .nil) .nil) (.node (aF P 3570 913 3571 (Str.ofString "išk") 3565 3572 (-1) 3567 3573 (-1) 3569) .nil .nil))) (.node (o_210 P) (.node (aD P 862 (Str.ofString "ome") 853 864 8 854 866 (-1) 856) (.node (aI 593) (.node (o_1106 P) .nil .nil) .nil) (.node (aF P 3264 849 3265 (Str.ofString "ų") 3259 3266 (-1) 3261 3267 (-1) 3263) .nil .nil)) (.node (aF P 1446 465 1447 (Str.ofString "iuosi") 1442 1448 62 1443 1449 (-1) 1445) (.node (aD P 2670 (Str.ofString "enys") 2661 2672 148 2662 2674 (-1) 2664) .nil .nil) (.node (aD P 3897 (Str.ofString "ąs") 3887 3899 (-1) 3889 3901 (-1) 3891) .nil .nil)))) (.node (o_114 P) (.node (o_178 P) (.node (aI 305) (.node (aF P 1900 561 1901 (Str.ofString "im") 1895 1902 (-1) 1897 1903 (-1) 1899) (.node (aF P 4341 1073 4342 (Str.ofString "esiu") 4337 4343 (-1) 4339 4344 4 4340) .nil .nil) .nil) (.node (aD P 3123 (Str.ofString "iu") 3114 3125 177 3115 3127 (-1) 3117) .nil .nil)) (.node (aD P 1311 (Str.ofString "iesi") 1302 1313 52 1303 1315 (-1) 1305) (.node (aI 689) .nil .nil) (.node (aI 945) .nil .nil))) (.node (o_242 P) (.node (aF P 997 369 998 (Str.ofString "ate") 993 999 8 994 1000 (-1) 996) (.node (aD P 2222 (Str.ofString "is") 2213 2224 112 2214 2226 (-1) 2216) (.node (o_1138 P) .nil .nil) .nil) (.node (aD P 3430 (Str.ofString "ąj") 3420 3432 (-1) 3422 3434 (-1) 3424) .nil .nil)) (.node (aI 497) (.node (aF P 2805 753 2806 (Str.ofString "ėmės") 2801 2807 152 2802 2808 (-1) 2804) .nil .nil) (.node (aF P 4037 1009 4038 (Str.ofString "iuot") 4033 4039 50 4034 4040 (-1) 4036) .nil .nil)))))) (.node (o_26 P) (.node (o_42 P) (.node (o_74 P) (.node (o_138 P) (.node (o_266 P) (.node (aI 521) (.node (aF P 4157 1033 4158 (Str.ofString "ykšč") 4152 4159 (-1) 4154 4160 (-1) 4156) .nil .nil) .nil) (.node (aF P 2917 777 2918 (Str.ofString "įs") 2913 2919 112 2914 2920 (-1) 2916) .nil .nil)) (.node (aF P 1109 393 1110 (Str.ofString "tumėte") 1105 1111 38 1106 1112 (-1) 1108) (.node (aD P 2334 (Str.ofString "umis") 2325 2336 117 2326 2338 (-1) 2328) (.node (o_1162 P) .nil .nil) .nil) (.node (aD P 3546 (Str.ofString "uliuk") 3537 3548 16 3538 3550 (-1) 3540) .nil .nil))) (.node (o_202 P) (.node (aI 329) (.node (aF P 2017 585 2018 (Str.ofString "ion") 2013 2019 102 2014 2020 (-1) 2016) (.node (o_1098 P) .nil .nil) .nil) (.node (aD P 3240 (Str.ofString "į") 3230 3242 (-1) 3232 3244 (-1) 3234) .nil .nil)) (.node (aD P 1423 (Str.ofString "ėjosi") 1414 1425 60 1415 1427 (-1) 1417) (.node (aI 713) .nil .nil) (.node (aI 969) .nil .nil)))) (.node (o_106 P) (.node (o_170 P) (.node (aF P 660 297 661 (Str.ofString "ėsna") 656 662 0 657 663 (-1) 659) (.node (aD P 1875 (Str.ofString "iam") 1866 1877 92 1867 1879 (-1) 1869) (.node (aD P 4318 (Str.ofString "aitės") 4309 4320 (-1) 4311 4322 1 4312) .nil .nil) .nil) (.node (aI 809) .nil .nil)) (.node (aI 425) (.node (aF P 2469 681 2470 (Str.ofString "oms") 2465 2471 112 2466 2472 (-1) 2468) .nil .nil) (.node (aF P 3688 937 3689 (Str.ofString "ain") 3683 3690 (-1) 3685 3691 (-1) 3687) .nil .nil))) (.node (o_234 P) (.node (aD P 974 (Str.ofString "enyse") 965 976 28 966 978 (-1) 968) (.node (aI 617) (.node (o_1130 P) .nil .nil) .nil) (.node (aI 873) .nil .nil)) (.node (aF P 1558 489 1559 (Str.ofString "tųsi") 1554 1560 70 1555 1561 (-1) 1557) (.node (aD P 2782 (Str.ofString "simės") 2773 2784 155 2774 2786 (-1) 2776) .nil .nil) (.node (aD P 4014 (Str.ofString "ot") 4004 4016 (-1) 4006 4018 (-1) 4008) .nil .nil))))) (.node (o_58 P) (.node (o_90 P) (.node (o_154 P) (.node (aI 281) (.node (aF P 1782 537 1783 (Str.ofString "iui") 1778 1784 86 1779 1785 (-1) 1781) (.node (aF P 4229 1049 4230 (Str.ofString "avime") 4225 4231 (-1) 4227 4232 6 4228) .nil .nil) .nil) (.node (aD P 3008 (Str.ofString "sit") 2999 3010 172 3000 3012 (-1) 3002) .nil .nil)) (.node (aD P 1199 (Str.ofString "ki") 1190 1201 40 1191 1203 (-1) 1193) (.node (aI 665) (.node (o_1178 P) .nil .nil) .nil) (.node (aI 921) .nil .nil))) (.node (o_218 P) (.node (aF P 885 345 886 (Str.ofString "tumėme") 881 887 22 882 888 (-1) 884) (.node (aD P 2109 (Str.ofString "enio") 2100 2111 108 2101 2113 (-1) 2103) (.node (o_1114 P) .nil .nil) .nil) (.node (aD P 3314 (Str.ofString "aj") 3304 3316 (-1) 3306 3318 (-1) 3308) .nil .nil)) (.node (aI 473) (.node (aF P 2693 729 2694 (Str.ofString "iąs") 2689 2695 150 2690 2696 (-1) 2692) .nil .nil) (.node (aF P 3921 985 3922 (Str.ofString "ęs") 3916 3923 (-1) 3918 3924 (-1) 3920) .nil .nil)))) (.node (o_122 P) (.node (o_186 P) (.node (aD P 750 (Str.ofString "uje") 741 752 8 742 754 (-1) 744) (.node (aI 569) (.node (aF P 4379 1081 4380 (Str.ofString "dž") 4375 4381 (-1) 4377 4382 2 4378) .nil .nil) .nil) (.node (aF P 3146 825 3147 (Str.ofString "siu") 3142 3148 181 3143 3149 (-1) 3145) .nil .nil)) (.node (aF P 1334 441 1335 (Str.ofString "isi") 1330 1336 49 1331 1337 (-1) 1333) (.node (aD P 2558 (Str.ofString "ios") 2549 2560 140 2550 2562 (-1) 2552) .nil .nil) (.node (aD P 3782 (Str.ofString "ais") 3772 3784 (-1) 3774 3786 (-1) 3776) .nil .nil))) (.node (o_250 P) (.node (aI 377) (.node (aF P 2245 633 2246 (Str.ofString "iais") 2241 2247 118 2242 2248 (-1) 2244) (.node (o_1146 P) .nil .nil) .nil) (.node (aF P 3454 889 3455 (Str.ofString "ėj") 3449 3456 (-1) 3451 3457 (-1) 3453) .nil .nil)) (.node (aD P 1647 (Str.ofString "uoti") 1638 1649 75 1639 1651 (-1) 1641) (.node (aI 761) .nil .nil) (.node (aI 1017) .nil .nil))))))) (.node (o_14 P) (.node (o_22 P) (.node (o_38 P) (.node (o_70 P) (.node (o_134 P) (.node (o_262 P) (.node (aD P 1703 (Str.ofString "yti") 1694 1705 72 1695 1707 (-1) 1697) (.node (aI 1029) .nil .nil) .nil) (.node (aI 773) .nil .nil)) (.node (aI 389) (.node (aF P 2301 645 2302 (Str.ofString "omis") 2297 2303 117 2298 2304 (-1) 2300) (.node (o_1158 P) .nil .nil) .nil) (.node (aF P 3512 901 3513 (Str.ofString "iok") 3508 3514 14 3509 3515 (-1) 3511) .nil .nil))) (.node (o_198 P) (.node (aD P 806 (Str.ofString "ėje") 797 808 8 798 810 (-1) 800) (.node (aI 581) (.node (o_1094 P) .nil .nil) .nil) (.node (aF P 3205 837 3206 (Str.ofString "ė") 3200 3207 (-1) 3202 3208 (-1) 3204) .nil .nil)) (.node (aF P 1390 453 1391 (Str.ofString "uisi") 1386 1392 55 1387 1393 (-1) 1389) (.node (aD P 2614 (Str.ofString "aus") 2605 2616 144 2606 2618 (-1) 2608) .nil .nil) (.node (aD P 3839 (Str.ofString "uos") 3830 3841 35 3831 3843 (-1) 3833) .nil .nil)))) (.node (o_102 P) (.node (o_166 P) (.node (aI 293) (.node (aF P 1841 549 1842 (Str.ofString "k") 1836 1843 (-1) 1838 1844 (-1) 1840) (.node (aF P 4285 1061 4286 (Str.ofString "asius") 4281 4287 (-1) 4283 4288 5 4284) .nil .nil) .nil) (.node (aD P 3067 (Str.ofString "u") 3057 3069 (-1) 3059 3071 (-1) 3061) .nil .nil)) (.node (aD P 1255 (Str.ofString "si") 1246 1257 40 1247 1259 (-1) 1249) (.node (aI 677) .nil .nil) (.node (aI 933) .nil .nil))) (.node (o_230 P) (.node (aF P 941 357 942 (Str.ofString "iuose") 937 943 26 938 944 (-1) 940) (.node (aD P 2166 (Str.ofString "as") 2157 2168 112 2158 2170 (-1) 2160) (.node (o_1126 P) .nil .nil) .nil) (.node (aD P 3372 (Str.ofString "ioj") 3363 3374 4 3364 3376 (-1) 3366) .nil .nil)) (.node (aI 485) (.node (aF P 2749 741 2750 (Str.ofString "imės") 2745 2751 152 2746 2752 (-1) 2748) .nil .nil) (.node (aF P 3979 997 3980 (Str.ofString "siant") 3975 3981 46 3976 3982 (-1) 3978) .nil .nil))))) (.node (o_54 P) (.node (o_86 P) (.node (o_150 P) (.node (aD P 581 (Str.ofString "ia") 572 583 0 573 585 (-1) 575) (.node (aI 533) (.node (aI 1045) .nil .nil) .nil) (.node (aF P 2974 789 2975 (Str.ofString "iat") 2970 2976 170 2971 2977 (-1) 2973) .nil .nil)) (.node (aF P 1166 405 1167 (Str.ofString "ei") 1162 1168 40 1163 1169 (-1) 1165) (.node (aD P 2390 (Str.ofString "ysis") 2381 2392 117 2382 2394 (-1) 2384) (.node (o_1174 P) .nil .nil) .nil) (.node (aD P 3605 (Str.ofString "yl") 3595 3607 (-1) 3597 3609 (-1) 3599) .nil .nil))) (.node (o_214 P) (.node (aI 341) (.node (aF P 2076 597 2077 (Str.ofString "o") 2071 2078 (-1) 2073 2079 (-1) 2075) (.node (o_1110 P) .nil .nil) .nil) (.node (o_854 P) .nil .nil)) (.node (aD P 1479 (Str.ofString "usi") 1470 1481 49 1471 1483 (-1) 1473) (.node (aI 725) .nil .nil) (.node (aI 981) .nil .nil)))) (.node (o_118 P) (.node (o_182 P) (.node (aF P 717 309 718 (Str.ofString "oje") 713 719 8 714 720 (-1) 716) (.node (aD P 1934 (Str.ofString "om") 1924 1936 (-1) 1926 1938 (-1) 1928) (.node (aI 1077) .nil .nil) .nil) (.node (aI 821) .nil .nil)) (.node (aI 437) (.node (aF P 2525 693 2526 (Str.ofString "ens") 2521 2527 112 2522 2528 (-1) 2524) .nil .nil) (.node (aF P 3747 949 3748 (Str.ofString "ias") 3742 3749 (-1) 3744 3750 (-1) 3746) .nil .nil))) (.node (o_246 P) (.node (aD P 1030 (Str.ofString "ite") 1021 1032 8 1022 1034 (-1) 1024) (.node (aI 629) (.node (o_1142 P) .nil .nil) .nil) (.node (aI 885) .nil .nil)) (.node (aF P 1614 501 1615 (Str.ofString "oti") 1610 1616 72 1611 1617 (-1) 1613) (.node (aD P 2838 (Str.ofString "atės") 2829 2840 152 2830 2842 (-1) 2832) .nil .nil) (.node (aD P 4072 (Str.ofString "ėt") 4062 4074 (-1) 4064 4076 (-1) 4066) .nil .nil)))))) (.node (o_30 P) (.node (o_46 P) (.node (o_78 P) (.node (o_142 P) (.node (o_270 P) (.node (aF P 1726 525 1727 (Str.ofString "telėti") 1722 1728 82 1723 1729 (-1) 1725) (.node (aD P 4191 (Str.ofString "ėję") 4182 4193 60 4183 4195 (-1) 4185) .nil .nil) .nil) (.node (aD P 2950 (Str.ofString "tųs") 2941 2952 112 2942 2954 (-1) 2944) .nil .nil)) (.node (aD P 1143 (Str.ofString "ai") 1134 1145 40 1135 1147 (-1) 1137) (.node (aI 653) (.node (o_1166 P) .nil .nil) .nil) (.node (aI 909) .nil .nil))) (.node (o_206 P) (.node (aF P 829 333 830 (Str.ofString "iame") 825 831 18 826 832 (-1) 828) (.node (aD P 2051 (Str.ofString "iun") 2042 2053 104 2043 2055 (-1) 2045) (.node (o_1102 P) .nil .nil) .nil) (.node (aI 845) .nil .nil)) (.node (aI 461) (.node (aF P 2637 717 2638 (Str.ofString "ius") 2633 2639 144 2634 2640 (-1) 2636) .nil .nil) (.node (aF P 3863 973 3864 (Str.ofString "aus") 3858 3865 (-1) 3860 3866 (-1) 3862) .nil .nil)))) (.node (o_110 P) (.node (o_174 P) (.node (aD P 694 (Str.ofString "ie") 685 696 8 686 698 (-1) 688) (.node (aI 557) (.node (aI 1069) .nil .nil) .nil) (.node (aF P 3090 813 3091 (Str.ofString "iau") 3086 3092 178 3087 3093 (-1) 3089) .nil .nil)) (.node (aF P 1278 429 1279 (Str.ofString "iasi") 1274 1280 50 1275 1281 (-1) 1277) (.node (aD P 2502 (Str.ofString "ums") 2493 2504 112 2494 2506 (-1) 2496) .nil .nil) (.node (aD P 3723 (Str.ofString "op") 3713 3725 (-1) 3715 3727 (-1) 3717) .nil .nil))) (.node (o_238 P) (.node (aI 365) (.node (aF P 2189 621 2190 (Str.ofString "es") 2185 2191 112 2186 2192 (-1) 2188) (.node (o_1134 P) .nil .nil) .nil) (.node (aF P 3395 877 3396 (Str.ofString "iuoj") 3391 3397 6 3392 3398 (-1) 3394) .nil .nil)) (.node (aD P 1591 (Str.ofString "enti") 1582 1593 72 1583 1595 (-1) 1585) (.node (aI 749) .nil .nil) (.node (aI 1005) .nil .nil))))) (.node (o_62 P) (.node (o_94 P) (.node (o_158 P) (.node (aF P 604 285 605 (Str.ofString "iosna") 600 606 2 601 607 (-1) 603) (.node (aD P 1816 (Str.ofString "oj") 1806 1818 (-1) 1808 1820 (-1) 1810) (.node (aD P 4262 (Str.ofString "aite") 4253 4264 (-1) 4255 4266 1 4256) .nil .nil) .nil) (.node (aI 797) .nil .nil)) (.node (aI 413) (.node (aF P 2413 669 2414 (Str.ofString "iams") 2409 2415 130 2410 2416 (-1) 2412) (.node (o_1182 P) .nil .nil) .nil) (.node (aF P 3630 925 3631 (Str.ofString "am") 3625 3632 (-1) 3627 3633 (-1) 3629) .nil .nil))) (.node (o_222 P) (.node (aD P 918 (Str.ofString "iose") 909 920 24 910 922 (-1) 912) (.node (aI 605) (.node (o_1118 P) .nil .nil) .nil) (.node (aI 861) .nil .nil)) (.node (aF P 1502 477 1503 (Str.ofString "čiausi") 1498 1504 66 1499 1505 (-1) 1501) (.node (aD P 2726 (Str.ofString "amės") 2717 2728 152 2718 2730 (-1) 2720) .nil .nil) (.node (aD P 3956 (Str.ofString "ant") 3946 3958 (-1) 3948 3960 (-1) 3950) .nil .nil)))) (.node (o_126 P) (.node (o_190 P) (.node (aI 317) (.node (aF P 1959 573 1960 (Str.ofString "ėm") 1954 1961 (-1) 1956 1962 (-1) 1958) (.node (o_1086 P) .nil .nil) .nil) (.node (aD P 3181 (Str.ofString "ą") 3171 3183 (-1) 3173 3185 (-1) 3175) .nil .nil)) (.node (aD P 1367 (Str.ofString "eisi") 1358 1369 55 1359 1371 (-1) 1361) (.node (aI 701) .nil .nil) (.node (aI 957) .nil .nil))) (.node (o_254 P) (.node (aF P 1053 381 1054 (Str.ofString "site") 1049 1055 33 1050 1056 (-1) 1052) (.node (aD P 2278 (Str.ofString "imis") 2269 2280 117 2270 2282 (-1) 2272) (.node (o_1150 P) .nil .nil) .nil) (.node (aD P 3488 (Str.ofString "iųj") 3479 3490 12 3480 3492 (-1) 3482) .nil .nil)) (.node (aI 509) (.node (aF P 2861 765 2862 (Str.ofString "sitės") 2857 2863 152 2858 2864 (-1) 2860) .nil .nil) (.node (aF P 4097 1021 4098 (Str.ofString "iau") 4092 4099 (-1) 4094 4100 (-1) 4096) .nil .nil))))))))))
noncomputable def KK (P : Params) : Frag := ((nat_lit 2 : Nat), o_2 P) :: ((nat_lit 3 : Nat), o_3 P) :: ((nat_lit 15 : Nat), o_15 P) :: ((nat_lit 17 : Nat), o_17 P) :: ((nat_lit 18 : Nat), o_18 P) :: ((nat_lit 20 : Nat), o_20 P) :: ((nat_lit 21 : Nat), o_21 P) :: ((nat_lit 29 : Nat), o_29 P) :: ((nat_lit 31 : Nat), o_31 P) :: ((nat_lit 32 : Nat), o_32 P) :: ((nat_lit 34 : Nat), o_34 P) :: ((nat_lit 35 : Nat), o_35 P) :: ((nat_lit 36 : Nat), o_36 P) :: ((nat_lit 38 : Nat), o_38 P) :: ((nat_lit 39 : Nat), o_39 P) :: ((nat_lit 41 : Nat), o_41 P) :: ((nat_lit 42 : Nat), o_42 P) :: ((nat_lit 43 : Nat), o_43 P) :: ((nat_lit 45 : Nat), o_45 P) :: ((nat_lit 46 : Nat), o_46 P) :: ((nat_lit 48 : Nat), o_48 P) :: ((nat_lit 49 : Nat), o_49 P) :: ((nat_lit 50 : Nat), o_50 P) :: ((nat_lit 52 : Nat), o_52 P) :: ((nat_lit 53 : Nat), o_53 P) :: ((nat_lit 55 : Nat), o_55 P) :: ((nat_lit 56 : Nat), o_56 P) :: ((nat_lit 57 : Nat), o_57 P) :: ((nat_lit 59 : Nat), o_59 P) :: ((nat_lit 60 : Nat), o_60 P) :: ((nat_lit 62 : Nat), o_62 P) :: ((nat_lit 63 : Nat), o_63 P) :: ((nat_lit 64 : Nat), o_64 P) :: ((nat_lit 66 : Nat), o_66 P) :: ((nat_lit 67 : Nat), o_67 P) :: ((nat_lit 69 : Nat), o_69 P) :: ((nat_lit 70 : Nat), o_70 P) :: ((nat_lit 71 : Nat), o_71 P) :: ((nat_lit 73 : Nat), o_73 P) :: ((nat_lit 74 : Nat), o_74 P) :: ((nat_lit 76 : Nat), o_76 P) :: ((nat_lit 77 : Nat), o_77 P) :: ((nat_lit 78 : Nat), o_78 P) :: ((nat_lit 80 : Nat), o_80 P) :: ((nat_lit 81 : Nat), o_81 P) :: ((nat_lit 83 : Nat), o_83 P) :: ((nat_lit 84 : Nat), o_84 P) :: ((nat_lit 85 : Nat), o_85 P) :: ((nat_lit 87 : Nat), o_87 P) :: ((nat_lit 88 : Nat), o_88 P) :: ((nat_lit 90 : Nat), o_90 P) :: ((nat_lit 91 : Nat), o_91 P) :: ((nat_lit 92 : Nat), o_92 P) :: ((nat_lit 94 : Nat), o_94 P) :: ((nat_lit 95 : Nat), o_95 P) :: ((nat_lit 97 : Nat), o_97 P) :: ((nat_lit 98 : Nat), o_98 P) :: ((nat_lit 99 : Nat), o_99 P) :: ((nat_lit 101 : Nat), o_101 P) :: ((nat_lit 102 : Nat), o_102 P) :: ((nat_lit 104 : Nat), o_104 P) :: ((nat_lit 105 : Nat), o_105 P) :: ((nat_lit 106 : Nat), o_106 P) :: ((nat_lit 108 : Nat), o_108 P) :: ((nat_lit 109 : Nat), o_109 P) :: ((nat_lit 111 : Nat), o_111 P) :: ((nat_lit 112 : Nat), o_112 P) :: ((nat_lit 113 : Nat), o_113 P) :: ((nat_lit 115 : Nat), o_115 P) :: ((nat_lit 116 : Nat), o_116 P) :: ((nat_lit 118 : Nat), o_118 P) :: ((nat_lit 119 : Nat), o_119 P) :: ((nat_lit 120 : Nat), o_120 P) :: ((nat_lit 122 : Nat), o_122 P) :: ((nat_lit 123 : Nat), o_123 P) :: ((nat_lit 125 : Nat), o_125 P) :: ((nat_lit 126 : Nat), o_126 P) :: ((nat_lit 127 : Nat), o_127 P) :: ((nat_lit 129 : Nat), o_129 P) :: ((nat_lit 130 : Nat), o_130 P) :: ((nat_lit 132 : Nat), o_132 P) :: ((nat_lit 133 : Nat), o_133 P) :: ((nat_lit 134 : Nat), o_134 P) :: ((nat_lit 136 : Nat), o_136 P) :: ((nat_lit 137 : Nat), o_137 P) :: ((nat_lit 139 : Nat), o_139 P) :: ((nat_lit 140 : Nat), o_140 P) :: ((nat_lit 141 : Nat), o_141 P) :: ((nat_lit 143 : Nat), o_143 P) :: ((nat_lit 144 : Nat), o_144 P) :: ((nat_lit 146 : Nat), o_146 P) :: ((nat_lit 147 : Nat), o_147 P) :: ((nat_lit 148 : Nat), o_148 P) :: ((nat_lit 150 : Nat), o_150 P) :: ((nat_lit 151 : Nat), o_151 P) :: ((nat_lit 153 : Nat), o_153 P) :: ((nat_lit 154 : Nat), o_154 P) :: ((nat_lit 155 : Nat), o_155 P) :: ((nat_lit 157 : Nat), o_157 P) :: ((nat_lit 158 : Nat), o_158 P) :: ((nat_lit 160 : Nat), o_160 P) :: ((nat_lit 161 : Nat), o_161 P) :: ((nat_lit 162 : Nat), o_162 P) :: ((nat_lit 164 : Nat), o_164 P) :: ((nat_lit 165 : Nat), o_165 P) :: ((nat_lit 167 : Nat), o_167 P) :: ((nat_lit 168 : Nat), o_168 P) :: ((nat_lit 169 : Nat), o_169 P) :: ((nat_lit 171 : Nat), o_171 P) :: ((nat_lit 172 : Nat), o_172 P) :: ((nat_lit 174 : Nat), o_174 P) :: ((nat_lit 175 : Nat), o_175 P) :: ((nat_lit 176 : Nat), o_176 P) :: ((nat_lit 178 : Nat), o_178 P) :: ((nat_lit 179 : Nat), o_179 P) :: ((nat_lit 181 : Nat), o_181 P) :: ((nat_lit 182 : Nat), o_182 P) :: ((nat_lit 183 : Nat), o_183 P) :: ((nat_lit 185 : Nat), o_185 P) :: ((nat_lit 186 : Nat), o_186 P) :: ((nat_lit 188 : Nat), o_188 P) :: ((nat_lit 189 : Nat), o_189 P) :: ((nat_lit 190 : Nat), o_190 P) :: ((nat_lit 192 : Nat), o_192 P) :: ((nat_lit 193 : Nat), o_193 P) :: ((nat_lit 195 : Nat), o_195 P) :: ((nat_lit 196 : Nat), o_196 P) :: ((nat_lit 197 : Nat), o_197 P) :: ((nat_lit 198 : Nat), o_198 P) :: ((nat_lit 199 : Nat), o_199 P) :: ((nat_lit 200 : Nat), o_200 P) :: ((nat_lit 201 : Nat), o_201 P) :: ((nat_lit 211 : Nat), o_211 P) :: ((nat_lit 213 : Nat), o_213 P) :: ((nat_lit 214 : Nat), o_214 P) :: ((nat_lit 216 : Nat), o_216 P) :: ((nat_lit 217 : Nat), o_217 P) :: ((nat_lit 218 : Nat), o_218 P) :: ((nat_lit 219 : Nat), o_219 P) :: ((nat_lit 220 : Nat), o_220 P) :: ((nat_lit 221 : Nat), o_221 P) :: ((nat_lit 222 : Nat), o_222 P) :: ((nat_lit 225 : Nat), o_225 P) :: ((nat_lit 233 : Nat), o_233 P) :: ((nat_lit 235 : Nat), o_235 P) :: ((nat_lit 236 : Nat), o_236 P) :: ((nat_lit 238 : Nat), o_238 P) :: ((nat_lit 239 : Nat), o_239 P) :: ((nat_lit 240 : Nat), o_240 P) :: ((nat_lit 242 : Nat), o_242 P) :: ((nat_lit 243 : Nat), o_243 P) :: ((nat_lit 245 : Nat), o_245 P) :: ((nat_lit 246 : Nat), o_246 P) :: ((nat_lit 247 : Nat), o_247 P) :: ((nat_lit 249 : Nat), o_249 P) :: ((nat_lit 250 : Nat), o_250 P) :: ((nat_lit 252 : Nat), o_252 P) :: ((nat_lit 253 : Nat), o_253 P) :: ((nat_lit 254 : Nat), o_254 P) :: ((nat_lit 256 : Nat), o_256 P) :: ((nat_lit 257 : Nat), o_257 P) :: ((nat_lit 259 : Nat), o_259 P) :: ((nat_lit 260 : Nat), o_260 P) :: ((nat_lit 261 : Nat), o_261 P) :: ((nat_lit 263 : Nat), o_263 P) :: ((nat_lit 264 : Nat), o_264 P) :: ((nat_lit 266 : Nat), o_266 P) :: ((nat_lit 267 : Nat), o_267 P) :: ((nat_lit 268 : Nat), o_268 P) :: ((nat_lit 270 : Nat), o_270 P) :: ((nat_lit 271 : Nat), o_271 P) :: ((nat_lit 273 : Nat), o_273 P) :: ((nat_lit 274 : Nat), o_274 P) :: ((nat_lit 854 : Nat), o_854 P) :: ((nat_lit 1041 : Nat), o_1041 P) :: ((nat_lit 1075 : Nat), o_1075 P) :: ((nat_lit 1076 : Nat), o_1076 P) :: ((nat_lit 1083 : Nat), o_1083 P) :: ((nat_lit 1084 : Nat), o_1084 P) :: ((nat_lit 1085 : Nat), o_1085 P) :: ((nat_lit 1086 : Nat), o_1086 P) :: ((nat_lit 1087 : Nat), o_1087 P) :: ((nat_lit 1090 : Nat), o_1090 P) :: ((nat_lit 1097 : Nat), o_1097 P) :: ((nat_lit 1098 : Nat), o_1098 P) :: ((nat_lit 1099 : Nat), o_1099 P) :: ((nat_lit 1100 : Nat), o_1100 P) :: ((nat_lit 1103 : Nat), o_1103 P) :: ((nat_lit 1110 : Nat), o_1110 P) :: ((nat_lit 1111 : Nat), o_1111 P) :: ((nat_lit 1112 : Nat), o_1112 P) :: ((nat_lit 1113 : Nat), o_1113 P) :: ((nat_lit 1116 : Nat), o_1116 P) :: ((nat_lit 1118 : Nat), o_1118 P) :: ((nat_lit 1119 : Nat), o_1119 P) :: ((nat_lit 1121 : Nat), o_1121 P) :: ((nat_lit 1122 : Nat), o_1122 P) :: ((nat_lit 1123 : Nat), o_1123 P) :: ((nat_lit 1124 : Nat), o_1124 P) :: ((nat_lit 1125 : Nat), o_1125 P) :: ((nat_lit 1126 : Nat), o_1126 P) :: ((nat_lit 1127 : Nat), o_1127 P) :: ((nat_lit 1128 : Nat), o_1128 P) :: ((nat_lit 1129 : Nat), o_1129 P) :: ((nat_lit 1130 : Nat), o_1130 P) :: ((nat_lit 1131 : Nat), o_1131 P) :: ((nat_lit 1132 : Nat), o_1132 P) :: ((nat_lit 1133 : Nat), o_1133 P) :: ((nat_lit 1134 : Nat), o_1134 P) :: ((nat_lit 1135 : Nat), o_1135 P) :: ((nat_lit 1136 : Nat), o_1136 P) :: ((nat_lit 1137 : Nat), o_1137 P) :: ((nat_lit 1138 : Nat), o_1138 P) :: ((nat_lit 1139 : Nat), o_1139 P) :: ((nat_lit 1140 : Nat), o_1140 P) :: ((nat_lit 1141 : Nat), o_1141 P) :: ((nat_lit 1142 : Nat), o_1142 P) :: ((nat_lit 1143 : Nat), o_1143 P) :: ((nat_lit 1144 : Nat), o_1144 P) :: ((nat_lit 1145 : Nat), o_1145 P) :: ((nat_lit 1146 : Nat), o_1146 P) :: ((nat_lit 1149 : Nat), o_1149 P) :: ((nat_lit 1150 : Nat), o_1150 P) :: ((nat_lit 1151 : Nat), o_1151 P) :: ((nat_lit 1153 : Nat), o_1153 P) :: ((nat_lit 1154 : Nat), o_1154 P) :: ((nat_lit 1156 : Nat), o_1156 P) :: ((nat_lit 1157 : Nat), o_1157 P) :: ((nat_lit 1158 : Nat), o_1158 P) :: ((nat_lit 1160 : Nat), o_1160 P) :: ((nat_lit 1161 : Nat), o_1161 P) :: ((nat_lit 1163 : Nat), o_1163 P) :: ((nat_lit 1164 : Nat), o_1164 P) :: ((nat_lit 1165 : Nat), o_1165 P) :: ((nat_lit 1167 : Nat), o_1167 P) :: ((nat_lit 1168 : Nat), o_1168 P) :: ((nat_lit 1170 : Nat), o_1170 P) :: ((nat_lit 1171 : Nat), o_1171 P) :: ((nat_lit 1172 : Nat), o_1172 P) :: ((nat_lit 1174 : Nat), o_1174 P) :: ((nat_lit 1175 : Nat), o_1175 P) :: ((nat_lit 1177 : Nat), o_1177 P) :: ((nat_lit 1178 : Nat), o_1178 P) :: ((nat_lit 1179 : Nat), o_1179 P) :: ((nat_lit 1182 : Nat), o_1182 P) :: ((nat_lit 1183 : Nat), o_1183 P) :: []
noncomputable def VW : Program := Subtype.val (p := fun q => q = view PySem.Challenge.pw_iu0024_01 [0, 2, 4, 6, 7, 8, 10, 11, 12, 13, 14, 15, 16, 17, 18, 19, 20, 21, 22, 23, 24, 25]) (by
  refine ⟨?q, ?h⟩
  case h =>
    dsimp only [view, PySem.Challenge.pw_iu0024_01, List.filterMap_cons, List.filterMap_nil, List.getElem?_cons_zero, List.getElem?_cons_succ]
    exact rfl)
end MineH
end
section
open PySem PySem.W PyProof.Rows PySem.Calls PySem.Spec
set_option maxRecDepth 100000
namespace Mine
noncomputable def tbl0 : List (List Nat × Int × Int) := [([97], -1, -1), ([105, 97], 0, -1), ([111, 115, 110, 97], 0, -1), ([105, 111, 115, 110, 97], 2, -1), ([117, 111, 115, 110, 97], 2, -1), ([105, 117, 111, 115, 110, 97], 4, -1), ([121, 115, 110, 97], 0, -1), ([279, 115, 110, 97], 0, -1), ([101], -1, -1), ([105, 101], 8, -1), ([101, 110, 105, 101], 9, -1), ([111, 106, 101], 8, -1), ([105, 111, 106, 101], 11, -1), ([117, 106, 101], 8, -1), ([105, 117, 106, 101], 13, -1), ([121, 106, 101], 8, -1), ([101, 110, 121, 106, 101], 15, -1), ([279, 106, 101], 8, -1), ([97, 109, 101], 8, -1), ([105, 97, 109, 101], 18, -1), ([115, 105, 109, 101], 8, -1), ([111, 109, 101], 8, -1), ([279, 109, 101], 8, -1), ([116, 117, 109, 279, 109, 101], 22, -1), ([111, 115, 101], 8, -1), ([105, 111, 115, 101], 24, -1), ([117, 111, 115, 101], 24, -1), ([105, 117, 111, 115, 101], 26, -1), ([121, 115, 101], 8, -1), ([101, 110, 121, 115, 101], 28, -1), ([279, 115, 101], 8, -1), ([97, 116, 101], 8, -1), ([105, 97, 116, 101], 31, -1), ([105, 116, 101], 8, -1), ([107, 105, 116, 101], 33, -1), ([115, 105, 116, 101], 33, -1), ([111, 116, 101], 8, -1), ([116, 117, 116, 101], 8, -1), ([279, 116, 101], 8, -1), ([116, 117, 109, 279, 116, 101], 38, -1), ([105], -1, -1), ([97, 105], 40, -1), ([105, 97, 105], 41, -1), ([101, 105], 40, -1), ([116, 117, 109, 101, 105], 43, -1), ([107, 105], 40, -1), ([105, 109, 105], 40, -1), ([117, 109, 105], 40, -1), ([105, 117, 109, 105], 47, -1), ([115, 105], 40, -1), ([97, 115, 105], 49, -1), ([105, 97, 115, 105], 50, -1), ([101, 115, 105], 49, -1), ([105, 101, 115, 105], 52, -1), ([115, 105, 101, 115, 105], 53, -1), ([105, 115, 105], 49, -1), ([97, 105, 115, 105], 55, -1), ([101, 105, 115, 105], 55, -1), ([116, 117, 109, 101, 105, 115, 105], 57, -1), ([117, 105, 115, 105], 55, -1), ([111, 115, 105], 49, -1), ([279, 106, 111, 115, 105], 60, -1), ([117, 111, 115, 105], 60, -1), ([105, 117, 111, 115, 105], 62, -1), ([115, 105, 117, 111, 115, 105], 63, -1), ([117, 115, 105], 49, -1), ([97, 117, 115, 105], 65, -1), ([269, 105, 97, 117, 115, 105], 66, -1), ([261, 115, 105], 49, -1), ([279, 115, 105], 49, -1), ([371, 115, 105], 49, -1), ([116, 371, 115, 105], 70, -1), ([116, 105], 40, -1), ([101, 110, 116, 105], 72, -1), ([105, 110, 116, 105], 72, -1), ([111, 116, 105], 72, -1), ([105, 111, 116, 105], 75, -1), ([117, 111, 116, 105], 75, -1), ([105, 117, 111, 116, 105], 77, -1), ([97, 117, 116, 105], 72, -1), ([105, 97, 117, 116, 105], 79, -1), ([121, 116, 105], 72, -1), ([279, 116, 105], 72, -1), ([116, 101, 108, 279, 116, 105], 82, -1), ([105, 110, 279, 116, 105], 82, -1), ([116, 101, 114, 279, 116, 105], 82, -1), ([117, 105], 40, -1), ([105, 117, 105], 86, -1), ([101, 110, 105, 117, 105], 87, -1), ([111, 106], -1, -1), ([279, 106], -1, -1), ([107], -1, -1), ([97, 109], -1, -1), ([105, 97, 109], 92, -1), ([105, 101, 109], -1, -1), ([105, 109], -1, -1), ([115, 105, 109], 95, -1), ([111, 109], -1, -1), ([116, 117, 109], -1, -1), ([279, 109], -1, -1), ([116, 117, 109, 279, 109], 99, -1), ([97, 110], -1, -1), ([111, 110], -1, -1), ([105, 111, 110], 102, -1), ([117, 110], -1, -1), ([105, 117, 110], 104, -1), ([279, 110], -1, -1), ([111], -1, -1), ([105, 111], 107, -1), ([101, 110, 105, 111], 108, -1), ([279, 106, 111], 107, -1), ([117, 111], 107, -1), ([115], -1, -1), ([97, 115], 112, -1), ([105, 97, 115], 113, -1), ([101, 115], 112, -1), ([105, 101, 115], 115, -1), ([105, 115], 112, -1), ([97, 105, 115], 117, -1), ([105, 97, 105, 115], 118, -1), ([116, 117, 109, 101, 105, 115], 117, -1), ([105, 109, 105, 115], 117, -1), ([101, 110, 105, 109, 105, 115], 121, -1), ([111, 109, 105, 115], 117, -1), ([105, 111, 109, 105, 115], 123, -1), ([117, 109, 105, 115], 117, -1), ([279, 109, 105, 115], 117, -1), ([101, 110, 105, 115], 117, -1), ([97, 115, 105, 115], 117, -1), ([121, 115, 105, 115], 117, -1), ([97, 109, 115], 112, -1), ([105, 97, 109, 115], 130, -1), ([105, 101, 109, 115], 112, -1), ([105, 109, 115], 112, -1), ([101, 110, 105, 109, 115], 133, -1), ([111, 109, 115], 112, -1), ([105, 111, 109, 115], 135, -1), ([117, 109, 115], 112, -1), ([279, 109, 115], 112, -1), ([101, 110, 115], 112, -1), ([111, 115], 112, -1), ([105, 111, 115], 140, -1), ([117, 111, 115], 140, -1), ([105, 117, 111, 115], 142, -1), ([117, 115], 112, -1), ([97, 117, 115], 144, -1), ([105, 97, 117, 115], 145, -1), ([105, 117, 115], 144, -1), ([121, 115], 112, -1), ([101, 110, 121, 115], 148, -1), ([261, 115], 112, -1), ([105, 261, 115], 150, -1), ([279, 115], 112, -1), ([97, 109, 279, 115], 152, -1), ([105, 97, 109, 279, 115], 153, -1), ([105, 109, 279, 115], 152, -1), ([107, 105, 109, 279, 115], 155, -1), ([115, 105, 109, 279, 115], 155, -1), ([111, 109, 279, 115], 152, -1), ([279, 109, 279, 115], 152, -1), ([116, 117, 109, 279, 109, 279, 115], 159, -1), ([97, 116, 279, 115], 152, -1), ([105, 97, 116, 279, 115], 161, -1), ([115, 105, 116, 279, 115], 152, -1), ([111, 116, 279, 115], 152, -1), ([279, 116, 279, 115], 152, -1), ([116, 117, 109, 279, 116, 279, 115], 165, -1), ([303, 115], 112, -1), ([363, 115], 112, -1), ([116, 371, 115], 112, -1), ([97, 116], -1, -1), ([105, 97, 116], 170, -1), ([105, 116], -1, -1), ([115, 105, 116], 172, -1), ([111, 116], -1, -1), ([279, 116], -1, -1), ([116, 117, 109, 279, 116], 175, -1), ([117], -1, -1), ([97, 117], 177, -1), ([105, 97, 117], 178, -1), ([269, 105, 97, 117], 179, -1), ([105, 117], 177, -1), ([101, 110, 105, 117], 181, -1), ([115, 105, 117], 181, -1), ([121], -1, -1), ([261], -1, -1), ([105, 261], 185, -1), ([279], -1, -1), ([281], -1, -1), ([303], -1, -1), ([101, 110, 303], 189, -1), ([371], -1, -1), ([105, 371], 191, -1)]
noncomputable def tbl1 : List (List Nat × Int × Int) := [([105, 110, 103], -1, -1), ([97, 106], -1, -1), ([105, 97, 106], 1, -1), ([105, 101, 106], -1, -1), ([111, 106], -1, -1), ([105, 111, 106], 4, -1), ([117, 111, 106], 4, -1), ([105, 117, 111, 106], 6, -1), ([97, 117, 106], -1, -1), ([261, 106], -1, -1), ([105, 261, 106], 9, -1), ([279, 106], -1, -1), ([371, 106], -1, -1), ([105, 371, 106], 12, -1), ([111, 107], -1, -1), ([105, 111, 107], 14, -1), ([105, 117, 107], -1, -1), ([117, 108, 105, 117, 107], 16, -1), ([117, 269, 105, 117, 107], 16, -1), ([105, 353, 107], -1, -1), ([105, 117, 108], -1, -1), ([121, 108], -1, -1), ([279, 108], -1, -1), ([97, 109], -1, -1), ([100, 97, 109], 23, -1), ([106, 97, 109], 23, -1), ([122, 103, 97, 110], -1, -1), ([97, 105, 110], -1, -1), ([101, 115, 110], -1, -1), ([111, 112], -1, -1), ([105, 111, 112], 29, -1), ([105, 97, 115], -1, -1), ([105, 101, 115], -1, -1), ([97, 105, 115], -1, -1), ([105, 97, 105, 115], 33, -1), ([111, 115], -1, -1), ([105, 111, 115], 35, -1), ([117, 111, 115], 35, -1), ([105, 117, 111, 115], 37, -1), ([97, 117, 115], -1, -1), ([105, 97, 117, 115], 39, -1), ([261, 115], -1, -1), ([105, 261, 115], 41, -1), ([281, 115], -1, -1), ([117, 116, 279, 97, 105, 116], -1, -1), ([97, 110, 116], -1, -1), ([105, 97, 110, 116], 45, -1), ([115, 105, 97, 110, 116], 46, -1), ([105, 110, 116], -1, -1), ([111, 116], -1, -1), ([117, 111, 116], 49, -1), ([105, 117, 111, 116], 50, -1), ([121, 116], -1, -1), ([279, 116], -1, -1), ([121, 107, 353, 116], -1, -1), ([105, 97, 117], -1, -1), ([100, 97, 118], -1, -1), ([115, 118], -1, -1), ([353, 118], -1, -1), ([121, 107, 353, 269], -1, -1), ([281], -1, -1), ([279, 106, 281], 60, -1)]
noncomputable def tbl2 : List (List Nat × Int × Int) := [([111, 106, 105, 109, 101], -1, 7), ([279, 106, 105, 109, 101], -1, 3), ([97, 118, 105, 109, 101], -1, 6), ([111, 107, 97, 116, 101], -1, 8), ([97, 105, 116, 101], -1, 1), ([117, 111, 116, 101], -1, 2), ([97, 115, 105, 117, 115], -1, 5), ([111, 107, 97, 116, 279, 115], -1, 8), ([97, 105, 116, 279, 115], -1, 1), ([117, 111, 116, 279, 115], -1, 2), ([101, 115, 105, 117], -1, 4)]
noncomputable def tbl3 : List (List Nat × Int × Int) := [([269], -1, 1), ([100, 382], -1, 2)]
noncomputable def vowels : List Nat := [97, 261, 101, 281, 279, 105, 303, 121, 111, 117, 371, 363]
noncomputable def as2 : List (List Nat) := [[97, 105, 116, 279], [117, 111, 116, 279], [279, 106, 105, 109, 97, 115], [101, 115, 121, 115], [97, 115, 121, 115], [97, 118, 105, 109, 97, 115], [111, 106, 105, 109, 97, 115], [111, 107, 97, 116, 279]]
noncomputable def as3 : List (List Nat) := [[116], [100]]
noncomputable def isV (c : Nat) : Bool := vowels.contains c
noncomputable abbrev prog0 : Program := PySem.Challenge.rw_iu0024_01.row.prog
structure AmAt (w : World) (h : Heap) (d : Addr) (e : List Nat × Int × Int) : Prop where
  inst : h.get? (d + 1) = some (instObj 220 d)
  dict : ∃ a1 a2 a3 ts ti tr n, h.get? d = some (dictOf [⟨PyData.keyHash w.params (Str.ofString "s"), .str (Str.ofString "s") a1, .str (mk e.1) ts⟩, ⟨PyData.keyHash w.params (Str.ofString "substring_i"), .str (Str.ofString "substring_i") a2, .int e.2.1 ti⟩, ⟨PyData.keyHash w.params (Str.ofString "result"), .str (Str.ofString "result") a3, .int e.2.2 tr⟩] n)
structure AmTab (w : World) (h : Heap) (v b : Addr) (tbl : List (List Nat × Int × Int)) : Prop where
  list : h.IsList v ((List.range tbl.length).map fun i => Value.ref (b + 3 * i + 1)).toArray
  am : ∀ i (hi : i < tbl.length), AmAt w h (b + 3 * i) tbl[i]
structure Glb (w : World) (h : Heap) : Prop where
  set : ∃ S n, h.SetOf (strKind prog0 w) 232 S n ∧ ∀ c, S (mk [c]) = isV c
  t0 : AmTab w h 854 275 tbl0
  t1 : AmTab w h 1041 855 tbl1
  t2 : AmTab w h 1075 1042 tbl2
  t3 : AmTab w h 1083 1077 tbl3
theorem AmTab.keep {w : World} {h h' : Heap} {v b : Addr} {tbl : List (List Nat × Int × Int)} (T : AmTab w h v b tbl) (k : ∀ b o, h.get? b = some o → h'.get? b = some o) : AmTab w h' v b tbl := by
  refine ⟨?_, fun i hi => ⟨k _ _ (T.am i hi).inst, ?_⟩⟩
  · obtain ⟨o, ho, r⟩ := T.list
    exact ⟨o, k _ _ ho, r⟩
  · obtain ⟨a1, a2, a3, ts, ti, tr, n, e⟩ := (T.am i hi).dict
    exact ⟨a1, a2, a3, ts, ti, tr, n, k _ _ e⟩
theorem Glb.keep {w : World} {h h' : Heap} (G : Glb w h) (k : ∀ b o, h.get? b = some o → h'.get? b = some o) : Glb w h' := by
  refine ⟨?_, G.t0.keep k, G.t1.keep k, G.t2.keep k, G.t3.keep k⟩
  obtain ⟨S, n, ⟨o, es, ep, t, ho, r⟩, e⟩ := G.set
  exact ⟨S, n, ⟨o, es, ep, t, k _ _ ho, r⟩, e⟩
theorem range_snoc {P : Nat → Prop} {cu c : Int} (h0 : 0 ≤ c) (h : ∀ k : Nat, cu ≤ k → (k : Int) < c → P k) (h1 : P c.toNat) : ∀ k : Nat, cu ≤ k → (k : Int) < c + 1 → P k := fun k a b => by
  by_cases e : (k : Int) < c
  · exact h k a e
  · have : k = c.toNat := by lia
    subst this; exact h1
noncomputable def Stop (P : Prop) : Prop := P
theorem Stop.out {P : Prop} (h : Stop P) : P := h
theorem Stop.back {P : Prop} (h : P) : Stop P := h
noncomputable def Has (m : Str → Option Value) (ps : List (Str × Value)) : Prop := ∀ p ∈ ps, m p.1 = some p.2
theorem Has.nil {m : Str → Option Value} : Has m [] := fun _ hp => nomatch hp
theorem Has.cons {m : Str → Option Value} {k : Str} {v : Value} {r : List (Str × Value)} (h : m k = some v) (t : Has m r) : Has m ((k, v) :: r) := fun p hp => by
  rcases List.mem_cons.mp hp with rfl | hp
  · exact h
  · exact t p hp
noncomputable def MwEnd {σ : Type} (h₀ : Heap) (L : Addr) (s : Shared) (Led : σ → List (Addr × Obj)) (ps : σ → List (Str × Value)) (stored : List Str) (m₀ : Str → Option Value) (P : σ → Prop) (μ : σ → Nat) (c : σ) (s₂ : Shared) : Prop := KswEnd h₀ L s Led ps (fun _ => True) stored m₀ P μ c s₂
noncomputable def MwPost {σ : Type} (h₀ : Heap) (L : Addr) (s : Shared) (Led : σ → List (Addr × Obj)) (ps : σ → List (Str × Value)) (stored : List Str) (m₀ : Str → Option Value) (P : σ → Prop) (μ : σ → Nat) (Q : Flow → Shared → Prop) (c : σ) (f : Flow) (s₂ : Shared) : Prop :=
  match f with
  | .ret v => Q (.ret v) s₂
  | .brk => Q .next s₂
  | _ => MwEnd h₀ L s Led ps stored m₀ P μ c s₂
theorem mw_end {σ : Type} {h₀ : Heap} {L : Addr} {s : Shared} {Led : σ → List (Addr × Obj)} {ps : σ → List (Str × Value)} {stored : List Str} {m₀ m' : Str → Option Value} {P : σ → Prop} {μ : σ → Nat} {c : σ} {h' : Heap} {tk : Nat} {news' : List (Addr × Obj)} (c' : σ)
    (F : Fr h₀ L h' m') (N : News h₀ L h' news') (hn : ∀ p ∈ Led c', p ∈ news') (hk : Has m' (ps c')) (hr : ∀ z, (∀ p ∈ ps c', z ≠ p.1) → stored.contains z = false → m' z = m₀ z) (hp : P c') (hm : μ c' < μ c) :
    MwEnd h₀ L s Led ps stored m₀ P μ c { s with heap := h', toks := tk } := ksw_end c' F N hn trivial hk hr hp hm
theorem mw_while {prog : Program} {w : World} {A : Around} {E : Value → Shared → Prop} {Q : Flow → Shared → Prop} {s : Shared} {env : Env} {h₀ : Heap} {L : Addr} {σ : Type} {test : PySem.Expr} {body : List PySem.Stmt} {pos : Pos} {m₀ : Str → Option Value} (Led : σ → List (Addr × Obj)) (ps : σ → List (Str × Value)) (stored : List Str) (P : σ → Prop) (μ : σ → Nat) (c₀ : σ)
    (F : Fr h₀ L s.heap m₀) (N : News h₀ L s.heap (Led c₀)) (hk : Has m₀ (ps c₀)) (hp : P c₀)
    (turn : ∀ (c : σ) (u : Str → Option Value) h tk, P c → Fr h₀ L h (kstB (fun z => if stored.contains z then u z else m₀ z) (ps c)) → News h₀ L h (Led c) →
      wpAny (model prog w) A (isTrue test env (eval test env)) (fun b s₂ =>
        if b = true then wpAny (model prog w) A (execs body env) (MwPost h₀ L s Led ps stored m₀ P μ Q c) E s₂ else Q .next s₂) E { s with heap := h, toks := tk })
    (hE : PassesOwn (model prog w) A env E := by passes_own) :
    wpAny (model prog w) A (exec (.While test body [] pos) env) Q E s :=
  ksw_while Led ps (fun _ => True) stored P μ c₀ F N trivial hk hp (fun c u h tk _ hp' F' N' => wpAny_mono (turn c u h tk hp' F' N') (fun b s₂ q => by
    cases b with
    | false => simpa using q
    | true =>
      simp only [if_true] at q ⊢
      refine wpAny_mono q (fun f s₃ r => ?_) fun _ _ x => x
      cases f <;> exact r) fun _ _ x => x) hE
theorem r_inV {w : World} {A : Around} {E : Value → Shared → Prop} {s : Shared} {h₀ : Heap} {L : Addr} {m : Str → Option Value} {c : Nat} {t : Tok} {Q : Value → Shared → Prop} (G : Glb w h₀) (F : Fr h₀ L s.heap m) (h : ∀ tk, Q (.bool (isV c)) { s with toks := tk }) :
    wpAny (model prog0 w) A (compareOp .In (.str (mk [c]) t) (.ref 232)) Q E s := by
  obtain ⟨S, n, hS, e⟩ := (G.keep F.keep).set
  refine wpAny_inSet_of (strKind_is prog0 w (mk [c]) t) rfl hS ?_
  rw [e]; exact h _
theorem r_notInV {w : World} {A : Around} {E : Value → Shared → Prop} {s : Shared} {h₀ : Heap} {L : Addr} {m : Str → Option Value} {c : Nat} {t : Tok} {Q : Value → Shared → Prop} (G : Glb w h₀) (F : Fr h₀ L s.heap m) (h : ∀ tk, Q (.bool (!isV c)) { s with toks := tk }) :
    wpAny (model prog0 w) A (compareOp .NotIn (.str (mk [c]) t) (.ref 232)) Q E s := by
  obtain ⟨S, n, hS, e⟩ := (G.keep F.keep).set
  refine wpAny_notInSet_of (strKind_is prog0 w (mk [c]) t) rfl hS ?_
  rw [e]; exact h _
end Mine
end
section
namespace Mine
noncomputable abbrev Tbl := List (List Nat × Int × Int)
noncomputable def rk (tbl : Tbl) (i : Nat) : List Nat := (tbl.getD i ([], 0, 0)).1.reverse
noncomputable def lexLt : List Nat → List Nat → Bool
  | _, [] => false
  | [], _ :: _ => true
  | a :: x, b :: y => if a < b then true else if a = b then lexLt x y else false
theorem lexLt_irrefl : ∀ x, lexLt x x = false
  | [] => rfl
  | a :: x => by simp [lexLt, lexLt_irrefl x]
theorem lexLt_asymm : ∀ {x y}, lexLt x y = true → lexLt y x = false
  | _, [], h => by simp [lexLt] at h
  | [], _ :: _, _ => rfl
  | a :: x, b :: y, h => by
    simp only [lexLt] at h ⊢
    split at h
    · rename_i q
      rw [if_neg (by lia), if_neg (by lia)]
    · split at h
      · rename_i q; subst q; rw [if_neg (by lia), if_pos rfl]; exact lexLt_asymm h
      · cases h
theorem lexLt_of_lt_of_le : ∀ {x k t : List Nat}, lexLt x k = true → lexLt t k = false → lexLt x t = true
  | _, [], _, h, _ => by simp [lexLt] at h
  | [], b :: k, [], _, h2 => by simp [lexLt] at h2
  | [], b :: k, c :: t, _, _ => rfl
  | a :: x, b :: k, [], _, h2 => by simp [lexLt] at h2
  | a :: x, b :: k, c :: t, h1, h2 => by
    simp only [lexLt] at h1 h2 ⊢
    by_cases q : a < c
    · rw [if_pos q]
    · rw [if_neg q]
      by_cases e : a = c
      · subst e
        rw [if_pos rfl]
        by_cases r : a < b
        · rw [if_pos r] at h2; cases h2
        · rw [if_neg r] at h1 h2
          by_cases u : a = b
          · subst u
            rw [if_pos rfl] at h1 h2
            exact lexLt_of_lt_of_le h1 h2
          · rw [if_neg u] at h1; cases h1
      · exfalso
        by_cases r : c < b
        · rw [if_pos r] at h2; cases h2
        · split at h1
          · lia
          · split at h1
            · rw [if_neg r] at h2
              lia
            · cases h1
theorem squeeze : ∀ {m : Nat} {a b c : List Nat}, a.take m = c.take m → m ≤ a.length → m ≤ c.length → lexLt b a = false → lexLt c b = false → b.take m = a.take m ∧ m ≤ b.length
  | 0, _, _, _, _, _, _, _, _ => ⟨by simp, Nat.zero_le _⟩
  | m + 1, [], _, _, _, h, _, _, _ => by simp at h
  | m + 1, _ :: _, _, [], _, _, h, _, _ => by simp at h
  | m + 1, u :: a, [], v :: c, _, _, _, h1, _ => by simp [lexLt] at h1
  | m + 1, u :: a, y :: b, v :: c, e, ha, hc, h1, h2 => by
    simp only [List.take_succ_cons, List.cons.injEq] at e
    obtain ⟨rfl, e⟩ := e
    simp only [lexLt] at h1 h2
    have q1 : ¬ y < u := fun q => by rw [if_pos q] at h1; cases h1
    have q2 : ¬ u < y := fun q => by rw [if_pos q] at h2; cases h2
    have q : y = u := by lia
    subst q
    rw [if_neg q1, if_pos rfl] at h1
    rw [if_neg q2, if_pos rfl] at h2
    obtain ⟨r1, r2⟩ := squeeze (m := m) e (by simpa using ha) (by simpa using hc) h1 h2
    exact ⟨by simp [r1], by simpa using r2⟩
theorem lexLt_prefix {a x : List Nat} (h : a <+: x) : lexLt x a = false := by
  obtain ⟨t, rfl⟩ := h
  induction a with
  | nil => cases t <;> rfl
  | cons b a ih => simp [lexLt, ih]
/-- the comparison of x with key from m on: m is where they part -/
structure CmpR (key x : List Nat) (m : Nat) (d : Int) : Prop where
  eq : key.take m = x.take m
  hk : m ≤ key.length
  hx : m ≤ x.length
  end_ : (d = 0 ∧ m = key.length) ∨ (m < key.length ∧ m = x.length ∧ d = -1) ∨ (m < key.length ∧ m < x.length ∧ d ≠ 0 ∧ d = (x.getD m 0 : Int) - (key.getD m 0 : Int))
theorem lexLt_at : ∀ {m : Nat} {a b : List Nat}, a.take m = b.take m → m ≤ a.length → m ≤ b.length → lexLt a b = lexLt (a.drop m) (b.drop m)
  | 0, _, _, _, _, _ => by simp
  | m + 1, [], _, _, h, _ => by simp at h
  | m + 1, _ :: _, [], _, _, h => by simp at h
  | m + 1, u :: a, v :: b, e, h1, h2 => by
    simp only [List.take_succ_cons, List.cons.injEq] at e
    obtain ⟨rfl, e⟩ := e
    simp only [List.drop_succ_cons]
    rw [← lexLt_at e (by simpa using h1) (by simpa using h2)]
    simp [lexLt]
theorem drop_getD {l : List Nat} {m : Nat} (h : m < l.length) : l.drop m = l.getD m 0 :: l.drop (m + 1) := by
  rw [List.drop_eq_getElem_cons h]
  simp [h]
theorem CmpR.lt {key x : List Nat} {m : Nat} {d : Int} (c : CmpR key x m d) (h : d < 0) : lexLt x key = true := by
  rw [lexLt_at c.eq.symm c.hx c.hk]
  rcases c.end_ with ⟨e, _⟩ | ⟨h1, h2, _⟩ | ⟨h1, h2, h3, h4⟩
  · lia
  · rw [List.drop_of_length_le (by lia), drop_getD h1]; rfl
  · rw [drop_getD h1, drop_getD h2]
    simp only [lexLt]
    rw [if_pos (by lia)]
theorem CmpR.le {key x : List Nat} {m : Nat} {d : Int} (c : CmpR key x m d) (h : 0 ≤ d) : lexLt x key = false := by
  rw [lexLt_at c.eq.symm c.hx c.hk]
  rcases c.end_ with ⟨_, e⟩ | ⟨h1, h2, h3⟩ | ⟨h1, h2, h3, h4⟩
  · rw [List.drop_of_length_le (l := key) (by lia)]
    cases x.drop m <;> rfl
  · lia
  · rw [drop_getD h1, drop_getD h2]
    simp only [lexLt]
    rw [if_neg (by lia), if_neg (by lia)]
structure Wf (tbl : Tbl) : Prop where
  two : 2 ≤ tbl.length
  small : tbl.length ≤ 1000
  len : ∀ i, (tbl.getD i ([], 0, 0)).1.length ≤ 10
  sorted : ∀ i j, i < j → j < tbl.length → lexLt (rk tbl i) (rk tbl j) = true
  full : ∀ i, i < tbl.length → rk tbl i ≠ []
  sub0 : (tbl.getD 0 ([], 0, 0)).2.1 < 0
  bot : ∀ i, i < tbl.length → (tbl.getD i ([], 0, 0)).2.1 < 0 → ∀ t, t < tbl.length → rk tbl t <+: rk tbl i → t = i
  sub : ∀ i, i < tbl.length → 0 ≤ (tbl.getD i ([], 0, 0)).2.1 → (tbl.getD i ([], 0, 0)).2.1.toNat < i ∧ rk tbl (tbl.getD i ([], 0, 0)).2.1.toNat <+: rk tbl i ∧
    ∀ t, t < tbl.length → rk tbl t <+: rk tbl i → t = i ∨ rk tbl t <+: rk tbl (tbl.getD i ([], 0, 0)).2.1.toNat
theorem Wf.mono {tbl : Tbl} (W : Wf tbl) {i j : Nat} (h : i ≤ j) (hj : j < tbl.length) : lexLt (rk tbl j) (rk tbl i) = false := by
  rcases Nat.lt_or_eq_of_le h with q | rfl
  · exact lexLt_asymm (W.sorted i j q hj)
  · exact lexLt_irrefl _
noncomputable def LeAt (tbl : Tbl) (x : List Nat) (i m : Nat) : Prop := ∃ d : Int, 0 ≤ d ∧ CmpR (rk tbl i) x m d
noncomputable def LtAt (tbl : Tbl) (x : List Nat) (i m : Nat) : Prop := ∃ d : Int, d < 0 ∧ CmpR (rk tbl i) x m d
structure SInv (tbl : Tbl) (x : List Nat) (i j ci cj : Nat) (f : Bool) : Prop where
  hj : j ≤ tbl.length
  lo : (i = 0 ∧ ci = 0) ∨ (0 < i ∧ LeAt tbl x i ci)
  hi : (j = tbl.length ∧ cj = 0) ∨ (j < tbl.length ∧ LtAt tbl x j cj)
  st : (f = true ∧ i = 0 ∧ j = 1) ∨ (f = false ∧ i + 2 ≤ j)
noncomputable def Fin (tbl : Tbl) (x : List Nat) (i ci : Nat) : Prop :=
  (i < tbl.length ∧ LeAt tbl x i ci ∧ (i + 1 = tbl.length ∨ (i + 1 < tbl.length ∧ ∃ m, LtAt tbl x (i + 1) m))) ∨ (i = 0 ∧ ci = 0 ∧ ∃ m, LtAt tbl x 0 m)
theorem sinv_init {tbl : Tbl} (W : Wf tbl) (x : List Nat) : SInv tbl x 0 tbl.length 0 0 false :=
  ⟨Nat.le_refl _, .inl ⟨rfl, rfl⟩, .inl ⟨rfl, rfl⟩, .inr ⟨rfl, by have := W.two; lia⟩⟩
theorem sinv_pre {tbl : Tbl} (W : Wf tbl) {x : List Nat} {i j ci cj : Nat} {f : Bool} (I : SInv tbl x i j ci cj f) {k : Nat} (hk : k = i + (j - i) / 2) {c : Nat} (hc : c = min ci cj) :
    k < tbl.length ∧ (rk tbl k).take c = x.take c ∧ c ≤ (rk tbl k).length ∧ c ≤ x.length := by
  have hij : i < j := by rcases I.st with ⟨_, a, b⟩ | ⟨_, a⟩ <;> lia
  have hkj : k < j := by lia
  have hkn : k < tbl.length := Nat.lt_of_lt_of_le hkj I.hj
  refine ⟨hkn, ?_⟩
  rcases I.lo with ⟨_, h0⟩ | ⟨hi0, d, hd, L⟩
  · have : c = 0 := by lia
    subst this; simp
  · rcases I.hi with ⟨_, h0⟩ | ⟨hjn, d', hd', U⟩
    · have : c = 0 := by lia
      subst this; simp
    · have c1 : c ≤ ci := by lia
      have c2 : c ≤ cj := by lia
      have e1 : (rk tbl i).take c = x.take c := by
        have := congrArg (List.take c) L.eq
        rwa [List.take_take, List.take_take, Nat.min_eq_left c1] at this
      have e2 : (rk tbl j).take c = x.take c := by
        have := congrArg (List.take c) U.eq
        rwa [List.take_take, List.take_take, Nat.min_eq_left c2] at this
      obtain ⟨r1, r2⟩ := squeeze (m := c) (a := rk tbl i) (b := rk tbl k) (c := rk tbl j) (e1.trans e2.symm) (Nat.le_trans c1 L.hk) (Nat.le_trans c2 U.hk)
        (W.mono (by lia) hkn) (W.mono (Nat.le_of_lt hkj) hjn)
      exact ⟨r1.trans e1, r2, Nat.le_trans c1 L.hx⟩
/-- a turn's end: the search goes on -/
theorem sinv_lt {tbl : Tbl} {x : List Nat} {i j ci cj : Nat} {f : Bool} (I : SInv tbl x i j ci cj f) {k m : Nat} {d : Int} (hk : k = i + (j - i) / 2) (C : CmpR (rk tbl k) x m d) (hd : d < 0) :
    (i + 2 ≤ k → SInv tbl x i k ci m f) ∧ (k = i + 1 → i = 0 → SInv tbl x i k ci m true) ∧ (k ≤ i + 1 → (0 < i ∨ k = i ∨ f = true) → Fin tbl x i ci) := by
  have hij : i < j := by rcases I.st with ⟨_, a, b⟩ | ⟨_, a⟩ <;> lia
  have hn := I.hj
  have U : LtAt tbl x k m := ⟨d, hd, C⟩
  refine ⟨fun h => ⟨by lia, I.lo, .inr ⟨by lia, U⟩, ?_⟩, fun h h0 => ⟨by lia, I.lo, .inr ⟨by lia, U⟩, .inl ⟨rfl, h0, by lia⟩⟩, fun h h1 => ?_⟩
  · rcases I.st with ⟨_, a, b⟩ | ⟨a, b⟩
    · lia
    · exact .inr ⟨a, h⟩
  · rcases I.lo with ⟨a, b⟩ | ⟨a, b⟩
    · refine .inr ⟨a, b, m, ?_⟩
      have : k = 0 := by
        rcases I.st with ⟨_, a', b'⟩ | ⟨a', b'⟩
        · lia
        · rcases h1 with h1 | h1 | h1
          · lia
          · lia
          · rw [a'] at h1; cases h1
      exact this ▸ U
    · have : k = i + 1 := by
        rcases I.st with ⟨_, a', b'⟩ | ⟨a', b'⟩ <;> lia
      exact .inl ⟨by lia, b, .inr ⟨by lia, m, this ▸ U⟩⟩
theorem sinv_ge {tbl : Tbl} {x : List Nat} {i j ci cj : Nat} {f : Bool} (I : SInv tbl x i j ci cj f) {k m : Nat} {d : Int} (hk : k = i + (j - i) / 2) (C : CmpR (rk tbl k) x m d) (hd : 0 ≤ d) :
    (k + 2 ≤ j → SInv tbl x k j m cj f) ∧ (j ≤ k + 1 → Fin tbl x k m) := by
  have hij : i < j := by rcases I.st with ⟨_, a, b⟩ | ⟨_, a⟩ <;> lia
  have hn := I.hj
  have U : LeAt tbl x k m := ⟨d, hd, C⟩
  refine ⟨fun h => ?_, fun h => .inl ⟨by lia, U, ?_⟩⟩
  · rcases I.st with ⟨_, a', b'⟩ | ⟨a', b'⟩
    · lia
    · exact ⟨hn, .inr ⟨by lia, U⟩, I.hi, .inr ⟨a', h⟩⟩
  · have hjk : j = k + 1 := by lia
    rcases I.hi with ⟨a, b⟩ | ⟨a, b⟩
    · exact .inl (by lia)
    · exact .inr ⟨by lia, cj, hjk ▸ b⟩
/-- the second loop: i goes down the chain -/
structure Down (tbl : Tbl) (x : List Nat) (ci : Nat) (i : Nat) : Prop where
  hi : i < tbl.length
  all : ∀ t, t < tbl.length → rk tbl t <+: x → rk tbl t <+: rk tbl i
  test : (rk tbl i).length ≤ ci ↔ rk tbl i <+: x
theorem fin_down {tbl : Tbl} (W : Wf tbl) {x : List Nat} {i ci : Nat} (F : Fin tbl x i ci) : ∃ i₀, i₀ = i ∧ Down tbl x ci i ∧ ∀ i', i' < tbl.length → rk tbl i' <+: rk tbl i → ((rk tbl i').length ≤ ci ↔ rk tbl i' <+: x) := by
  have key : ∀ i', i' < tbl.length → rk tbl i' <+: rk tbl i → ((rk tbl i').length ≤ ci ↔ rk tbl i' <+: x) := by
    intro i' hi' hp
    rcases F with ⟨_, ⟨d, hd, C⟩, _⟩ | ⟨rfl, rfl, m, d, hd, C⟩
    · constructor
      · intro hl
        have e1 : (rk tbl i).take (rk tbl i').length = rk tbl i' := List.prefix_iff_eq_take.mp hp |>.symm
        have e2 : (rk tbl i).take (rk tbl i').length = x.take (rk tbl i').length := by
          have := congrArg (List.take (rk tbl i').length) C.eq
          rwa [List.take_take, List.take_take, Nat.min_eq_left hl] at this
        rw [List.prefix_iff_eq_take]
        rw [← e2, e1]
      · intro hx
        refine Nat.le_of_not_lt fun hlt => ?_
        have hl1 := hp.length_le
        have hl2 := hx.length_le
        have g1 : (rk tbl i').getD ci 0 = (rk tbl i).getD ci 0 := by
          obtain ⟨r, hr⟩ := hp
          rw [← hr, List.getD_eq_getElem?_getD, List.getD_eq_getElem?_getD, List.getElem?_append_left hlt]
        have g2 : (rk tbl i').getD ci 0 = x.getD ci 0 := by
          obtain ⟨r, hr⟩ := hx
          rw [← hr, List.getD_eq_getElem?_getD, List.getD_eq_getElem?_getD, List.getElem?_append_left hlt]
        rcases C.end_ with ⟨_, q⟩ | ⟨_, _, q⟩ | ⟨_, _, q, q'⟩
        · lia
        · lia
        · rw [← g1, ← g2] at q'; lia
    · have hlt := C.lt hd
      have hz : ∀ t, t < tbl.length → ¬ rk tbl t <+: x := by
        intro t ht hx
        have h1 := lexLt_prefix hx
        have h2 : lexLt (rk tbl t) (rk tbl 0) = false := W.mono (Nat.zero_le _) ht
        have := lexLt_of_lt_of_le hlt h2
        rw [h1] at this; cases this
      constructor
      · intro hl
        have := W.full i' hi'
        have : (rk tbl i').length ≠ 0 := fun q => this (List.length_eq_zero_iff.mp q)
        lia
      · intro hx; exact absurd hx (hz i' hi')
  have hin : i < tbl.length := by
    rcases F with ⟨a, _⟩ | ⟨rfl, _⟩
    · exact a
    · have := W.two; lia
  refine ⟨i, rfl, ⟨hin, ?_, key i hin (List.prefix_refl _)⟩, key⟩
  intro t ht hx
  rcases F with ⟨_, ⟨d, hd, C⟩, hnext⟩ | ⟨rfl, rfl, m, d, hd, C⟩
  · have hti : t ≤ i := by
      refine Nat.le_of_not_lt fun hlt => ?_
      rcases hnext with q | ⟨q, m, d', hd', C'⟩
      · lia
      · have h1 := lexLt_prefix hx
        have h2 : lexLt (rk tbl t) (rk tbl (i + 1)) = false := W.mono hlt ht
        have := lexLt_of_lt_of_le (C'.lt hd') h2
        rw [h1] at this; cases this
    have e := (squeeze (m := (rk tbl t).length) (a := rk tbl t) (b := rk tbl i) (c := x) (by rw [List.take_length]; exact List.prefix_iff_eq_take.mp hx) (Nat.le_refl _) hx.length_le (W.mono hti hin) (C.le hd)).1
    rw [List.take_length] at e
    rw [List.prefix_iff_eq_take]; exact e.symm
  · exfalso
    have h1 := lexLt_prefix hx
    have h2 : lexLt (rk tbl t) (rk tbl 0) = false := W.mono (Nat.zero_le _) ht
    have := lexLt_of_lt_of_le (C.lt hd) h2
    rw [h1] at this; cases this
/-- what find_among_b tells: the longest entry that x begins with -/
noncomputable def Best (tbl : Tbl) (x : List Nat) (r : Int) (n : Nat) : Prop :=
  (∃ i, i < tbl.length ∧ rk tbl i <+: x ∧ (∀ t, t < tbl.length → rk tbl t <+: x → rk tbl t <+: rk tbl i) ∧ r = (tbl.getD i ([], 0, 0)).2.2 ∧ n = (rk tbl i).length) ∨
  ((∀ t, t < tbl.length → ¬ rk tbl t <+: x) ∧ r = 0 ∧ n = 0)
structure Walk (tbl : Tbl) (x : List Nat) (ci i₀ i : Nat) : Prop where
  hi : i < tbl.length
  up : rk tbl i <+: rk tbl i₀
  all : ∀ t, t < tbl.length → rk tbl t <+: x → rk tbl t <+: rk tbl i
  test : ∀ i', i' < tbl.length → rk tbl i' <+: rk tbl i₀ → ((rk tbl i').length ≤ ci ↔ rk tbl i' <+: x)
theorem walk_init {tbl : Tbl} (W : Wf tbl) {x : List Nat} {i ci : Nat} (F : Fin tbl x i ci) : Walk tbl x ci i i := by
  obtain ⟨_, _, d, t⟩ := fin_down W F
  exact ⟨d.hi, List.prefix_refl _, d.all, t⟩
theorem walk_hit {tbl : Tbl} {x : List Nat} {ci i₀ i : Nat} (K : Walk tbl x ci i₀ i) (h : (rk tbl i).length ≤ ci) : Best tbl x (tbl.getD i ([], 0, 0)).2.2 (rk tbl i).length :=
  .inl ⟨i, K.hi, (K.test i K.hi K.up).mp h, K.all, rfl, rfl⟩
theorem walk_none {tbl : Tbl} (W : Wf tbl) {x : List Nat} {ci i₀ i : Nat} (K : Walk tbl x ci i₀ i) (h : ¬ (rk tbl i).length ≤ ci) (hs : (tbl.getD i ([], 0, 0)).2.1 < 0) : Best tbl x 0 0 :=
  .inr ⟨fun t ht hx => by
    have := W.bot i K.hi hs t ht (K.all t ht hx)
    subst this
    exact h ((K.test _ K.hi K.up).mpr hx), rfl, rfl⟩
theorem walk_next {tbl : Tbl} (W : Wf tbl) {x : List Nat} {ci i₀ i : Nat} (K : Walk tbl x ci i₀ i) (h : ¬ (rk tbl i).length ≤ ci) (hs : 0 ≤ (tbl.getD i ([], 0, 0)).2.1) :
    Walk tbl x ci i₀ (tbl.getD i ([], 0, 0)).2.1.toNat ∧ (tbl.getD i ([], 0, 0)).2.1.toNat < i := by
  obtain ⟨a, b, c⟩ := W.sub i K.hi hs
  refine ⟨⟨Nat.lt_trans a K.hi, b.trans K.up, fun t ht hx => ?_, K.test⟩, a⟩
  rcases c t ht (K.all t ht hx) with rfl | q
  · exact absurd ((K.test _ K.hi K.up).mpr hx) h
  · exact q
theorem rk_len (tbl : Tbl) (i : Nat) : (rk tbl i).length = (tbl.getD i ([], 0, 0)).1.length := by simp [rk]
theorem x_len {l : List Nat} {cu lb : Nat} (h : cu ≤ l.length) : (((l.take cu).drop lb).reverse).length = cu - lb := by simp; lia
theorem rev_at {s : List Nat} {c : Nat} (h : c < s.length) : s.reverse.getD c 0 = s.getD (s.length - 1 - c) 0 := by
  simp [List.getD_eq_getElem?_getD, List.getElem?_reverse h]
theorem x_at {l : List Nat} {cu lb c : Nat} (h : cu ≤ l.length) (hc : c < cu - lb) : (((l.take cu).drop lb).reverse).getD c 0 = l.getD (cu - 1 - c) 0 := by
  have hl : ((l.take cu).drop lb).length = cu - lb := by simp; lia
  rw [rev_at (by rw [hl]; exact hc), hl, List.getD_eq_getElem?_getD, List.getD_eq_getElem?_getD, List.getElem?_drop, List.getElem?_take, if_pos (by lia)]
  congr 2
  lia
theorem take_snoc {a b : List Nat} {c : Nat} (h : a.take c = b.take c) (ha : c < a.length) (hb : c < b.length) (e : a.getD c 0 = b.getD c 0) : a.take (c + 1) = b.take (c + 1) := by
  rw [List.take_succ, List.take_succ, h]
  have ea : a[c]? = some (a.getD c 0) := by simp [ha]
  have eb : b[c]? = some (b.getD c 0) := by simp [hb]
  rw [ea, eb, e]
theorem cmp_at {tbl : Tbl} {l : List Nat} {cu lb com : Int} {k : Nat} (h0 : 0 ≤ lb) (h2 : cu ≤ l.length) (hc : 0 ≤ com) (hx : com < cu - lb) (hk : com < (tbl.getD k ([], 0, 0)).1.length) :
    (((l.take cu.toNat).drop lb.toNat).reverse).getD com.toNat 0 = l.getD (cu - 1 - com).toNat 0 ∧ (rk tbl k).getD com.toNat 0 = (tbl.getD k ([], 0, 0)).1.getD ((tbl.getD k ([], 0, 0)).1.length - 1 - com).toNat 0 := by
  refine ⟨?_, ?_⟩
  · rw [x_at (by lia) (by lia)]
    congr 1
    lia
  · unfold rk
    rw [rev_at (by lia)]
    congr 1
    lia
/-- the three ends of the inner loop, in the walk's own numbers -/
theorem cmp_out {tbl : Tbl} {l : List Nat} {cu lb com : Int} {k : Nat} (h0 : 0 ≤ lb) (h1 : lb ≤ cu) (h2 : cu ≤ l.length) (hc : 0 ≤ com) (e : (rk tbl k).take com.toNat = (((l.take cu.toNat).drop lb.toNat).reverse).take com.toNat)
    (hx : cu - com = lb) (hk : com < (tbl.getD k ([], 0, 0)).1.length) : CmpR (rk tbl k) ((l.take cu.toNat).drop lb.toNat).reverse com.toNat (-1) := by
  have hl := x_len (l := l) (cu := cu.toNat) (lb := lb.toNat) (by lia)
  have hr := rk_len tbl k
  exact ⟨e, by lia, by lia, .inr (.inl ⟨by lia, by lia, rfl⟩)⟩
theorem cmp_part {tbl : Tbl} {l : List Nat} {cu lb com d : Int} {k : Nat} (h0 : 0 ≤ lb) (h1 : lb ≤ cu) (h2 : cu ≤ l.length) (hc : 0 ≤ com) (e : (rk tbl k).take com.toNat = (((l.take cu.toNat).drop lb.toNat).reverse).take com.toNat)
    (hx : com < cu - lb) (hk : com < (tbl.getD k ([], 0, 0)).1.length) (hd : d = (l.getD (cu - 1 - com).toNat 0 : Int) - ((tbl.getD k ([], 0, 0)).1.getD ((tbl.getD k ([], 0, 0)).1.length - 1 - com).toNat 0 : Int)) (hn : d ≠ 0) : CmpR (rk tbl k) ((l.take cu.toNat).drop lb.toNat).reverse com.toNat d := by
  have hl := x_len (l := l) (cu := cu.toNat) (lb := lb.toNat) (by lia)
  have hr := rk_len tbl k
  obtain ⟨a, b⟩ := cmp_at (tbl := tbl) (k := k) h0 h2 hc hx hk
  exact ⟨e, by lia, by lia, .inr (.inr ⟨by lia, by lia, hn, by rw [a, b]; exact hd⟩)⟩
theorem cmp_on {tbl : Tbl} {l : List Nat} {cu lb com : Int} {k : Nat} (h0 : 0 ≤ lb) (h1 : lb ≤ cu) (h2 : cu ≤ l.length) (hc : 0 ≤ com) (e : (rk tbl k).take com.toNat = (((l.take cu.toNat).drop lb.toNat).reverse).take com.toNat)
    (hx : com < cu - lb) (hk : com < (tbl.getD k ([], 0, 0)).1.length) (hd : (l.getD (cu - 1 - com).toNat 0 : Int) - ((tbl.getD k ([], 0, 0)).1.getD ((tbl.getD k ([], 0, 0)).1.length - 1 - com).toNat 0 : Int) = 0) :
    (rk tbl k).take (com + 1).toNat = (((l.take cu.toNat).drop lb.toNat).reverse).take (com + 1).toNat := by
  have hl := x_len (l := l) (cu := cu.toNat) (lb := lb.toNat) (by lia)
  have hr := rk_len tbl k
  obtain ⟨a, b⟩ := cmp_at (tbl := tbl) (k := k) h0 h2 hc hx hk
  rw [show (com + 1).toNat = com.toNat + 1 by lia]
  exact take_snoc e (by lia) (by lia) (by rw [a, b]; lia)
theorem cmp_end {tbl : Tbl} {l : List Nat} {cu lb com : Int} {k : Nat} (h0 : 0 ≤ lb) (h1 : lb ≤ cu) (h2 : cu ≤ l.length) (hc : 0 ≤ com) (e : (rk tbl k).take com.toNat = (((l.take cu.toNat).drop lb.toNat).reverse).take com.toNat)
    (hx : com ≤ cu - lb) (hk : com = (tbl.getD k ([], 0, 0)).1.length) : CmpR (rk tbl k) ((l.take cu.toNat).drop lb.toNat).reverse com.toNat 0 := by
  have hl := x_len (l := l) (cu := cu.toNat) (lb := lb.toNat) (by lia)
  have hr := rk_len tbl k
  exact ⟨e, by lia, by lia, .inl ⟨rfl, by lia⟩⟩
noncomputable def subOf (tbl : Tbl) (i : Nat) : Int := (tbl.getD i ([], 0, 0)).2.1
noncomputable def wfB (tbl : Tbl) : Bool :=
  Nat.ble 2 tbl.length && Nat.ble tbl.length 1000 && tbl.all (fun e => Nat.ble e.1.length 10 && Nat.ble 1 e.1.length) &&
  (List.range tbl.length).all (fun j => (List.range j).all fun i => lexLt (rk tbl i) (rk tbl j)) &&
  decide (subOf tbl 0 < 0) &&
  (List.range tbl.length).all fun i => bif decide (subOf tbl i < 0) then (List.range tbl.length).all (fun t => !(rk tbl t).isPrefixOf (rk tbl i) || Nat.beq t i)
    else Nat.blt (subOf tbl i).toNat i && (rk tbl (subOf tbl i).toNat).isPrefixOf (rk tbl i) && (List.range tbl.length).all (fun t => !(rk tbl t).isPrefixOf (rk tbl i) || Nat.beq t i || (rk tbl t).isPrefixOf (rk tbl (subOf tbl i).toNat))
theorem wf_of {tbl : Tbl} (h : wfB tbl = true) : Wf tbl := by
  unfold wfB at h
  simp only [Bool.and_eq_true, List.all_eq_true, List.mem_range, decide_eq_true_eq, Nat.ble_eq] at h
  obtain ⟨⟨⟨⟨⟨h1, h2⟩, h3⟩, h4⟩, h5⟩, h6⟩ := h
  have mem : ∀ i, i < tbl.length → tbl.getD i ([], 0, 0) ∈ tbl := fun i hi => by simp [hi]
  refine ⟨h1, h2, fun i => ?_, fun i j hij hj => h4 j hj i hij, fun i hi he => ?_, h5, fun i hi hs t ht hp => ?_, fun i hi hs => ?_⟩
  · by_cases hi : i < tbl.length
    · exact (h3 _ (mem i hi)).1
    · have : tbl.getD i ([], 0, 0) = ([], 0, 0) := by simp [Nat.not_lt.mp hi]
      rw [this]; simp
  · have := (h3 _ (mem i hi)).2
    unfold rk at he
    rw [List.reverse_eq_nil_iff] at he
    rw [he] at this
    simp at this
  · have q := h6 i hi
    have e : decide (subOf tbl i < 0) = true := decide_eq_true hs
    rw [e] at q
    simp only [cond_true, List.all_eq_true, List.mem_range, Bool.or_eq_true, Bool.not_eq_true'] at q
    rcases q t ht with r | r
    · rw [List.isPrefixOf_iff_prefix.mpr hp] at r; cases r
    · exact Nat.eq_of_beq_eq_true r
  · have q := h6 i hi
    have e : decide (subOf tbl i < 0) = false := decide_eq_false (by show ¬ (tbl.getD i ([], 0, 0)).2.1 < 0; lia)
    rw [e] at q
    simp only [cond_false, Bool.and_eq_true, List.all_eq_true, List.mem_range, Bool.or_eq_true, Bool.not_eq_true'] at q
    obtain ⟨⟨q1, q2⟩, q3⟩ := q
    refine ⟨Nat.le_of_ble_eq_true q1, List.isPrefixOf_iff_prefix.mp q2, fun t ht hp => ?_⟩
    rcases q3 t ht with (r | r) | r
    · rw [List.isPrefixOf_iff_prefix.mpr hp] at r; cases r
    · exact .inl (Nat.eq_of_beq_eq_true r)
    · exact .inr (List.isPrefixOf_iff_prefix.mp r)
theorem wf0 : Wf tbl0 := wf_of (by decide +kernel)
theorem wf1 : Wf tbl1 := wf_of (by decide +kernel)
theorem wf2 : Wf tbl2 := wf_of (by decide +kernel)
theorem wf3 : Wf tbl3 := wf_of (by decide +kernel)
end Mine
end
section
open PySem PySem.W PyProof.Rows PySem.Calls PySem.Spec
set_option maxRecDepth 100000
namespace Mine
section
variable {prog : Program} {w : World} {A : Around} {E : Value → Shared → Prop} {Q : Flow → Shared → Prop} {s : Shared} {env : Env} {h₀ : Heap} {L : Addr} {σ : Type}
noncomputable def CutEnd (h₀ : Heap) (L : Addr) (s : Shared) (Led : σ → List (Addr × Obj)) (ps : σ → List (Str × Value)) (stored : List Str) (m₀ : Str → Option Value) (P : σ → Prop) (s₂ : Shared) : Prop :=
  ∃ (c : σ) (h' : Heap) (tk : Nat) (m' : Str → Option Value) (news' : List (Addr × Obj)), s₂ = { s with heap := h', toks := tk } ∧ Fr h₀ L h' m' ∧ News h₀ L h' news' ∧ (∀ p ∈ Led c, p ∈ news') ∧ (∀ p ∈ ps c, m' p.1 = some p.2) ∧ (∀ z, (∀ p ∈ ps c, z ≠ p.1) → stored.contains z = false → m' z = m₀ z) ∧ P c
noncomputable def CutPost (h₀ : Heap) (L : Addr) (s : Shared) (Led : σ → List (Addr × Obj)) (ps : σ → List (Str × Value)) (stored : List Str) (m₀ : Str → Option Value) (P : σ → Prop) (f : Flow) (s₂ : Shared) : Prop :=
  f = .next ∧ CutEnd h₀ L s Led ps stored m₀ P s₂
theorem cut_end {Led : σ → List (Addr × Obj)} {ps : σ → List (Str × Value)} {stored : List Str} {m₀ m' : Str → Option Value} {P : σ → Prop} {h' : Heap} {tk : Nat} {news' : List (Addr × Obj)} (c : σ)
    (F : Fr h₀ L h' m') (N : News h₀ L h' news') (hn : ∀ p ∈ Led c, p ∈ news') (hk : Has m' (ps c)) (hr : ∀ z, (∀ p ∈ ps c, z ≠ p.1) → stored.contains z = false → m' z = m₀ z) (hp : P c) :
    CutPost h₀ L s Led ps stored m₀ P .next { s with heap := h', toks := tk } := ⟨rfl, c, h', tk, m', news', rfl, F, N, hn, hk, hr, hp⟩
theorem cut_exec {t : Sem Flow} {m₀ : Str → Option Value} {news : List (Addr × Obj)} (_F : Fr h₀ L s.heap m₀) (_N : News h₀ L s.heap news) (Led : σ → List (Addr × Obj)) (ps : σ → List (Str × Value)) (stored : List Str) (P : σ → Prop)
    (h : wpAny (model prog w) A t (CutPost h₀ L s Led ps stored m₀ P) E s)
    (k : ∀ (c : σ) (u : Str → Option Value) h tk, P c → Fr h₀ L h (kstB (fun z => if stored.contains z then u z else m₀ z) (ps c)) → News h₀ L h (Led c) → Q .next { s with heap := h, toks := tk }) :
    wpAny (model prog w) A t Q E s :=
  wpAny_mono h (fun f s₂ ⟨e, c, h', tk, m', news', es, F, N, hn, hk, hr, hp⟩ => by
    subst e es
    exact k c m' h' tk hp (ksw_fr hk hr F) fun p hp => N p (hn p hp)) fun _ _ x => x
theorem for_at {m₀ : Str → Option Value} {x : Str} {px pos : Pos} {iter : PySem.Expr} {body : List PySem.Stmt} (_F : Fr h₀ env.locals s.heap m₀) (hx : env.kindOf x = some .local)
    (hp : (env.scope.kind == .class || (env.scope.kind == .module && env.locals != env.globals)) = false)
    (h : wpAny (model prog w) A (eval iter env) (fun xv s₁ => wpAny (model prog w) A (pyIter xv) (fun it s₂ => LoopAtV prog w A h₀ env x body Q E it s₂) E s₁) E s)
    (hs : ∀ x, foldedSetIterable iter env x = pure x := by intro _; rfl)
    (hE : PassesOwn (model prog w) A env E := by passes_own) :
    wpAny (model prog w) A (exec (.For (.Name x px) iter body [] pos) env) Q E s := For_invV h₀ hx hp h hs hE
noncomputable def MiEnd (h₀ : Heap) (L : Addr) (Led : σ → List (Addr × Obj)) (ps : σ → List (Str × Value)) (x : Str) (stored : List Str) (m₀ : Str → Option Value) (P : List Int → σ → Prop) (pre : List Int) (own : List (Addr × Obj)) (adr : List Addr) (s₁ s₂ : Shared) : Prop :=
  InvEndN h₀ L (KstS Led ps (fun _ => True) x stored m₀ P pre) own adr s₁ s₂
noncomputable def MiPost (h₀ : Heap) (L : Addr) (Led : σ → List (Addr × Obj)) (ps : σ → List (Str × Value)) (x : Str) (stored : List Str) (m₀ : Str → Option Value) (P : List Int → σ → Prop) (pre : List Int) (own : List (Addr × Obj)) (adr : List Addr) (s₁ : Shared) (Q : Flow → Shared → Prop) (f : Flow) (s₂ : Shared) : Prop :=
  match f with
  | .ret v => Q (.ret v) s₂
  | .brk => Q .next s₂
  | _ => MiEnd h₀ L Led ps x stored m₀ P pre own adr s₁ s₂
theorem mi_end {Led : σ → List (Addr × Obj)} {ps : σ → List (Str × Value)} {x : Str} {stored : List Str} {m₀ m' : Str → Option Value} {P : List Int → σ → Prop} {pre : List Int} {own news' : List (Addr × Obj)} {adr : List Addr} {h' : Heap} {tk : Nat} (c : σ)
    (F : Fr h₀ L h' m') (N : News h₀ L h' news') (hn : ∀ p ∈ Led c, p ∈ news') (ho : ∀ p ∈ own, p ∈ news') (ha : (Led c).map (·.1) = adr) (hk : Has m' (ps c))
    (hr : ∀ z, z ≠ x → (∀ p ∈ ps c, z ≠ p.1) → stored.contains z = false → m' z = m₀ z) (hp : P pre c) :
    MiEnd h₀ L Led ps x stored m₀ P pre own adr s { s with heap := h', toks := tk } := ⟨h', tk, m', news', Led c, rfl, F, N, hn, ho, ha, c, rfl, trivial, hk, hr, hp⟩
theorem mi_of {Led : σ → List (Addr × Obj)} {ps : σ → List (Str × Value)} {x : Str} {stored : List Str} {m₀ : Str → Option Value} {P : List Int → σ → Prop} {pre : List Int} {own : List (Addr × Obj)} {adr : List Addr} {t : Sem Flow} {s₁ : Shared}
    (h : wpAny (model prog w) A t (MiPost h₀ L Led ps x stored m₀ P pre own adr s₁ Q) E s) : wpAny (model prog w) A t (InvPostN h₀ L (KstS Led ps (fun _ => True) x stored m₀ P pre) own adr s₁ Q) E s :=
  wpAny_mono h (fun f s₂ r => by cases f <;> exact r) fun _ _ x => x
theorem mi_down {x : Str} {body : List PySem.Stmt} {r : Addr} {a₀ : Int} {t₀ u₀ v₀ : Tok} {n : Nat} {m₀ : Str → Option Value} (Led : σ → List (Addr × Obj)) (ps : σ → List (Str × Value)) (stored : List Str) (P : List Int → σ → Prop) (c₀ : σ)
    (hh : A.handled = none) (hr : IsRange s.heap r a₀ (-1) (-1) t₀ u₀ v₀) (h1 : -1 ≤ a₀) (h2 : a₀ < 2 ^ 20) (hn : n = (a₀ + 1).toNat) (F : Fr h₀ env.locals s.heap m₀) (N : News h₀ env.locals s.heap (Led c₀)) (hk : Has m₀ (ps c₀)) (hp : P [] c₀)
    (turn : ∀ (c : σ) (pre : List Int) (k : Int) t (u : Str → Option Value) h tk own, k = a₀ - (pre.length : Int) → pre.length < n → OwnOff own ((Led c₀).map (·.1)) → P pre c →
      Fr h₀ env.locals h (fun y => if y = x then some (.int k t) else kstB (fun z => if stored.contains z then u z else m₀ z) (ps c) y) → News h₀ env.locals h (Led c ++ own) →
      wpAny (model prog w) A (execs body env) (MiPost h₀ env.locals Led ps x stored m₀ P (pre ++ [k]) own ((Led c₀).map (·.1)) { s with heap := h, toks := tk } Q) E { s with heap := h, toks := tk })
    (done : ∀ (c : σ) (pre : List Int) (u : Str → Option Value) h tk, pre.length = n → P pre c → Fr h₀ env.locals h (fun y => if y = x then u y else kstB (fun z => if stored.contains z then u z else m₀ z) (ps c) y) → News h₀ env.locals h (Led c) → Q .next { s with heap := h, toks := tk }) :
    wpAny (model prog w) A (pyIter (.ref r)) (fun it s₂ => LoopAtV prog w A h₀ env x body Q E it s₂) E s :=
  kst_rangeD Led ps (fun _ => True) stored P c₀ hh hr (small_down (by lia) (by lia) (by lia) (by lia)) (by rw [rangeSize_downNat, hn]; congr 2) F N trivial hk hp
    (fun c pre k t u h tk own e1 e2 e3 _ e4 e5 e6 => mi_of (turn c pre k t u h tk own e1 e2 e3 e4 e5 e6))
    (fun c u h tk _ e1 e2 e3 => done c _ u h tk (downKs_length _ _) e1 e2 e3)
end
end Mine
end
section
local macro_rules | `(tactic| walk_at $s:str) => `(tactic| k_extra $s)
local macro_rules | `(tactic| k_all) => `(tactic| assumption)
local macro_rules | `(tactic| k_qdec) => `(tactic| decide +kernel)
section
open PySem PySem.W PyProof.Rows PySem.Calls PySem.Spec
set_option maxRecDepth 100000
set_option maxHeartbeats 8000000
namespace Mine
noncomputable abbrev loose0 : List Str := [Str.ofString "LithuanianStemmer", Str.ofString "_law_clash", Str.ofString "_law_hard", Str.ofString "_law_gd",
      Str.ofString "_law_mark", Str.ofString "_law_once", Str.ofString "_law_once_also_with_i",
      Str.ofString "_law_often", Str.ofString "_law_often_also_with_i"]
noncomputable abbrev D6 (P : Params) (κ0 κ1 κ2 κ3 κ4 κ5 : Tok) (c cu li lb br ke : Value) : Obj := dictOf [⟨PyData.keyHash P (Str.ofString "current"), .str (Str.ofString "current") κ0, c⟩, ⟨PyData.keyHash P (Str.ofString "cursor"), .str (Str.ofString "cursor") κ1, cu⟩, ⟨PyData.keyHash P (Str.ofString "limit"), .str (Str.ofString "limit") κ2, li⟩, ⟨PyData.keyHash P (Str.ofString "limit_backward"), .str (Str.ofString "limit_backward") κ3, lb⟩, ⟨PyData.keyHash P (Str.ofString "bra"), .str (Str.ofString "bra") κ4, br⟩, ⟨PyData.keyHash P (Str.ofString "ket"), .str (Str.ofString "ket") κ5, ke⟩] 6
noncomputable abbrev D7 (P : Params) (κ0 κ1 κ2 κ3 κ4 κ5 κ6 : Tok) (c cu li lb br ke p1 : Value) : Obj := dictOf [⟨PyData.keyHash P (Str.ofString "current"), .str (Str.ofString "current") κ0, c⟩, ⟨PyData.keyHash P (Str.ofString "cursor"), .str (Str.ofString "cursor") κ1, cu⟩, ⟨PyData.keyHash P (Str.ofString "limit"), .str (Str.ofString "limit") κ2, li⟩, ⟨PyData.keyHash P (Str.ofString "limit_backward"), .str (Str.ofString "limit_backward") κ3, lb⟩, ⟨PyData.keyHash P (Str.ofString "bra"), .str (Str.ofString "bra") κ4, br⟩, ⟨PyData.keyHash P (Str.ofString "ket"), .str (Str.ofString "ket") κ5, ke⟩, ⟨PyData.keyHash P (Str.ofString "I_p1"), .str (Str.ofString "I_p1") κ6, p1⟩] 7
theorem reg_B1T_1 : True := by
  k_with_none
  k_with "mp" => (first | assumption | lia | decide | (simp; lia) | (simp_all; done) | (simp_all; lia))
  k_with "mN" => (first | k_asm | exact cb_drop (by assumption) (by first | kcj_in | kcj_all))
  k_with "mGW" => (first | assumption | exact Glb.keep (by assumption) (Fr.keep (by assumption)) | exact Glb.keep (by assumption) (Below.stays (by assumption)))
  k_with "mG" => (first | assumption | exact Glb.keep (by assumption) (Fr.keep (by assumption)))
  k_with "mo" => (first | lia | (dsimp only; lia))
  k_with "mr" => (first | exact rfl | assumption)
  k_with "subscriptTail" => ((k_here; (with_reducible show wpAny _ _ (subscriptTail _ _ (Value.str (mk _) _) (Value.int _ _)) _ _ _); (refine' r_item (by lia) (by lia) (by lia) ?_); intro _ _))
  k_with "subscriptTail" => ((k_here; (with_reducible rename Fr _ _ _ _ => F'); (with_reducible rename News _ _ _ _ => N'); (with_reducible show wpAny _ _ (subscriptTail _ (Expr.Slice (some _) (some _) none _) (Value.str (mk _) _) (Value.ref _)) _ _ _); (refine' r_slice_ss (s := ⟨_, _, _, _, _⟩) F' N' (by lia) (by lia) (by lia) (by lia) ?_); intro _ _ _ _ _))
  k_with "subscriptTail" => ((k_here; (with_reducible rename Fr _ _ _ _ => F'); (with_reducible rename News _ _ _ _ => N'); (with_reducible show wpAny _ _ (subscriptTail _ (Expr.Slice (some _) none none _) (Value.str (mk _) _) (Value.ref _)) _ _ _); (refine' r_slice_sn (s := ⟨_, _, _, _, _⟩) F' N' (by lia) (by lia) (by lia) ?_); intro _ _ _ _ _))
  k_with "subscriptTail" => ((k_here; (with_reducible rename Fr _ _ _ _ => F'); (with_reducible rename News _ _ _ _ => N'); (with_reducible show wpAny _ _ (subscriptTail _ (Expr.Slice none (some _) none _) (Value.str (mk _) _) (Value.ref _)) _ _ _); (refine' r_slice_ns (s := ⟨_, _, _, _, _⟩) F' N' (by lia) (by lia) (by lia) ?_); intro _ _ _ _ _))
  k_with "call builtin:len" => ((k_here; (with_reducible show wpAny _ _ (call (Value.builtin "len") [Value.str (mk _) _]) _ _ _); (refine' r_len (by lia) ?_); intro _ _))
  k_with "binaryOp Add" => ((k_here; (with_reducible show wpAny _ _ (binaryOp Operator.Add (Value.str (mk _) _) (Value.str (mk _) _)) _ _ _); (refine' r_add (by first | lia | (simp; lia)) (by first | lia | (simp; lia)) ?_); intro _ _))
  k_with "compareOp Eq" => ((k_here; (with_reducible show wpAny _ _ (compareOp CmpOp.Eq (Value.str (mk _) _) (Value.str (mk _) _)) _ _ _); refine r_eq ?_))
  k_with "call builtin:str.endswith" => ((k_here; (with_reducible show wpAny _ _ (call (Value.builtin "str.endswith") [Value.str (mk _) _, Value.str (mk _) _]) _ _ _); refine r_ends ?_))
  trivial
theorem lit_empty : Str.ofString "" = mk [] := by decide +kernel
theorem lit_gd : Str.ofString "gd" = mk [103, 100] := by decide +kernel
theorem lit_g : Str.ofString "g" = mk [103] := by decide +kernel
theorem lit_a : Str.ofString "a" = mk [97] := by decide +kernel
theorem lit_apo : Str.ofString "'" = mk [39] := by decide +kernel
theorem replace_s_ok : ∀ {w : World} {dp un : Nat} {gd : Option (List Code)} {cn : Str} {cs : Scope} {a : Addr} {ccd : Value} {cl : List (Str × Addr)} {outer : List Env} {A₀ : Around} {base h₀ : Heap} {L : Addr} {m : Str → Option Value} {s : Shared} {Q E : Value → Shared → Prop} {mean : ExcName → Option Value} {mg mb : Str → Option Value} {S D : Addr} {rest : List (Addr × Obj)} {κ0 κ1 κ2 κ3 κ4 κ5 κ6 : Tok} {l x : List Nat} {cu li lb br ke p1 : Int} {t0 t1 t2 t3 t4 t5 t6 t7 t8 t9 : Tok} {b k : Int}
    (B : Below A₀ base outer h₀) (F : Fr h₀ L s.heap m) (X : (MineH.KK w.params).In h₀) (N : News h₀ L s.heap ((S, instObj 1087 D) :: (D, D7 w.params κ0 κ1 κ2 κ3 κ4 κ5 κ6 (.str (mk l) t0) (.int cu t1) (.int li t2) (.int lb t3) (.int br t4) (.int ke t5) (.int p1 t6)) :: rest))
    (T : Top MineH.VW (looseW MineH.VW loose0) mean mg mb h₀) (hk : cs.kind = .function) (hDS : @LT.lt Nat _ D S) (hr : ∀ p ∈ rest, p.1 ≠ D) (G : Glb w h₀) (hdp : dp + 2 < recursionLimit) (hun : un + 18 < cLine) (hb : 0 ≤ b) (hbk : b ≤ k) (hkl : k ≤ l.length) (hl : l.length ≤ 500) (hx : x.length ≤ 100) (hli : li = l.length)
    (hret : ∀ (l' : List Nat) (cu' li' r : Int) (t0 t1 t2 t3 t4 t5 t6 t7 : Tok) (h' : Heap) (tk' : Nat), l' = l.take b.toNat ++ x ++ l.drop k.toNat → cu' = (if k ≤ cu then cu + ((x.length : Int) - (k - b)) else if b < cu then b else cu) → li' = li + ((x.length : Int) - (k - b)) → r = (x.length : Int) - (k - b) → Fr h₀ L h' m → News h₀ L h' ((S, instObj 1087 D) :: (D, D7 w.params κ0 κ1 κ2 κ3 κ4 κ5 κ6 (.str (mk l') t0) (.int cu' t1) (.int li' t2) (.int lb t3) (.int br t4) (.int ke t5) (.int p1 t6)) :: rest) → Q (.int r t7) { s with heap := h', toks := tk' }),
    wpAny (model PySem.Challenge.rw_iu0024_01.row.prog w) (ktrTop dp un gd cn cs L a ccd cl outer) (call (.ref 147) [.ref S, .int b t7, .int k t8, .str (mk x) t9]) Q E s := by
  k_fill
  intros; rename_i hret
  refine wpAny_call ?_
  k_dflt cell_enter
  k_steps
  all_goals (refine' hret _ _ _ _ _ _ _ _ _ _ _ _ _ _ ?e0 ?e1 ?e2 ?e3 ?kF ?kN; (case kN => assumption); (case e0 => rfl); (case e1 => ((try simp only [decide_eq_true_eq, decide_eq_false_iff_not] at *); (repeat' split) <;> lia)); (case e2 => rfl); (case e3 => rfl); (case kF => assumption))
theorem reg_B1T_2 : True := by
  k_with "call ref" => ((k_here; (with_reducible show wpAny _ _ (call (Value.ref 147) _) _ _ _); k_dflt (apply replace_s_ok; (case F => k_asm); (case N => walk_at "mN"); (case B => k_asm); (case X => k_asm); (case T => k_asm); (case hk => walk_at "mr"); (case hDS => assumption); (case hr => assumption); (case G => walk_at "mG"); (case hdp => walk_at "mo"); (case hun => walk_at "mo"); (case hb => walk_at "mp"); (case hbk => walk_at "mp"); (case hkl => walk_at "mp"); (case hl => walk_at "mp"); (case hx => walk_at "mp"); (case hli => walk_at "mp"); intros; (try k_sweep))))
  trivial
theorem slice_from_ok : ∀ {w : World} {dp un : Nat} {gd : Option (List Code)} {cn : Str} {cs : Scope} {a : Addr} {ccd : Value} {cl : List (Str × Addr)} {outer : List Env} {A₀ : Around} {base h₀ : Heap} {L : Addr} {m : Str → Option Value} {s : Shared} {Q E : Value → Shared → Prop} {mean : ExcName → Option Value} {mg mb : Str → Option Value} {S D : Addr} {rest : List (Addr × Obj)} {κ0 κ1 κ2 κ3 κ4 κ5 κ6 : Tok} {l x : List Nat} {cu li lb br ke p1 : Int} {t0 t1 t2 t3 t4 t5 t6 t7 : Tok}
    (B : Below A₀ base outer h₀) (F : Fr h₀ L s.heap m) (X : (MineH.KK w.params).In h₀) (N : News h₀ L s.heap ((S, instObj 1087 D) :: (D, D7 w.params κ0 κ1 κ2 κ3 κ4 κ5 κ6 (.str (mk l) t0) (.int cu t1) (.int li t2) (.int lb t3) (.int br t4) (.int ke t5) (.int p1 t6)) :: rest))
    (T : Top MineH.VW (looseW MineH.VW loose0) mean mg mb h₀) (hk : cs.kind = .function) (hDS : @LT.lt Nat _ D S) (hr : ∀ p ∈ rest, p.1 ≠ D) (G : Glb w h₀) (hdp : dp + 3 < recursionLimit) (hun : un + 22 < cLine) (hcu : cu = br) (hke : ke = li) (hli : li = l.length) (hb : 0 ≤ br) (hbk : br < li) (hl : l.length ≤ 500) (hx : x.length ≤ 100)
    (hret : ∀ (l' : List Nat) (cu' li' ke' : Int) (t0 t1 t2 t3 t4 t5 t6 : Tok) (h' : Heap) (tk' : Nat), l' = l.take br.toNat ++ x → cu' = br → li' = l'.length → Fr h₀ L h' m → News h₀ L h' ((S, instObj 1087 D) :: (D, D7 w.params κ0 κ1 κ2 κ3 κ4 κ5 κ6 (.str (mk l') t0) (.int cu' t1) (.int li' t2) (.int lb t3) (.int br t4) (.int ke' t5) (.int p1 t6)) :: rest) → Q .none { s with heap := h', toks := tk' }),
    wpAny (model PySem.Challenge.rw_iu0024_01.row.prog w) (ktrTop dp un gd cn cs L a ccd cl outer) (call (.ref 154) [.ref S, .str (mk x) t7]) Q E s := by
  k_fill
  intros; rename_i hret
  refine wpAny_call ?_
  k_dflt cell_enter
  k_steps
  all_goals (refine' hret _ _ _ _ _ _ _ _ _ _ _ _ _ ?e0 ?e1 ?e2 ?kF ?kN; (case kN => assumption); (case e0 => (subst_vars; simp)); (case e1 => (subst_vars; split <;> lia)); (case e2 => (subst_vars; simp; lia)); (case kF => assumption))
theorem reg_B1T_3 : True := by
  k_with "call ref" => ((k_here; (with_reducible show wpAny _ _ (call (Value.ref 154) _) _ _ _); k_dflt (apply slice_from_ok; (case F => k_asm); (case N => walk_at "mN"); (case B => k_asm); (case X => k_asm); (case T => k_asm); (case hk => walk_at "mr"); (case hDS => assumption); (case hr => assumption); (case G => walk_at "mG"); (case hdp => walk_at "mo"); (case hun => walk_at "mo"); (case hcu => walk_at "mp"); (case hke => walk_at "mp"); (case hli => walk_at "mp"); (case hb => walk_at "mp"); (case hbk => walk_at "mp"); (case hl => walk_at "mp"); (case hx => walk_at "mp"); intros; (try k_sweep))))
  k_with "call ref" => ((k_here; (with_reducible show wpAny _ _ (call (Value.ref 154) [_, Value.str (Str.ofString "") _]) _ _ _); rw [lit_empty]; walk1))
  trivial
theorem slice_del_ok : ∀ {w : World} {dp un : Nat} {gd : Option (List Code)} {cn : Str} {cs : Scope} {a : Addr} {ccd : Value} {cl : List (Str × Addr)} {outer : List Env} {A₀ : Around} {base h₀ : Heap} {L : Addr} {m : Str → Option Value} {s : Shared} {Q E : Value → Shared → Prop} {mean : ExcName → Option Value} {mg mb : Str → Option Value} {S D : Addr} {rest : List (Addr × Obj)} {κ0 κ1 κ2 κ3 κ4 κ5 κ6 : Tok} {l : List Nat} {cu li lb br ke p1 : Int} {t0 t1 t2 t3 t4 t5 t6 : Tok}
    (B : Below A₀ base outer h₀) (F : Fr h₀ L s.heap m) (X : (MineH.KK w.params).In h₀) (N : News h₀ L s.heap ((S, instObj 1087 D) :: (D, D7 w.params κ0 κ1 κ2 κ3 κ4 κ5 κ6 (.str (mk l) t0) (.int cu t1) (.int li t2) (.int lb t3) (.int br t4) (.int ke t5) (.int p1 t6)) :: rest))
    (T : Top MineH.VW (looseW MineH.VW loose0) mean mg mb h₀) (hk : cs.kind = .function) (hDS : @LT.lt Nat _ D S) (hr : ∀ p ∈ rest, p.1 ≠ D) (G : Glb w h₀) (hdp : dp + 4 < recursionLimit) (hun : un + 26 < cLine) (hcu : cu = br) (hke : ke = li) (hli : li = l.length) (hb : 0 ≤ br) (hbk : br < li) (hl : l.length ≤ 500)
    (hret : ∀ (l' : List Nat) (cu' li' ke' : Int) (t0 t1 t2 t3 t4 t5 t6 : Tok) (h' : Heap) (tk' : Nat), l' = l.take br.toNat → cu' = br → li' = l'.length → Fr h₀ L h' m → News h₀ L h' ((S, instObj 1087 D) :: (D, D7 w.params κ0 κ1 κ2 κ3 κ4 κ5 κ6 (.str (mk l') t0) (.int cu' t1) (.int li' t2) (.int lb t3) (.int br t4) (.int ke' t5) (.int p1 t6)) :: rest) → Q .none { s with heap := h', toks := tk' }),
    wpAny (model PySem.Challenge.rw_iu0024_01.row.prog w) (ktrTop dp un gd cn cs L a ccd cl outer) (call (.ref 161) [.ref S]) Q E s := by
  k_fill
  intros; rename_i hret
  refine wpAny_call ?_
  k_dflt cell_enter
  k_steps
  all_goals (refine' hret _ _ _ _ _ _ _ _ _ _ _ _ _ ?e0 ?e1 ?e2 ?kF ?kN; (case kN => assumption); (case e0 => (subst_vars; simp)); (case e1 => (first | assumption | rfl)); (case e2 => (subst_vars; simp)); (case kF => assumption))
theorem suf_len {x l : List Nat} {cu lb : Int} (h : x <:+ (l.take cu.toNat).drop lb.toNat) (h0 : 0 ≤ lb) (h1 : lb ≤ cu) (h2 : cu ≤ l.length) : (x.length : Int) ≤ cu - lb := by
  have q := h.length_le
  simp at q
  lia
theorem eq_s_b_ok : ∀ {w : World} {dp un : Nat} {gd : Option (List Code)} {cn : Str} {cs : Scope} {a : Addr} {ccd : Value} {cl : List (Str × Addr)} {outer : List Env} {A₀ : Around} {base h₀ : Heap} {L : Addr} {m : Str → Option Value} {s : Shared} {Q E : Value → Shared → Prop} {mean : ExcName → Option Value} {mg mb : Str → Option Value} {S D : Addr} {rest : List (Addr × Obj)} {κ0 κ1 κ2 κ3 κ4 κ5 κ6 : Tok} {l x : List Nat} {cu li lb br ke p1 : Int} {t0 t1 t2 t3 t4 t5 t6 t7 : Tok}
    (B : Below A₀ base outer h₀) (F : Fr h₀ L s.heap m) (X : (MineH.KK w.params).In h₀) (N : News h₀ L s.heap ((S, instObj 1087 D) :: (D, D7 w.params κ0 κ1 κ2 κ3 κ4 κ5 κ6 (.str (mk l) t0) (.int cu t1) (.int li t2) (.int lb t3) (.int br t4) (.int ke t5) (.int p1 t6)) :: rest))
    (T : Top MineH.VW (looseW MineH.VW loose0) mean mg mb h₀) (hk : cs.kind = .function) (hDS : @LT.lt Nat _ D S) (hr : ∀ p ∈ rest, p.1 ≠ D) (G : Glb w h₀) (hdp : dp + 2 < recursionLimit) (hun : un + 18 < cLine) (h0 : 0 ≤ lb) (h1 : lb ≤ cu) (h2 : cu ≤ l.length) (hl : l.length ≤ 500) (hx : x.length ≤ 100)
    (hret : ∀ (r : Bool) (cu' : Int) (t0 t1 t2 t3 t4 t5 t6 : Tok) (h' : Heap) (tk' : Nat), r = decide (x <:+ (l.take cu.toNat).drop lb.toNat) → (r = true → cu' = cu - x.length ∧ (x.length : Int) ≤ cu - lb) → (r = false → cu' = cu) → Fr h₀ L h' m → News h₀ L h' ((S, instObj 1087 D) :: (D, D7 w.params κ0 κ1 κ2 κ3 κ4 κ5 κ6 (.str (mk l) t0) (.int cu' t1) (.int li t2) (.int lb t3) (.int br t4) (.int ke t5) (.int p1 t6)) :: rest) → Q (.bool r) { s with heap := h', toks := tk' }),
    wpAny (model PySem.Challenge.rw_iu0024_01.row.prog w) (ktrTop dp un gd cn cs L a ccd cl outer) (call (.ref 126) [.ref S, .str (mk x) t7]) Q E s := by
  k_fill
  intros; rename_i hret
  refine wpAny_call ?_
  k_dflt cell_enter
  k_steps
  all_goals (refine' hret _ _ _ _ _ _ _ _ _ _ _ ?e0 ?e1 ?e2 ?kF ?kN; (case kN => assumption); (case e0 => (simp_all; done)); (case e1 => (intro hh; first | (cases hh; done) | exact ⟨rfl, suf_len (by first | assumption | exact of_decide_eq_true (by assumption)) (by assumption) (by assumption) (by assumption)⟩)); (case e2 => (intro hh; first | (cases hh; done) | rfl)); (case kF => assumption))
theorem get_current_ok : ∀ {w : World} {dp un : Nat} {gd : Option (List Code)} {cn : Str} {cs : Scope} {a : Addr} {ccd : Value} {cl : List (Str × Addr)} {outer : List Env} {A₀ : Around} {base h₀ : Heap} {L : Addr} {m : Str → Option Value} {s : Shared} {Q E : Value → Shared → Prop} {mean : ExcName → Option Value} {mg mb : Str → Option Value} {S D : Addr} {rest : List (Addr × Obj)} {κ0 κ1 κ2 κ3 κ4 κ5 κ6 : Tok} {l : List Nat} {cu li lb br ke p1 : Int} {t0 t1 t2 t3 t4 t5 t6 : Tok}
    (B : Below A₀ base outer h₀) (F : Fr h₀ L s.heap m) (X : (MineH.KK w.params).In h₀) (N : News h₀ L s.heap ((S, instObj 1087 D) :: (D, D7 w.params κ0 κ1 κ2 κ3 κ4 κ5 κ6 (.str (mk l) t0) (.int cu t1) (.int li t2) (.int lb t3) (.int br t4) (.int ke t5) (.int p1 t6)) :: rest))
    (T : Top MineH.VW (looseW MineH.VW loose0) mean mg mb h₀) (hk : cs.kind = .function) (hDS : @LT.lt Nat _ D S) (hr : ∀ p ∈ rest, p.1 ≠ D) (G : Glb w h₀) (hdp : dp + 2 < recursionLimit) (hun : un + 18 < cLine) 
    (hret : ∀ (t0 t1 t2 t3 t4 t5 t6 t7 : Tok) (h' : Heap) (tk' : Nat),  Fr h₀ L h' m → News h₀ L h' ((S, instObj 1087 D) :: (D, D7 w.params κ0 κ1 κ2 κ3 κ4 κ5 κ6 (.str (mk l) t0) (.int cu t1) (.int li t2) (.int lb t3) (.int br t4) (.int ke t5) (.int p1 t6)) :: rest) → Q (.str (mk l) t7) { s with heap := h', toks := tk' }),
    wpAny (model PySem.Challenge.rw_iu0024_01.row.prog w) (ktrTop dp un gd cn cs L a ccd cl outer) (call (.ref 49) [.ref S]) Q E s := by
  k_fill
  intros; rename_i hret
  refine wpAny_call ?_
  k_dflt cell_enter
  k_steps
  all_goals (refine' hret _ _ _ _ _ _ _ _ _ _  ?kF ?kN; (case kN => assumption); (case kF => assumption))
theorem set_current7_ok : ∀ {w : World} {dp un : Nat} {gd : Option (List Code)} {cn : Str} {cs : Scope} {a : Addr} {ccd : Value} {cl : List (Str × Addr)} {outer : List Env} {A₀ : Around} {base h₀ : Heap} {L : Addr} {m : Str → Option Value} {s : Shared} {Q E : Value → Shared → Prop} {mean : ExcName → Option Value} {mg mb : Str → Option Value} {S D : Addr} {rest : List (Addr × Obj)} {κ0 κ1 κ2 κ3 κ4 κ5 κ6 : Tok} {x : List Nat} {t7 : Tok} {c cu li lb br ke p1 : Value}
    (B : Below A₀ base outer h₀) (F : Fr h₀ L s.heap m) (X : (MineH.KK w.params).In h₀) (N : News h₀ L s.heap ((S, instObj 1087 D) :: (D, D7 w.params κ0 κ1 κ2 κ3 κ4 κ5 κ6 c cu li lb br ke p1) :: rest))
    (T : Top MineH.VW (looseW MineH.VW loose0) mean mg mb h₀) (hk : cs.kind = .function) (hDS : @LT.lt Nat _ D S) (hr : ∀ p ∈ rest, p.1 ≠ D) (G : Glb w h₀) (hdp : dp + 2 < recursionLimit) (hun : un + 18 < cLine) (hx : x.length ≤ 500)
    (hret : ∀ (li' : Int) (t0 t1 t2 t3 t4 t5 : Tok) (h' : Heap) (tk' : Nat), li' = x.length → Fr h₀ L h' m → News h₀ L h' ((S, instObj 1087 D) :: (D, D7 w.params κ0 κ1 κ2 κ3 κ4 κ5 κ6 (.str (mk x) t0) (.int 0 t1) (.int li' t2) (.int 0 t3) (.int 0 t4) (.int li' t5) p1) :: rest) → Q .none { s with heap := h', toks := tk' }),
    wpAny (model PySem.Challenge.rw_iu0024_01.row.prog w) (ktrTop dp un gd cn cs L a ccd cl outer) (call (.ref 42) [.ref S, .str (mk x) t7]) Q E s := by
  k_fill
  intros; rename_i hret
  refine wpAny_call ?_
  k_dflt cell_enter
  k_steps
  all_goals (refine' hret _ _ _ _ _ _ _ _ _ ?e0 ?kF ?kN; (case kN => assumption); (case e0 => rfl); (case kF => assumption))
theorem set_current6_ok : ∀ {w : World} {dp un : Nat} {gd : Option (List Code)} {cn : Str} {cs : Scope} {a : Addr} {ccd : Value} {cl : List (Str × Addr)} {outer : List Env} {A₀ : Around} {base h₀ : Heap} {L : Addr} {m : Str → Option Value} {s : Shared} {Q E : Value → Shared → Prop} {mean : ExcName → Option Value} {mg mb : Str → Option Value} {S D : Addr} {rest : List (Addr × Obj)} {κ0 κ1 κ2 κ3 κ4 κ5 κ6 : Tok} {x : List Nat} {t7 : Tok} {c cu li lb br ke : Value}
    (B : Below A₀ base outer h₀) (F : Fr h₀ L s.heap m) (X : (MineH.KK w.params).In h₀) (N : News h₀ L s.heap ((S, instObj 1087 D) :: (D, D6 w.params κ0 κ1 κ2 κ3 κ4 κ5 c cu li lb br ke) :: rest))
    (T : Top MineH.VW (looseW MineH.VW loose0) mean mg mb h₀) (hk : cs.kind = .function) (hDS : @LT.lt Nat _ D S) (hr : ∀ p ∈ rest, p.1 ≠ D) (G : Glb w h₀) (hdp : dp + 2 < recursionLimit) (hun : un + 18 < cLine) (hx : x.length ≤ 500)
    (hret : ∀ (li' : Int) (t0 t1 t2 t3 t4 t5 : Tok) (h' : Heap) (tk' : Nat), li' = x.length → Fr h₀ L h' m → News h₀ L h' ((S, instObj 1087 D) :: (D, D6 w.params κ0 κ1 κ2 κ3 κ4 κ5 (.str (mk x) t0) (.int 0 t1) (.int li' t2) (.int 0 t3) (.int 0 t4) (.int li' t5)) :: rest) → Q .none { s with heap := h', toks := tk' }),
    wpAny (model PySem.Challenge.rw_iu0024_01.row.prog w) (ktrTop dp un gd cn cs L a ccd cl outer) (call (.ref 42) [.ref S, .str (mk x) t7]) Q E s := by
  k_fill
  intros; rename_i hret
  refine wpAny_call ?_
  k_dflt cell_enter
  k_steps
  all_goals (refine' hret _ _ _ _ _ _ _ _ _ ?e0 ?kF ?kN; (case kN => assumption); (case e0 => rfl); (case kF => assumption))
theorem set_current0_ok : ∀ {w : World} {dp un : Nat} {gd : Option (List Code)} {cn : Str} {cs : Scope} {a : Addr} {ccd : Value} {cl : List (Str × Addr)} {outer : List Env} {A₀ : Around} {base h₀ : Heap} {L : Addr} {m : Str → Option Value} {s : Shared} {Q E : Value → Shared → Prop} {mean : ExcName → Option Value} {mg mb : Str → Option Value} {S D : Addr} {rest : List (Addr × Obj)} {κ0 κ1 κ2 κ3 κ4 κ5 κ6 : Tok} {x : List Nat} {t7 : Tok}
    (B : Below A₀ base outer h₀) (F : Fr h₀ L s.heap m) (X : (MineH.KK w.params).In h₀) (N : News h₀ L s.heap ((S, instObj 1087 D) :: (D, emptyDict) :: rest))
    (T : Top MineH.VW (looseW MineH.VW loose0) mean mg mb h₀) (hk : cs.kind = .function) (hDS : @LT.lt Nat _ D S) (hr : ∀ p ∈ rest, p.1 ≠ D) (G : Glb w h₀) (hdp : dp + 2 < recursionLimit) (hun : un + 18 < cLine) (hx : x.length ≤ 500)
    (hret : ∀ (li' : Int) (κ0 κ1 κ2 κ3 κ4 κ5 : Tok) (t0 t1 t2 t3 t4 t5 : Tok) (h' : Heap) (tk' : Nat), li' = x.length → Fr h₀ L h' m → News h₀ L h' ((S, instObj 1087 D) :: (D, D6 w.params κ0 κ1 κ2 κ3 κ4 κ5 (.str (mk x) t0) (.int 0 t1) (.int li' t2) (.int 0 t3) (.int 0 t4) (.int li' t5)) :: rest) → Q .none { s with heap := h', toks := tk' }),
    wpAny (model PySem.Challenge.rw_iu0024_01.row.prog w) (ktrTop dp un gd cn cs L a ccd cl outer) (call (.ref 42) [.ref S, .str (mk x) t7]) Q E s := by
  k_fill
  intros; rename_i hret
  refine wpAny_call ?_
  k_dflt cell_enter
  k_steps
  all_goals (refine' hret _ _ _ _ _ _ _ _ _ _ _ _ _ _ _ ?e0 ?kF ?kN; (case kN => assumption); (case e0 => rfl); (case kF => assumption))
end Mine
end
section
open PySem PySem.W PyProof.Rows PySem.Calls PySem.Spec
set_option maxRecDepth 100000
set_option maxHeartbeats 8000000
namespace Mine
theorem reg_B2T_1 : True := by
  k_with_none
  k_with "mp" => (first | assumption | lia | decide | (simp; lia) | (simp_all; done) | (simp_all; lia))
  k_with "mN" => (first | k_asm | exact cb_drop (by assumption) (by first | kcj_in | kcj_all))
  k_with "mGW" => (first | assumption | exact Glb.keep (by assumption) (Fr.keep (by assumption)) | exact Glb.keep (by assumption) (Below.stays (by assumption)))
  k_with "mG" => (first | assumption | exact Glb.keep (by assumption) (Fr.keep (by assumption)))
  k_with "mo" => (first | lia | (dsimp only; lia))
  k_with "mr" => (first | exact rfl | assumption)
  k_with "subscriptTail" => ((k_here; (with_reducible show wpAny _ _ (subscriptTail _ _ (Value.str (mk _) _) (Value.int _ _)) _ _ _); (refine' r_item (by lia) (by lia) (by lia) ?_); intro _ _))
  k_with "subscriptTail" => ((k_here; (with_reducible rename Fr _ _ _ _ => F'); (with_reducible rename News _ _ _ _ => N'); (with_reducible show wpAny _ _ (subscriptTail _ (Expr.Slice (some _) (some _) none _) (Value.str (mk _) _) (Value.ref _)) _ _ _); (refine' r_slice_ss (s := ⟨_, _, _, _, _⟩) F' N' (by lia) (by lia) (by lia) (by lia) ?_); intro _ _ _ _ _))
  k_with "subscriptTail" => ((k_here; (with_reducible rename Fr _ _ _ _ => F'); (with_reducible rename News _ _ _ _ => N'); (with_reducible show wpAny _ _ (subscriptTail _ (Expr.Slice (some _) none none _) (Value.str (mk _) _) (Value.ref _)) _ _ _); (refine' r_slice_sn (s := ⟨_, _, _, _, _⟩) F' N' (by lia) (by lia) (by lia) ?_); intro _ _ _ _ _))
  k_with "subscriptTail" => ((k_here; (with_reducible rename Fr _ _ _ _ => F'); (with_reducible rename News _ _ _ _ => N'); (with_reducible show wpAny _ _ (subscriptTail _ (Expr.Slice none (some _) none _) (Value.str (mk _) _) (Value.ref _)) _ _ _); (refine' r_slice_ns (s := ⟨_, _, _, _, _⟩) F' N' (by lia) (by lia) (by lia) ?_); intro _ _ _ _ _))
  k_with "call builtin:len" => ((k_here; (with_reducible show wpAny _ _ (call (Value.builtin "len") [Value.str (mk _) _]) _ _ _); (refine' r_len (by lia) ?_); intro _ _))
  k_with "binaryOp Add" => ((k_here; (with_reducible show wpAny _ _ (binaryOp Operator.Add (Value.str (mk _) _) (Value.str (mk _) _)) _ _ _); (refine' r_add (by first | lia | (simp; lia)) (by first | lia | (simp; lia)) ?_); intro _ _))
  k_with "compareOp Eq" => ((k_here; (with_reducible show wpAny _ _ (compareOp CmpOp.Eq (Value.str (mk _) _) (Value.str (mk _) _)) _ _ _); refine r_eq ?_))
  k_with "call builtin:str.endswith" => ((k_here; (with_reducible show wpAny _ _ (call (Value.builtin "str.endswith") [Value.str (mk _) _, Value.str (mk _) _]) _ _ _); refine r_ends ?_))
  k_with "compareOp In" => ((k_here; (with_reducible rename Fr _ _ _ _ => F'); (with_reducible show wpAny _ _ (compareOp CmpOp.In (Value.str (mk _) _) (Value.ref 232)) _ _ _); (refine' r_inV (by walk_at "mG") F' ?_); intro _))
  k_with "compareOp NotIn" => ((k_here; (with_reducible rename Fr _ _ _ _ => F'); (with_reducible show wpAny _ _ (compareOp CmpOp.NotIn (Value.str (mk _) _) (Value.ref 232)) _ _ _); (refine' r_notInV (by walk_at "mG") F' ?_); intro _))
  k_with "exec While" => ((k_here; refine Stop.out ?_))
  trivial
theorem go_out_ok : ∀ {w : World} {dp un : Nat} {gd : Option (List Code)} {cn : Str} {cs : Scope} {a : Addr} {ccd : Value} {cl : List (Str × Addr)} {outer : List Env} {A₀ : Around} {base h₀ : Heap} {L : Addr} {m : Str → Option Value} {s : Shared} {Q E : Value → Shared → Prop} {mean : ExcName → Option Value} {mg mb : Str → Option Value} {S D : Addr} {rest : List (Addr × Obj)} {κ0 κ1 κ2 κ3 κ4 κ5 κ6 : Tok} {l : List Nat} {cu li lb br ke p1 : Int} {t0 t1 t2 t3 t4 t5 t6 : Tok}
    (B : Below A₀ base outer h₀) (F : Fr h₀ L s.heap m) (X : (MineH.KK w.params).In h₀) (N : News h₀ L s.heap ((S, instObj 1087 D) :: (D, D7 w.params κ0 κ1 κ2 κ3 κ4 κ5 κ6 (.str (mk l) t0) (.int cu t1) (.int li t2) (.int lb t3) (.int br t4) (.int ke t5) (.int p1 t6)) :: rest))
    (T : Top MineH.VW (looseW MineH.VW loose0) mean mg mb h₀) (hk : cs.kind = .function) (hDS : @LT.lt Nat _ D S) (hr : ∀ p ∈ rest, p.1 ≠ D) (G : Glb w h₀) (hdp : dp + 2 < recursionLimit) (hun : un + 18 < cLine) (h0 : 0 ≤ cu) (h1 : cu ≤ li) (hli : li = l.length) (hl : l.length ≤ 500)
    (hret : ∀ (r : Bool) (cu' : Int) (t0 t1 t2 t3 t4 t5 t6 : Tok) (h' : Heap) (tk' : Nat), cu ≤ cu' → cu' ≤ li → (∀ k : Nat, cu ≤ k → (k : Int) < cu' → isV (l.getD k 0) = false) → r = decide (cu' < li) → (cu' < li → isV (l.getD cu'.toNat 0) = true) → Fr h₀ L h' m → News h₀ L h' ((S, instObj 1087 D) :: (D, D7 w.params κ0 κ1 κ2 κ3 κ4 κ5 κ6 (.str (mk l) t0) (.int cu' t1) (.int li t2) (.int lb t3) (.int br t4) (.int ke t5) (.int p1 t6)) :: rest) → Q (.bool r) { s with heap := h', toks := tk' }),
    wpAny (model PySem.Challenge.rw_iu0024_01.row.prog w) (ktrTop dp un gd cn cs L a ccd cl outer) (call (.ref 98) [.ref S, .ref 232]) Q E s := by
  k_fill
  intro w dp un gd cn cs a ccd cl outer A₀ base h₀ L m s Q E mean mg mb S D rest κ0 κ1 κ2 κ3 κ4 κ5 κ6 l cu li lb br ke p1 t0 t1 t2 t3 t4 t5 t6 B F X N T hk hDS hr G hdp hun h0 h1 hli hl hret
  refine wpAny_call ?_
  k_dflt cell_enter
  k_steps
  (with_reducible rename Fr _ _ _ _ => F1)
  (with_reducible rename News _ _ _ _ => N1)
  refine Stop.back ?_
  refine' mw_while (σ := Int × Tok) (fun c => ((S, instObj 1087 D) :: (D, D7 w.params κ0 κ1 κ2 κ3 κ4 κ5 κ6 (.str (mk l) t0) (.int c.1 c.2) (.int li t2) (.int lb t3) (.int br t4) (.int ke t5) (.int p1 t6)) :: rest)) (fun _ => []) [] (fun c => cu ≤ c.1 ∧ c.1 ≤ li ∧ ∀ k : Nat, cu ≤ k → (k : Int) < c.1 → isV (l.getD k 0) = false) (fun c => (li - c.1).toNat) (cu, t1) F1 N1 Has.nil ⟨by lia, by lia, by intro k hk1 hk2; dsimp only at hk2; lia⟩ ?_
  rintro ⟨c, tc⟩ u h9 tk9 ⟨i1, i2, i3⟩ F2 N2
  dsimp only at i1 i2 i3 N2
  k_steps
  all_goals (try dsimp only [MwPost])
  k_steps
  all_goals (first
    | (refine' mw_end (_, _) ?kF ?kN (fun p hp => hp) ?kp ?kr ?kP ?kM; (case kN => assumption); (case kF => assumption); (case kp => exact Has.nil); (case kr => (intro z _ _; rfl)); (case kP => exact ⟨by dsimp only; lia, by dsimp only; lia, range_snoc (by lia) i3 (by first | assumption | simp_all)⟩); (case kM => (dsimp only; lia)))
    | (refine' hret _ _ _ _ _ _ _ _ _ _ _ ?e0 ?e1 ?e2 ?e3 ?e4 ?kF ?kN; (case kN => assumption); (case kF => assumption); (case e0 => lia); (case e1 => lia); (case e2 => exact i3); (case e3 => first | (symm; exact decide_eq_true (by lia)) | (symm; exact decide_eq_false (by lia))); (case e4 => (intro hh; first | assumption | lia | (simp_all; done)))))
theorem go_in_ok : ∀ {w : World} {dp un : Nat} {gd : Option (List Code)} {cn : Str} {cs : Scope} {a : Addr} {ccd : Value} {cl : List (Str × Addr)} {outer : List Env} {A₀ : Around} {base h₀ : Heap} {L : Addr} {m : Str → Option Value} {s : Shared} {Q E : Value → Shared → Prop} {mean : ExcName → Option Value} {mg mb : Str → Option Value} {S D : Addr} {rest : List (Addr × Obj)} {κ0 κ1 κ2 κ3 κ4 κ5 κ6 : Tok} {l : List Nat} {cu li lb br ke p1 : Int} {t0 t1 t2 t3 t4 t5 t6 : Tok}
    (B : Below A₀ base outer h₀) (F : Fr h₀ L s.heap m) (X : (MineH.KK w.params).In h₀) (N : News h₀ L s.heap ((S, instObj 1087 D) :: (D, D7 w.params κ0 κ1 κ2 κ3 κ4 κ5 κ6 (.str (mk l) t0) (.int cu t1) (.int li t2) (.int lb t3) (.int br t4) (.int ke t5) (.int p1 t6)) :: rest))
    (T : Top MineH.VW (looseW MineH.VW loose0) mean mg mb h₀) (hk : cs.kind = .function) (hDS : @LT.lt Nat _ D S) (hr : ∀ p ∈ rest, p.1 ≠ D) (G : Glb w h₀) (hdp : dp + 2 < recursionLimit) (hun : un + 18 < cLine) (h0 : 0 ≤ cu) (h1 : cu ≤ li) (hli : li = l.length) (hl : l.length ≤ 500)
    (hret : ∀ (r : Bool) (cu' : Int) (t0 t1 t2 t3 t4 t5 t6 : Tok) (h' : Heap) (tk' : Nat), cu ≤ cu' → cu' ≤ li → (∀ k : Nat, cu ≤ k → (k : Int) < cu' → isV (l.getD k 0) = true) → r = decide (cu' < li) → (cu' < li → isV (l.getD cu'.toNat 0) = false) → Fr h₀ L h' m → News h₀ L h' ((S, instObj 1087 D) :: (D, D7 w.params κ0 κ1 κ2 κ3 κ4 κ5 κ6 (.str (mk l) t0) (.int cu' t1) (.int li t2) (.int lb t3) (.int br t4) (.int ke t5) (.int p1 t6)) :: rest) → Q (.bool r) { s with heap := h', toks := tk' }),
    wpAny (model PySem.Challenge.rw_iu0024_01.row.prog w) (ktrTop dp un gd cn cs L a ccd cl outer) (call (.ref 70) [.ref S, .ref 232]) Q E s := by
  k_fill
  intro w dp un gd cn cs a ccd cl outer A₀ base h₀ L m s Q E mean mg mb S D rest κ0 κ1 κ2 κ3 κ4 κ5 κ6 l cu li lb br ke p1 t0 t1 t2 t3 t4 t5 t6 B F X N T hk hDS hr G hdp hun h0 h1 hli hl hret
  refine wpAny_call ?_
  k_dflt cell_enter
  k_steps
  (with_reducible rename Fr _ _ _ _ => F1)
  (with_reducible rename News _ _ _ _ => N1)
  refine Stop.back ?_
  refine' mw_while (σ := Int × Tok) (fun c => ((S, instObj 1087 D) :: (D, D7 w.params κ0 κ1 κ2 κ3 κ4 κ5 κ6 (.str (mk l) t0) (.int c.1 c.2) (.int li t2) (.int lb t3) (.int br t4) (.int ke t5) (.int p1 t6)) :: rest)) (fun _ => []) [] (fun c => cu ≤ c.1 ∧ c.1 ≤ li ∧ ∀ k : Nat, cu ≤ k → (k : Int) < c.1 → isV (l.getD k 0) = true) (fun c => (li - c.1).toNat) (cu, t1) F1 N1 Has.nil ⟨by lia, by lia, by intro k hk1 hk2; dsimp only at hk2; lia⟩ ?_
  rintro ⟨c, tc⟩ u h9 tk9 ⟨i1, i2, i3⟩ F2 N2
  dsimp only at i1 i2 i3 N2
  k_steps
  all_goals (try dsimp only [MwPost])
  k_steps
  all_goals (first
    | (refine' mw_end (_, _) ?kF ?kN (fun p hp => hp) ?kp ?kr ?kP ?kM; (case kN => assumption); (case kF => assumption); (case kp => exact Has.nil); (case kr => (intro z _ _; rfl)); (case kP => exact ⟨by dsimp only; lia, by dsimp only; lia, range_snoc (by lia) i3 (by first | assumption | simp_all)⟩); (case kM => (dsimp only; lia)))
    | (refine' hret _ _ _ _ _ _ _ _ _ _ _ ?e0 ?e1 ?e2 ?e3 ?e4 ?kF ?kN; (case kN => assumption); (case kF => assumption); (case e0 => lia); (case e1 => lia); (case e2 => exact i3); (case e3 => first | (symm; exact decide_eq_true (by lia)) | (symm; exact decide_eq_false (by lia))); (case e4 => (intro hh; first | assumption | lia | (simp_all; done)))))
end Mine
end
section
open PySem PySem.W PyProof.Rows PySem.Calls PySem.Spec
set_option maxRecDepth 100000
set_option maxHeartbeats 8000000
namespace Mine
theorem am_inst {w : World} {h : Heap} {v b : Addr} {tbl : List (List Nat × Int × Int)} (T : AmTab w h v b tbl) {i : Nat} (hi : i < tbl.length) : ∃ a1 a2 a3 ts ti tr n, InstAt h (b + 3 * i + 1) (instObj 220 (b + 3 * i)) 220 (some (dictOf [⟨PyData.keyHash w.params (Str.ofString "s"), .str (Str.ofString "s") a1, .str (mk tbl[i].1) ts⟩, ⟨PyData.keyHash w.params (Str.ofString "substring_i"), .str (Str.ofString "substring_i") a2, .int tbl[i].2.1 ti⟩, ⟨PyData.keyHash w.params (Str.ofString "result"), .str (Str.ofString "result") a3, .int tbl[i].2.2 tr⟩] n)) := by
  obtain ⟨a1, a2, a3, ts, ti, tr, n, e⟩ := (T.am i hi).dict
  exact ⟨a1, a2, a3, ts, ti, tr, n, (T.am i hi).inst, rfl, rfl, e⟩
theorem am_s : ∀ {w : World} {A : Around} {E : Value → Shared → Prop} {s : Shared} {h₀ : Heap} {L : Addr} {m : Str → Option Value} {v b : Addr} {tbl : List (List Nat × Int × Int)} {i : Nat} {expr : Bool} {Q : Value → Shared → Prop}
    (X : (MineH.KK w.params).In h₀) (W : Wf tbl) (T : AmTab w h₀ v b tbl) (F : Fr h₀ L s.heap m) (hi : i < tbl.length) (h : ∀ t tk, (tbl.getD i ([], 0, 0)).1.length ≤ 10 → Q (.str (mk (tbl.getD i ([], 0, 0)).1) t) { s with toks := tk }),
    wpAny (model PySem.Challenge.rw_iu0024_01.row.prog w) A (getAttr (.ref (b + 3 * i + 1)) (Str.ofString "s") expr) Q E s := by
  k_fill
  intro w A E s h₀ L m v b tbl i expr Q X W T F hi h
  obtain ⟨a1, a2, a3, ts, ti, tr, n, I⟩ := am_inst (T.keep F.keep) hi
  have e : tbl.getD i ([], 0, 0) = tbl[i] := by simp [hi]
  have hW := W.len i
  rw [e] at h hW
  refine' get_own ?k1 ?k2 I ?k4 ?k5 ?k6 ?k7 ?k8 ?k9 ?_; (case k1 => k_asm); (case k2 => k_asm); (case k4 => k_is); (case k5 => k_is); (case k6 => k_is); (case k7 => k_is); (case k8 => k_get); (case k9 => k_handed)
  exact h _ _ hW
theorem am_sub : ∀ {w : World} {A : Around} {E : Value → Shared → Prop} {s : Shared} {h₀ : Heap} {L : Addr} {m : Str → Option Value} {v b : Addr} {tbl : List (List Nat × Int × Int)} {i : Nat} {expr : Bool} {Q : Value → Shared → Prop}
    (X : (MineH.KK w.params).In h₀) (T : AmTab w h₀ v b tbl) (F : Fr h₀ L s.heap m) (hi : i < tbl.length) (h : ∀ t tk, Q (.int (tbl.getD i ([], 0, 0)).2.1 t) { s with toks := tk }),
    wpAny (model PySem.Challenge.rw_iu0024_01.row.prog w) A (getAttr (.ref (b + 3 * i + 1)) (Str.ofString "substring_i") expr) Q E s := by
  k_fill
  intro w A E s h₀ L m v b tbl i expr Q X T F hi h
  obtain ⟨a1, a2, a3, ts, ti, tr, n, I⟩ := am_inst (T.keep F.keep) hi
  have e : tbl.getD i ([], 0, 0) = tbl[i] := by simp [hi]
  rw [e] at h
  refine' get_own ?k1 ?k2 I ?k4 ?k5 ?k6 ?k7 ?k8 ?k9 ?_; (case k1 => k_asm); (case k2 => k_asm); (case k4 => k_is); (case k5 => k_is); (case k6 => k_is); (case k7 => k_is); (case k8 => k_get); (case k9 => k_handed)
  exact h _ _
theorem am_res : ∀ {w : World} {A : Around} {E : Value → Shared → Prop} {s : Shared} {h₀ : Heap} {L : Addr} {m : Str → Option Value} {v b : Addr} {tbl : List (List Nat × Int × Int)} {i : Nat} {expr : Bool} {Q : Value → Shared → Prop}
    (X : (MineH.KK w.params).In h₀) (T : AmTab w h₀ v b tbl) (F : Fr h₀ L s.heap m) (hi : i < tbl.length) (h : ∀ t tk, Q (.int (tbl.getD i ([], 0, 0)).2.2 t) { s with toks := tk }),
    wpAny (model PySem.Challenge.rw_iu0024_01.row.prog w) A (getAttr (.ref (b + 3 * i + 1)) (Str.ofString "result") expr) Q E s := by
  k_fill
  intro w A E s h₀ L m v b tbl i expr Q X T F hi h
  obtain ⟨a1, a2, a3, ts, ti, tr, n, I⟩ := am_inst (T.keep F.keep) hi
  have e : tbl.getD i ([], 0, 0) = tbl[i] := by simp [hi]
  rw [e] at h
  refine' get_own ?k1 ?k2 I ?k4 ?k5 ?k6 ?k7 ?k8 ?k9 ?_; (case k1 => k_asm); (case k2 => k_asm); (case k4 => k_is); (case k5 => k_is); (case k6 => k_is); (case k7 => k_is); (case k8 => k_get); (case k9 => k_handed)
  exact h _ _
theorem am_item {prog : Program} {w : World} {A : Around} {E : Value → Shared → Prop} {s : Shared} {h₀ : Heap} {L : Addr} {m : Str → Option Value} {v b : Addr} {tbl : List (List Nat × Int × Int)} {i : Int} {u : Tok} {value slice : PySem.Expr} {Q : Value → Shared → Prop}
    (T : AmTab w h₀ v b tbl) (F : Fr h₀ L s.heap m) (h0 : 0 ≤ i) (h1 : i < tbl.length) (hn : tbl.length ≤ 1000) (h : Q (.ref (b + 3 * i.toNat + 1)) s)
    (hs : subscripted slice false (.ref v) (.int i u) = operate [.ref v, .int i u] (getItem (.ref v) (.int i u)) := by with_unfolding_all rfl) :
    wpAny (model prog w) A (subscriptTail value slice (.ref v) (.int i u)) Q E s := by
  have hL := (T.keep F.keep).list
  refine tail_any hL.typeIs slot_list_getitem.lookup (wpAny_getItem_list hL h0 (by lia) ?_ h) hs
  have : i.toNat < tbl.length := by lia
  simp [this]
theorem am_len {prog : Program} {w : World} {A : Around} {E : Value → Shared → Prop} {s : Shared} {h₀ : Heap} {L : Addr} {m : Str → Option Value} {v b : Addr} {tbl : List (List Nat × Int × Int)} {Q : Value → Shared → Prop}
    (T : AmTab w h₀ v b tbl) (F : Fr h₀ L s.heap m) (hn : tbl.length ≤ 1000) (h : ∀ t tk, Q (.int (tbl.length : Int) t) { s with toks := tk }) :
    wpAny (model prog w) A (call (.builtin "len") [.ref v]) Q E s := by
  have hL := (T.keep F.keep).list
  have e : ((List.range tbl.length).map fun i => Value.ref (b + 3 * i + 1)).toArray.size = tbl.length := by simp
  refine Calls.call_len_list hL (by rw [e]; lia) ?_
  rw [e]; exact h _ _
end Mine
end
section
open PySem PySem.W PyProof.Rows PySem.Calls PySem.Spec
set_option maxRecDepth 100000
set_option maxHeartbeats 8000000
namespace Mine
theorem reg_B4T_1 : True := by
  k_with_none
  k_with "mp" => (first | assumption | lia | decide | (simp; lia) | (simp_all; done) | (simp_all; lia))
  k_with "mN" => (first | k_asm | exact cb_drop (by assumption) (by first | kcj_in | kcj_all))
  k_with "mGW" => (first | assumption | exact Glb.keep (by assumption) (Fr.keep (by assumption)) | exact Glb.keep (by assumption) (Below.stays (by assumption)))
  k_with "mG" => (first | assumption | exact Glb.keep (by assumption) (Fr.keep (by assumption)))
  k_with "mo" => (first | lia | (dsimp only; lia))
  k_with "mr" => (first | exact rfl | assumption)
  k_with "subscriptTail" => ((k_here; (with_reducible show wpAny _ _ (subscriptTail _ _ (Value.str (mk _) _) (Value.int _ _)) _ _ _); (refine' r_item (by lia) (by lia) (by lia) ?_); intro _ _))
  k_with "subscriptTail" => ((k_here; (with_reducible rename Fr _ _ _ _ => F'); (with_reducible rename News _ _ _ _ => N'); (with_reducible show wpAny _ _ (subscriptTail _ (Expr.Slice (some _) (some _) none _) (Value.str (mk _) _) (Value.ref _)) _ _ _); (refine' r_slice_ss (s := ⟨_, _, _, _, _⟩) F' N' (by lia) (by lia) (by lia) (by lia) ?_); intro _ _ _ _ _))
  k_with "subscriptTail" => ((k_here; (with_reducible rename Fr _ _ _ _ => F'); (with_reducible rename News _ _ _ _ => N'); (with_reducible show wpAny _ _ (subscriptTail _ (Expr.Slice (some _) none none _) (Value.str (mk _) _) (Value.ref _)) _ _ _); (refine' r_slice_sn (s := ⟨_, _, _, _, _⟩) F' N' (by lia) (by lia) (by lia) ?_); intro _ _ _ _ _))
  k_with "subscriptTail" => ((k_here; (with_reducible rename Fr _ _ _ _ => F'); (with_reducible rename News _ _ _ _ => N'); (with_reducible show wpAny _ _ (subscriptTail _ (Expr.Slice none (some _) none _) (Value.str (mk _) _) (Value.ref _)) _ _ _); (refine' r_slice_ns (s := ⟨_, _, _, _, _⟩) F' N' (by lia) (by lia) (by lia) ?_); intro _ _ _ _ _))
  k_with "call builtin:len" => ((k_here; (with_reducible show wpAny _ _ (call (Value.builtin "len") [Value.str (mk _) _]) _ _ _); (refine' r_len (by lia) ?_); intro _ _))
  k_with "binaryOp Add" => ((k_here; (with_reducible show wpAny _ _ (binaryOp Operator.Add (Value.str (mk _) _) (Value.str (mk _) _)) _ _ _); (refine' r_add (by first | lia | (simp; lia)) (by first | lia | (simp; lia)) ?_); intro _ _))
  k_with "compareOp Eq" => ((k_here; (with_reducible show wpAny _ _ (compareOp CmpOp.Eq (Value.str (mk _) _) (Value.str (mk _) _)) _ _ _); refine r_eq ?_))
  k_with "call builtin:str.endswith" => ((k_here; (with_reducible show wpAny _ _ (call (Value.builtin "str.endswith") [Value.str (mk _) _, Value.str (mk _) _]) _ _ _); refine r_ends ?_))
  k_with "compareOp In" => ((k_here; (with_reducible rename Fr _ _ _ _ => F'); (with_reducible show wpAny _ _ (compareOp CmpOp.In (Value.str (mk _) _) (Value.ref 232)) _ _ _); (refine' r_inV (by walk_at "mG") F' ?_); intro _))
  k_with "compareOp NotIn" => ((k_here; (with_reducible rename Fr _ _ _ _ => F'); (with_reducible show wpAny _ _ (compareOp CmpOp.NotIn (Value.str (mk _) _) (Value.ref 232)) _ _ _); (refine' r_notInV (by walk_at "mG") F' ?_); intro _))
  k_with "exec While" => ((k_here; refine Stop.out ?_))
  k_with "getAttr ref" => ((k_here; (with_reducible rename Fr _ _ _ _ => F'); (with_reducible rename AmTab _ _ _ _ _ => T9); first
  | (refine' am_s (by k_asm) (by assumption) (T9.keep (Fr.keep (by assumption))) F' (by lia) ?_; intro _ _ _)
  | (refine' am_sub (by k_asm) (T9.keep (Fr.keep (by assumption))) F' (by lia) ?_; intro _ _)
  | (refine' am_res (by k_asm) (T9.keep (Fr.keep (by assumption))) F' (by lia) ?_; intro _ _)))
  k_with "subscriptTail" => ((k_here; (with_reducible rename Fr _ _ _ _ => F'); (with_reducible rename AmTab _ _ _ _ _ => T9); (refine' am_item (T9.keep (Fr.keep (by assumption))) F' (by lia) (by lia) (by lia) ?_)))
  k_with "call builtin:len" => ((k_here; (with_reducible rename Fr _ _ _ _ => F'); (with_reducible rename AmTab _ _ _ _ _ => T9); (refine' am_len (T9.keep (Fr.keep (by assumption))) F' (by lia) ?_); intro _ _))
  k_with "exec For Name Call cons nil" => ((k_here; refine Stop.out ?_))
  trivial
theorem ncast (n : Nat) : @NatCast.natCast Int instNatCastInt n = (n : Int) := rfl
theorem r_shr {prog : Program} {w : World} {A : Around} {E : Value → Shared → Prop} {s : Shared} {x : Int} {t u : Tok} {Q : Value → Shared → Prop} (h0 : 0 ≤ x) (h : ∀ t' tk, Q (.int (x / 2) t') { s with toks := tk }) : wpAny (model prog w) A (binaryOp .RShift (.int x t) (.int 1 u)) Q E s := by
  refine PyProof.Rows.rshift_int (by decide) ?_
  have e : x.fdiv (2 ^ Int.toNat 1) = x / 2 := by
    show x.fdiv 2 = x / 2
    rw [Int.fdiv_eq_ediv_of_nonneg _ (by decide)]
  rw [e]; exact h _ _
theorem reg_B4T_2 : True := by
  k_with "binaryOp RShift int int" => ((k_here; (with_reducible show wpAny _ _ (binaryOp Operator.RShift (Value.int _ _) (Value.int 1 _)) _ _ _); (refine' r_shr (by lia) ?_); intro _ _))
  trivial
structure FS where
  i : Int
  j : Int
  ci : Int
  cj : Int
  f : Bool
  ti : Tok
  tj : Tok
  tci : Tok
  tcj : Tok
noncomputable abbrev fsP (c : FS) : List (Str × Value) := [(Str.ofString "i", .int c.i c.ti), (Str.ofString "j", .int c.j c.tj), (Str.ofString "common_i", .int c.ci c.tci), (Str.ofString "common_j", .int c.cj c.tcj), (Str.ofString "first_key_inspected", .bool c.f)]
noncomputable def fsInv (tbl : Tbl) (x : List Nat) (c : FS) : Prop := ∃ i j ci cj : Nat, c.i = i ∧ c.j = j ∧ c.ci = ci ∧ c.cj = cj ∧ SInv tbl x i j ci cj c.f
noncomputable def fsM (c : FS) : Nat := (2 * (c.j - c.i) + (if c.f then 0 else 1)).toNat
theorem reg_B4T_3 : True := by
  k_with "pyIter ref" => ((k_here; refine Stop.out ?_))
  trivial
theorem find_ok : ∀ {w : World} {dp un : Nat} {gd : Option (List Code)} {cn : Str} {cs : Scope} {a : Addr} {ccd : Value} {cl : List (Str × Addr)} {outer : List Env} {A₀ : Around} {base h₀ : Heap} {L : Addr} {m : Str → Option Value} {s : Shared} {Q E : Value → Shared → Prop} {mean : ExcName → Option Value} {mg mb : Str → Option Value} {S D : Addr} {rest : List (Addr × Obj)} {κ0 κ1 κ2 κ3 κ4 κ5 κ6 : Tok} {v b : Addr} {tbl : Tbl} {l : List Nat} {cu li lb br ke p1 : Int} {t0 t1 t2 t3 t4 t5 t6 : Tok}
    (B : Below A₀ base outer h₀) (F : Fr h₀ L s.heap m) (X : (MineH.KK w.params).In h₀) (N : News h₀ L s.heap ((S, instObj 1087 D) :: (D, D7 w.params κ0 κ1 κ2 κ3 κ4 κ5 κ6 (.str (mk l) t0) (.int cu t1) (.int li t2) (.int lb t3) (.int br t4) (.int ke t5) (.int p1 t6)) :: rest))
    (T : Top MineH.VW (looseW MineH.VW loose0) mean mg mb h₀) (hk : cs.kind = .function) (hDS : @LT.lt Nat _ D S) (hr : ∀ p ∈ rest, p.1 ≠ D) (G : Glb w h₀) (hdp : dp + 2 < recursionLimit) (hun : un + 18 < cLine) (HT : AmTab w h₀ v b tbl) (W : Wf tbl) (h0 : 0 ≤ lb) (h1 : lb ≤ cu) (h2 : cu ≤ l.length) (hl : l.length ≤ 500)
    (hret : ∀ (r : Int) (n : Nat) (cu' : Int) (t7 : Tok) (t0 t1 t2 t3 t4 t5 t6 : Tok) (h' : Heap) (tk' : Nat), Best tbl ((l.take cu.toNat).drop lb.toNat).reverse r n → cu' = cu - n → Fr h₀ L h' m → News h₀ L h' ((S, instObj 1087 D) :: (D, D7 w.params κ0 κ1 κ2 κ3 κ4 κ5 κ6 (.str (mk l) t0) (.int cu' t1) (.int li t2) (.int lb t3) (.int br t4) (.int ke t5) (.int p1 t6)) :: rest) → Q (.int r t7) { s with heap := h', toks := tk' }),
    wpAny (model PySem.Challenge.rw_iu0024_01.row.prog w) (ktrTop dp un gd cn cs L a ccd cl outer) (call (.ref 140) [.ref S, .ref v]) Q E s := by
  k_fill
  intro w dp un gd cn cs a ccd cl outer A₀ base h₀ L m s Q E mean mg mb S D rest κ0 κ1 κ2 κ3 κ4 κ5 κ6 v b tbl l cu li lb br ke p1 t0 t1 t2 t3 t4 t5 t6 B F X N T hk hDS hr G hdp hun HT W h0 h1 h2 hl hret
  refine wpAny_call ?_
  k_dflt cell_enter
  have W1 := W.two
  have W2 := W.small
  k_steps
  (with_reducible rename Fr _ _ _ _ => F1)
  (with_reducible rename News _ _ _ _ => N1)
  refine Stop.back ?_
  refine' cut_exec F1 N1 (σ := Int × Int × Tok × Tok) (fun _ => ((S, instObj 1087 D) :: (D, D7 w.params κ0 κ1 κ2 κ3 κ4 κ5 κ6 (.str (mk l) t0) (.int cu t1) (.int li t2) (.int lb t3) (.int br t4) (.int ke t5) (.int p1 t6)) :: rest)) (fun c => [(Str.ofString "i", .int c.1 c.2.2.1), (Str.ofString "common_i", .int c.2.1 c.2.2.2)]) [Str.ofString "j", Str.ofString "common_j", Str.ofString "first_key_inspected", Str.ofString "k", Str.ofString "diff", Str.ofString "common", Str.ofString "w", Str.ofString "i2"] (fun c => ∃ ni nci : Nat, c.1 = ni ∧ c.2.1 = nci ∧ Fin tbl ((l.take cu.toNat).drop lb.toNat).reverse ni nci) ?_ ?_
  rotate_left
  · rintro ⟨i, ci, ti, tci⟩ u1 h1' tk1 ⟨ni, nci, ei, eci, FI⟩ F2 N2
    dsimp only at ei eci F2
    subst ei eci
    k_steps
    (with_reducible rename Fr _ _ _ _ => F3)
    (with_reducible rename News _ _ _ _ => N3)
    refine Stop.back ?_
    refine' mw_while (σ := Int × Tok) (fun _ => ((S, instObj 1087 D) :: (D, D7 w.params κ0 κ1 κ2 κ3 κ4 κ5 κ6 (.str (mk l) t0) (.int cu t1) (.int li t2) (.int lb t3) (.int br t4) (.int ke t5) (.int p1 t6)) :: rest)) (fun c => [(Str.ofString "i", .int c.1 c.2)]) [Str.ofString "w"] (fun c => ∃ i : Nat, c.1 = i ∧ Walk tbl ((l.take cu.toNat).drop lb.toNat).reverse nci ni i) (fun c => c.1.toNat) ⟨ni, _⟩ F3 N3 ?hk ⟨ni, rfl, walk_init W FI⟩ ?_
    (case hk => (repeat' (first | exact Has.nil | refine Has.cons ?_ ?_ | exact rfl)))
    rintro ⟨i, ti⟩ u3 h3 tk3 ⟨ii, ei, K⟩ F4 N4
    dsimp only at ei F4
    subst ei
    have K1 := K.hi
    k_steps
    all_goals (try dsimp only [MwPost])
    k_steps
    · refine' hret (tbl.getD ii ([], 0, 0)).2.2 (rk tbl ii).length _ _ _ _ _ _ _ _ _ _ _ ?e0 ?e1 ?kF ?kN
      case kN => assumption
      case kF => assumption
      case e0 => exact walk_hit K (by rw [rk_len]; simp only [Int.toNat_natCast, ncast] at *; lia)
      case e1 => rw [rk_len]; simp only [Int.toNat_natCast]
    · refine' hret 0 0 _ _ _ _ _ _ _ _ _ _ _ ?e0 ?e1 ?kF ?kN
      case kN => assumption
      case kF => assumption
      case e0 => exact walk_none W K (by rw [rk_len]; simp only [Int.toNat_natCast, ncast] at *; lia) (by simp only [Int.toNat_natCast] at *; lia)
      case e1 => simp
    · have hs : 0 ≤ (tbl.getD ii ([], 0, 0)).2.1 := by simp only [Int.toNat_natCast] at *; lia
      have nx := walk_next W K (by rw [rk_len]; simp only [Int.toNat_natCast, ncast] at *; lia) hs
      refine' mw_end (_, _) ?kF ?kN (fun p hp => hp) ?kp ?kr ?kP ?kM
      case kN => exact cb_drop (by assumption) (by first | kcj_in | kcj_all)
      case kF => assumption
      case kp => (repeat' (first | exact Has.nil | refine Has.cons ?_ ?_ | exact rfl))
      case kr => (intro z q1 q2; simp only [List.forall_mem_cons, List.not_mem_nil, false_implies, implies_true, and_true, ne_eq, List.contains_cons, List.contains_nil, Bool.or_false, Bool.or_eq_false_iff, beq_eq_false_iff_ne] at q1 q2; simp [kstB, q1, q2])
      case kP => exact ⟨(tbl.getD ii ([], 0, 0)).2.1.toNat, (Int.toNat_of_nonneg hs).symm, nx.1⟩
      case kM => exact (show (tbl.getD ii ([], 0, 0)).2.1.toNat < ((ii : Int)).toNat from by rw [Int.toNat_natCast]; exact nx.2)
  refine' mw_while (σ := FS) (fun _ => ((S, instObj 1087 D) :: (D, D7 w.params κ0 κ1 κ2 κ3 κ4 κ5 κ6 (.str (mk l) t0) (.int cu t1) (.int li t2) (.int lb t3) (.int br t4) (.int ke t5) (.int p1 t6)) :: rest)) fsP [Str.ofString "k", Str.ofString "diff", Str.ofString "common", Str.ofString "w", Str.ofString "i2"] (fsInv tbl ((l.take cu.toNat).drop lb.toNat).reverse) fsM ⟨0, tbl.length, 0, 0, false, _, _, _, _⟩ F1 N1 ?hk ⟨0, tbl.length, 0, 0, rfl, rfl, rfl, rfl, sinv_init W _⟩ ?_
  (case hk => (repeat' (first | exact Has.nil | refine Has.cons ?_ ?_ | exact rfl)))
  rintro ⟨i, j, ci, cj, f, ti, tj, tci, tcj⟩ u h9 tk9 ⟨ni, nj, nci, ncj, ei, ej, eci, ecj, I⟩ F2 N2
  dsimp only at ei ej eci ecj I N2
  subst ei ej eci ecj
  dsimp only [fsP] at F2
  have I1 := I.hj
  have I2 : ni < nj := by rcases I.st with ⟨_, q1, q2⟩ | ⟨_, q1⟩ <;> lia
  obtain ⟨P1, P2, P3, P4⟩ := sinv_pre W I rfl rfl
  k_steps
  (with_reducible rename Fr _ _ _ _ => F3)
  (with_reducible rename News _ _ _ _ => N3)
  refine Stop.back ?_
  obtain ⟨k, hk⟩ : ∃ k : Nat, k = ni + (nj - ni) / 2 := ⟨_, rfl⟩
  obtain ⟨c0, hc0⟩ : ∃ c : Nat, c = min nci ncj := ⟨_, rfl⟩
  rw [← hk] at P1 P2 P3
  rw [← hc0] at P2 P3 P4
  have hk1 : 2 * (k : Int) ≤ ni + nj := by lia
  have hk2 : (ni : Int) + nj ≤ 2 * k + 1 := by lia
  have ek : (ni : Int) + ((nj : Int) - ni) / 2 = (k : Int) := by lia
  have ec : (if (ncj : Int) < nci then (ncj : Int) else nci) = (c0 : Int) := by split <;> lia
  rw [ek, ec, Int.toNat_natCast] at F3
  refine' cut_exec F3 N3 (σ := Int × Int × Tok × Tok) (fun _ => ((S, instObj 1087 D) :: (D, D7 w.params κ0 κ1 κ2 κ3 κ4 κ5 κ6 (.str (mk l) t0) (.int cu t1) (.int li t2) (.int lb t3) (.int br t4) (.int ke t5) (.int p1 t6)) :: rest)) (fun c => [(Str.ofString "common", .int c.1 c.2.2.1), (Str.ofString "diff", .int c.2.1 c.2.2.2)]) [Str.ofString "i2"] (fun c => 0 ≤ c.1 ∧ CmpR (rk tbl k) ((l.take cu.toNat).drop lb.toNat).reverse c.1.toNat c.2.1) ?_ ?_
  · refine for_at F3 (by rfl) (by rfl) ?_
    k_steps
    (with_reducible rename Fr _ _ _ _ => F4)
    (with_reducible rename News _ _ _ _ => N4)
    (with_reducible rename IsRange _ _ _ _ _ _ _ _ => R4)
    have hw := W.len k
    rw [rk_len] at P3
    have hx : ((l.take cu.toNat).drop lb.toNat).reverse.length = cu.toNat - lb.toNat := x_len (by lia)
    rw [hx] at P4
    refine Stop.back ?_
    refine' mi_down (σ := Int × Int × Tok × Tok) (fun _ => ((S, instObj 1087 D) :: (D, D7 w.params κ0 κ1 κ2 κ3 κ4 κ5 κ6 (.str (mk l) t0) (.int cu t1) (.int li t2) (.int lb t3) (.int br t4) (.int ke t5) (.int p1 t6)) :: rest)) (fun c => [(Str.ofString "common", .int c.1 c.2.2.1), (Str.ofString "diff", .int c.2.1 c.2.2.2)]) [] (fun pre c => c.1 = (c0 : Int) + pre.length ∧ c.2.1 = 0 ∧ (rk tbl k).take c.1.toNat = (((l.take cu.toNat).drop lb.toNat).reverse).take c.1.toNat ∧ c.1.toNat ≤ cu.toNat - lb.toNat) ⟨c0, 0, _, _⟩ rfl R4 (by lia) (by lia) rfl F4 ?N ?hk ?hp ?turn ?done
    case N => exact cb_drop N4 (by first | kcj_in | kcj_all)
    case hk => (repeat' (first | exact Has.nil | refine Has.cons ?_ ?_ | exact rfl))
    case hp => exact ⟨by simp, rfl, by simpa using P2, by simpa using P4⟩
    case turn =>
      rintro ⟨com, dif, tc, td⟩ pre kk tkk u5 h5 tk5 own e1 e2 hoff ⟨p1, p2, p3, p4⟩ F5 N5
      dsimp only at p1 p2 p3 p4 F5
      subst p2
      k_steps
      all_goals (try dsimp only [MiPost])
      · refine' cut_end (_, _, _, _) ?kF ?kN (fun p hp => hp) ?kp ?kr ?kP
        case kN => exact cb_drop (by assumption) (by first | kcj_in | kcj_all)
        case kF => assumption
        case kp => (repeat' (first | exact Has.nil | refine Has.cons ?_ ?_ | exact rfl))
        case kr => (intro z q1 q2; simp only [List.forall_mem_cons, List.not_mem_nil, false_implies, implies_true, and_true, ne_eq, List.contains_cons, List.contains_nil, Bool.or_false, Bool.or_eq_false_iff, beq_eq_false_iff_ne] at q1 q2; simp [kstB, q1, q2])
        case kP => exact ⟨by dsimp only; lia, cmp_out h0 h1 h2 (by lia) p3 (by lia) (by lia)⟩
      · refine' cut_end (_, _, _, _) ?kF ?kN (fun p hp => hp) ?kp ?kr ?kP
        case kN => exact cb_drop (by assumption) (by first | kcj_in | kcj_all)
        case kF => assumption
        case kp => (repeat' (first | exact Has.nil | refine Has.cons ?_ ?_ | exact rfl))
        case kr => (intro z q1 q2; simp only [List.forall_mem_cons, List.not_mem_nil, false_implies, implies_true, and_true, ne_eq, List.contains_cons, List.contains_nil, Bool.or_false, Bool.or_eq_false_iff, beq_eq_false_iff_ne] at q1 q2; simp [kstB, q1, q2])
        case kP => exact ⟨by dsimp only; lia, cmp_part h0 h1 h2 (by lia) p3 (by lia) (by lia) (by (obtain rfl : kk = ((tbl.getD k ([], 0, 0)).1.length : Int) - 1 - com := by lia); first | rfl | lia) (by lia)⟩
      · refine' mi_end (_, _, _, _) ?kF ?kN ?kn ?ko rfl ?kp ?kr ?kP
        case kN => assumption
        case kF => assumption
        case kn => intro p hp; simp only [List.cons_append, List.mem_cons, List.mem_append] at hp ⊢; grind
        case ko => intro p hp; simp only [List.cons_append, List.mem_cons, List.mem_append] at hp ⊢; grind
        case kp => (repeat' (first | exact Has.nil | refine Has.cons ?_ ?_ | exact rfl))
        case kr => (intro z q0 q1 q2; simp only [List.forall_mem_cons, List.not_mem_nil, false_implies, implies_true, and_true, ne_eq, List.contains_cons, List.contains_nil, Bool.or_false, Bool.or_eq_false_iff, beq_eq_false_iff_ne] at q0 q1 q2; simp [kstB, q0, q1, q2])
        case kP => exact ⟨by dsimp only; simp; lia, by dsimp only; lia, cmp_on h0 h1 h2 (by lia) p3 (by lia) (by lia) (by (obtain rfl : kk = ((tbl.getD k ([], 0, 0)).1.length : Int) - 1 - com := by lia); first | rfl | lia), by dsimp only; lia⟩
    case done =>
      rintro ⟨com, dif, tc, td⟩ pre u5 h5 tk5 e1 ⟨p1, p2, p3, p4⟩ F5 N5
      dsimp only at p1 p2 p3 p4 F5
      subst p2
      refine' cut_end (_, _, _, _) ?kF ?kN (fun p hp => hp) ?kp ?kr ?kP
      case kN => exact N5
      case kF => exact F5
      case kp => (repeat' (first | exact Has.nil | refine Has.cons ?_ ?_ | exact rfl))
      case kr => (intro z q1 q2; simp only [List.forall_mem_cons, List.not_mem_nil, false_implies, implies_true, and_true, ne_eq, List.contains_cons, List.contains_nil, Bool.or_false, Bool.or_eq_false_iff, beq_eq_false_iff_ne] at q1 q2; simp [kstB, q1, q2])
      case kP => exact ⟨by dsimp only; lia, cmp_end h0 h1 h2 (by lia) p3 (by lia) (by lia)⟩
  · rintro ⟨com, dif, tc, td⟩ u6 h6 tk6 ⟨p1, C⟩ F6 N6
    dsimp only at p1 C F6
    k_steps
    all_goals (try dsimp only [MwPost])
    have st := I.st
    all_goals (first
      | (refine' cut_end (_, _, _, _) ?kF ?kN (fun p hp => hp) ?kp ?kr ?kP; (case kN => exact cb_drop (by assumption) (by first | kcj_in | kcj_all)); (case kF => assumption); (case kp => (repeat' (first | exact Has.nil | refine Has.cons ?_ ?_ | exact rfl))); (case kr => (intro z q1 q2; simp only [List.forall_mem_cons, List.not_mem_nil, false_implies, implies_true, and_true, ne_eq, List.contains_cons, List.contains_nil, Bool.or_false, Bool.or_eq_false_iff, beq_eq_false_iff_ne] at q1 q2; simp [kstB, q1, q2])); (case kP => first
          | exact ⟨ni, nci, rfl, rfl, (sinv_lt I hk C (by lia)).2.2 (by lia) (by first | (left; lia) | (right; left; lia) | (right; right; assumption))⟩
          | exact ⟨k, com.toNat, rfl, by dsimp only; lia, (sinv_ge I hk C (by lia)).2 (by lia)⟩))
      | (refine' mw_end ⟨_, _, _, _, _, _, _, _, _⟩ ?kF ?kN (fun p hp => hp) ?kp ?kr ?kP ?kM; (case kN => exact cb_drop (by assumption) (by first | kcj_in | kcj_all)); (case kF => assumption); (case kp => (repeat' (first | exact Has.nil | refine Has.cons ?_ ?_ | exact rfl))); (case kr => (intro z q1 q2; simp only [List.forall_mem_cons, List.not_mem_nil, false_implies, implies_true, and_true, ne_eq, List.contains_cons, List.contains_nil, Bool.or_false, Bool.or_eq_false_iff, beq_eq_false_iff_ne] at q1 q2; simp [kstB, q1, q2])); (case kP => first
          | exact ⟨ni, k, nci, com.toNat, rfl, rfl, rfl, by dsimp only; lia, (sinv_lt I hk C (by lia)).1 (by lia)⟩
          | exact ⟨ni, k, nci, com.toNat, rfl, rfl, rfl, by dsimp only; lia, (sinv_lt I hk C (by lia)).2.1 (by lia) (by lia)⟩
          | exact ⟨k, nj, com.toNat, ncj, rfl, rfl, by dsimp only; lia, rfl, (sinv_ge I hk C (by lia)).1 (by lia)⟩
          | (exfalso; have st := I.st; rcases st with ⟨q1, q2, q3⟩ | ⟨q1, q2⟩ <;> first | lia | (simp_all; done)));
          (case kM => (dsimp only [fsM]; have st := I.st; rcases st with ⟨q1, q2, q3⟩ | ⟨q1, q2⟩ <;> (subst q1; simp only [eq_self, Bool.false_eq_true, ↓reduceIte, ncast]; first | lia | contradiction)))))
end Mine
end
section
open PySem PySem.W PyProof.Rows PySem.Calls PySem.Spec
set_option maxRecDepth 100000
set_option maxHeartbeats 8000000
namespace Mine
theorem reg_B5T_1 : True := by
  k_with_none
  k_with "mp" => (first | assumption | lia | decide | (simp; lia) | (simp_all; done) | (simp_all; lia))
  k_with "mN" => (first | k_asm | exact cb_drop (by assumption) (by first | kcj_in | kcj_all))
  k_with "mGW" => (first | assumption | exact Glb.keep (by assumption) (Fr.keep (by assumption)) | exact Glb.keep (by assumption) (Below.stays (by assumption)))
  k_with "mG" => (first | assumption | exact Glb.keep (by assumption) (Fr.keep (by assumption)))
  k_with "mo" => (first | lia | (dsimp only; lia))
  k_with "mr" => (first | exact rfl | assumption)
  k_with "subscriptTail" => ((k_here; (with_reducible show wpAny _ _ (subscriptTail _ _ (Value.str (mk _) _) (Value.int _ _)) _ _ _); (refine' r_item (by lia) (by lia) (by lia) ?_); intro _ _))
  k_with "subscriptTail" => ((k_here; (with_reducible rename Fr _ _ _ _ => F'); (with_reducible rename News _ _ _ _ => N'); (with_reducible show wpAny _ _ (subscriptTail _ (Expr.Slice (some _) (some _) none _) (Value.str (mk _) _) (Value.ref _)) _ _ _); (refine' r_slice_ss (s := ⟨_, _, _, _, _⟩) F' N' (by lia) (by lia) (by lia) (by lia) ?_); intro _ _ _ _ _))
  k_with "subscriptTail" => ((k_here; (with_reducible rename Fr _ _ _ _ => F'); (with_reducible rename News _ _ _ _ => N'); (with_reducible show wpAny _ _ (subscriptTail _ (Expr.Slice (some _) none none _) (Value.str (mk _) _) (Value.ref _)) _ _ _); (refine' r_slice_sn (s := ⟨_, _, _, _, _⟩) F' N' (by lia) (by lia) (by lia) ?_); intro _ _ _ _ _))
  k_with "subscriptTail" => ((k_here; (with_reducible rename Fr _ _ _ _ => F'); (with_reducible rename News _ _ _ _ => N'); (with_reducible show wpAny _ _ (subscriptTail _ (Expr.Slice none (some _) none _) (Value.str (mk _) _) (Value.ref _)) _ _ _); (refine' r_slice_ns (s := ⟨_, _, _, _, _⟩) F' N' (by lia) (by lia) (by lia) ?_); intro _ _ _ _ _))
  k_with "call builtin:len" => ((k_here; (with_reducible show wpAny _ _ (call (Value.builtin "len") [Value.str (mk _) _]) _ _ _); (refine' r_len (by lia) ?_); intro _ _))
  k_with "binaryOp Add" => ((k_here; (with_reducible show wpAny _ _ (binaryOp Operator.Add (Value.str (mk _) _) (Value.str (mk _) _)) _ _ _); (refine' r_add (by first | lia | (simp; lia)) (by first | lia | (simp; lia)) ?_); intro _ _))
  k_with "compareOp Eq" => ((k_here; (with_reducible show wpAny _ _ (compareOp CmpOp.Eq (Value.str (mk _) _) (Value.str (mk _) _)) _ _ _); refine r_eq ?_))
  k_with "call builtin:str.endswith" => ((k_here; (with_reducible show wpAny _ _ (call (Value.builtin "str.endswith") [Value.str (mk _) _, Value.str (mk _) _]) _ _ _); refine r_ends ?_))
  k_with "compareOp In" => ((k_here; (with_reducible rename Fr _ _ _ _ => F'); (with_reducible show wpAny _ _ (compareOp CmpOp.In (Value.str (mk _) _) (Value.ref 232)) _ _ _); (refine' r_inV (by walk_at "mG") F' ?_); intro _))
  k_with "compareOp NotIn" => ((k_here; (with_reducible rename Fr _ _ _ _ => F'); (with_reducible show wpAny _ _ (compareOp CmpOp.NotIn (Value.str (mk _) _) (Value.ref 232)) _ _ _); (refine' r_notInV (by walk_at "mG") F' ?_); intro _))
  trivial
theorem best_facts {tbl : Tbl} {x : List Nat} {r : Int} {n : Nat} {lo hi : Int} (W : Wf tbl) (hR : tbl.all (fun e => decide (e.2.2 ≠ 0 ∧ lo ≤ e.2.2 ∧ e.2.2 ≤ hi)) = true) (B : Best tbl x r n) : (r = 0 → n = 0) ∧ (r ≠ 0 → 1 ≤ n ∧ lo ≤ r ∧ r ≤ hi) ∧ n ≤ x.length := by
  rcases B with ⟨i, hi', hp, _, hr, hn⟩ | ⟨_, hr, hn⟩
  · have q : decide ((tbl.getD i ([], 0, 0)).2.2 ≠ 0 ∧ lo ≤ (tbl.getD i ([], 0, 0)).2.2 ∧ (tbl.getD i ([], 0, 0)).2.2 ≤ hi) = true := List.all_eq_true.mp hR _ (by simp [hi'])
    have q := of_decide_eq_true q
    rw [← hr] at q
    have f := W.full i hi'
    have : (rk tbl i).length ≠ 0 := fun e => f (List.length_eq_zero_iff.mp e)
    exact ⟨fun e => absurd e q.1, fun _ => ⟨by lia, q.2⟩, by rw [hn]; exact hp.length_le⟩
  · exact ⟨fun _ => hn, fun e => absurd hr e, by lia⟩
theorem findr_ok : ∀ {w : World} {dp un : Nat} {gd : Option (List Code)} {cn : Str} {cs : Scope} {a : Addr} {ccd : Value} {cl : List (Str × Addr)} {outer : List Env} {A₀ : Around} {base h₀ : Heap} {L : Addr} {m : Str → Option Value} {s : Shared} {Q E : Value → Shared → Prop} {mean : ExcName → Option Value} {mg mb : Str → Option Value} {S D : Addr} {rest : List (Addr × Obj)} {κ0 κ1 κ2 κ3 κ4 κ5 κ6 : Tok} {lo hi : Int} {v b : Addr} {tbl : Tbl} {l : List Nat} {cu li lb br ke p1 : Int} {t0 t1 t2 t3 t4 t5 t6 : Tok}
    (B : Below A₀ base outer h₀) (F : Fr h₀ L s.heap m) (X : (MineH.KK w.params).In h₀) (N : News h₀ L s.heap ((S, instObj 1087 D) :: (D, D7 w.params κ0 κ1 κ2 κ3 κ4 κ5 κ6 (.str (mk l) t0) (.int cu t1) (.int li t2) (.int lb t3) (.int br t4) (.int ke t5) (.int p1 t6)) :: rest))
    (T : Top MineH.VW (looseW MineH.VW loose0) mean mg mb h₀) (hk : cs.kind = .function) (hDS : @LT.lt Nat _ D S) (hr : ∀ p ∈ rest, p.1 ≠ D) (G : Glb w h₀) (hdp : dp + 2 < recursionLimit) (hun : un + 18 < cLine) (hR : tbl.all (fun e => decide (e.2.2 ≠ 0 ∧ lo ≤ e.2.2 ∧ e.2.2 ≤ hi)) = true) (HT : AmTab w h₀ v b tbl) (W : Wf tbl) (h0 : 0 ≤ lb) (h1 : lb ≤ cu) (h2 : cu ≤ l.length) (hl : l.length ≤ 500)
    (hret : ∀ (r : Int) (n : Nat) (cu' : Int) (t7 : Tok) (t0 t1 t2 t3 t4 t5 t6 : Tok) (h' : Heap) (tk' : Nat), Best tbl ((l.take cu.toNat).drop lb.toNat).reverse r n → cu' = cu - n → (r = 0 → n = 0) → (r ≠ 0 → 1 ≤ n ∧ lo ≤ r ∧ r ≤ hi) → (n : Int) ≤ cu - lb → Fr h₀ L h' m → News h₀ L h' ((S, instObj 1087 D) :: (D, D7 w.params κ0 κ1 κ2 κ3 κ4 κ5 κ6 (.str (mk l) t0) (.int cu' t1) (.int li t2) (.int lb t3) (.int br t4) (.int ke t5) (.int p1 t6)) :: rest) → Q (.int r t7) { s with heap := h', toks := tk' }),
    wpAny (model PySem.Challenge.rw_iu0024_01.row.prog w) (ktrTop dp un gd cn cs L a ccd cl outer) (call (.ref 140) [.ref S, .ref v]) Q E s := by
  intro w dp un gd cn cs a ccd cl outer A₀ base h₀ L m s Q E mean mg mb S D rest κ0 κ1 κ2 κ3 κ4 κ5 κ6 lo hi v b tbl l cu li lb br ke p1 t0 t1 t2 t3 t4 t5 t6 B F X N T hk hDS hr G hdp hun hR HT W h0 h1 h2 hl hret
  refine find_ok B F X N T hk hDS hr G hdp hun HT W h0 h1 h2 hl fun r n cu' t7 t0 t1 t2 t3 t4 t5 t6 h' tk' B0 e F' N' => ?_
  obtain ⟨f1, f2, f3⟩ := best_facts W hR B0
  have f4 := x_len (l := l) (cu := cu.toNat) (lb := lb.toNat) (by lia)
  exact hret r n cu' t7 t0 t1 t2 t3 t4 t5 t6 h' tk' B0 e f1 f2 (by lia) F' N'
theorem reg_B5T_2 : True := by
  k_with "call ref" => ((k_here; (with_reducible show wpAny _ _ (call (Value.ref 140) _) _ _ _); k_dflt (apply (findr_ok (lo := -1) (hi := -1)); (case F => k_asm); (case N => walk_at "mN"); (case B => k_asm); (case X => k_asm); (case T => k_asm); (case hk => walk_at "mr"); (case hDS => assumption); (case hr => assumption); (case G => walk_at "mG"); (case hdp => walk_at "mo"); (case hun => walk_at "mo"); (case HT => first | exact (Glb.keep (by assumption) (Fr.keep (by assumption))).t0 | exact (Glb.keep (by assumption) (Fr.keep (by assumption))).t1 | exact (Glb.keep (by assumption) (Fr.keep (by assumption))).t2 | exact (Glb.keep (by assumption) (Fr.keep (by assumption))).t3); (case hR => decide +kernel); (case W => first | exact wf0 | exact wf1 | exact wf2 | exact wf3); (case h0 => walk_at "mp"); (case h1 => walk_at "mp"); (case h2 => walk_at "mp"); (case hl => walk_at "mp"); intros; (try k_sweep))))
  k_with "call ref" => ((k_here; (with_reducible show wpAny _ _ (call (Value.ref 161) _) _ _ _); k_dflt (apply slice_del_ok; (case F => k_asm); (case N => walk_at "mN"); (case B => k_asm); (case X => k_asm); (case T => k_asm); (case hk => walk_at "mr"); (case hDS => assumption); (case hr => assumption); (case G => walk_at "mG"); (case hdp => walk_at "mo"); (case hun => walk_at "mo"); (case hcu => walk_at "mp"); (case hke => walk_at "mp"); (case hli => walk_at "mp"); (case hb => walk_at "mp"); (case hbk => walk_at "mp"); (case hl => walk_at "mp"); intros; (try k_sweep))))
  k_with "call ref" => ((k_here; (with_reducible show wpAny _ _ (call (Value.ref 154) _) _ _ _); k_dflt (apply slice_from_ok; (case F => k_asm); (case N => walk_at "mN"); (case B => k_asm); (case X => k_asm); (case T => k_asm); (case hk => walk_at "mr"); (case hDS => assumption); (case hr => assumption); (case G => walk_at "mG"); (case hdp => walk_at "mo"); (case hun => walk_at "mo"); (case hcu => walk_at "mp"); (case hke => walk_at "mp"); (case hli => walk_at "mp"); (case hb => walk_at "mp"); (case hbk => walk_at "mp"); (case hl => walk_at "mp"); (case hx => walk_at "mp"); intros; (try k_sweep))))
  k_with "call ref" => ((k_here; (with_reducible show wpAny _ _ (call (Value.ref 126) _) _ _ _); k_dflt (apply eq_s_b_ok; (case F => k_asm); (case N => walk_at "mN"); (case B => k_asm); (case X => k_asm); (case T => k_asm); (case hk => walk_at "mr"); (case hDS => assumption); (case hr => assumption); (case G => walk_at "mG"); (case hdp => walk_at "mo"); (case hun => walk_at "mo"); (case h0 => walk_at "mp"); (case h1 => walk_at "mp"); (case h2 => walk_at "mp"); (case hl => walk_at "mp"); (case hx => walk_at "mp"); intros; (try k_sweep))))
  trivial
noncomputable def Cut (tbl : Tbl) (p1 : Int) (l l' : List Nat) : Prop := ((l.length : Int) < p1 ∧ l' = l) ∨ (p1 ≤ l.length ∧ ∃ r n, Best tbl (l.drop p1.toNat).reverse r n ∧ l' = l.take (l.length - n))
theorem cut_skip {tbl : Tbl} {p1 li : Int} {l : List Nat} (h : li < p1) (e : li = l.length) : Cut tbl p1 l l := .inl ⟨by lia, rfl⟩
theorem cut_none {tbl : Tbl} {p1 li r : Int} {l : List Nat} {n : Nat} (h : ¬ li < p1) (e : li = l.length) (B : Best tbl ((l.take li.toNat).drop p1.toNat).reverse r n) (hn : n = 0) : Cut tbl p1 l l := .inr ⟨by lia, r, n, by
  rw [e, Int.toNat_natCast, List.take_length] at B; exact B, by subst hn; simp⟩
theorem cut_some {tbl : Tbl} {p1 li r : Int} {l l' : List Nat} {n : Nat} (h : ¬ li < p1) (e : li = l.length) (B : Best tbl ((l.take li.toNat).drop p1.toNat).reverse r n) (hl : l' = l.take (li - n).toNat) : Cut tbl p1 l l' := .inr ⟨by lia, r, n, by
  rw [e, Int.toNat_natCast, List.take_length] at B; exact B, by rw [hl, e]; congr 1; lia⟩
theorem step1_ok : ∀ {w : World} {dp un : Nat} {gd : Option (List Code)} {cn : Str} {cs : Scope} {a : Addr} {ccd : Value} {cl : List (Str × Addr)} {outer : List Env} {A₀ : Around} {base h₀ : Heap} {L : Addr} {m : Str → Option Value} {s : Shared} {Q E : Value → Shared → Prop} {mean : ExcName → Option Value} {mg mb : Str → Option Value} {S D : Addr} {rest : List (Addr × Obj)} {κ0 κ1 κ2 κ3 κ4 κ5 κ6 : Tok} {l : List Nat} {cu li lb br ke p1 : Int} {t0 t1 t2 t3 t4 t5 t6 : Tok}
    (B : Below A₀ base outer h₀) (F : Fr h₀ L s.heap m) (X : (MineH.KK w.params).In h₀) (N : News h₀ L s.heap ((S, instObj 1087 D) :: (D, D7 w.params κ0 κ1 κ2 κ3 κ4 κ5 κ6 (.str (mk l) t0) (.int cu t1) (.int li t2) (.int lb t3) (.int br t4) (.int ke t5) (.int p1 t6)) :: rest))
    (T : Top MineH.VW (looseW MineH.VW loose0) mean mg mb h₀) (hk : cs.kind = .function) (hDS : @LT.lt Nat _ D S) (hr : ∀ p ∈ rest, p.1 ≠ D) (G : Glb w h₀) (hdp : dp + 6 < recursionLimit) (hun : un + 34 < cLine) (hcu : cu = li) (hli : li = l.length) (hlb : lb = 0) (hp : 0 ≤ p1) (hl : l.length ≤ 500)
    (hret : ∀ (b : Bool) (l' : List Nat) (cu' li' lb' br' ke' : Int) (t0 t1 t2 t3 t4 t5 t6 : Tok) (h' : Heap) (tk' : Nat), Cut tbl0 p1 l l' → li' = l'.length → lb' = 0 →  Fr h₀ L h' m → News h₀ L h' ((S, instObj 1087 D) :: (D, D7 w.params κ0 κ1 κ2 κ3 κ4 κ5 κ6 (.str (mk l') t0) (.int cu' t1) (.int li' t2) (.int lb' t3) (.int br' t4) (.int ke' t5) (.int p1 t6)) :: rest) → Q (.bool b) { s with heap := h', toks := tk' }),
    wpAny (model PySem.Challenge.rw_iu0024_01.row.prog w) (ktrTop dp un gd cn cs L a ccd cl outer) (call (.ref 239) [.ref S]) Q E s := by
  k_fill
  intro w dp un gd cn cs a ccd cl outer A₀ base h₀ L m s Q E mean mg mb S D rest κ0 κ1 κ2 κ3 κ4 κ5 κ6 l cu li lb br ke p1 t0 t1 t2 t3 t4 t5 t6 B F X N T hk hDS hr G hdp hun hcu hli hlb hp hl hret
  refine wpAny_call ?_
  k_dflt cell_enter
  subst hcu hlb
  k_steps
  all_goals (refine' hret _ _ _ _ _ _ _ _ _ _ _ _ _ _ _ _ ?e0 ?e1 ?e2 ?kF ?kN; (case kN => first | assumption | exact cb_drop (by assumption) (by first | kcj_in | kcj_all)); (case kF => assumption); (case e0 => first | exact cut_skip (by assumption) hli | exact cut_none (by assumption) hli (by assumption) (by lia) | exact cut_some (by assumption) hli (by assumption) (by subst_vars; first | rfl | assumption)); (case e1 => first | assumption | rfl); (case e2 => rfl))
noncomputable def Fix (tbl : Tbl) (tab : List (List Nat)) (l l' : List Nat) : Prop := ∃ r n, Best tbl l.reverse r n ∧ ((r = 0 ∧ l' = l) ∨ (r ≠ 0 ∧ l' = l.take (l.length - n) ++ tab.getD (r - 1).toNat []))
theorem fix_none {tbl : Tbl} {tab : List (List Nat)} {li r : Int} {l : List Nat} {n : Nat} (e : li = l.length) (B : Best tbl ((l.take li.toNat).drop (Int.toNat 0)).reverse r n) (hr : r = 0) : Fix tbl tab l l := ⟨r, n, by
  rw [e, Int.toNat_natCast, List.take_length] at B; exact B, .inl ⟨hr, rfl⟩⟩
theorem fix_some {tbl : Tbl} {tab : List (List Nat)} {li r : Int} {l l' : List Nat} {n : Nat} (e : li = l.length) (B : Best tbl ((l.take li.toNat).drop (Int.toNat 0)).reverse r n) (hr : r ≠ 0) (hl : l' = l.take (li - n).toNat ++ tab.getD (r - 1).toNat []) : Fix tbl tab l l' := ⟨r, n, by
  rw [e, Int.toNat_natCast, List.take_length] at B; exact B, .inr ⟨hr, by rw [hl, e]; congr 2; lia⟩⟩
theorem lit_as2 : [Str.ofString "aitė", Str.ofString "uotė", Str.ofString "ėjimas", Str.ofString "esys", Str.ofString "asys", Str.ofString "avimas", Str.ofString "ojimas", Str.ofString "okatė"] = as2.map mk := by decide +kernel
theorem lit_as3 : [Str.ofString "t", Str.ofString "d"] = as3.map mk := by decide +kernel
theorem as2_item : ∀ {w : World} {A : Around} {E : Value → Shared → Prop} {s : Shared} {h₀ : Heap} {L : Addr} {m : Str → Option Value} {i : Int} {u : Tok} {value slice : PySem.Expr} {Q : Value → Shared → Prop}
    (X : (MineH.KK w.params).In h₀) (F : Fr h₀ L s.heap m) (h0 : 0 ≤ i) (h1 : i ≤ 7) (h : ∀ t, (as2.getD i.toNat []).length ≤ 100 → Q (.str (mk (as2.getD i.toNat [])) t) s)
    (hs : subscripted slice false (.ref 1076) (.int i u) = operate [.ref 1076, .int i u] (getItem (.ref 1076) (.int i u)) := by with_unfolding_all rfl),
    wpAny (model PySem.Challenge.rw_iu0024_01.row.prog w) A (subscriptTail value slice (.ref 1076) (.int i u)) Q E s := by
  k_fill
  intro w A E s h₀ L m i u value slice Q X F h0 h1 h hs
  have ee := lit_as2
  simp only [as2, List.map_cons, List.map_nil, List.cons.injEq, and_true] at ee
  obtain ⟨e0, e1, e2, e3, e4, e5, e6, e7⟩ := ee
  have hi : i = 0 ∨ i = 1 ∨ i = 2 ∨ i = 3 ∨ i = 4 ∨ i = 5 ∨ i = 6 ∨ i = 7 := by lia
  rcases hi with rfl | rfl | rfl | rfl | rfl | rfl | rfl | rfl
  all_goals (refine' topTup_K F X ?l ?a ?b ?c ?d ?_ hs; (case l => k_is); (case a => decide); (case b => decide); (case c => rfl); (case d => rfl); first | (rw [e0]; exact h _ (by decide)) | (rw [e1]; exact h _ (by decide)) | (rw [e2]; exact h _ (by decide)) | (rw [e3]; exact h _ (by decide)) | (rw [e4]; exact h _ (by decide)) | (rw [e5]; exact h _ (by decide)) | (rw [e6]; exact h _ (by decide)) | (rw [e7]; exact h _ (by decide)))
theorem as3_item : ∀ {w : World} {A : Around} {E : Value → Shared → Prop} {s : Shared} {h₀ : Heap} {L : Addr} {m : Str → Option Value} {i : Int} {u : Tok} {value slice : PySem.Expr} {Q : Value → Shared → Prop}
    (X : (MineH.KK w.params).In h₀) (F : Fr h₀ L s.heap m) (h0 : 0 ≤ i) (h1 : i ≤ 1) (h : ∀ t, (as3.getD i.toNat []).length ≤ 100 → Q (.str (mk (as3.getD i.toNat [])) t) s)
    (hs : subscripted slice false (.ref 1084) (.int i u) = operate [.ref 1084, .int i u] (getItem (.ref 1084) (.int i u)) := by with_unfolding_all rfl),
    wpAny (model PySem.Challenge.rw_iu0024_01.row.prog w) A (subscriptTail value slice (.ref 1084) (.int i u)) Q E s := by
  k_fill
  intro w A E s h₀ L m i u value slice Q X F h0 h1 h hs
  have ee := lit_as3
  simp only [as3, List.map_cons, List.map_nil, List.cons.injEq, and_true] at ee
  obtain ⟨e0, e1⟩ := ee
  have hi : i = 0 ∨ i = 1 := by lia
  rcases hi with rfl | rfl
  all_goals (refine' topTup_K F X ?l ?a ?b ?c ?d ?_ hs; (case l => k_is); (case a => decide); (case b => decide); (case c => rfl); (case d => rfl); first | (rw [e0]; exact h _ (by decide)) | (rw [e1]; exact h _ (by decide)))
theorem reg_B5T_3 : True := by
  k_with "subscriptTail" => ((k_here; (with_reducible rename Fr _ _ _ _ => F'); first
  | (refine' as2_item (by k_in) F' (by lia) (by lia) ?_; intro _ _)
  | (refine' as3_item (by k_in) F' (by lia) (by lia) ?_; intro _ _)))
  k_with "call ref" => ((k_here; (with_reducible show wpAny _ _ (call (Value.ref 140) _) _ _ _); k_dflt (apply (findr_ok (lo := 1) (hi := 8)); (case F => k_asm); (case N => walk_at "mN"); (case B => k_asm); (case X => k_asm); (case T => k_asm); (case hk => walk_at "mr"); (case hDS => assumption); (case hr => assumption); (case G => walk_at "mG"); (case hdp => walk_at "mo"); (case hun => walk_at "mo"); (case HT => first | exact (Glb.keep (by assumption) (Fr.keep (by assumption))).t0 | exact (Glb.keep (by assumption) (Fr.keep (by assumption))).t1 | exact (Glb.keep (by assumption) (Fr.keep (by assumption))).t2 | exact (Glb.keep (by assumption) (Fr.keep (by assumption))).t3); (case hR => decide +kernel); (case W => first | exact wf0 | exact wf1 | exact wf2 | exact wf3); (case h0 => walk_at "mp"); (case h1 => walk_at "mp"); (case h2 => walk_at "mp"); (case hl => walk_at "mp"); intros; (try k_sweep))))
  trivial
theorem clash_ok : ∀ {w : World} {dp un : Nat} {gd : Option (List Code)} {cn : Str} {cs : Scope} {a : Addr} {ccd : Value} {cl : List (Str × Addr)} {outer : List Env} {A₀ : Around} {base h₀ : Heap} {L : Addr} {m : Str → Option Value} {s : Shared} {Q E : Value → Shared → Prop} {mean : ExcName → Option Value} {mg mb : Str → Option Value} {S D : Addr} {rest : List (Addr × Obj)} {κ0 κ1 κ2 κ3 κ4 κ5 κ6 : Tok} {l : List Nat} {cu li lb br ke p1 : Int} {t0 t1 t2 t3 t4 t5 t6 : Tok}
    (B : Below A₀ base outer h₀) (F : Fr h₀ L s.heap m) (X : (MineH.KK w.params).In h₀) (N : News h₀ L s.heap ((S, instObj 1087 D) :: (D, D7 w.params κ0 κ1 κ2 κ3 κ4 κ5 κ6 (.str (mk l) t0) (.int cu t1) (.int li t2) (.int lb t3) (.int br t4) (.int ke t5) (.int p1 t6)) :: rest))
    (T : Top MineH.VW (looseW MineH.VW loose0) mean mg mb h₀) (hk : cs.kind = .function) (hDS : @LT.lt Nat _ D S) (hr : ∀ p ∈ rest, p.1 ≠ D) (G : Glb w h₀) (hdp : dp + 6 < recursionLimit) (hun : un + 34 < cLine) (hcu : cu = li) (hli : li = l.length) (hlb : lb = 0) (hp : 0 ≤ p1) (hl : l.length ≤ 500)
    (hret : ∀ (b : Bool) (l' : List Nat) (cu' li' lb' br' ke' : Int) (t0 t1 t2 t3 t4 t5 t6 : Tok) (h' : Heap) (tk' : Nat), Fix tbl2 as2 l l' → li' = l'.length → lb' = 0 →  Fr h₀ L h' m → News h₀ L h' ((S, instObj 1087 D) :: (D, D7 w.params κ0 κ1 κ2 κ3 κ4 κ5 κ6 (.str (mk l') t0) (.int cu' t1) (.int li' t2) (.int lb' t3) (.int br' t4) (.int ke' t5) (.int p1 t6)) :: rest) → Q (.bool b) { s with heap := h', toks := tk' }),
    wpAny (model PySem.Challenge.rw_iu0024_01.row.prog w) (ktrTop dp un gd cn cs L a ccd cl outer) (call (.ref 253) [.ref S]) Q E s := by
  k_fill
  intro w dp un gd cn cs a ccd cl outer A₀ base h₀ L m s Q E mean mg mb S D rest κ0 κ1 κ2 κ3 κ4 κ5 κ6 l cu li lb br ke p1 t0 t1 t2 t3 t4 t5 t6 B F X N T hk hDS hr G hdp hun hcu hli hlb hp hl hret
  refine wpAny_call ?_
  k_dflt cell_enter
  subst hcu hlb
  k_steps
  all_goals (refine' hret _ _ _ _ _ _ _ _ _ _ _ _ _ _ _ _ ?e0 ?e1 ?e2 ?kF ?kN; (case kN => first | assumption | exact cb_drop (by assumption) (by first | kcj_in | kcj_all)); (case kF => assumption); (case e0 => first | exact fix_none hli (by assumption) (by assumption) | exact fix_some hli (by assumption) (by assumption) (by subst_vars; first | rfl | assumption)); (case e1 => first | assumption | rfl); (case e2 => rfl))
theorem reg_B5T_4 : True := by
  k_with "call ref" => ((k_here; (with_reducible show wpAny _ _ (call (Value.ref 140) _) _ _ _); k_dflt (apply (findr_ok (lo := 1) (hi := 2)); (case F => k_asm); (case N => walk_at "mN"); (case B => k_asm); (case X => k_asm); (case T => k_asm); (case hk => walk_at "mr"); (case hDS => assumption); (case hr => assumption); (case G => walk_at "mG"); (case hdp => walk_at "mo"); (case hun => walk_at "mo"); (case HT => first | exact (Glb.keep (by assumption) (Fr.keep (by assumption))).t0 | exact (Glb.keep (by assumption) (Fr.keep (by assumption))).t1 | exact (Glb.keep (by assumption) (Fr.keep (by assumption))).t2 | exact (Glb.keep (by assumption) (Fr.keep (by assumption))).t3); (case hR => decide +kernel); (case W => first | exact wf0 | exact wf1 | exact wf2 | exact wf3); (case h0 => walk_at "mp"); (case h1 => walk_at "mp"); (case h2 => walk_at "mp"); (case hl => walk_at "mp"); intros; (try k_sweep))))
  trivial
theorem chdz_ok : ∀ {w : World} {dp un : Nat} {gd : Option (List Code)} {cn : Str} {cs : Scope} {a : Addr} {ccd : Value} {cl : List (Str × Addr)} {outer : List Env} {A₀ : Around} {base h₀ : Heap} {L : Addr} {m : Str → Option Value} {s : Shared} {Q E : Value → Shared → Prop} {mean : ExcName → Option Value} {mg mb : Str → Option Value} {S D : Addr} {rest : List (Addr × Obj)} {κ0 κ1 κ2 κ3 κ4 κ5 κ6 : Tok} {l : List Nat} {cu li lb br ke p1 : Int} {t0 t1 t2 t3 t4 t5 t6 : Tok}
    (B : Below A₀ base outer h₀) (F : Fr h₀ L s.heap m) (X : (MineH.KK w.params).In h₀) (N : News h₀ L s.heap ((S, instObj 1087 D) :: (D, D7 w.params κ0 κ1 κ2 κ3 κ4 κ5 κ6 (.str (mk l) t0) (.int cu t1) (.int li t2) (.int lb t3) (.int br t4) (.int ke t5) (.int p1 t6)) :: rest))
    (T : Top MineH.VW (looseW MineH.VW loose0) mean mg mb h₀) (hk : cs.kind = .function) (hDS : @LT.lt Nat _ D S) (hr : ∀ p ∈ rest, p.1 ≠ D) (G : Glb w h₀) (hdp : dp + 6 < recursionLimit) (hun : un + 34 < cLine) (hcu : cu = li) (hli : li = l.length) (hlb : lb = 0) (hp : 0 ≤ p1) (hl : l.length ≤ 500)
    (hret : ∀ (b : Bool) (l' : List Nat) (cu' li' lb' br' ke' : Int) (t0 t1 t2 t3 t4 t5 t6 : Tok) (h' : Heap) (tk' : Nat), Fix tbl3 as3 l l' → li' = l'.length → lb' = 0 →  Fr h₀ L h' m → News h₀ L h' ((S, instObj 1087 D) :: (D, D7 w.params κ0 κ1 κ2 κ3 κ4 κ5 κ6 (.str (mk l') t0) (.int cu' t1) (.int li' t2) (.int lb' t3) (.int br' t4) (.int ke' t5) (.int p1 t6)) :: rest) → Q (.bool b) { s with heap := h', toks := tk' }),
    wpAny (model PySem.Challenge.rw_iu0024_01.row.prog w) (ktrTop dp un gd cn cs L a ccd cl outer) (call (.ref 260) [.ref S]) Q E s := by
  k_fill
  intro w dp un gd cn cs a ccd cl outer A₀ base h₀ L m s Q E mean mg mb S D rest κ0 κ1 κ2 κ3 κ4 κ5 κ6 l cu li lb br ke p1 t0 t1 t2 t3 t4 t5 t6 B F X N T hk hDS hr G hdp hun hcu hli hlb hp hl hret
  refine wpAny_call ?_
  k_dflt cell_enter
  subst hcu hlb
  k_steps
  all_goals (refine' hret _ _ _ _ _ _ _ _ _ _ _ _ _ _ _ _ ?e0 ?e1 ?e2 ?kF ?kN; (case kN => first | assumption | exact cb_drop (by assumption) (by first | kcj_in | kcj_all)); (case kF => assumption); (case e0 => first | exact fix_none hli (by assumption) (by assumption) | exact fix_some hli (by assumption) (by assumption) (by subst_vars; first | rfl | assumption)); (case e1 => first | assumption | rfl); (case e2 => rfl))
end Mine
end
section
set_option maxRecDepth 100000
namespace Mine
open PySem PySem.Calls PyProof.Rows PyProof.V PySem.Spec PySem.W
section
variable {prog : Program} {w : World} {A₀ : Around} {E : Value → Shared → Prop} {s' : Shared} {base g g₀ h : Heap} {outer : List Env} {L a e : Addr} {m : Str → Option Value} {name : Str} {scope : Scope} {cd : Value}
  {vs : List Value} {b₀ : Stmt} {suite : List Stmt} {pos np : Pos} {rest : List ExceptHandler} {Q : Flow → Shared → Prop} {news : List (Addr × Obj)} {KF : Frag} {C : Addr}
  {p : Program} {loose : List Str} {mean : ExcName → Option Value} {mg mb : Str → Option Value} {x : Str}
/-- what is not there in a later heap was not there before -/
theorem gone_before {h₁ h₂ : Heap} (up : h₁.StaysIn h₂) {b : Addr} (hb : h₂.get? b = none) : h₁.get? b = none :=
  Option.eq_none_iff_forall_ne_some.mpr fun o ho => Option.some_ne_none o ((up b o ho).symm.trans hb)
/-- a frame notes an exception that was made in it -/
theorem noted_own {M : Model} {A : Around} {base : Heap} {env : Env} {cls : Value} {Q : Unit → Shared → Prop}
    (hfr : A.frames = some (env :: outer)) (hf : env.frame = some L) (hkb : base.StaysIn h) (hl : h.FunFrames base (env :: outer)) (hx : Heap.MadeExcOf h s'.heap e cls vs)
    (hQ : ∀ h' t, Heap.HeldW base (env :: outer) e cls (.ref t) L h' → h'.TupAt t vs → base.get? t = none → s'.heap.UpToSlots h' → Q () { s' with heap := h' }) : wpAny M A (noteFrame (.ref e) env) Q E s' := by
  obtain ⟨tup, at_e, tupNew, atTup⟩ := hx.there
  have eNew := gone_before hkb hx.new
  have frames := hl.of_keeps fun b o hb _ => ⟨o, hx.keeps b o hb, rfl⟩
  have stays : base.StaysIn s'.heap := fun b o hb => hx.keeps b o (hkb b o hb)
  unfold noteFrame
  simp only [hf]
  refine wpAny_bind (wpAny_field at_e rfl (x := .none) rfl ?_)
  rw [if_neg (by decide)]
  refine wpAny_entryW (a0 := .ref tup) hfr frames hf at_e stays eNew rfl (by simp) rfl ?_
  rintro h' ⟨up, fl, held, slots⟩
  have tupAt : h'.TupAt tup vs := Heap.TupAt.of_slots ⟨_, _, atTup, rfl, rfl⟩ slots
  exact hQ h' tup ⟨up, eNew, fl, held⟩ tupAt (gone_before hkb tupNew) slots
theorem caught_own (K : Below A₀ base outer g) (F : Fr g L h m) (N : News g L h news) (hm : Heap.MadeExcOf h s'.heap e (.ref C) vs)
    (XB : KF.In base) (TB : Top p loose mean mg mb base) (D : KtsDicts (outer.filterMap (·.frame)) g) (T0 : KtsTurn (outer.filterMap (·.frame)) g₀ g)
    (ex : nsIn KF mainGlobals x = some (some (.ref C))) (q : ktsIn KF C "BaseException" = true)
    (k : ∀ h' g', KtsTurn (outer.filterMap (·.frame)) g₀ g' → Fr g' L h' m → News g' L h' news → Below A₀ base outer g' → KF.In g' → Top p loose mean mg mb g' → KtsDicts (outer.filterMap (·.frame)) g' →
      wpAny (model prog w) ((A₀.deeper (envOf name scope L a cd)).mark (some (.ref e))) (execs (b₀ :: suite) (envOf name scope L a cd)) Q E { s' with heap := h' })
    (hk : scope.kind = .function := by rfl) (hx : (envOf name scope L a cd).kindOf x = some .globalImplicit := by rfl) (hd : (x == ("__debug__" : Str)) = false := by decide)
    (hE : PassesOwnAt (model prog w) ((A₀.deeper (envOf name scope L a cd)).mark (some (.ref e))) (A₀.deeper (envOf name scope L a cd)) (envOf name scope L a cd) E := by passes_own) :
    wpAny (model prog w) (A₀.deeper (envOf name scope L a cd)) (noteFrame (.ref e) (envOf name scope L a cd))
      (fun _ s₂ => wpAny (model prog w) (A₀.deeper (envOf name scope L a cd)) (setFlight (.ref e) none) (fun _ s₃ =>
        wpAny (model prog w) (A₀.deeper (envOf name scope L a cd)) (handleBy (.ref e) (envOf name scope L a cd) (.ExceptHandler (some (.Name x np)) none (b₀ :: suite) pos :: rest)) Q E s₃) E s₂) E s' := by
  let fs := (envOf name scope L a cd :: outer).filterMap (·.frame)
  have inFs : ∀ env ∈ (envOf name scope L a cd :: outer), ∀ b, env.frame = some b → b ∈ fs := fun env he _ hb => List.mem_filterMap.mpr ⟨env, he, hb⟩
  have LinFs : L ∈ fs := inFs _ List.mem_cons_self _ rfl
  have pushed := K.push (name := name) (a := a) (cd := cd) F hk
  have shown : ∀ b o, h.get? b = some o → b ∉ fs → (hideAll h fs).get? b = some o := fun _ _ ho away => hideAll_get _ ho away
  have noL : (hideAll h fs).get? L = none := hideAll_none _ LinFs
  have ledger : ∀ q ∈ news, (hideAll h fs).get? q.1 = some q.2 := by
    intro q hq
    obtain ⟨there, notL, new⟩ := N q hq
    refine shown _ _ there fun inside => ?_
    rcases kts_mem inside with isL | inOuter
    · exact notL isL
    · obtain ⟨_, o, ho, _⟩ := K.frames.mem inOuter
      exact Option.some_ne_none o (ho.symm.trans new)
  refine noted_own pushed.stack rfl (fun _ _ ho => of_hideAll _ ho) (funFrames_hide pushed.frames inFs) hm ?_
  intro h₁ t held₁ _ _ slots₁
  refine wpAny_landsW held₁ ?_
  intro h₂ held₂ slots₂
  have toTwo := ((Heap.UpToSlots.of_keeps hm.keeps).trans slots₁).trans slots₂
  obtain ⟨gT, _, FT, KT⟩ := kts_ground K (G := h) ⟨F.ns, F.keep, F.above⟩ shown held₂.1 toTwo
  have XT := XB.keeps KT.stays
  obtain ⟨_, atE, isC⟩ := held₂.there
  obtain ⟨_, _, _, _, _, _, _, _, _, _, _, _, _, _, _, _, _, clsAt, sub, _⟩ := kts_cls XT q
  refine wpAny_handleBy_cons (codeAny_handlers_test ?_) fun z => nomatch z
  refine name_K FT XT (topRead_of (TB.keeps KT.stays)) ex ?_ hk hx hd
  refine wpAny_excMatches_sub_self (FT.keep _ _ clsAt) atE isC sub (codeAny_handlers_suite ?_)
  refine lands_againW held₂ ?_
  intro h₃ fly slots₃
  obtain ⟨gE, TE, FE, KE⟩ := kts_ground K F shown fly.1 (toTwo.trans slots₃)
  have NE : News gE L h₃ news := by
    intro p hp
    have there := ledger p hp
    refine ⟨fly.1 _ _ there, fun isL => ?_, TE.none_ _ (N p hp).2.2⟩
    rw [isL] at there
    exact Option.some_ne_none _ (there.symm.trans noL)
  refine wpAny_passesOwnAt hE ?_
  exact k h₃ gE (T0.trans TE) FE NE KE (XB.keeps KE.stays) (TB.keeps KE.stays) (D.turn TE)
end
theorem kts_memX {env : Env} {L b : Addr} {outer : List Env} (hf : env.frame = some L) (hm : b ∈ (env :: outer).filterMap (·.frame)) : b = L ∨ b ∈ outer.filterMap (·.frame) := by
  rw [List.filterMap_cons_some hf] at hm
  exact List.mem_cons.mp hm
/-- who stands below stands below a turned heap too -/
theorem below_turn {A₀ : Around} {base h₁ h₂ : Heap} {outer : List Env} (B : Below A₀ base outer h₁) (T : KtsTurn (outer.filterMap (·.frame)) h₁ h₂) : Below A₀ base outer h₂ where
  stack := B.stack
  stays := by
    intro b o ho
    refine T.other b o (B.stays b o ho) fun inside => ?_
    exact Option.some_ne_none o (ho.symm.trans (B.frames.mem inside).1)
  frames := by
    refine B.frames.of_keeps fun b o ho _ => ?_
    obtain ⟨sl, there⟩ := T.up ho
    exact ⟨{ o with slots := sl }, there, rfl⟩
/-- the callee's turned frames, seen from the caller: the caller's own frame aside -/
theorem home_turn {A₀ : Around} {base h₀ g g' h' : Heap} {env : Env} {outer : List Env} {L : Addr} (hf : env.frame = some L) (B : Below A₀ base outer h₀) (free : h₀.get? L = none) (st : h₀.StaysIn g)
    (T : KtsTurn ((env :: outer).filterMap (·.frame)) g g') (up : ∀ b o, g'.get? b = some o → h'.get? b = some o) :
    KtsTurn (outer.filterMap (·.frame)) h₀ (ktsHeap h' (outer.filterMap (·.frame)) h₀) ∧ ∀ b o, (ktsHeap h' (outer.filterMap (·.frame)) h₀).get? b = some o → h'.get? b = some o := by
  refine kts_turn_at ?there ?away ?frame
  case there =>
    intro b inside
    obtain ⟨_, o, ho, _⟩ := B.frames.mem inside
    exact ⟨o, ho⟩
  case away =>
    intro b o ho outside
    refine up b o (T.other b o (st b o ho) fun inside => ?_)
    rcases kts_memX hf inside with isL | z
    · exact Option.some_ne_none o (ho.symm.trans (isL ▸ free))
    · exact outside z
  case frame =>
    intro b o ho _
    obtain ⟨sl, there⟩ := T.up (st b o ho)
    exact ⟨sl, up _ _ there⟩
noncomputable def LeaveW (fs : List Addr) (A₀ : Around) (base : Heap) (outer : List Env) (K : Frag) (p : Program) (loose : List Str) (mean : ExcName → Option Value) (mg mb : Str → Option Value) (g₀ : Heap) (L : Addr) (m : Str → Option Value) (g : Heap) (R : Result → Shared → Prop) (v : Value) (s' : Shared) : Prop :=
  ∃ g' L' m' news', KtsTurn fs g g' ∧ Fr g' L' s'.heap m' ∧ News g' L' s'.heap news' ∧ ∀ h₀', KtsTurn (outer.filterMap (·.frame)) g₀ h₀' → Fr h₀' L s'.heap m → News h₀' L s'.heap news' → Below A₀ base outer h₀' → K.In h₀' → Top p loose mean mg mb h₀' →
    KtsDicts (outer.filterMap (·.frame)) h₀' → R (.ok (.ret v)) s'
theorem leaveW_ {fs : List Addr} {A₀ : Around} {base : Heap} {outer : List Env} {K : Frag} {p : Program} {loose : List Str} {mean : ExcName → Option Value} {mg mb : Str → Option Value} {g₀ g g' : Heap} {L L' : Addr} {m m' : Str → Option Value} {news' : List (Addr × Obj)} {R : Result → Shared → Prop} {v : Value} {s' : Shared}
    (F' : Fr g' L' s'.heap m') (N' : News g' L' s'.heap news') (T : KtsTurn fs g g')
    (k : ∀ h₀', KtsTurn (outer.filterMap (·.frame)) g₀ h₀' → Fr h₀' L s'.heap m → News h₀' L s'.heap news' → Below A₀ base outer h₀' → K.In h₀' → Top p loose mean mg mb h₀' → KtsDicts (outer.filterMap (·.frame)) h₀' → R (.ok (.ret v)) s') :
    LeaveW fs A₀ base outer K p loose mean mg mb g₀ L m g R v s' := ⟨g', L', m', news', T, F', N', k⟩
section
variable {prog : Program} {w : World} {A₀ A : Around} {s : Shared} {base h₀ g₀ : Heap} {outer : List Env} {L : Addr} {m : Str → Option Value} {env : Env} {news : List (Addr × Obj)} {K : Frag} {p : Program} {loose : List Str} {mean : ExcName → Option Value} {mg mb : Str → Option Value}
    {R : Result → Shared → Prop} {name qual : Str} {params : Arguments} {body : List Stmt} {scope : Scope} {dV kV doc pm cdv ct oc : Value} {an od : Option Addr} {osl : Array (Option Value)} {f : Addr} {args : Args} {binds : List (Str × Value)}
theorem code_defW (B : Below A₀ base outer h₀) (F : Fr h₀ L s.heap m) (X₀ : K.In h₀) (N : News h₀ L s.heap news) (T : Top p loose mean mg mb h₀) (XB : K.In base) (TB : Top p loose mean mg mb base) (D : KtsDicts (outer.filterMap (·.frame)) h₀)
    (T0 : KtsTurn (outer.filterMap (·.frame)) g₀ h₀) (hA : A.frames = some (env :: outer)) (hf : env.frame = some L) (hke : env.scope.kind = .function)
    (ho : K.lookup f = some ⟨oc, od, .func (fnOf name qual params body scope dV kV doc pm an cdv ct), osl⟩) (hcd : codeIn K cdv qual = true) (hroom : A.depth < recursionLimit)
    (hbind : BindsTo s (fnOf name qual params body scope dV kV doc pm an cdv ct) args binds) (hloc : ∀ y ∈ binds, scope.names.lookup y.1 = some .local)
    (h : ∀ g L' h₁, Fr h₀ L g m → Fr g L' h₁ (fun y => binds.reverse.lookup y) → News g L' h₁ news → Below A base (env :: outer) g → K.In g → Top p loose mean mg mb g → KtsDicts ((env :: outer).filterMap (·.frame)) g → KtsTurn ((env :: outer).filterMap (·.frame)) g g →
      wpAny (model prog w) (A.deeper (envOf qual scope L' f cdv)) (execs body (envOf qual scope L' f cdv))
        (fun fl s' => LeaveW ((env :: outer).filterMap (·.frame)) A₀ base outer K p loose mean mg mb g₀ L m g R (match fl with | .ret v => v | _ => .none) s')
        (fun e s' => wpAny (model prog w) (A.deeper (envOf qual scope L' f cdv)) (leaving (envOf qual scope L' f cdv) e) (fun _ s'' => R (.error e) s'') (fun e' s'' => R (.error e') s'') s')
        { s with heap := h₁, toks := s.toks + binds.length })
    (hco : scope.isCoroutine = false) (hgen : scope.isGenerator = false) (hk : scope.kind = .function)
    (hcell : ∀ x ∈ scope.names, x.2 ≠ .cell) : codeAny (model prog w) A (.call (.ref f) args) R s := by
  have X := X₀.keeps F.keep
  obtain ⟨FG, below, st, _⟩ := groundX (R := R) B F N hA hf hke
  obtain ⟨oL, es, ep, atL, dataL, keyed, listed⟩ := F.ns
  have shownL : (hideAll s.heap (news.map (·.1))).get? L = some oL := by
    refine hideAll_get _ atL fun inside => ?_
    obtain ⟨p, hp, isL⟩ := List.mem_map.mp inside
    exact (N p hp).2.1 isL
  have free : h₀.get? L = none := kts_self F
  refine codeAny_call_def (binds := binds) hroom (X _ _ ho) rfl (T.nolimit.keeps F.keep) (codeRec_of X hcd) rfl hbind hcell hloc ?_ hco hgen hk
  intro h₁ ns₁ keep₁
  have frame₁ : Fr (hideAll s.heap (news.map (·.1))) s.heap.objs.size h₁ (fun y => binds.reverse.lookup y) := ⟨ns₁, fun b o e => keep₁ b o (of_hideAll _ e), Nat.le_of_eq (hideAll_size _ _)⟩
  have news₁ : News (hideAll s.heap (news.map (·.1))) s.heap.objs.size h₁ news := by
    intro p hp
    have there := (N p hp).1
    exact ⟨keep₁ _ _ there, Nat.ne_of_lt (Heap.lt_size there), hideAll_none _ (List.mem_map_of_mem hp)⟩
  have dicts : KtsDicts ((env :: outer).filterMap (·.frame)) (hideAll s.heap (news.map (·.1))) := by
    intro b inside
    rcases kts_memX hf inside with isL | z
    · exact ⟨oL, es, ep, isL ▸ shownL, dataL⟩
    · obtain ⟨o, es', n', there, d⟩ := D b z
      exact ⟨o, es', n', st b o there, d⟩
  refine wpAny_mono (h _ _ h₁ FG frame₁ news₁ below (X₀.keeps st) (T.keeps st) dicts KtsTurn.refl) ?_ fun _ _ y => y
  rintro fl s₂ ⟨g₂, L₂, m₂, news₂, T₂, F₂, N₂, back⟩
  obtain ⟨sl, turnedL⟩ := T₂.up shownL
  obtain ⟨TH, upH⟩ := home_turn hf B free st T₂ F₂.keep
  have BH := below_turn B TH
  refine back _ (T0.trans TH) ⟨⟨_, es, ep, F₂.keep _ _ turnedL, dataL, keyed, listed⟩, upH, ?_⟩ ?_ BH (XB.keeps BH.stays) (TB.keeps BH.stays) (D.turn TH)
  · rw [TH.size]; exact F.above
  · intro p hp
    obtain ⟨there, _, new⟩ := N₂ p hp
    refine ⟨there, fun isL => Option.some_ne_none _ (turnedL.symm.trans (isL ▸ new)), TH.none_ _ ?_⟩
    refine Option.eq_none_iff_forall_ne_some.mpr fun o ho => ?_
    obtain ⟨sl', turned⟩ := T₂.up (st _ _ ho)
    exact Option.some_ne_none _ (turned.symm.trans new)
end
noncomputable def OkW (fs : List Addr) (g₀ : Heap) (A₀ : Around) (base : Heap) (outer : List Env) (K : Frag) (p : Program) (loose : List Str) (mean : ExcName → Option Value) (mg mb : Str → Option Value) (hh : Heap) : Prop :=
  KtsTurn fs g₀ hh ∧ Below A₀ base outer hh ∧ K.In hh ∧ Top p loose mean mg mb hh ∧ KtsDicts fs hh
section
variable {prog : Program} {w : World} {A : Around} {E : Value → Shared → Prop} {Q : Flow → Shared → Prop} {s : Shared} {env : Env} {h₀ : Heap} {L : Addr} {σ : Type} {Ok : Heap → Prop}
noncomputable def CutPostW (Ok : Heap → Prop) (L : Addr) (s : Shared) (Led : σ → List (Addr × Obj)) (ps : σ → List (Str × Value)) (stored : List Str) (m₀ : Str → Option Value) (P : σ → Prop) (f : Flow) (s₂ : Shared) : Prop :=
  f = .next ∧ ∃ (hh : Heap) (c : σ) (h' : Heap) (tk : Nat) (m' : Str → Option Value) (news' : List (Addr × Obj)), s₂ = { s with heap := h', toks := tk } ∧ Ok hh ∧ Fr hh L h' m' ∧ News hh L h' news' ∧ (∀ p ∈ Led c, p ∈ news') ∧ (∀ p ∈ ps c, m' p.1 = some p.2) ∧ (∀ z, (∀ p ∈ ps c, z ≠ p.1) → stored.contains z = false → m' z = m₀ z) ∧ P c
theorem cut_endW {hh : Heap} {Led : σ → List (Addr × Obj)} {ps : σ → List (Str × Value)} {stored : List Str} {m₀ m' : Str → Option Value} {P : σ → Prop} {h' : Heap} {tk : Nat} {news' : List (Addr × Obj)} (c : σ)
    (F : Fr hh L h' m') (N : News hh L h' news') (ok : Ok hh) (hn : ∀ p ∈ Led c, p ∈ news') (hk : Has m' (ps c)) (hr : ∀ z, (∀ p ∈ ps c, z ≠ p.1) → stored.contains z = false → m' z = m₀ z) (hp : P c) :
    CutPostW Ok L s Led ps stored m₀ P .next { s with heap := h', toks := tk } := ⟨rfl, hh, c, h', tk, m', news', rfl, ok, F, N, hn, hk, hr, hp⟩
theorem cut_execW {t : Sem Flow} {m₀ : Str → Option Value} {news : List (Addr × Obj)} (_F : Fr h₀ L s.heap m₀) (_N : News h₀ L s.heap news) (_ok : Ok h₀) (Led : σ → List (Addr × Obj)) (ps : σ → List (Str × Value)) (stored : List Str) (P : σ → Prop)
    (h : wpAny (model prog w) A t (CutPostW Ok L s Led ps stored m₀ P) E s)
    (k : ∀ (c : σ) (u : Str → Option Value) hh h tk, P c → Ok hh → Fr hh L h (kstB (fun z => if stored.contains z then u z else m₀ z) (ps c)) → News hh L h (Led c) → Q .next { s with heap := h, toks := tk }) :
    wpAny (model prog w) A t Q E s :=
  wpAny_mono h (fun f s₂ ⟨e, hh, c, h', tk, m', news', es, ok, F, N, hn, hk, hr, hp⟩ => by
    subst e es
    exact k c m' hh h' tk hp ok (ksw_fr hk hr F) fun p hp => N p (hn p hp)) fun _ _ x => x
end
theorem glb_base {w : World} {A₀ : Around} {base h : Heap} {outer : List Env} (G : Glb w base) (B : Below A₀ base outer h) : Glb w h := G.keep B.stays
end Mine
end
section
open PySem PySem.W PyProof.Rows PySem.Calls PySem.Spec
set_option maxRecDepth 100000
set_option maxHeartbeats 8000000
namespace Mine
theorem reg_B6T_1 : True := by
  k_with_none
  k_with "mp" => (first | assumption | lia | decide | (simp; lia) | (simp_all; done) | (simp_all; lia))
  k_with "mN" => (first | k_asm | exact cb_drop (by assumption) (by first | kcj_in | kcj_all))
  k_with "mGW" => (first | assumption | exact Glb.keep (by assumption) (Fr.keep (by assumption)) | exact Glb.keep (by assumption) (Below.stays (by assumption)))
  k_with "mG" => (first | assumption | exact Glb.keep (by assumption) (Fr.keep (by assumption)))
  k_with "mo" => (first | lia | (dsimp only; lia))
  k_with "mr" => (first | exact rfl | assumption)
  k_with "cell_enterW" => ((refine' code_defW ?cwk1 ?cwk2 ?cwk3 ?cwk4 ?cwk5 ?cwXB ?cwTB ?cwD ?cwT0 ?cwkA ?cwkF ?cwkK ?cwk6 ?cwk7 ?cwk8 ?cwk9 ?cwkB ?_ ?cwc2 ?cwc3 ?cwc4 ?cwc5; (case cwkA => exact rfl); (case cwkF => exact rfl); (case cwkK => assumption); (case cwk1 => assumption); (case cwk2 => assumption); (case cwk3 => assumption); (case cwXB => assumption); (case cwTB => assumption); (case cwD => assumption); (case cwT0 => assumption); (case cwk4 => assumption); (case cwk5 => assumption); (case cwk6 => k_is); (case cwk7 => k_is); (case cwk8 => ktr_room); (case cwk9 => exact BindsTo.of_eq rfl); (case cwc5 => decide); (case cwkB => exact locs rfl); (case cwc2 => exact rfl); (case cwc3 => exact rfl); (case cwc4 => exact rfl); k_whole; intro g' L' h' FG' F' N' B' X' T' D' T0'; (try dsimp only); (try k_lift B'); (try k_fold)))
  k_with "subscriptTail" => ((k_here; (with_reducible show wpAny _ _ (subscriptTail _ _ (Value.str (mk _) _) (Value.int _ _)) _ _ _); (refine' r_item (by lia) (by lia) (by lia) ?_); intro _ _))
  k_with "subscriptTail" => ((k_here; (with_reducible rename Fr _ _ _ _ => F'); (with_reducible rename News _ _ _ _ => N'); (with_reducible show wpAny _ _ (subscriptTail _ (Expr.Slice (some _) (some _) none _) (Value.str (mk _) _) (Value.ref _)) _ _ _); (refine' r_slice_ss (s := ⟨_, _, _, _, _⟩) F' N' (by lia) (by lia) (by lia) (by lia) ?_); intro _ _ _ _ _))
  k_with "subscriptTail" => ((k_here; (with_reducible rename Fr _ _ _ _ => F'); (with_reducible rename News _ _ _ _ => N'); (with_reducible show wpAny _ _ (subscriptTail _ (Expr.Slice (some _) none none _) (Value.str (mk _) _) (Value.ref _)) _ _ _); (refine' r_slice_sn (s := ⟨_, _, _, _, _⟩) F' N' (by lia) (by lia) (by lia) ?_); intro _ _ _ _ _))
  k_with "subscriptTail" => ((k_here; (with_reducible rename Fr _ _ _ _ => F'); (with_reducible rename News _ _ _ _ => N'); (with_reducible show wpAny _ _ (subscriptTail _ (Expr.Slice none (some _) none _) (Value.str (mk _) _) (Value.ref _)) _ _ _); (refine' r_slice_ns (s := ⟨_, _, _, _, _⟩) F' N' (by lia) (by lia) (by lia) ?_); intro _ _ _ _ _))
  k_with "call builtin:len" => ((k_here; (with_reducible show wpAny _ _ (call (Value.builtin "len") [Value.str (mk _) _]) _ _ _); (refine' r_len (by lia) ?_); intro _ _))
  k_with "binaryOp Add" => ((k_here; (with_reducible show wpAny _ _ (binaryOp Operator.Add (Value.str (mk _) _) (Value.str (mk _) _)) _ _ _); (refine' r_add (by first | lia | (simp; lia)) (by first | lia | (simp; lia)) ?_); intro _ _))
  k_with "compareOp Eq" => ((k_here; (with_reducible show wpAny _ _ (compareOp CmpOp.Eq (Value.str (mk _) _) (Value.str (mk _) _)) _ _ _); refine r_eq ?_))
  k_with "call builtin:str.endswith" => ((k_here; (with_reducible show wpAny _ _ (call (Value.builtin "str.endswith") [Value.str (mk _) _, Value.str (mk _) _]) _ _ _); refine r_ends ?_))
  k_with "compareOp In" => ((k_here; (with_reducible rename Fr _ _ _ _ => F'); (with_reducible show wpAny _ _ (compareOp CmpOp.In (Value.str (mk _) _) (Value.ref 232)) _ _ _); (refine' r_inV (by walk_at "mG") F' ?_); intro _))
  k_with "compareOp NotIn" => ((k_here; (with_reducible rename Fr _ _ _ _ => F'); (with_reducible show wpAny _ _ (compareOp CmpOp.NotIn (Value.str (mk _) _) (Value.ref 232)) _ _ _); (refine' r_notInV (by walk_at "mG") F' ?_); intro _))
  k_with "exec While" => ((k_here; refine Stop.out ?_))
  k_with "call ref" => ((k_here; (with_reducible show wpAny _ _ (call (Value.ref 161) _) _ _ _); k_dflt (apply slice_del_ok; (case F => k_asm); (case N => walk_at "mN"); (case B => k_asm); (case X => k_asm); (case T => k_asm); (case hk => walk_at "mr"); (case hDS => assumption); (case hr => assumption); (case G => walk_at "mG"); (case hdp => walk_at "mo"); (case hun => walk_at "mo"); (case hcu => walk_at "mp"); (case hke => walk_at "mp"); (case hli => walk_at "mp"); (case hb => walk_at "mp"); (case hbk => walk_at "mp"); (case hl => walk_at "mp"); intros; (try k_sweep))))
  k_with "call ref" => ((k_here; (with_reducible show wpAny _ _ (call (Value.ref 154) _) _ _ _); k_dflt (apply slice_from_ok; (case F => k_asm); (case N => walk_at "mN"); (case B => k_asm); (case X => k_asm); (case T => k_asm); (case hk => walk_at "mr"); (case hDS => assumption); (case hr => assumption); (case G => walk_at "mG"); (case hdp => walk_at "mo"); (case hun => walk_at "mo"); (case hcu => walk_at "mp"); (case hke => walk_at "mp"); (case hli => walk_at "mp"); (case hb => walk_at "mp"); (case hbk => walk_at "mp"); (case hl => walk_at "mp"); (case hx => walk_at "mp"); intros; (try k_sweep))))
  k_with "call ref" => ((k_here; (with_reducible show wpAny _ _ (call (Value.ref 126) _) _ _ _); k_dflt (apply eq_s_b_ok; (case F => k_asm); (case N => walk_at "mN"); (case B => k_asm); (case X => k_asm); (case T => k_asm); (case hk => walk_at "mr"); (case hDS => assumption); (case hr => assumption); (case G => walk_at "mG"); (case hdp => walk_at "mo"); (case hun => walk_at "mo"); (case h0 => walk_at "mp"); (case h1 => walk_at "mp"); (case h2 => walk_at "mp"); (case hl => walk_at "mp"); (case hx => walk_at "mp"); intros; (try k_sweep))))
  k_with "call ref" => ((k_here; (with_reducible show wpAny _ _ (call (Value.ref 140) _) _ _ _); k_dflt (apply (findr_ok (lo := -1) (hi := -1)); (case F => k_asm); (case N => walk_at "mN"); (case B => k_asm); (case X => k_asm); (case T => k_asm); (case hk => walk_at "mr"); (case hDS => assumption); (case hr => assumption); (case G => walk_at "mG"); (case hdp => walk_at "mo"); (case hun => walk_at "mo"); (case HT => first | exact Glb.t0 (by assumption) | exact Glb.t1 (by assumption) | exact Glb.t2 (by assumption) | exact Glb.t3 (by assumption) | exact (Glb.keep (by assumption) (Fr.keep (by assumption))).t0 | exact (Glb.keep (by assumption) (Fr.keep (by assumption))).t1 | exact (Glb.keep (by assumption) (Fr.keep (by assumption))).t2 | exact (Glb.keep (by assumption) (Fr.keep (by assumption))).t3); (case hR => decide +kernel); (case W => first | exact wf0 | exact wf1 | exact wf2 | exact wf3); (case h0 => walk_at "mp"); (case h1 => walk_at "mp"); (case h2 => walk_at "mp"); (case hl => walk_at "mp"); intros; (try k_sweep))))
  k_with "call ref" => ((k_here; (with_reducible show wpAny _ _ (call (Value.ref 126) [_, Value.str (Str.ofString "gd") _]) _ _ _); rw [lit_gd]; walk1))
  k_with "call ref" => ((k_here; (with_reducible show wpAny _ _ (call (Value.ref 154) [_, Value.str (Str.ofString "g") _]) _ _ _); rw [lit_g]; walk1))
  trivial
noncomputable def Gd (l l' : List Nat) : Prop := ([103, 100] <:+ l ∧ l' = l.take (l.length - 2) ++ [103]) ∨ (¬ [103, 100] <:+ l ∧ l' = l)
theorem gd_yes {l l' : List Nat} {li cu' : Int} {r : Bool} (e : li = l.length) (h : r = decide ([103, 100] <:+ (l.take li.toNat).drop (Int.toNat 0))) (hr : r = true) (hc : r = true → cu' = li - ([103, 100] : List Nat).length ∧ (([103, 100] : List Nat).length : Int) ≤ li - 0) (hl : l' = l.take cu'.toNat ++ [103]) : Gd l l' := .inl ⟨by
  have := of_decide_eq_true (h.symm.trans hr)
  rw [e, Int.toNat_natCast, List.take_length] at this; exact this, by
  have q := (hc hr).1
  rw [hl, q, e]; congr 2; simp; lia⟩
theorem gd_no {l : List Nat} {li : Int} {r : Bool} (e : li = l.length) (h : r = decide ([103, 100] <:+ (l.take li.toNat).drop (Int.toNat 0))) (hr : r = false) : Gd l l := .inr ⟨by
  have := of_decide_eq_false (h.symm.trans hr)
  rw [e, Int.toNat_natCast, List.take_length] at this; exact this, rfl⟩
theorem gd_ok : ∀ {w : World} {dp un : Nat} {gd : Option (List Code)} {cn : Str} {cs : Scope} {a : Addr} {ccd : Value} {cl : List (Str × Addr)} {outer : List Env} {A₀ : Around} {base h₀ : Heap} {L : Addr} {m : Str → Option Value} {s : Shared} {Q E : Value → Shared → Prop} {mean : ExcName → Option Value} {mg mb : Str → Option Value} {S D : Addr} {rest : List (Addr × Obj)} {κ0 κ1 κ2 κ3 κ4 κ5 κ6 : Tok} {l : List Nat} {cu li lb br ke p1 : Int} {t0 t1 t2 t3 t4 t5 t6 : Tok}
    (B : Below A₀ base outer h₀) (F : Fr h₀ L s.heap m) (X : (MineH.KK w.params).In h₀) (N : News h₀ L s.heap ((S, instObj 1087 D) :: (D, D7 w.params κ0 κ1 κ2 κ3 κ4 κ5 κ6 (.str (mk l) t0) (.int cu t1) (.int li t2) (.int lb t3) (.int br t4) (.int ke t5) (.int p1 t6)) :: rest))
    (T : Top MineH.VW (looseW MineH.VW loose0) mean mg mb h₀) (hk : cs.kind = .function) (hDS : @LT.lt Nat _ D S) (hr : ∀ p ∈ rest, p.1 ≠ D) (G : Glb w h₀) (hdp : dp + 6 < recursionLimit) (hun : un + 34 < cLine) (hcu : cu = li) (hli : li = l.length) (hlb : lb = 0) (hp : 0 ≤ p1) (hl : l.length ≤ 500)
    (hret : ∀ (b : Bool) (l' : List Nat) (cu' li' lb' br' ke' : Int) (t0 t1 t2 t3 t4 t5 t6 : Tok) (h' : Heap) (tk' : Nat), Gd l l' → li' = l'.length → lb' = 0 →  Fr h₀ L h' m → News h₀ L h' ((S, instObj 1087 D) :: (D, D7 w.params κ0 κ1 κ2 κ3 κ4 κ5 κ6 (.str (mk l') t0) (.int cu' t1) (.int li' t2) (.int lb' t3) (.int br' t4) (.int ke' t5) (.int p1 t6)) :: rest) → Q (.bool b) { s with heap := h', toks := tk' }),
    wpAny (model PySem.Challenge.rw_iu0024_01.row.prog w) (ktrTop dp un gd cn cs L a ccd cl outer) (call (.ref 267) [.ref S]) Q E s := by
  k_fill
  intro w dp un gd cn cs a ccd cl outer A₀ base h₀ L m s Q E mean mg mb S D rest κ0 κ1 κ2 κ3 κ4 κ5 κ6 l cu li lb br ke p1 t0 t1 t2 t3 t4 t5 t6 B F X N T hk hDS hr G hdp hun hcu hli hlb hp hl hret
  refine wpAny_call ?_
  k_dflt cell_enter
  subst hcu hlb
  k_steps
  all_goals (refine' hret _ _ _ _ _ _ _ _ _ _ _ _ _ _ _ _ ?e0 ?e1 ?e2 ?kF ?kN; (case kN => first | assumption | exact cb_drop (by assumption) (by first | kcj_in | kcj_all)); (case kF => assumption); (case e0 => first | exact gd_yes hli (by assumption) (by assumption) (by assumption) (by assumption) | exact gd_no hli (by assumption) (by assumption)); (case e1 => first | assumption | rfl); (case e2 => rfl))
theorem reg_B6T_2 : True := by
  k_with "noteFrame ref" => ((k_here; (with_reducible rename Heap.MadeExcOf _ _ _ _ _ => mxX); (with_reducible rename Fr _ _ _ _ => FX); (with_reducible rename News _ _ _ _ => NX); k_dflt (refine' caught_own (by assumption) FX NX mxX (by assumption) (by assumption) (by assumption) (by assumption) (by k_is) (by kts_isx) ?_; k_whole); intro h' g' T' F' N' K' X' P' D'; clear mxX; have GX := Glb.keep (by assumption) (Below.stays K'); (try k_lift K'); (try k_sweep)))
  trivial
inductive CutsTo (tbl : Tbl) (p1 : Int) : List Nat → List Nat → Prop
  | short {l : List Nat} : (l.length : Int) < p1 → CutsTo tbl p1 l l
  | none {l : List Nat} {r : Int} : p1 ≤ l.length → Best tbl (l.drop p1.toNat).reverse r 0 → CutsTo tbl p1 l l
  | cut {l l' : List Nat} {r : Int} {n : Nat} : p1 ≤ l.length → Best tbl (l.drop p1.toNat).reverse r n → 1 ≤ n → CutsTo tbl p1 (l.take (l.length - n)) l' → CutsTo tbl p1 l l'
theorem s2_none {p1 cu r : Int} {l : List Nat} {n : Nat} (h : ¬ cu < p1) (e : cu = l.length) (B : Best tbl1 ((l.take cu.toNat).drop p1.toNat).reverse r n) (hz : r = 0 → n = 0) (hr : r = 0) : CutsTo tbl1 p1 l l := by
  have := hz hr; subst this
  rw [e, Int.toNat_natCast, List.take_length] at B
  exact .none (by lia) B
theorem s2_cut {p1 cu cu' r lo hi : Int} {l l₂ : List Nat} {n : Nat} (h : ¬ cu < p1) (e : cu = l.length) (B : Best tbl1 ((l.take cu.toNat).drop p1.toNat).reverse r n) (hz : r ≠ 0 → 1 ≤ n ∧ lo ≤ r ∧ r ≤ hi) (hr : r ≠ 0) (hc : cu' = cu - n) (hl : l₂ = l.take cu'.toNat) : ∀ l', CutsTo tbl1 p1 l₂ l' → CutsTo tbl1 p1 l l' := fun l' C => by
  rw [e, Int.toNat_natCast, List.take_length] at B
  refine .cut (by lia) B (hz hr).1 ?_
  have : l₂ = l.take (l.length - n) := by rw [hl, hc, e]; congr 1; lia
  rw [← this]; exact C
theorem s2_len {p1 cu cu' r lo hi : Int} {l l₂ : List Nat} {n : Nat} (hp : 0 ≤ p1) (e : cu = l.length) (hz : r ≠ 0 → 1 ≤ n ∧ lo ≤ r ∧ r ≤ hi) (hr : r ≠ 0) (hc : cu' = cu - n) (hn : (n : Int) ≤ cu - p1) (hl : l₂ = l.take cu'.toNat) : l₂.length < l.length := by
  have := (hz hr).1
  rw [hl, List.length_take]; lia
theorem s2_cu {p1 cu cu' cu'' li'' : Int} {l l₂ : List Nat} {n : Nat} (hp : 0 ≤ p1) (e : cu = l.length) (hc : cu' = cu - n) (hn : (n : Int) ≤ cu - p1) (hl : l₂ = l.take cu'.toNat) (h1 : cu'' = cu') (h2 : li'' = l₂.length) : cu'' = li'' := by
  rw [h1, h2, hl, List.length_take]; lia
structure S2 where
  l : List Nat
  cu : Int
  li : Int
  br : Int
  ke : Int
  t0 : Tok
  t1 : Tok
  t2 : Tok
  t3 : Tok
  t4 : Tok
  t5 : Tok
  t6 : Tok
theorem step2_ok : ∀ {w : World} {dp un : Nat} {gd : Option (List Code)} {cn : Str} {cs : Scope} {a : Addr} {ccd : Value} {cl : List (Str × Addr)} {outer : List Env} {A₀ : Around} {base h₀ : Heap} {L : Addr} {m : Str → Option Value} {s : Shared} {Q E : Value → Shared → Prop} {mean : ExcName → Option Value} {mg mb : Str → Option Value} {S D : Addr} {rest : List (Addr × Obj)} {κ0 κ1 κ2 κ3 κ4 κ5 κ6 : Tok} {g₀ : Heap} {l : List Nat} {cu li lb br ke p1 : Int} {t0 t1 t2 t3 t4 t5 t6 : Tok}
    (B : Below A₀ base outer h₀) (F : Fr h₀ L s.heap m) (X : (MineH.KK w.params).In h₀) (N : News h₀ L s.heap ((S, instObj 1087 D) :: (D, D7 w.params κ0 κ1 κ2 κ3 κ4 κ5 κ6 (.str (mk l) t0) (.int cu t1) (.int li t2) (.int lb t3) (.int br t4) (.int ke t5) (.int p1 t6)) :: rest))
    (T : Top MineH.VW (looseW MineH.VW loose0) mean mg mb h₀) (hk : cs.kind = .function) (hDS : @LT.lt Nat _ D S) (hr : ∀ p ∈ rest, p.1 ≠ D) (G : Glb w h₀) (hdp : dp + 6 < recursionLimit) (hun : un + 34 < cLine)
    (XB : (MineH.KK w.params).In base) (TB : Top MineH.VW (looseW MineH.VW loose0) mean mg mb base) (GB : Glb w base) (DD : KtsDicts (outer.filterMap (·.frame)) h₀) (T0 : KtsTurn (outer.filterMap (·.frame)) g₀ h₀) (hcu : cu = li) (hli : li = l.length) (hlb : lb = 0) (hp : 0 ≤ p1) (hl : l.length ≤ 500)
    (hret : ∀ (l' : List Nat) (cu' li' lb' br' ke' : Int) (t0 t1 t2 t3 t4 t5 t6 : Tok) (hh h' : Heap) (tk' : Nat), CutsTo tbl1 p1 l l' → li' = l'.length → lb' = 0 →  KtsTurn (outer.filterMap (·.frame)) g₀ hh → Fr hh L h' m → News hh L h' ((S, instObj 1087 D) :: (D, D7 w.params κ0 κ1 κ2 κ3 κ4 κ5 κ6 (.str (mk l') t0) (.int cu' t1) (.int li' t2) (.int lb' t3) (.int br' t4) (.int ke' t5) (.int p1 t6)) :: rest) → Below A₀ base outer hh → (MineH.KK w.params).In hh → Top MineH.VW (looseW MineH.VW loose0) mean mg mb hh → KtsDicts (outer.filterMap (·.frame)) hh → Q (.bool true) { s with heap := h', toks := tk' }),
    wpAny (model PySem.Challenge.rw_iu0024_01.row.prog w) (ktrTop dp un gd cn cs L a ccd cl outer) (call (.ref 246) [.ref S]) Q E s := by
  k_fill
  intro w dp un gd cn cs a ccd cl outer A₀ base h₀ L m s Q E mean mg mb S D rest κ0 κ1 κ2 κ3 κ4 κ5 κ6 g₀ l cu li lb br ke p1 t0 t1 t2 t3 t4 t5 t6 B F X N T hk hDS hr G hdp hun XB TB GB DD T0 hcu hli hlb hp hl hret
  refine wpAny_call ?_
  k_dflt (walk_at "cell_enterW")
  have Gw := Glb.keep GB (Below.stays (by assumption))
  subst hcu hlb
  k_steps
  (with_reducible rename Fr _ _ _ _ => F1)
  (with_reducible rename News _ _ _ _ => N1)
  refine Stop.back ?_
  refine' mw_while (σ := S2) (fun c => ((S, instObj 1087 D) :: (D, D7 w.params κ0 κ1 κ2 κ3 κ4 κ5 κ6 (.str (mk c.l) c.t0) (.int c.cu c.t1) (.int c.li c.t2) (.int 0 c.t3) (.int c.br c.t4) (.int c.ke c.t5) (.int p1 c.t6)) :: rest)) (fun _ => []) [Str.ofString "v_1", Str.ofString "v_3"] (fun c => c.cu = c.li ∧ c.li = c.l.length ∧ c.l.length ≤ 500 ∧ ∀ l', CutsTo tbl1 p1 c.l l' → CutsTo tbl1 p1 l l') (fun c => c.l.length) ⟨l, cu, cu, br, ke, t0, t1, t2, t3, t4, t5, t6⟩ F1 N1 Has.nil ⟨rfl, hli, hl, fun _ q => q⟩ ?_
  rintro ⟨l, cu, li, br, ke, t0, t1, t2, t3, t4, t5, t6⟩ u h9 tk9 ⟨i1, i2, i3, i4⟩ F2 N2
  dsimp only at i1 i2 i3 i4 N2
  subst i1
  k_steps
  all_goals (try dsimp only [MwPost])
  case' _ => k_steps
  rotate_left
  case' _ => k_steps
  rotate_left
  · refine' mw_end ⟨_, _, _, _, _, _, _, _, _, _, _, _⟩ ?kF ?kN (fun p hp => hp) ?kp ?kr ?kP ?kM
    (case kN => first | assumption | exact cb_drop (by assumption) (by first | kcj_in | kcj_all))
    (case kF => assumption)
    (case kp => exact Has.nil)
    (case kr => (intro z q1 q2; simp only [List.forall_mem_cons, List.not_mem_nil, false_implies, implies_true, and_true, ne_eq, List.contains_cons, List.contains_nil, Bool.or_false, Bool.or_eq_false_iff, beq_eq_false_iff_ne] at q1 q2; simp [kstB, q1, q2]))
    (case kP => (dsimp only; exact ⟨s2_cu hp i2 (by assumption) (by assumption) (by assumption) (by assumption) (by assumption), by assumption, by have := s2_len hp i2 (by assumption) (by assumption) (by assumption) (by assumption) (by assumption); lia, fun _ q => i4 _ (s2_cut (by assumption) i2 (by assumption) (by assumption) (by assumption) (by assumption) (by assumption) _ q)⟩))
    (case kM => exact s2_len hp i2 (by assumption) (by assumption) (by assumption) (by assumption) (by assumption))
  all_goals (dsimp only; (refine' leaveW_ ?kF ?kN ?kT ?_; (case kF => assumption); (case kN => first | assumption | exact cb_drop (by assumption) (by first | kcj_in | kcj_all)); (case kT => assumption); intro kg kT kF kN kB kX kP kD; dsimp only); refine' hret _ _ _ _ _ _ _ _ _ _ _ _ _ _ _ _ ?e0 ?e1 ?e2 kT kF kN kB kX kP kD; (case e0 => first | exact i4 _ (.short (by lia)) | exact i4 _ (s2_none (by assumption) i2 (by assumption) (by assumption) (by assumption))); (case e1 => first | assumption | lia); (case e2 => rfl))
end Mine
end
section
open PySem PySem.W PyProof.Rows PySem.Calls PySem.Spec
set_option maxRecDepth 100000
set_option maxHeartbeats 8000000
namespace Mine
theorem gv_find (P : Params) (es : Array (Int × Value)) (ep : Nat) (t : _) :
    findCls ((232, (⟨.type "set", none, .set es ep t, #[]⟩ : Obj)) :: MineH.KK P) (.ref 1087) (.type "type") (Str.ofString "g_v") = some (.val (.ref 232)) := by
  kernel_rfl
theorem gv_reads (P : Params) (es : Array (Int × Value)) (ep : Nat) (t : _) :
    readsIn ((232, (⟨.type "set", none, .set es ep t, #[]⟩ : Obj)) :: MineH.KK P) 1087 (.type "type") = true := by
  kernel_rfl
theorem gv_get : ∀ {w : World} {A : Around} {E : Value → Shared → Prop} {s : Shared} {h₀ : Heap} {L : Addr} {m : Str → Option Value} {expr : Bool} {Q : Value → Shared → Prop}
    (X : (MineH.KK w.params).In h₀) (F : Fr h₀ L s.heap m) (G : Glb w h₀) (h : Q (.ref 232) { s with toks := s.toks + 1 }),
    wpAny (model PySem.Challenge.rw_iu0024_01.row.prog w) A (getAttr (.ref 1087) (Str.ofString "g_v") expr) Q E s := by
  intro w A E s h₀ L m expr Q X F G h
  obtain ⟨S, n, ⟨o, es, ep, t, ho, ⟨c1, c2, c3⟩, hd', _⟩, _⟩ := (G.keep F.keep).set
  obtain ⟨oc, od, oo, os⟩ := o
  dsimp only at c1 c2 c3 hd'
  subst c1 c2 c3 hd'
  have X' : Frag.In ((232, (⟨.type "set", none, .set es ep t, #[]⟩ : Obj)) :: MineH.KK w.params) s.heap := fun a o e => by
    rw [List.lookup_cons] at e
    split at e
    · rename_i q
      rw [beq_iff_eq.mp q]
      rw [← Option.some.inj e]; exact ho
    · exact F.keep _ _ (X a o e)
  exact cls_value X' (gv_reads _ _ _ _) (gv_find _ _ _ _) rfl h
end Mine
end
section
open PySem PySem.W PyProof.Rows PySem.Calls PySem.Spec
set_option maxRecDepth 100000
namespace Mine
noncomputable def Mark (l l' : List Nat) : Prop := ([39] <:+ l ∧ l' = l.take (l.length - 1)) ∨ (¬ [39] <:+ l ∧ l' = l)
theorem suf_one {l : List Nat} {c : Int} (h : c = l.length) (h0 : ¬ c ≤ 0) : [39] <:+ l ↔ l.getD (c - 1).toNat 0 = 39 := by
  have e : (c - 1).toNat = l.length - 1 := by lia
  rw [e]
  constructor
  · rintro ⟨t, rfl⟩
    simp
  · intro q
    have hne : l ≠ [] := by intro z; rw [z] at h; simp at h; lia
    have hlt : l.length - 1 < l.length := by lia
    rw [List.getD_eq_getElem?_getD, List.getElem?_eq_getElem hlt, Option.getD_some] at q
    refine ⟨l.dropLast, ?_⟩
    have := List.dropLast_concat_getLast hne
    rw [List.getLast_eq_getElem, q] at this
    exact this
theorem apo_ne {l : List Nat} {k : Nat} : (mk [l.getD k 0] != Str.ofString "'") = !decide (l.getD k 0 = 39) := by
  rw [lit_apo]; unfold bne; rw [mk_beq]; simp
theorem mark_1 {l : List Nat} {li c lb : Int} (e : li = l.length) (hb : lb = 0) (h : c ≤ lb) (hc : c = li) : Mark l l := .inr ⟨by
  have : l.length = 0 := by lia
  rw [List.length_eq_zero_iff.mp this]; simp, rfl⟩
theorem mark_2 {l : List Nat} {li c lb : Int} (e : li = l.length) (hb : lb = 0) (h : ¬ c ≤ lb) (hq : (mk [l.getD (c - 1).toNat 0] != Str.ofString "'") = true) (hc : c = li) : Mark l l := .inr ⟨by
  rw [suf_one (c := c) (by lia) (by lia)]
  rw [apo_ne] at hq; intro z; simp_all, rfl⟩
theorem mark_3 {l l' : List Nat} {li c lb : Int} (e : li = l.length) (hb : lb = 0) (h : ¬ c ≤ lb) (hq : (mk [l.getD (c - 1).toNat 0] != Str.ofString "'") = false) (hl : l' = l.take (c - 1).toNat) (hc : c = li) : Mark l l' := .inl ⟨by
  rw [suf_one (c := c) (by lia) (by lia)]
  rw [apo_ne] at hq; simpa using hq, by rw [hl]; congr 1; lia⟩
end Mine
end
section
open PySem PySem.W PyProof.Rows PySem.Calls PySem.Spec
set_option maxRecDepth 100000
set_option maxHeartbeats 8000000
namespace Mine
theorem reg_B7T_1 : True := by
  k_with_none
  k_with "mp" => (first | assumption | lia | decide | (simp; lia) | (simp_all; done) | (simp_all; lia))
  k_with "mN" => (first | k_asm | exact cb_drop (by assumption) (by first | kcj_in | kcj_all))
  k_with "mGW" => (first | assumption | exact Glb.keep (by assumption) (Fr.keep (by assumption)) | exact Glb.keep (by assumption) (Below.stays (by assumption)))
  k_with "mG" => (first | assumption | exact Glb.keep (by assumption) (Fr.keep (by assumption)))
  k_with "mo" => (first | lia | (dsimp only; lia))
  k_with "mr" => (first | exact rfl | assumption)
  k_with "cell_enterW" => ((refine' code_defW ?cwk1 ?cwk2 ?cwk3 ?cwk4 ?cwk5 ?cwXB ?cwTB ?cwD ?cwT0 ?cwkA ?cwkF ?cwkK ?cwk6 ?cwk7 ?cwk8 ?cwk9 ?cwkB ?_ ?cwc2 ?cwc3 ?cwc4 ?cwc5; (case cwkA => exact rfl); (case cwkF => exact rfl); (case cwkK => assumption); (case cwk1 => assumption); (case cwk2 => assumption); (case cwk3 => assumption); (case cwXB => assumption); (case cwTB => assumption); (case cwD => assumption); (case cwT0 => assumption); (case cwk4 => assumption); (case cwk5 => assumption); (case cwk6 => k_is); (case cwk7 => k_is); (case cwk8 => ktr_room); (case cwk9 => exact BindsTo.of_eq rfl); (case cwc5 => decide); (case cwkB => exact locs rfl); (case cwc2 => exact rfl); (case cwc3 => exact rfl); (case cwc4 => exact rfl); k_whole; intro g' L' h' FG' F' N' B' X' T' D' T0'; (try dsimp only); (try k_lift B'); (try k_fold)))
  k_with "subscriptTail" => ((k_here; (with_reducible show wpAny _ _ (subscriptTail _ _ (Value.str (mk _) _) (Value.int _ _)) _ _ _); (refine' r_item (by lia) (by lia) (by lia) ?_); intro _ _))
  k_with "subscriptTail" => ((k_here; (with_reducible rename Fr _ _ _ _ => F'); (with_reducible rename News _ _ _ _ => N'); (with_reducible show wpAny _ _ (subscriptTail _ (Expr.Slice (some _) (some _) none _) (Value.str (mk _) _) (Value.ref _)) _ _ _); (refine' r_slice_ss (s := ⟨_, _, _, _, _⟩) F' N' (by lia) (by lia) (by lia) (by lia) ?_); intro _ _ _ _ _))
  k_with "subscriptTail" => ((k_here; (with_reducible rename Fr _ _ _ _ => F'); (with_reducible rename News _ _ _ _ => N'); (with_reducible show wpAny _ _ (subscriptTail _ (Expr.Slice (some _) none none _) (Value.str (mk _) _) (Value.ref _)) _ _ _); (refine' r_slice_sn (s := ⟨_, _, _, _, _⟩) F' N' (by lia) (by lia) (by lia) ?_); intro _ _ _ _ _))
  k_with "subscriptTail" => ((k_here; (with_reducible rename Fr _ _ _ _ => F'); (with_reducible rename News _ _ _ _ => N'); (with_reducible show wpAny _ _ (subscriptTail _ (Expr.Slice none (some _) none _) (Value.str (mk _) _) (Value.ref _)) _ _ _); (refine' r_slice_ns (s := ⟨_, _, _, _, _⟩) F' N' (by lia) (by lia) (by lia) ?_); intro _ _ _ _ _))
  k_with "call builtin:len" => ((k_here; (with_reducible show wpAny _ _ (call (Value.builtin "len") [Value.str (mk _) _]) _ _ _); (refine' r_len (by lia) ?_); intro _ _))
  k_with "binaryOp Add" => ((k_here; (with_reducible show wpAny _ _ (binaryOp Operator.Add (Value.str (mk _) _) (Value.str (mk _) _)) _ _ _); (refine' r_add (by first | lia | (simp; lia)) (by first | lia | (simp; lia)) ?_); intro _ _))
  k_with "compareOp Eq" => ((k_here; (with_reducible show wpAny _ _ (compareOp CmpOp.Eq (Value.str (mk _) _) (Value.str (mk _) _)) _ _ _); refine r_eq ?_))
  k_with "call builtin:str.endswith" => ((k_here; (with_reducible show wpAny _ _ (call (Value.builtin "str.endswith") [Value.str (mk _) _, Value.str (mk _) _]) _ _ _); refine r_ends ?_))
  k_with "compareOp In" => ((k_here; (with_reducible rename Fr _ _ _ _ => F'); (with_reducible show wpAny _ _ (compareOp CmpOp.In (Value.str (mk _) _) (Value.ref 232)) _ _ _); (refine' r_inV (by walk_at "mG") F' ?_); intro _))
  k_with "compareOp NotIn" => ((k_here; (with_reducible rename Fr _ _ _ _ => F'); (with_reducible show wpAny _ _ (compareOp CmpOp.NotIn (Value.str (mk _) _) (Value.ref 232)) _ _ _); (refine' r_notInV (by walk_at "mG") F' ?_); intro _))
  k_with "noteFrame ref" => ((k_here; (with_reducible rename Heap.MadeExcOf _ _ _ _ _ => mxX); (with_reducible rename Fr _ _ _ _ => FX); (with_reducible rename News _ _ _ _ => NX); k_dflt (refine' caught_own (by assumption) FX NX mxX (by assumption) (by assumption) (by assumption) (by assumption) (by k_is) (by kts_isx) ?_; k_whole); intro h' g' T' F' N' K' X' P' D'; clear mxX; have GX := Glb.keep (by assumption) (Below.stays K'); (try k_lift K'); (try k_sweep)))
  k_with "exec Try" => ((k_here; (fail_if_success (with_reducible show wpAny _ _ _ (CutPostW _ _ _ _ _ _ _ _) _ _)); refine Stop.out ?_))
  k_with "compareOp NotEq" => ((k_here; (with_reducible show wpAny _ _ (compareOp CmpOp.NotEq (Value.str (mk _) _) (Value.str (mk _) _)) _ _ _); refine r_ne ?_))
  k_with "compareOp NotEq" => ((k_here; (with_reducible show wpAny _ _ (compareOp CmpOp.NotEq (Value.str (mk _) _) (Value.str (Str.ofString "a") _)) _ _ _); rw [lit_a]; walk1))
  k_with "compareOp NotEq" => ((k_here; (with_reducible show wpAny _ _ (compareOp CmpOp.NotEq (Value.str (mk _) _) (Value.str (Str.ofString "'") _)) _ _ _); rw [lit_apo]; walk1))
  k_with "getAttr ref" => ((k_here; (with_reducible show wpAny _ _ (getAttr (Value.ref 1087) (Str.ofString "g_v") _) _ _ _); (with_reducible rename Fr _ _ _ _ => FX); (refine' gv_get (by assumption) FX (by assumption) ?_)))
  k_with "execs cons" => (((with_reducible refine wpAny_execs_cons ?_); try dsimp only))
  k_with "execs nil" => (refine wpAny_execs_nil ?_)
  k_with "call ref" => ((k_here; (with_reducible show wpAny _ _ (call (Value.ref 161) _) _ _ _); k_dflt (apply slice_del_ok; (case F => k_asm); (case N => walk_at "mN"); (case B => k_asm); (case X => k_asm); (case T => k_asm); (case hk => walk_at "mr"); (case hDS => assumption); (case hr => assumption); (case G => walk_at "mG"); (case hdp => walk_at "mo"); (case hun => walk_at "mo"); (case hcu => walk_at "mp"); (case hke => walk_at "mp"); (case hli => walk_at "mp"); (case hb => walk_at "mp"); (case hbk => walk_at "mp"); (case hl => walk_at "mp"); intros; (try k_sweep))))
  k_with "call ref" => ((k_here; (with_reducible show wpAny _ _ (call (Value.ref 98) _) _ _ _); k_dflt (apply go_out_ok; (case F => k_asm); (case N => walk_at "mN"); (case B => k_asm); (case X => k_asm); (case T => k_asm); (case hk => walk_at "mr"); (case hDS => assumption); (case hr => assumption); (case G => walk_at "mG"); (case hdp => walk_at "mo"); (case hun => walk_at "mo"); (case h0 => walk_at "mp"); (case h1 => walk_at "mp"); (case hli => walk_at "mp"); (case hl => walk_at "mp"); intros; (try k_sweep))))
  k_with "call ref" => ((k_here; (with_reducible show wpAny _ _ (call (Value.ref 70) _) _ _ _); k_dflt (apply go_in_ok; (case F => k_asm); (case N => walk_at "mN"); (case B => k_asm); (case X => k_asm); (case T => k_asm); (case hk => walk_at "mr"); (case hDS => assumption); (case hr => assumption); (case G => walk_at "mG"); (case hdp => walk_at "mo"); (case hun => walk_at "mo"); (case h0 => walk_at "mp"); (case h1 => walk_at "mp"); (case hli => walk_at "mp"); (case hl => walk_at "mp"); intros; (try k_sweep))))
  trivial
theorem fix_len {tbl : Tbl} {tab : List (List Nat)} {l l' : List Nat} (ht : ∀ x ∈ tab, x.length ≤ 8) (h : Fix tbl tab l l') : l'.length ≤ l.length + 8 := by
  obtain ⟨r, n, _, (⟨_, e⟩ | ⟨_, e⟩)⟩ := h
  · rw [e]; lia
  · have : (tab.getD (r - 1).toNat []).length ≤ 8 := by
      rw [List.getD_eq_getElem?_getD]
      cases q : tab[(r - 1).toNat]? with
      | none => simp
      | some x => exact ht x (List.mem_of_getElem? q)
    rw [e, List.length_append, List.length_take]; lia
theorem fix_len2 {l l' : List Nat} (h : Fix tbl2 as2 l l') : l'.length ≤ l.length + 8 := fix_len (by decide) h
theorem fix_len3 {l l' : List Nat} (h : Fix tbl3 as3 l l') : l'.length ≤ l.length + 8 := fix_len (by decide) h
theorem cut_len {tbl : Tbl} {p1 : Int} {l l' : List Nat} (h : Cut tbl p1 l l') : l'.length ≤ l.length := by
  rcases h with ⟨_, e⟩ | ⟨_, r, n, _, e⟩ <;> rw [e]
  · lia
  · rw [List.length_take]; lia
theorem cutsTo_len {tbl : Tbl} {p1 : Int} {l l' : List Nat} (h : CutsTo tbl p1 l l') : l'.length ≤ l.length := by
  induction h with
  | short => lia
  | none => lia
  | cut _ _ _ _ ih => rw [List.length_take] at ih; lia
theorem gd_len {l l' : List Nat} (h : Gd l l') : l'.length ≤ l.length + 8 := by
  rcases h with ⟨_, e⟩ | ⟨_, e⟩ <;> rw [e]
  · rw [List.length_append, List.length_take]; simp; lia
  · lia
theorem reg_B7T_2 : True := by
  k_with "call ref" => ((k_here; (with_reducible show wpAny _ _ (call (Value.ref 253) _) _ _ _); k_dflt (apply clash_ok; (case F => k_asm); (case N => walk_at "mN"); (case B => k_asm); (case X => k_asm); (case T => k_asm); (case hk => walk_at "mr"); (case hDS => assumption); (case hr => assumption); (case G => walk_at "mG"); (case hdp => walk_at "mo"); (case hun => walk_at "mo"); (case hcu => walk_at "mp"); (case hli => walk_at "mp"); (case hlb => walk_at "mp"); (case hp => walk_at "mp"); (case hl => walk_at "mp"); intros; (with_reducible rename Fix _ _ _ _ => fx; have fxl := fix_len2 fx); (try k_sweep))))
  k_with "call ref" => ((k_here; (with_reducible show wpAny _ _ (call (Value.ref 260) _) _ _ _); k_dflt (apply chdz_ok; (case F => k_asm); (case N => walk_at "mN"); (case B => k_asm); (case X => k_asm); (case T => k_asm); (case hk => walk_at "mr"); (case hDS => assumption); (case hr => assumption); (case G => walk_at "mG"); (case hdp => walk_at "mo"); (case hun => walk_at "mo"); (case hcu => walk_at "mp"); (case hli => walk_at "mp"); (case hlb => walk_at "mp"); (case hp => walk_at "mp"); (case hl => walk_at "mp"); intros; (with_reducible rename Fix _ _ _ _ => fx; have fxl := fix_len3 fx); (try k_sweep))))
  k_with "call ref" => ((k_here; (with_reducible show wpAny _ _ (call (Value.ref 239) _) _ _ _); k_dflt (apply step1_ok; (case F => k_asm); (case N => walk_at "mN"); (case B => k_asm); (case X => k_asm); (case T => k_asm); (case hk => walk_at "mr"); (case hDS => assumption); (case hr => assumption); (case G => walk_at "mG"); (case hdp => walk_at "mo"); (case hun => walk_at "mo"); (case hcu => walk_at "mp"); (case hli => walk_at "mp"); (case hlb => walk_at "mp"); (case hp => walk_at "mp"); (case hl => walk_at "mp"); intros; (with_reducible rename Cut _ _ _ _ => fx; have fxl := cut_len fx); (try k_sweep))))
  k_with "call ref" => ((k_here; (with_reducible show wpAny _ _ (call (Value.ref 267) _) _ _ _); k_dflt (apply gd_ok; (case F => k_asm); (case N => walk_at "mN"); (case B => k_asm); (case X => k_asm); (case T => k_asm); (case hk => walk_at "mr"); (case hDS => assumption); (case hr => assumption); (case G => walk_at "mG"); (case hdp => walk_at "mo"); (case hun => walk_at "mo"); (case hcu => walk_at "mp"); (case hli => walk_at "mp"); (case hlb => walk_at "mp"); (case hp => walk_at "mp"); (case hl => walk_at "mp"); intros; (with_reducible rename Gd _ _ => fx; have fxl := gd_len fx); (try k_sweep))))
  k_with "call ref" => ((k_here; (with_reducible show wpAny _ _ (call (Value.ref 246) _) _ _ _); k_dflt (apply step2_ok; (case F => k_asm); (case N => walk_at "mN"); (case B => assumption); (case X => assumption); (case T => assumption); (case hk => walk_at "mr"); (case hDS => assumption); (case hr => assumption); (case G => walk_at "mGW"); (case hdp => walk_at "mo"); (case hun => walk_at "mo"); (case XB => assumption); (case TB => assumption); (case GB => assumption); (case DD => assumption); (case T0 => assumption); (case hcu => walk_at "mp"); (case hli => walk_at "mp"); (case hlb => walk_at "mp"); (case hp => walk_at "mp"); (case hl => walk_at "mp"); intros; (with_reducible rename CutsTo _ _ _ _ => fx; have fxl := cutsTo_len fx); (with_reducible rename Below _ _ _ _ => BX); (have GX := glb_base (by assumption) BX); (try k_sweep))))
  trivial
noncomputable def firstN (l : List Nat) : Nat := if l.getD 0 0 = 97 ∧ 6 < l.length then 1 else 0
noncomputable def Edge (l : List Nat) (p : Int) : Prop := ∃ c1 : Int, (firstN l : Int) ≤ c1 ∧ c1 ≤ l.length ∧ (∀ k : Nat, (firstN l : Int) ≤ k → (k : Int) < c1 → isV (l.getD k 0) = false) ∧ ((c1 = l.length ∧ p = l.length) ∨ (c1 < l.length ∧ isV (l.getD c1.toNat 0) = true ∧ ∃ c2 : Int, c1 + 1 ≤ c2 ∧ c2 ≤ l.length ∧ (∀ k : Nat, c1 + 1 ≤ k → (k : Int) < c2 → isV (l.getD k 0) = true) ∧ ((c2 = l.length ∧ p = l.length) ∨ (c2 < l.length ∧ isV (l.getD c2.toNat 0) = false ∧ p = c2 + 1))))
theorem fn_0 {l : List Nat} {li : Int} (e : li = l.length) (h : 0 = li) : (0 : Int) = firstN l := by unfold firstN; rw [if_neg (by lia)]; rfl
theorem a_ne {l : List Nat} : (mk [l.getD (Int.toNat 0) 0] != Str.ofString "a") = !decide (l.getD 0 0 = 97) := by
  rw [lit_a]; unfold bne; rw [mk_beq]; simp
theorem fn_ne {l : List Nat} (h : (mk [l.getD (Int.toNat 0) 0] != Str.ofString "a") = true) : (0 : Int) = firstN l := by
  rw [a_ne] at h; unfold firstN; rw [if_neg (by intro q; simp_all)]; rfl
theorem fn_short {l : List Nat} (h : (l.length : Int) ≤ 6) : (0 : Int) = firstN l := by unfold firstN; rw [if_neg (by lia)]; rfl
theorem fn_1 {l : List Nat} (h : (mk [l.getD (Int.toNat 0) 0] != Str.ofString "a") = false) (h2 : ¬ (l.length : Int) ≤ 6) : (0 + 1 : Int) = firstN l := by
  rw [a_ne] at h; unfold firstN; rw [if_pos ⟨by simpa using h, by lia⟩]; rfl
theorem edge_3 {l : List Nat} {li c1 c2 : Int} {r1 r2 : Bool} (e : li = l.length) (h1 : (firstN l : Int) ≤ c1) (h3 : ∀ k : Nat, (firstN l : Int) ≤ k → (k : Int) < c1 → isV (l.getD k 0) = false) (h4 : r1 = decide (c1 < li)) (h5 : c1 < li → isV (l.getD c1.toNat 0) = true) (h6 : r1 = true)
    (k1 : c1 + 1 ≤ c2) (k2 : c2 ≤ li) (k3 : ∀ k : Nat, c1 + 1 ≤ k → (k : Int) < c2 → isV (l.getD k 0) = true) (k4 : r2 = decide (c2 < li)) (k5 : c2 < li → isV (l.getD c2.toNat 0) = false) (k6 : r2 = true) : Edge l (c2 + 1) := by
  have z1 := of_decide_eq_true (h4.symm.trans h6)
  have z2 := of_decide_eq_true (k4.symm.trans k6)
  exact ⟨c1, h1, by lia, h3, .inr ⟨by lia, h5 z1, c2, k1, by lia, k3, .inr ⟨by lia, k5 z2, rfl⟩⟩⟩
theorem edge_2 {l : List Nat} {li c1 c2 p1 : Int} {r1 r2 : Bool} (e : li = l.length) (j : p1 = l.length) (h1 : (firstN l : Int) ≤ c1) (h3 : ∀ k : Nat, (firstN l : Int) ≤ k → (k : Int) < c1 → isV (l.getD k 0) = false) (h4 : r1 = decide (c1 < li)) (h5 : c1 < li → isV (l.getD c1.toNat 0) = true) (h6 : r1 = true)
    (k1 : c1 + 1 ≤ c2) (k2 : c2 ≤ li) (k3 : ∀ k : Nat, c1 + 1 ≤ k → (k : Int) < c2 → isV (l.getD k 0) = true) (k4 : r2 = decide (c2 < li)) (k6 : r2 = false) : Edge l p1 := by
  have z1 := of_decide_eq_true (h4.symm.trans h6)
  have z2 := of_decide_eq_false (k4.symm.trans k6)
  exact ⟨c1, h1, by lia, h3, .inr ⟨by lia, h5 z1, c2, k1, by lia, k3, .inl ⟨by lia, j⟩⟩⟩
theorem edge_1 {l : List Nat} {li c1 p1 : Int} {r1 : Bool} (e : li = l.length) (j : p1 = l.length) (h1 : (firstN l : Int) ≤ c1) (h2 : c1 ≤ li) (h3 : ∀ k : Nat, (firstN l : Int) ≤ k → (k : Int) < c1 → isV (l.getD k 0) = false) (h4 : r1 = decide (c1 < li)) (h6 : r1 = false) : Edge l p1 := by
  have z1 := of_decide_eq_false (h4.symm.trans h6)
  exact ⟨c1, h1, by lia, h3, .inl ⟨by lia, j⟩⟩
theorem edge_pos {l : List Nat} {p : Int} (h : Edge l p) : 0 ≤ p := by
  obtain ⟨c1, h1, h2, _, (⟨_, q⟩ | ⟨_, _, c2, h4, h5, _, (⟨_, q⟩ | ⟨_, _, q⟩)⟩)⟩ := h <;> lia
noncomputable def StemR (l l' : List Nat) : Prop := ∃ p1 l1 l2 l3 l4 l5 l6, Edge l p1 ∧ Fix tbl2 as2 l l1 ∧ Cut tbl0 p1 l1 l2 ∧ Fix tbl3 as3 l2 l3 ∧ CutsTo tbl1 p1 l3 l4 ∧ Fix tbl3 as3 l4 l5 ∧ Gd l5 l6 ∧ Mark l6 l'
structure S3 where
  cu : Int
  p1 : Int
  k6 : Tok
  t0 : Tok
  t1 : Tok
  t2 : Tok
  t3 : Tok
  t4 : Tok
  t5 : Tok
  t6 : Tok
theorem stemB_ok : ∀ {w : World} {dp un : Nat} {gd : Option (List Code)} {cn : Str} {cs : Scope} {a : Addr} {ccd : Value} {cl : List (Str × Addr)} {outer : List Env} {A₀ : Around} {base h₀ : Heap} {L : Addr} {m : Str → Option Value} {s : Shared} {Q E : Value → Shared → Prop} {mean : ExcName → Option Value} {mg mb : Str → Option Value} {S D : Addr} {rest : List (Addr × Obj)} {κ0 κ1 κ2 κ3 κ4 κ5 : Tok} {O : Obj} {g₀ : Heap} {l : List Nat} {cu li lb br ke : Int} {t0 t1 t2 t3 t4 t5 : Tok}
    (B : Below A₀ base outer h₀) (F : Fr h₀ L s.heap m) (X : (MineH.KK w.params).In h₀) (N : News h₀ L s.heap ((S, instObj 1087 D) :: (D, O) :: rest))
    (T : Top MineH.VW (looseW MineH.VW loose0) mean mg mb h₀) (hk : cs.kind = .function) (hDS : @LT.lt Nat _ D S) (hr : ∀ p ∈ rest, p.1 ≠ D) (G : Glb w h₀) (hdp : dp + 9 < recursionLimit) (hun : un + 46 < cLine)
    (XB : (MineH.KK w.params).In base) (TB : Top MineH.VW (looseW MineH.VW loose0) mean mg mb base) (GB : Glb w base) (DD : KtsDicts (outer.filterMap (·.frame)) h₀) (T0 : KtsTurn (outer.filterMap (·.frame)) g₀ h₀) (hO : O = D6 w.params κ0 κ1 κ2 κ3 κ4 κ5 (.str (mk l) t0) (.int cu t1) (.int li t2) (.int lb t3) (.int br t4) (.int ke t5) ∨ ∃ (κ6 : Tok) (p1 : Value), O = D7 w.params κ0 κ1 κ2 κ3 κ4 κ5 κ6 (.str (mk l) t0) (.int cu t1) (.int li t2) (.int lb t3) (.int br t4) (.int ke t5) p1) (hcu : cu = 0) (hli : li = l.length) (hlb : lb = 0) (hl : l.length ≤ 400)
    (hret : ∀ (κ6 : Tok) (b : Bool) (l' : List Nat) (cu' li' lb' br' ke' p1' : Int) (t0 t1 t2 t3 t4 t5 t6 : Tok) (hh h' : Heap) (tk' : Nat), StemR l l' → li' = l'.length →  KtsTurn (outer.filterMap (·.frame)) g₀ hh → Fr hh L h' m → News hh L h' ((S, instObj 1087 D) :: (D, D7 w.params κ0 κ1 κ2 κ3 κ4 κ5 κ6 (.str (mk l') t0) (.int cu' t1) (.int li' t2) (.int lb' t3) (.int br' t4) (.int ke' t5) (.int p1' t6)) :: rest) → Below A₀ base outer hh → (MineH.KK w.params).In hh → Top MineH.VW (looseW MineH.VW loose0) mean mg mb hh → KtsDicts (outer.filterMap (·.frame)) hh → Q (.bool b) { s with heap := h', toks := tk' }),
    wpAny (model PySem.Challenge.rw_iu0024_01.row.prog w) (ktrTop dp un gd cn cs L a ccd cl outer) (call (.ref 274) [.ref S]) Q E s := by
  k_fill
  intro w dp un gd cn cs a ccd cl outer A₀ base h₀ L m s Q E mean mg mb S D rest κ0 κ1 κ2 κ3 κ4 κ5 O g₀ l cu li lb br ke t0 t1 t2 t3 t4 t5 B F X N T hk hDS hr G hdp hun XB TB GB DD T0 hO hcu hli hlb hl hret
  refine wpAny_call ?_
  k_dflt (walk_at "cell_enterW")
  have Gw := Glb.keep GB (Below.stays (by assumption))
  subst hcu hlb
  walk1
  try dsimp only
  try dsimp only
  (with_reducible rename Fr _ _ _ _ => F0)
  (with_reducible rename News _ _ _ _ => N0)
  refine' cut_execW (σ := S3) (Ok := OkW _ _ _ _ _ _ _ _ _ _ _) F0 N0 ⟨by assumption, by assumption, by assumption, by assumption, by assumption⟩ (fun c => ((S, instObj 1087 D) :: (D, D7 w.params κ0 κ1 κ2 κ3 κ4 κ5 c.k6 (.str (mk l) c.t0) (.int 0 c.t1) (.int li c.t2) (.int 0 c.t3) (.int br c.t4) (.int ke c.t5) (.int c.p1 c.t6)) :: rest)) (fun _ => []) [] (fun c => c.p1 = l.length) ?_ ?_
  · rcases hO with rfl | ⟨κ6, p1, rfl⟩ <;> k_steps
    all_goals (refine' cut_endW ⟨0, _, _, _, _, _, _, _, _, _⟩ ?kF ?kN ⟨?o1, ?o2, ?o3, ?o4, ?o5⟩ (fun p hp => hp) ?kp ?kr ?kP; (case kN => first | assumption | exact cb_drop (by assumption) (by first | kcj_in | kcj_all)); (case kF => assumption); (case o1 => assumption); (case o2 => assumption); (case o3 => assumption); (case o4 => assumption); (case o5 => assumption); (case kp => exact Has.nil); (case kr => (intro z q1 q2; rfl)); (case kP => exact hli))
  · rintro ⟨_, p1, k6, t0, t1, t2, t3, t4, t5, t6⟩ u hh h9 tk9 j1 ⟨o1, o2, o3, o4, o5⟩ F3 N3
    dsimp only at j1 N3
    have Gw3 := Glb.keep GB o2.stays
    subst j1
    k_steps
    (with_reducible rename Fr _ _ _ _ => F1)
    (with_reducible rename News _ _ _ _ => N1)
    refine Stop.back ?_
    refine' cut_execW (σ := S3) (Ok := OkW _ _ _ _ _ _ _ _ _ _ _) F1 N1 ⟨by assumption, by assumption, by assumption, by assumption, by assumption⟩ (fun c => ((S, instObj 1087 D) :: (D, D7 w.params κ0 κ1 κ2 κ3 κ4 κ5 c.k6 (.str (mk l) c.t0) (.int c.cu c.t1) (.int li c.t2) (.int 0 c.t3) (.int br c.t4) (.int ke c.t5) (.int c.p1 c.t6)) :: rest)) (fun _ => []) [Str.ofString "v_2"] (fun c => Edge l c.p1) ?_ ?_
    · k_steps
      (with_reducible rename Fr _ _ _ _ => F2)
      (with_reducible rename News _ _ _ _ => N2)
      refine Stop.back ?_
      refine' cut_execW (σ := S3) (Ok := OkW _ _ _ _ _ _ _ _ _ _ _) F2 N2 ⟨by assumption, by assumption, by assumption, by assumption, by assumption⟩ (fun c => ((S, instObj 1087 D) :: (D, D7 w.params κ0 κ1 κ2 κ3 κ4 κ5 c.k6 (.str (mk l) c.t0) (.int c.cu c.t1) (.int li c.t2) (.int 0 c.t3) (.int br c.t4) (.int ke c.t5) (.int c.p1 c.t6)) :: rest)) (fun _ => []) [] (fun c => c.cu = firstN l ∧ c.p1 = l.length) ?_ ?_
      · k_steps
        all_goals (refine' cut_endW ⟨_, _, _, _, _, _, _, _, _, _⟩ ?kF ?kN ⟨?o1, ?o2, ?o3, ?o4, ?o5⟩ (fun p hp => hp) ?kp ?kr ?kP; (case kN => first | assumption | exact cb_drop (by assumption) (by first | kcj_in | kcj_all)); (case kF => assumption); (case o1 => assumption); (case o2 => assumption); (case o3 => assumption); (case o4 => assumption); (case o5 => assumption); (case kp => exact Has.nil); (case kr => (intro z q1 q2; simp only [List.forall_mem_cons, List.not_mem_nil, false_implies, implies_true, and_true, ne_eq, List.contains_cons, List.contains_nil, Bool.or_false, Bool.or_eq_false_iff, beq_eq_false_iff_ne] at q1 q2; simp [kstB, q1, q2])); (case kP => exact ⟨(by first | exact fn_0 hli (by assumption) | exact fn_ne (by assumption) | exact fn_1 (by assumption) (by assumption) | exact fn_short (by assumption)), (by first | exact hli | rfl)⟩))
      · rintro ⟨cu, p1, k6, t0, t1, t2, t3, t4, t5, t6⟩ u hh h9 tk9 ⟨j1, j2⟩ ⟨o1, o2, o3, o4, o5⟩ F3 N3
        dsimp only at j1 j2 N3
        have Gw3 := Glb.keep GB o2.stays
        have j0 : (firstN l : Int) ≤ l.length := by unfold firstN; split <;> lia
        subst j1
        k_steps
        all_goals (refine' cut_endW ⟨_, _, _, _, _, _, _, _, _, _⟩ ?kF ?kN ⟨?o1, ?o2, ?o3, ?o4, ?o5⟩ (fun p hp => hp) ?kp ?kr ?kP; (case kN => first | assumption | exact cb_drop (by assumption) (by first | kcj_in | kcj_all)); (case kF => assumption); (case o1 => assumption); (case o2 => assumption); (case o3 => assumption); (case o4 => assumption); (case o5 => assumption); (case kp => exact Has.nil); (case kr => (intro z q1 q2; simp only [List.forall_mem_cons, List.not_mem_nil, false_implies, implies_true, and_true, ne_eq, List.contains_cons, List.contains_nil, Bool.or_false, Bool.or_eq_false_iff, beq_eq_false_iff_ne] at q1 q2; simp [kstB, q1, q2])); (case kP => (dsimp only; first | exact edge_3 hli (by assumption) (by assumption) (by assumption) (by assumption) (by assumption) (by assumption) (by assumption) (by assumption) (by assumption) (by assumption) (by assumption) | exact edge_2 hli j2 (by assumption) (by assumption) (by assumption) (by assumption) (by assumption) (by assumption) (by assumption) (by assumption) (by assumption) (by assumption) | exact edge_1 hli j2 (by assumption) (by assumption) (by assumption) (by assumption) (by assumption))))
    · rintro ⟨cu, p1, k6, t0, t1, t2, t3, t4, t5, t6⟩ u hh h9 tk9 j1 ⟨o1, o2, o3, o4, o5⟩ F3 N3
      dsimp only at j1 N3
      have Gw3 := Glb.keep GB o2.stays
      have j2 := edge_pos j1
      k_steps
      all_goals (dsimp only; (refine' leaveW_ ?kF ?kN ?kT ?_; (case kF => assumption); (case kN => first | assumption | exact cb_drop (by assumption) (by first | kcj_in | kcj_all)); (case kT => assumption); intro kg kT kF kN kB kX kP kD; dsimp only); refine' hret _ _ _ _ _ _ _ _ _ _ _ _ _ _ _ _ _ _ _ ?e0 ?e1 kT kF kN kB kX kP kD; (case e0 => exact ⟨_, _, _, _, _, _, _, j1, by assumption, by assumption, by assumption, by assumption, by assumption, by assumption, by first | exact mark_3 (by assumption) (by assumption) (by assumption) (by assumption) (by assumption) (by lia) | exact mark_2 (by assumption) (by assumption) (by assumption) (by assumption) (by lia) | exact mark_1 (by assumption) (by assumption) (by assumption) (by lia)⟩); (case e1 => assumption))
end Mine
end
section
open PySem PySem.W PyProof.Rows PySem.Calls PySem.Spec
set_option maxRecDepth 100000
set_option maxHeartbeats 8000000
namespace Mine
theorem reg_B8T_1 : True := by
  k_with_none
  k_with "mp" => (first | assumption | lia | decide | (simp; lia) | (simp_all; done) | (simp_all; lia))
  k_with "mN" => (first | k_asm | exact cb_drop (by assumption) (by first | kcj_in | kcj_all))
  k_with "mGW" => (first | assumption | exact Glb.keep (by assumption) (Fr.keep (by assumption)) | exact Glb.keep (by assumption) (Below.stays (by assumption)))
  k_with "mG" => (first | assumption | exact Glb.keep (by assumption) (Fr.keep (by assumption)))
  k_with "mo" => (first | lia | (dsimp only; lia))
  k_with "mr" => (first | exact rfl | assumption)
  k_with "cell_enterW" => ((refine' code_defW ?cwk1 ?cwk2 ?cwk3 ?cwk4 ?cwk5 ?cwXB ?cwTB ?cwD ?cwT0 ?cwkA ?cwkF ?cwkK ?cwk6 ?cwk7 ?cwk8 ?cwk9 ?cwkB ?_ ?cwc2 ?cwc3 ?cwc4 ?cwc5; (case cwkA => exact rfl); (case cwkF => exact rfl); (case cwkK => assumption); (case cwk1 => assumption); (case cwk2 => assumption); (case cwk3 => assumption); (case cwXB => assumption); (case cwTB => assumption); (case cwD => assumption); (case cwT0 => assumption); (case cwk4 => assumption); (case cwk5 => assumption); (case cwk6 => k_is); (case cwk7 => k_is); (case cwk8 => ktr_room); (case cwk9 => exact BindsTo.of_eq rfl); (case cwc5 => decide); (case cwkB => exact locs rfl); (case cwc2 => exact rfl); (case cwc3 => exact rfl); (case cwc4 => exact rfl); k_whole; intro g' L' h' FG' F' N' B' X' T' D' T0'; (try dsimp only); (try k_lift B'); (try k_fold)))
  k_with "subscriptTail" => ((k_here; (with_reducible show wpAny _ _ (subscriptTail _ _ (Value.str (mk _) _) (Value.int _ _)) _ _ _); (refine' r_item (by lia) (by lia) (by lia) ?_); intro _ _))
  k_with "subscriptTail" => ((k_here; (with_reducible rename Fr _ _ _ _ => F'); (with_reducible rename News _ _ _ _ => N'); (with_reducible show wpAny _ _ (subscriptTail _ (Expr.Slice (some _) (some _) none _) (Value.str (mk _) _) (Value.ref _)) _ _ _); (refine' r_slice_ss (s := ⟨_, _, _, _, _⟩) F' N' (by lia) (by lia) (by lia) (by lia) ?_); intro _ _ _ _ _))
  k_with "subscriptTail" => ((k_here; (with_reducible rename Fr _ _ _ _ => F'); (with_reducible rename News _ _ _ _ => N'); (with_reducible show wpAny _ _ (subscriptTail _ (Expr.Slice (some _) none none _) (Value.str (mk _) _) (Value.ref _)) _ _ _); (refine' r_slice_sn (s := ⟨_, _, _, _, _⟩) F' N' (by lia) (by lia) (by lia) ?_); intro _ _ _ _ _))
  k_with "subscriptTail" => ((k_here; (with_reducible rename Fr _ _ _ _ => F'); (with_reducible rename News _ _ _ _ => N'); (with_reducible show wpAny _ _ (subscriptTail _ (Expr.Slice none (some _) none _) (Value.str (mk _) _) (Value.ref _)) _ _ _); (refine' r_slice_ns (s := ⟨_, _, _, _, _⟩) F' N' (by lia) (by lia) (by lia) ?_); intro _ _ _ _ _))
  k_with "call builtin:len" => ((k_here; (with_reducible show wpAny _ _ (call (Value.builtin "len") [Value.str (mk _) _]) _ _ _); (refine' r_len (by lia) ?_); intro _ _))
  k_with "binaryOp Add" => ((k_here; (with_reducible show wpAny _ _ (binaryOp Operator.Add (Value.str (mk _) _) (Value.str (mk _) _)) _ _ _); (refine' r_add (by first | lia | (simp; lia)) (by first | lia | (simp; lia)) ?_); intro _ _))
  k_with "compareOp Eq" => ((k_here; (with_reducible show wpAny _ _ (compareOp CmpOp.Eq (Value.str (mk _) _) (Value.str (mk _) _)) _ _ _); refine r_eq ?_))
  k_with "call builtin:str.endswith" => ((k_here; (with_reducible show wpAny _ _ (call (Value.builtin "str.endswith") [Value.str (mk _) _, Value.str (mk _) _]) _ _ _); refine r_ends ?_))
  k_with "compareOp In" => ((k_here; (with_reducible rename Fr _ _ _ _ => F'); (with_reducible show wpAny _ _ (compareOp CmpOp.In (Value.str (mk _) _) (Value.ref 232)) _ _ _); (refine' r_inV (by walk_at "mG") F' ?_); intro _))
  k_with "compareOp NotIn" => ((k_here; (with_reducible rename Fr _ _ _ _ => F'); (with_reducible show wpAny _ _ (compareOp CmpOp.NotIn (Value.str (mk _) _) (Value.ref 232)) _ _ _); (refine' r_notInV (by walk_at "mG") F' ?_); intro _))
  k_with "call ref" => ((k_here; (with_reducible show wpAny _ _ (call (Value.ref 42) _) _ _ _); k_dflt (apply set_current7_ok; (case F => k_asm); (case N => walk_at "mN"); (case B => k_asm); (case X => k_asm); (case T => k_asm); (case hk => walk_at "mr"); (case hDS => assumption); (case hr => assumption); (case G => walk_at "mG"); (case hdp => walk_at "mo"); (case hun => walk_at "mo"); (case hx => walk_at "mp"); intros; (try k_sweep))))
  k_with "call ref" => ((k_here; (with_reducible show wpAny _ _ (call (Value.ref 49) _) _ _ _); k_dflt (apply get_current_ok; (case F => k_asm); (case N => walk_at "mN"); (case B => k_asm); (case X => k_asm); (case T => k_asm); (case hk => walk_at "mr"); (case hDS => assumption); (case hr => assumption); (case G => walk_at "mG"); (case hdp => walk_at "mo"); (case hun => walk_at "mo"); intros; (try k_sweep))))
  k_with "call ref" => ((k_here; (with_reducible show wpAny _ _ (call (Value.ref 274) _) _ _ _); k_dflt (apply stemB_ok; (case F => k_asm); (case N => walk_at "mN"); (case B => assumption); (case X => assumption); (case T => assumption); (case hk => walk_at "mr"); (case hDS => assumption); (case hr => assumption); (case G => walk_at "mGW"); (case hdp => walk_at "mo"); (case hun => walk_at "mo"); (case XB => assumption); (case TB => assumption); (case GB => assumption); (case DD => assumption); (case T0 => assumption); (case hO => exact .inr ⟨_, _, rfl⟩); (case hcu => walk_at "mp"); (case hli => walk_at "mp"); (case hlb => walk_at "mp"); (case hl => walk_at "mp"); intros; (with_reducible rename Below _ _ _ _ => BX); (have GX := glb_base (by assumption) BX); (try k_sweep))))
  trivial
theorem word7_ok : ∀ {w : World} {dp un : Nat} {gd : Option (List Code)} {cn : Str} {cs : Scope} {a : Addr} {ccd : Value} {cl : List (Str × Addr)} {outer : List Env} {A₀ : Around} {base h₀ : Heap} {L : Addr} {m : Str → Option Value} {s : Shared} {Q E : Value → Shared → Prop} {mean : ExcName → Option Value} {mg mb : Str → Option Value} {S D : Addr} {rest : List (Addr × Obj)} {κ0 κ1 κ2 κ3 κ4 κ5 κ6 : Tok} {g₀ : Heap} {x : List Nat} {t7 : Tok} {c cu li lb br ke p1 : Value}
    (B : Below A₀ base outer h₀) (F : Fr h₀ L s.heap m) (X : (MineH.KK w.params).In h₀) (N : News h₀ L s.heap ((S, instObj 1087 D) :: (D, D7 w.params κ0 κ1 κ2 κ3 κ4 κ5 κ6 c cu li lb br ke p1) :: rest))
    (T : Top MineH.VW (looseW MineH.VW loose0) mean mg mb h₀) (hk : cs.kind = .function) (hDS : @LT.lt Nat _ D S) (hr : ∀ p ∈ rest, p.1 ≠ D) (G : Glb w h₀) (hdp : dp + 10 < recursionLimit) (hun : un + 50 < cLine)
    (XB : (MineH.KK w.params).In base) (TB : Top MineH.VW (looseW MineH.VW loose0) mean mg mb base) (GB : Glb w base) (DD : KtsDicts (outer.filterMap (·.frame)) h₀) (T0 : KtsTurn (outer.filterMap (·.frame)) g₀ h₀) (hx : x.length ≤ 400)
    (hret : ∀ (κ6 : Tok) (l' : List Nat) (t8 : Tok) (c cu li lb br ke p1 : Value) (hh h' : Heap) (tk' : Nat), StemR x l' →  KtsTurn (outer.filterMap (·.frame)) g₀ hh → Fr hh L h' m → News hh L h' ((S, instObj 1087 D) :: (D, D7 w.params κ0 κ1 κ2 κ3 κ4 κ5 κ6 c cu li lb br ke p1) :: rest) → Below A₀ base outer hh → (MineH.KK w.params).In hh → Top MineH.VW (looseW MineH.VW loose0) mean mg mb hh → KtsDicts (outer.filterMap (·.frame)) hh → Q (.str (mk l') t8) { s with heap := h', toks := tk' }),
    wpAny (model PySem.Challenge.rw_iu0024_01.row.prog w) (ktrTop dp un gd cn cs L a ccd cl outer) (call (.ref 189) [.ref S, .str (mk x) t7]) Q E s := by
  k_fill
  intro w dp un gd cn cs a ccd cl outer A₀ base h₀ L m s Q E mean mg mb S D rest κ0 κ1 κ2 κ3 κ4 κ5 κ6 g₀ x t7 c cu li lb br ke p1 B F X N T hk hDS hr G hdp hun XB TB GB DD T0 hx hret
  refine wpAny_call ?_
  k_dflt (walk_at "cell_enterW")
  have Gw := Glb.keep GB (Below.stays (by assumption))
  k_steps
  all_goals (dsimp only; (refine' leaveW_ ?kF ?kN ?kT ?_; (case kF => assumption); (case kN => first | assumption | exact cb_drop (by assumption) (by first | kcj_in | kcj_all)); (case kT => assumption); intro kg kT kF kN kB kX kP kD; dsimp only); refine' hret _ _ _ _ _ _ _ _ _ _ _ _ _ ?e0 kT kF kN kB kX kP kD; (case e0 => assumption))
theorem reg_B8T_2 : True := by
  k_with "call ref" => ((k_here; (with_reducible show wpAny _ _ (call (Value.ref 42) _) _ _ _); k_dflt (apply (set_current6_ok (κ6 := 0)); (case F => k_asm); (case N => walk_at "mN"); (case B => k_asm); (case X => k_asm); (case T => k_asm); (case hk => walk_at "mr"); (case hDS => assumption); (case hr => assumption); (case G => walk_at "mG"); (case hdp => walk_at "mo"); (case hun => walk_at "mo"); (case hx => walk_at "mp"); intros; (try k_sweep))))
  k_with "call ref" => ((k_here; (with_reducible show wpAny _ _ (call (Value.ref 274) _) _ _ _); k_dflt (apply stemB_ok; (case F => k_asm); (case N => walk_at "mN"); (case B => assumption); (case X => assumption); (case T => assumption); (case hk => walk_at "mr"); (case hDS => assumption); (case hr => assumption); (case G => walk_at "mGW"); (case hdp => walk_at "mo"); (case hun => walk_at "mo"); (case XB => assumption); (case TB => assumption); (case GB => assumption); (case DD => assumption); (case T0 => assumption); (case hO => exact .inl rfl); (case hcu => walk_at "mp"); (case hli => walk_at "mp"); (case hlb => walk_at "mp"); (case hl => walk_at "mp"); intros; (with_reducible rename Below _ _ _ _ => BX); (have GX := glb_base (by assumption) BX); (try k_sweep))))
  trivial
theorem word6_ok : ∀ {w : World} {dp un : Nat} {gd : Option (List Code)} {cn : Str} {cs : Scope} {a : Addr} {ccd : Value} {cl : List (Str × Addr)} {outer : List Env} {A₀ : Around} {base h₀ : Heap} {L : Addr} {m : Str → Option Value} {s : Shared} {Q E : Value → Shared → Prop} {mean : ExcName → Option Value} {mg mb : Str → Option Value} {S D : Addr} {rest : List (Addr × Obj)} {κ0 κ1 κ2 κ3 κ4 κ5 κ6 : Tok} {g₀ : Heap} {x : List Nat} {t7 : Tok} {c cu li lb br ke : Value}
    (B : Below A₀ base outer h₀) (F : Fr h₀ L s.heap m) (X : (MineH.KK w.params).In h₀) (N : News h₀ L s.heap ((S, instObj 1087 D) :: (D, D6 w.params κ0 κ1 κ2 κ3 κ4 κ5 c cu li lb br ke) :: rest))
    (T : Top MineH.VW (looseW MineH.VW loose0) mean mg mb h₀) (hk : cs.kind = .function) (hDS : @LT.lt Nat _ D S) (hr : ∀ p ∈ rest, p.1 ≠ D) (G : Glb w h₀) (hdp : dp + 10 < recursionLimit) (hun : un + 50 < cLine)
    (XB : (MineH.KK w.params).In base) (TB : Top MineH.VW (looseW MineH.VW loose0) mean mg mb base) (GB : Glb w base) (DD : KtsDicts (outer.filterMap (·.frame)) h₀) (T0 : KtsTurn (outer.filterMap (·.frame)) g₀ h₀) (hx : x.length ≤ 400)
    (hret : ∀ (κ6 : Tok) (l' : List Nat) (t8 : Tok) (c cu li lb br ke p1 : Value) (hh h' : Heap) (tk' : Nat), StemR x l' →  KtsTurn (outer.filterMap (·.frame)) g₀ hh → Fr hh L h' m → News hh L h' ((S, instObj 1087 D) :: (D, D7 w.params κ0 κ1 κ2 κ3 κ4 κ5 κ6 c cu li lb br ke p1) :: rest) → Below A₀ base outer hh → (MineH.KK w.params).In hh → Top MineH.VW (looseW MineH.VW loose0) mean mg mb hh → KtsDicts (outer.filterMap (·.frame)) hh → Q (.str (mk l') t8) { s with heap := h', toks := tk' }),
    wpAny (model PySem.Challenge.rw_iu0024_01.row.prog w) (ktrTop dp un gd cn cs L a ccd cl outer) (call (.ref 189) [.ref S, .str (mk x) t7]) Q E s := by
  k_fill
  intro w dp un gd cn cs a ccd cl outer A₀ base h₀ L m s Q E mean mg mb S D rest κ0 κ1 κ2 κ3 κ4 κ5 κ6 g₀ x t7 c cu li lb br ke B F X N T hk hDS hr G hdp hun XB TB GB DD T0 hx hret
  refine wpAny_call ?_
  k_dflt (walk_at "cell_enterW")
  have Gw := Glb.keep GB (Below.stays (by assumption))
  k_steps
  all_goals (first | exact (0 : Tok) | (dsimp only; (refine' leaveW_ ?kF ?kN ?kT ?_; (case kF => assumption); (case kN => first | assumption | exact cb_drop (by assumption) (by first | kcj_in | kcj_all)); (case kT => assumption); intro kg kT kF kN kB kX kP kD; dsimp only); refine' hret _ _ _ _ _ _ _ _ _ _ _ _ _ ?e0 kT kF kN kB kX kP kD; (case e0 => assumption)))
end Mine
end
section
open PySem PySem.W PyProof.Rows PySem.Calls PySem.Spec
set_option maxRecDepth 100000
set_option maxHeartbeats 8000000
namespace Mine
theorem reg_B9T_1 : True := by
  k_with_none
  k_with "mp" => (first | assumption | lia | decide | (simp; lia) | (simp_all; done) | (simp_all; lia))
  k_with "mN" => (first | k_asm | exact cb_drop (by assumption) (by first | kcj_in | kcj_all))
  k_with "mGW" => (first | assumption | exact Glb.keep (by assumption) (Fr.keep (by assumption)) | exact Glb.keep (by assumption) (Below.stays (by assumption)))
  k_with "mG" => (first | assumption | exact Glb.keep (by assumption) (Fr.keep (by assumption)))
  k_with "mo" => (first | lia | (dsimp only; lia))
  k_with "mr" => (first | exact rfl | assumption)
  k_with "subscriptTail" => ((k_here; (with_reducible show wpAny _ _ (subscriptTail _ _ (Value.str (mk _) _) (Value.int _ _)) _ _ _); (refine' r_item (by lia) (by lia) (by lia) ?_); intro _ _))
  k_with "subscriptTail" => ((k_here; (with_reducible rename Fr _ _ _ _ => F'); (with_reducible rename News _ _ _ _ => N'); (with_reducible show wpAny _ _ (subscriptTail _ (Expr.Slice (some _) (some _) none _) (Value.str (mk _) _) (Value.ref _)) _ _ _); (refine' r_slice_ss (s := ⟨_, _, _, _, _⟩) F' N' (by lia) (by lia) (by lia) (by lia) ?_); intro _ _ _ _ _))
  k_with "subscriptTail" => ((k_here; (with_reducible rename Fr _ _ _ _ => F'); (with_reducible rename News _ _ _ _ => N'); (with_reducible show wpAny _ _ (subscriptTail _ (Expr.Slice (some _) none none _) (Value.str (mk _) _) (Value.ref _)) _ _ _); (refine' r_slice_sn (s := ⟨_, _, _, _, _⟩) F' N' (by lia) (by lia) (by lia) ?_); intro _ _ _ _ _))
  k_with "subscriptTail" => ((k_here; (with_reducible rename Fr _ _ _ _ => F'); (with_reducible rename News _ _ _ _ => N'); (with_reducible show wpAny _ _ (subscriptTail _ (Expr.Slice none (some _) none _) (Value.str (mk _) _) (Value.ref _)) _ _ _); (refine' r_slice_ns (s := ⟨_, _, _, _, _⟩) F' N' (by lia) (by lia) (by lia) ?_); intro _ _ _ _ _))
  k_with "call builtin:len" => ((k_here; (with_reducible show wpAny _ _ (call (Value.builtin "len") [Value.str (mk _) _]) _ _ _); (refine' r_len (by lia) ?_); intro _ _))
  k_with "binaryOp Add" => ((k_here; (with_reducible show wpAny _ _ (binaryOp Operator.Add (Value.str (mk _) _) (Value.str (mk _) _)) _ _ _); (refine' r_add (by first | lia | (simp; lia)) (by first | lia | (simp; lia)) ?_); intro _ _))
  k_with "compareOp Eq" => ((k_here; (with_reducible show wpAny _ _ (compareOp CmpOp.Eq (Value.str (mk _) _) (Value.str (mk _) _)) _ _ _); refine r_eq ?_))
  k_with "call builtin:str.endswith" => ((k_here; (with_reducible show wpAny _ _ (call (Value.builtin "str.endswith") [Value.str (mk _) _, Value.str (mk _) _]) _ _ _); refine r_ends ?_))
  k_with "compareOp In" => ((k_here; (with_reducible rename Fr _ _ _ _ => F'); (with_reducible show wpAny _ _ (compareOp CmpOp.In (Value.str (mk _) _) (Value.ref 232)) _ _ _); (refine' r_inV (by walk_at "mG") F' ?_); intro _))
  k_with "compareOp NotIn" => ((k_here; (with_reducible rename Fr _ _ _ _ => F'); (with_reducible show wpAny _ _ (compareOp CmpOp.NotIn (Value.str (mk _) _) (Value.ref 232)) _ _ _); (refine' r_notInV (by walk_at "mG") F' ?_); intro _))
  k_with "call ref" => ((k_here; (with_reducible show wpAny _ _ (call (Value.ref 42) _) _ _ _); k_dflt (apply set_current0_ok; (case F => k_asm); (case N => walk_at "mN"); (case B => k_asm); (case X => k_asm); (case T => k_asm); (case hk => walk_at "mr"); (case hDS => assumption); (case hr => assumption); (case G => walk_at "mG"); (case hdp => walk_at "mo"); (case hun => walk_at "mo"); (case hx => walk_at "mp"); intros; (try k_sweep))))
  k_with "call ref" => ((k_here; (with_reducible show wpAny _ _ (call (Value.ref 42) [_, Value.str (Str.ofString "") _]) _ _ _); rw [lit_empty]; walk1))
  trivial
theorem init_ok : ∀ {w : World} {dp un : Nat} {gd : Option (List Code)} {cn : Str} {cs : Scope} {a : Addr} {ccd : Value} {cl : List (Str × Addr)} {outer : List Env} {A₀ : Around} {base h₀ : Heap} {L : Addr} {m : Str → Option Value} {s : Shared} {Q E : Value → Shared → Prop} {mean : ExcName → Option Value} {mg mb : Str → Option Value} {S D : Addr} {rest : List (Addr × Obj)} {κ0 κ1 κ2 κ3 κ4 κ5 κ6 : Tok} 
    (B : Below A₀ base outer h₀) (F : Fr h₀ L s.heap m) (X : (MineH.KK w.params).In h₀) (N : News h₀ L s.heap ((S, instObj 1087 D) :: (D, emptyDict) :: rest))
    (T : Top MineH.VW (looseW MineH.VW loose0) mean mg mb h₀) (hk : cs.kind = .function) (hDS : @LT.lt Nat _ D S) (hr : ∀ p ∈ rest, p.1 ≠ D) (G : Glb w h₀) (hdp : dp + 3 < recursionLimit) (hun : un + 22 < cLine) 
    (hret : ∀ (li' : Int) (κ0 κ1 κ2 κ3 κ4 κ5 : Tok) (t0 t1 t2 t3 t4 t5 : Tok) (h' : Heap) (tk' : Nat),  Fr h₀ L h' m → News h₀ L h' ((S, instObj 1087 D) :: (D, D6 w.params κ0 κ1 κ2 κ3 κ4 κ5 (.str (mk []) t0) (.int 0 t1) (.int li' t2) (.int 0 t3) (.int 0 t4) (.int li' t5)) :: rest) → Q .none { s with heap := h', toks := tk' }),
    wpAny (model PySem.Challenge.rw_iu0024_01.row.prog w) (ktrTop dp un gd cn cs L a ccd cl outer) (call (.ref 35) [.ref S]) Q E s := by
  k_fill
  intros; rename_i hret
  refine wpAny_call ?_
  k_dflt cell_enter
  k_steps
  all_goals (first | exact (0 : Tok) | (refine' hret _ _ _ _ _ _ _ _ _ _ _ _ _ _ _  ?kF ?kN; (case kN => assumption); (case kF => assumption)))
end Mine
end
section
open PySem PySem.W PyProof.Rows PySem.Calls PySem.Spec
set_option maxRecDepth 100000
namespace Mine
section
variable {prog : Program} {w : World} {A : Around} {E : Value → Shared → Prop} {Q : Flow → Shared → Prop} {s : Shared} {env : Env} {h₀ : Heap} {σ : Type}
theorem small_up {a b : Int} (ha : -(2 ^ 62) ≤ a) (ha' : a < 2 ^ 62) (hb : -(2 ^ 62) ≤ b) (hb' : b < 2 ^ 62) : Builtin.Range.small a b 1 = true := by
  unfold Builtin.Range.small
  rw [rangeSize_one]
  simp only [Builtin.Range.rangeFitsLong, Bool.and_eq_true, Bool.or_eq_true, decide_eq_true_eq, beq_iff_eq, show ((1 : Int) > 0) by decide, if_true]
  split <;> lia
theorem mi_up {x : Str} {body : List PySem.Stmt} {r : Addr} {a₀ b₀ : Int} {t₀ u₀ v₀ : Tok} {n : Nat} {m₀ : Str → Option Value} (Led : σ → List (Addr × Obj)) (ps : σ → List (Str × Value)) (stored : List Str) (P : List Int → σ → Prop) (c₀ : σ)
    (hh : A.handled = none) (hr : IsRange s.heap r a₀ b₀ 1 t₀ u₀ v₀) (h1 : -(2 ^ 20) < a₀) (h2 : a₀ < 2 ^ 20) (h3 : -(2 ^ 20) < b₀) (h4 : b₀ < 2 ^ 20) (hn : n = (b₀ - a₀).toNat) (F : Fr h₀ env.locals s.heap m₀) (N : News h₀ env.locals s.heap (Led c₀)) (hk : Has m₀ (ps c₀)) (hp : P [] c₀)
    (turn : ∀ (c : σ) (pre : List Int) (k : Int) t (u : Str → Option Value) h tk own, k = a₀ + (pre.length : Int) → pre.length < n → OwnOff own ((Led c₀).map (·.1)) → P pre c →
      Fr h₀ env.locals h (fun y => if y = x then some (.int k t) else kstB (fun z => if stored.contains z then u z else m₀ z) (ps c) y) → News h₀ env.locals h (Led c ++ own) →
      wpAny (model prog w) A (execs body env) (MiPost h₀ env.locals Led ps x stored m₀ P (pre ++ [k]) own ((Led c₀).map (·.1)) { s with heap := h, toks := tk } Q) E { s with heap := h, toks := tk })
    (done : ∀ (c : σ) (pre : List Int) (u : Str → Option Value) h tk, pre.length = n → P pre c → Fr h₀ env.locals h (fun y => if y = x then u y else kstB (fun z => if stored.contains z then u z else m₀ z) (ps c) y) → News h₀ env.locals h (Led c) → Q .next { s with heap := h, toks := tk }) :
    wpAny (model prog w) A (pyIter (.ref r)) (fun it s₂ => LoopAtV prog w A h₀ env x body Q E it s₂) E s :=
  kst_range Led ps (fun _ => True) stored P c₀ hh hr (small_up (by lia) (by lia) (by lia) (by lia)) (by rw [rangeSize_nat, hn]) F N trivial hk hp
    (fun c pre k t u h tk own e1 e2 e3 _ e4 e5 e6 => mi_of (turn c pre k t u h tk own e1 e2 e3 e4 e5 e6))
    (fun c u h tk _ e1 e2 e3 => done c _ u h tk (rangeKs_length _ _) e1 e2 e3)
end
end Mine
end
section
open PySem PySem.W PyProof.Rows PySem.Calls PySem.Spec
set_option maxRecDepth 100000
set_option maxHeartbeats 8000000
namespace Mine
theorem reg_L1T_1 : True := by
  k_with_none
  k_with "mp" => (first | assumption | lia | decide | (simp; lia) | (simp_all; done) | (simp_all; lia))
  k_with "mN" => (first | k_asm | exact cb_drop (by assumption) (by first | kcj_in | kcj_all))
  k_with "mGW" => (first | assumption | exact Glb.keep (by assumption) (Fr.keep (by assumption)) | exact Glb.keep (by assumption) (Below.stays (by assumption)))
  k_with "mG" => (first | assumption | exact Glb.keep (by assumption) (Fr.keep (by assumption)))
  k_with "mo" => (first | lia | (dsimp only; lia))
  k_with "mr" => (first | exact rfl | assumption)
  k_with "subscriptTail" => ((k_here; (with_reducible show wpAny _ _ (subscriptTail _ _ (Value.str (mk _) _) (Value.int _ _)) _ _ _); (refine' r_item (by lia) (by lia) (by lia) ?_); intro _ _))
  k_with "subscriptTail" => ((k_here; (with_reducible rename Fr _ _ _ _ => F'); (with_reducible rename News _ _ _ _ => N'); (with_reducible show wpAny _ _ (subscriptTail _ (Expr.Slice (some _) (some _) none _) (Value.str (mk _) _) (Value.ref _)) _ _ _); (refine' r_slice_ss (s := ⟨_, _, _, _, _⟩) F' N' (by lia) (by lia) (by lia) (by lia) ?_); intro _ _ _ _ _))
  k_with "subscriptTail" => ((k_here; (with_reducible rename Fr _ _ _ _ => F'); (with_reducible rename News _ _ _ _ => N'); (with_reducible show wpAny _ _ (subscriptTail _ (Expr.Slice (some _) none none _) (Value.str (mk _) _) (Value.ref _)) _ _ _); (refine' r_slice_sn (s := ⟨_, _, _, _, _⟩) F' N' (by lia) (by lia) (by lia) ?_); intro _ _ _ _ _))
  k_with "subscriptTail" => ((k_here; (with_reducible rename Fr _ _ _ _ => F'); (with_reducible rename News _ _ _ _ => N'); (with_reducible show wpAny _ _ (subscriptTail _ (Expr.Slice none (some _) none _) (Value.str (mk _) _) (Value.ref _)) _ _ _); (refine' r_slice_ns (s := ⟨_, _, _, _, _⟩) F' N' (by lia) (by lia) (by lia) ?_); intro _ _ _ _ _))
  k_with "call builtin:len" => ((k_here; (with_reducible show wpAny _ _ (call (Value.builtin "len") [Value.str (mk _) _]) _ _ _); (refine' r_len (by lia) ?_); intro _ _))
  k_with "binaryOp Add" => ((k_here; (with_reducible show wpAny _ _ (binaryOp Operator.Add (Value.str (mk _) _) (Value.str (mk _) _)) _ _ _); (refine' r_add (by first | lia | (simp; lia)) (by first | lia | (simp; lia)) ?_); intro _ _))
  k_with "compareOp Eq" => ((k_here; (with_reducible show wpAny _ _ (compareOp CmpOp.Eq (Value.str (mk _) _) (Value.str (mk _) _)) _ _ _); refine r_eq ?_))
  k_with "call builtin:str.endswith" => ((k_here; (with_reducible show wpAny _ _ (call (Value.builtin "str.endswith") [Value.str (mk _) _, Value.str (mk _) _]) _ _ _); refine r_ends ?_))
  trivial
theorem r_inR {prog : Program} {w : World} {A : Around} {E : Value → Shared → Prop} {s : Shared} {h₀ : Heap} {L : Addr} {news : List (Addr × Obj)} {R : Addr} {ob : Obj} {vs : List Value} {ys : List Str} {k : Str} {t : Tok} {Q : Value → Shared → Prop} (N : News h₀ L s.heap news) (hm : (R, ob) ∈ news) (hl : ∀ h : Heap, h.get? R = some ob → h.IsList R vs.toArray) (hS : StrsAre vs ys)
    (h : Q (.bool (ys.any (· == k))) s) : wpAny (model prog w) A (compareOp .In (.str k t) (.ref R)) Q E s := in_list_strs (hl _ (N _ hm).1) hS h
theorem r_ninR {prog : Program} {w : World} {A : Around} {E : Value → Shared → Prop} {s : Shared} {h₀ : Heap} {L : Addr} {news : List (Addr × Obj)} {R : Addr} {ob : Obj} {vs : List Value} {ys : List Str} {k : Str} {t : Tok} {Q : Value → Shared → Prop} (N : News h₀ L s.heap news) (hm : (R, ob) ∈ news) (hl : ∀ h : Heap, h.get? R = some ob → h.IsList R vs.toArray) (hS : StrsAre vs ys)
    (h : Q (.bool (!(ys.any (· == k)))) s) : wpAny (model prog w) A (compareOp .NotIn (.str k t) (.ref R)) Q E s := notin_list_strs (hl _ (N _ hm).1) hS h
theorem is_listOf {R : Addr} {items : Array Value} {c : Nat} (h : Heap) (e : h.get? R = some (PySem.W.listOf items c)) : h.IsList R items.toList.toArray := ⟨_, e, rfl, _, by simp [PySem.W.listOf]; rfl⟩
theorem any_vowel (c : Nat) : (vowels.map fun c => mk [c]).any (· == mk [c]) = isV c := by
  unfold isV
  rw [List.any_map, List.contains_eq_any_beq]
  congr 1; funext x
  simp only [Function.comp, mk_beq]
  rw [Bool.eq_iff_iff]; simp only [decide_eq_true_eq, beq_iff_eq, List.cons.injEq, and_true]; exact ⟨Eq.symm, Eq.symm⟩
theorem vow_strs {t0 t1 t2 t3 t4 t5 t6 t7 t8 t9 t10 t11 : Tok} : StrsAre [.str (Str.ofString "a") t0, .str (Str.ofString "ą") t1, .str (Str.ofString "e") t2, .str (Str.ofString "ę") t3, .str (Str.ofString "ė") t4, .str (Str.ofString "i") t5, .str (Str.ofString "į") t6, .str (Str.ofString "y") t7, .str (Str.ofString "o") t8, .str (Str.ofString "u") t9, .str (Str.ofString "ų") t10, .str (Str.ofString "ū") t11] (vowels.map fun c => mk [c]) := by
  have e : (vowels.map fun c => mk [c]) = [Str.ofString "a", Str.ofString "ą", Str.ofString "e", Str.ofString "ę", Str.ofString "ė", Str.ofString "i", Str.ofString "į", Str.ofString "y", Str.ofString "o", Str.ofString "u", Str.ofString "ų", Str.ofString "ū"] := by decide +kernel
  rw [e]
  repeat' (first | exact .nil | refine .cons _ _ ?_)
theorem vowels_ok : ∀ {w : World} {dp un : Nat} {gd : Option (List Code)} {cn : Str} {cs : Scope} {a : Addr} {ccd : Value} {cl : List (Str × Addr)} {outer : List Env} {A₀ : Around} {base h₀ : Heap} {L : Addr} {m : Str → Option Value} {s : Shared} {Q E : Value → Shared → Prop} {mean : ExcName → Option Value} {mg mb : Str → Option Value} {rest : List (Addr × Obj)} 
    (B : Below A₀ base outer h₀) (F : Fr h₀ L s.heap m) (X : (MineH.KK w.params).In h₀) (N : News h₀ L s.heap rest)
    (T : Top MineH.VW (looseW MineH.VW loose0) mean mg mb h₀) (hk : cs.kind = .function) (hdp : dp + 2 < recursionLimit) (hun : un + 18 < cLine) 
    (hret : ∀ (R : Addr) (ob : Obj) (vs : List Value) (h' : Heap) (tk' : Nat), (∀ h : Heap, h.get? R = some ob → h.IsList R vs.toArray) → StrsAre vs (vowels.map fun c => mk [c]) → Fr h₀ L h' m → News h₀ L h' ((R, ob) :: rest) → Q (.ref R) { s with heap := h', toks := tk' }),
    wpAny (model PySem.Challenge.rw_iu0024_01.row.prog w) (ktrTop dp un gd cn cs L a ccd cl outer) (call (.ref 1122) []) Q E s := by
  k_fill
  intro w dp un gd cn cs a ccd cl outer A₀ base h₀ L m s Q E mean mg mb rest B F X N T hk hdp hun hret
  refine wpAny_call ?_
  k_dflt cell_enter
  k_steps
  all_goals (refine' hret _ _ _ _ _ ?e0 ?e1 ?kF ?kN; (case kN => assumption); (case e0 => exact is_listOf); (case e1 => exact vow_strs); (case kF => assumption))
theorem slice_nil1 : Txt.slice (mk []) none (some 1) = mk [] := by decide +kernel
theorem r_slice_nil1 {prog : Program} {w : World} {A : Around} {E : Value → Shared → Prop} {s : Shared} {h₀ : Heap} {L : Addr} {m : Str → Option Value} {news : List (Addr × Obj)} {Q : Value → Shared → Prop} {t uj : Tok} {value slice : PySem.Expr} (hF : Fr h₀ L s.heap m) (hN : News h₀ L s.heap news)
    (h : ∀ h' t' k, Fr h₀ L h' m → News h₀ L h' news → Q (.str (mk []) t') { s with heap := h', toks := k })
    (hs : subscripted slice false (.str (mk []) t) (.ref s.heap.objs.size) = operate [.ref s.heap.objs.size, .str (mk []) t] (getItem (.str (mk []) t) (.ref s.heap.objs.size)) := by with_unfolding_all rfl)
    (ht : ∀ r, letTemporaryGo value (.str (mk []) t) r = pure () := by intro _; with_unfolding_all rfl) :
    wpAny (model prog w) A (subscriptTail value slice (.str (mk []) t) (.ref s.heap.objs.size)) Q E { s with heap := s.heap.push { cls := .type "slice", data := .fields #[.none, .int 1 uj, .none] } } :=
  slice_strN_ns hF hN (fun h' t' k a b => by rw [slice_nil1]; exact h h' t' k a b) hs ht (by rw [mk_len]; decide)
theorem reg_L1T_2 : True := by
  k_with "subscriptTail" => ((k_here; (with_reducible rename Fr _ _ _ _ => F'); (with_reducible rename News _ _ _ _ => N'); (with_reducible show wpAny _ _ (subscriptTail _ (Expr.Slice none (some _) none _) (Value.str (mk []) _) (Value.ref _)) _ _ _); (refine' r_slice_nil1 (s := ⟨_, _, _, _, _⟩) F' N' ?_); intro _ _ _ _ _))
  k_with "exec For Name Call cons nil" => ((k_here; refine Stop.out ?_))
  k_with "call ref" => ((k_here; (with_reducible show wpAny _ _ (call (Value.ref 1122) _) _ _ _); k_dflt (apply vowels_ok; (case F => k_asm); (case N => k_asm); (case B => k_asm); (case X => k_asm); (case T => k_asm); (case hk => walk_at "mr"); (case hdp => walk_at "mo"); (case hun => walk_at "mo"); intros; (try k_sweep))))
  k_with "pyIter ref" => ((k_here; refine Stop.out ?_))
  k_with "compareOp In" => ((k_here; (with_reducible show wpAny _ _ (compareOp CmpOp.In (Value.str (mk _) _) (Value.ref _)) _ _ _); (with_reducible rename News _ _ _ _ => N'); (with_reducible rename StrsAre _ _ => S'); (refine' r_inR N' (by k_mem) (by assumption) S' ?_); (try rw [any_vowel])))
  k_with "compareOp NotIn" => ((k_here; (with_reducible show wpAny _ _ (compareOp CmpOp.NotIn (Value.str (mk _) _) (Value.ref _)) _ _ _); (with_reducible rename News _ _ _ _ => N'); (with_reducible rename StrsAre _ _ => S'); (refine' r_ninR N' (by k_mem) (by assumption) S' ?_); (try rw [any_vowel])))
  k_with "subscriptTail Name Name str int" => ((k_here; (with_reducible show wpAny _ _ (subscriptTail _ _ (Value.str (mk _) _) (Value.int _ _)) _ _ _); (refine' r_item (by lia) (by lia) (by lia) ?_); intro _ _))
  k_with "subscriptTail Name BinOp str int" => ((k_here; (with_reducible show wpAny _ _ (subscriptTail _ _ (Value.str (mk _) _) (Value.int _ _)) _ _ _); (refine' r_item (by lia) (by lia) (by lia) ?_); intro _ _))
  trivial
noncomputable def VC (l : List Nat) (k : Nat) : Prop := isV (l.getD k 0) = true ∧ isV (l.getD (k + 1) 0) = false
noncomputable def LE (l : List Nat) (f p : Int) : Prop := (∃ k : Nat, f ≤ k ∧ (k : Int) + 1 < l.length ∧ VC l k ∧ (∀ j : Nat, f ≤ j → (j : Int) < k → ¬ VC l j) ∧ p = k + 2) ∨ ((∀ j : Nat, f ≤ j → (j : Int) + 1 < l.length → ¬ VC l j) ∧ p = l.length)
theorem a_take {l : List Nat} (h : l ≠ []) : (mk (l.take (Int.toNat 1)) == Str.ofString "a") = decide (l.getD 0 0 = 97) := by
  rw [lit_a, mk_beq]
  cases l with
  | nil => exact absurd rfl h
  | cons x r => simp [show Int.toNat 1 = 1 from rfl]
theorem fl_1 {l : List Nat} (hz : l ≠ []) (h : (mk (l.take (Int.toNat 1)) == Str.ofString "a") = true) (h6 : 6 < l.length) : ((firstN l : Nat) : Int) = 1 := by
  rw [a_take hz] at h; unfold firstN; rw [if_pos ⟨of_decide_eq_true h, h6⟩]; rfl
theorem fl_2 {l : List Nat} (h6 : l.length ≤ 6) : ((firstN l : Nat) : Int) = 0 := by unfold firstN; rw [if_neg (by lia)]; rfl
theorem fl_3 {l : List Nat} (hz : l ≠ []) (h : (mk (l.take (Int.toNat 1)) == Str.ofString "a") = false) : ((firstN l : Nat) : Int) = 0 := by
  rw [a_take hz] at h; unfold firstN; rw [if_neg (fun q => of_decide_eq_false h q.1)]; rfl
theorem vc_a {l : List Nat} {f kk : Int} {n : Nat} (hf : 0 ≤ f) (e : kk = f + n) (p : ∀ j : Nat, f ≤ j → (j : Int) < f + n → ¬ VC l j) (h : isV (l.getD (kk + 1).toNat 0) = true) : ∀ j : Nat, f ≤ j → (j : Int) < f + (n + 1 : Nat) → ¬ VC l j := fun j h1 h2 q => by
  by_cases z : (j : Int) < f + n
  · exact p j h1 z q
  · have : (kk + 1).toNat = j + 1 := by lia
    rw [this, q.2] at h; cases h
theorem vc_b {l : List Nat} {f kk : Int} {n : Nat} (hf : 0 ≤ f) (e : kk = f + n) (p : ∀ j : Nat, f ≤ j → (j : Int) < f + n → ¬ VC l j) (h : isV (l.getD kk.toNat 0) = false) : ∀ j : Nat, f ≤ j → (j : Int) < f + (n + 1 : Nat) → ¬ VC l j := fun j h1 h2 q => by
  by_cases z : (j : Int) < f + n
  · exact p j h1 z q
  · have : kk.toNat = j := by lia
    rw [this, q.1] at h; cases h
theorem le_hit {l : List Nat} {f kk : Int} {n : Nat} (hf : 0 ≤ f) (e : kk = f + n) (e2 : n < ((l.length : Int) - 1 - f).toNat) (p : ∀ j : Nat, f ≤ j → (j : Int) < f + n → ¬ VC l j) (h : isV (l.getD kk.toNat 0) = true) (h' : isV (l.getD (kk + 1).toNat 0) = false) : LE l f (kk + 2) :=
  .inl ⟨kk.toNat, by lia, by lia, ⟨h, (show (kk + 1).toNat = kk.toNat + 1 by lia) ▸ h'⟩, fun j h1 h2 => p j h1 (by lia), by lia⟩
theorem le_end {l : List Nat} {f : Int} {n : Nat} (e : n = ((l.length : Int) - 1 - f).toNat) (p : ∀ j : Nat, f ≤ j → (j : Int) < f + n → ¬ VC l j) : LE l f l.length := .inr ⟨fun j h1 h2 => p j h1 (by lia), rfl⟩
theorem edge_ok : ∀ {w : World} {dp un : Nat} {gd : Option (List Code)} {cn : Str} {cs : Scope} {a : Addr} {ccd : Value} {cl : List (Str × Addr)} {outer : List Env} {A₀ : Around} {base h₀ : Heap} {L : Addr} {m : Str → Option Value} {s : Shared} {Q E : Value → Shared → Prop} {mean : ExcName → Option Value} {mg mb : Str → Option Value} {rest : List (Addr × Obj)} {l : List Nat} {t : Tok}
    (B : Below A₀ base outer h₀) (F : Fr h₀ L s.heap m) (X : (MineH.KK w.params).In h₀) (N : News h₀ L s.heap rest)
    (T : Top MineH.VW (looseW MineH.VW loose0) mean mg mb h₀) (hk : cs.kind = .function) (hdp : dp + 6 < recursionLimit) (hun : un + 34 < cLine) (hl : l.length ≤ 400)
    (hret : ∀ (p : Int) (u : Tok) (h' : Heap) (tk' : Nat), LE l (firstN l) p → Fr h₀ L h' m → News h₀ L h' rest → Q (.int p u) { s with heap := h', toks := tk' }),
    wpAny (model PySem.Challenge.rw_iu0024_01.row.prog w) (ktrTop dp un gd cn cs L a ccd cl outer) (call (.ref 1157) [.str (mk l) t]) Q E s := by
  k_fill
  intro w dp un gd cn cs a ccd cl outer A₀ base h₀ L m s Q E mean mg mb rest l t B F X N T hk hdp hun hl hret
  refine wpAny_call ?_
  k_dflt cell_enter
  by_cases hz : l = []
  · subst hz
    k_steps
    · have E0 : ((firstN [] : Nat) : Int) = 0 := by decide
      (with_reducible rename Fr _ _ _ _ => F3)
      refine Stop.back ?_
      refine for_at F3 (by rfl) (by rfl) ?_
      k_steps
      all_goals (
        (with_reducible rename Fr _ _ _ _ => F4)
        (with_reducible rename News _ _ _ _ => N4)
        (with_reducible rename IsRange _ _ _ _ _ _ _ _ => R4)
        refine Stop.back ?_
        refine' mi_up (σ := List (Addr × Obj)) (fun c => rest) (fun c => []) [] (fun pre c => ∀ j : Nat, 0 ≤ (j : Int) → (j : Int) < 0 + pre.length → ¬ VC [] j) [] rfl R4 (by lia) (by lia) (by lia) (by lia) rfl F4 ?N ?hk ?hp ?turn ?done
        case N => exact cb_drop N4 (by first | kcj_in | kcj_all)
        case hk => exact Has.nil
        case hp => intro j h1 h2; simp at h2; lia
        case turn =>
          rintro c pre kk tkk u5 h5 tk5 own e1 e2 hoff p1 F5 N5
          dsimp only at p1 F5
          k_steps
          all_goals (try dsimp only [MiPost])
          all_goals (first
            | (refine' mi_end c ?kF ?kN ?kn ?ko rfl ?kp ?kr ?kP; (case kN => assumption); (case kF => assumption); (case kn => intro p hp; simp only [List.mem_cons, List.mem_append] at hp ⊢; grind); (case ko => intro p hp; simp only [List.mem_cons, List.mem_append] at hp ⊢; grind); (case kp => exact Has.nil); (case kr => (intro z q0 q1 q2; simp only [List.not_mem_nil, false_implies, implies_true, List.contains_nil] at q0 q1 q2; simp [kstB, q0])); (case kP => (rw [List.length_append]; first | exact vc_a (by lia) e1 p1 (by assumption) | exact vc_b (by lia) e1 p1 (by assumption))))
            | skip)
          k_steps
          all_goals (refine' hret _ _ _ _ ?e0 ?kF ?kN; (case kN => first | assumption | exact cb_drop (by assumption) (by first | kcj_in | kcj_all)); (case kF => assumption); (case e0 => first | exact absurd e2 (by lia) | (rw [E0]; exact le_hit (by lia) e1 (by lia) p1 (by assumption) (by assumption))))
        case done =>
          rintro c pre u6 h6 tk6 e1 p1 F6 N6
          dsimp only at p1 F6
          k_steps
          all_goals (refine' hret _ _ _ _ ?e0 ?kF ?kN; (case kN => first | assumption | exact cb_drop (by assumption) (by first | kcj_in | kcj_all)); (case kF => assumption); (case e0 => rw [E0]; exact le_end (by lia) p1)))
  · have hz' : 1 ≤ l.length := Nat.one_le_iff_ne_zero.mpr fun q => hz (List.length_eq_zero_iff.mp q)
    k_steps
    · have E0 : ((firstN l : Nat) : Int) = 1 := by
        exact fl_1 hz (by assumption) (by lia)
      (with_reducible rename Fr _ _ _ _ => F3)
      refine Stop.back ?_
      refine for_at F3 (by rfl) (by rfl) ?_
      k_steps
      all_goals (
        (with_reducible rename Fr _ _ _ _ => F4)
        (with_reducible rename News _ _ _ _ => N4)
        (with_reducible rename IsRange _ _ _ _ _ _ _ _ => R4)
        refine Stop.back ?_
        refine' mi_up (σ := List (Addr × Obj)) (fun c => rest) (fun c => []) [] (fun pre c => ∀ j : Nat, 1 ≤ (j : Int) → (j : Int) < 1 + pre.length → ¬ VC l j) [] rfl R4 (by lia) (by lia) (by lia) (by lia) rfl F4 ?N ?hk ?hp ?turn ?done
        case N => exact cb_drop N4 (by first | kcj_in | kcj_all)
        case hk => exact Has.nil
        case hp => intro j h1 h2; simp at h2; lia
        case turn =>
          rintro c pre kk tkk u5 h5 tk5 own e1 e2 hoff p1 F5 N5
          dsimp only at p1 F5
          k_steps
          all_goals (try dsimp only [MiPost])
          all_goals (first
            | (refine' mi_end c ?kF ?kN ?kn ?ko rfl ?kp ?kr ?kP; (case kN => assumption); (case kF => assumption); (case kn => intro p hp; simp only [List.mem_cons, List.mem_append] at hp ⊢; grind); (case ko => intro p hp; simp only [List.mem_cons, List.mem_append] at hp ⊢; grind); (case kp => exact Has.nil); (case kr => (intro z q0 q1 q2; simp only [List.not_mem_nil, false_implies, implies_true, List.contains_nil] at q0 q1 q2; simp [kstB, q0])); (case kP => (rw [List.length_append]; first | exact vc_a (by lia) e1 p1 (by assumption) | exact vc_b (by lia) e1 p1 (by assumption))))
            | skip)
          k_steps
          all_goals (refine' hret _ _ _ _ ?e0 ?kF ?kN; (case kN => first | assumption | exact cb_drop (by assumption) (by first | kcj_in | kcj_all)); (case kF => assumption); (case e0 => first | exact absurd e2 (by lia) | (rw [E0]; exact le_hit (by lia) e1 (by lia) p1 (by assumption) (by assumption))))
        case done =>
          rintro c pre u6 h6 tk6 e1 p1 F6 N6
          dsimp only at p1 F6
          k_steps
          all_goals (refine' hret _ _ _ _ ?e0 ?kF ?kN; (case kN => first | assumption | exact cb_drop (by assumption) (by first | kcj_in | kcj_all)); (case kF => assumption); (case e0 => rw [E0]; exact le_end (by lia) p1)))
    all_goals (
      have E0 : ((firstN l : Nat) : Int) = 0 := by first | exact fl_3 hz (by assumption) | exact fl_2 (by lia)
      (with_reducible rename Fr _ _ _ _ => F3)
      refine Stop.back ?_
      refine for_at F3 (by rfl) (by rfl) ?_
      k_steps
      all_goals (
        (with_reducible rename Fr _ _ _ _ => F4)
        (with_reducible rename News _ _ _ _ => N4)
        (with_reducible rename IsRange _ _ _ _ _ _ _ _ => R4)
        refine Stop.back ?_
        refine' mi_up (σ := List (Addr × Obj)) (fun c => rest) (fun c => []) [] (fun pre c => ∀ j : Nat, 0 ≤ (j : Int) → (j : Int) < 0 + pre.length → ¬ VC l j) [] rfl R4 (by lia) (by lia) (by lia) (by lia) rfl F4 ?N ?hk ?hp ?turn ?done
        case N => exact cb_drop N4 (by first | kcj_in | kcj_all)
        case hk => exact Has.nil
        case hp => intro j h1 h2; simp at h2; lia
        case turn =>
          rintro c pre kk tkk u5 h5 tk5 own e1 e2 hoff p1 F5 N5
          dsimp only at p1 F5
          k_steps
          all_goals (try dsimp only [MiPost])
          all_goals (first
            | (refine' mi_end c ?kF ?kN ?kn ?ko rfl ?kp ?kr ?kP; (case kN => assumption); (case kF => assumption); (case kn => intro p hp; simp only [List.mem_cons, List.mem_append] at hp ⊢; grind); (case ko => intro p hp; simp only [List.mem_cons, List.mem_append] at hp ⊢; grind); (case kp => exact Has.nil); (case kr => (intro z q0 q1 q2; simp only [List.not_mem_nil, false_implies, implies_true, List.contains_nil] at q0 q1 q2; simp [kstB, q0])); (case kP => (rw [List.length_append]; first | exact vc_a (by lia) e1 p1 (by assumption) | exact vc_b (by lia) e1 p1 (by assumption))))
            | skip)
          k_steps
          all_goals (refine' hret _ _ _ _ ?e0 ?kF ?kN; (case kN => first | assumption | exact cb_drop (by assumption) (by first | kcj_in | kcj_all)); (case kF => assumption); (case e0 => first | exact absurd e2 (by lia) | (rw [E0]; exact le_hit (by lia) e1 (by lia) p1 (by assumption) (by assumption))))
        case done =>
          rintro c pre u6 h6 tk6 e1 p1 F6 N6
          dsimp only at p1 F6
          k_steps
          all_goals (refine' hret _ _ _ _ ?e0 ?kF ?kN; (case kN => first | assumption | exact cb_drop (by assumption) (by first | kcj_in | kcj_all)); (case kF => assumption); (case e0 => rw [E0]; exact le_end (by lia) p1))))
end Mine
end
section
open PySem PySem.W PyProof.Rows PySem.Calls PySem.Spec
set_option maxRecDepth 100000
namespace Mine
section
variable {prog : Program} {w : World} {A : Around} {E : Value → Shared → Prop} {Q : Flow → Shared → Prop} {s : Shared} {env : Env} {h₀ : Heap} {target : PySem.Expr} {body : List PySem.Stmt}
noncomputable def TlEnd (h₀ : Heap) (L : Addr) (news own : List (Addr × Obj)) (J : (Str → Option Value) → Prop) (s₁ s₂ : Shared) : Prop :=
  ∃ h' tk m' news', s₂ = { s₁ with heap := h', toks := tk } ∧ Fr h₀ L h' m' ∧ News h₀ L h' news' ∧ (∀ p ∈ news, p ∈ news') ∧ (∀ p ∈ own, p ∈ news') ∧ J m'
noncomputable def TlPost (h₀ : Heap) (L : Addr) (news own : List (Addr × Obj)) (J : (Str → Option Value) → Prop) (s₁ : Shared) (Q : Flow → Shared → Prop) (f : Flow) (s₂ : Shared) : Prop :=
  match f with
  | .ret v => Q (.ret v) s₂
  | .brk => Q .next s₂
  | _ => TlEnd h₀ L news own J s₁ s₂
theorem tl_end {L : Addr} {news own news' : List (Addr × Obj)} {J : (Str → Option Value) → Prop} {s₁ : Shared} {h' : Heap} {tk : Nat} {m' : Str → Option Value} (F : Fr h₀ L h' m') (N : News h₀ L h' news') (h1 : ∀ p ∈ news, p ∈ news') (h2 : ∀ p ∈ own, p ∈ news') (hJ : J m') :
    TlEnd h₀ L news own J s₁ { s₁ with heap := h', toks := tk } := ⟨h', tk, m', news', rfl, F, N, h1, h2, hJ⟩
/-- a loop over a list that stood before the call, item by item; the ledger stays -/
theorem turns_list {l : Addr} {vs : List Value} {m₀ : Str → Option Value} {news : List (Addr × Obj)} (J : Nat → (Str → Option Value) → Prop) (hh : A.handled = none) (hl : h₀.IsList l vs.toArray) (F : Fr h₀ env.locals s.heap m₀) (N : News h₀ env.locals s.heap news) (hj : J 0 m₀)
    (turn : ∀ i v m₁ h tk own, vs[i]? = some v → OwnOff own (news.map (·.1)) → J i m₁ → Fr h₀ env.locals h m₁ → News h₀ env.locals h (news ++ own) →
      wpAny (model prog w) A (assign target env v) (fun _ s₃ => wpAny (model prog w) A (execs body env) (TlPost h₀ env.locals news own (J (i + 1)) { s with heap := h, toks := tk } Q) E s₃) E { s with heap := h, toks := tk })
    (done : ∀ m₁ h tk, J vs.length m₁ → Fr h₀ env.locals h m₁ → News h₀ env.locals h news → Q .next { s with heap := h, toks := tk }) :
    wpAny (model prog w) A (pyIter (.ref l)) (fun it s₂ => TurnsAt prog w A h₀ env target body Q E it s₂) E s := by
  obtain ⟨listObj, at_l, _⟩ := id hl
  have l_old : l < h₀.objs.size := Heap.lt_size at_l
  have l_frame : l < env.locals := Nat.lt_of_lt_of_le l_old F.above
  have frame_it : env.locals < s.heap.objs.size := F.ns.lt
  have here : s.heap.IsList l vs.toArray := hl.at (F.keep l)
  have old_it : ∀ {b : Addr} {o : Obj}, s.heap.get? b = some o → b ≠ s.heap.objs.size := fun ho => Nat.ne_of_lt (Heap.lt_size ho)
  have walk := KTurns.ofWalks (target := target) (Walks.list (prog := prog) (w := w) hh s.heap.objs.size l (Nat.ne_of_lt (Nat.lt_trans l_frame frame_it)) vs.toArray) (fun _ _ _ _ _ st => letGo_listiter st.1)
  refine wpAny_pyIter_list here ⟨_, _, _, vs.toArray.size, _, _, _, m₀, news, fun i m₁ led => led = news ∧ J i m₁, rfl, walk, ?frame, ?fresh, ?apart, ⟨⟨_, Heap.get?_push_size _ rfl, rfl, rfl⟩, here.at fun _ => Heap.get?_push_of_some _⟩, F.push _, ?ledger, ⟨rfl, hj⟩, ?turns, ?after⟩
  case frame =>
    simp only [List.mem_cons, List.not_mem_nil, or_false, not_or]
    exact ⟨Nat.ne_of_lt frame_it, (Nat.ne_of_lt l_frame).symm⟩
  case fresh =>
    intro b hb
    simp only [List.mem_cons, List.not_mem_nil, or_false] at hb
    subst hb
    exact next_is_new F
  case apart =>
    intro p hp hI
    simp only [List.mem_cons, List.not_mem_nil, or_false] at hI
    exact old_it (N p hp).1 hI
  case ledger =>
    intro p hp
    obtain ⟨there, more⟩ := N p hp
    exact ⟨Heap.get?_push_of_some _ there, more⟩
  case turns =>
    rintro i v m₁ led h₁ tk₁ own _ hP ⟨rfl, hJ⟩ hoff hown _ _ _ F₁ N₁
    have item : vs[i]? = some v := by rw [← List.getElem?_toArray]; exact hP
    have apart : OwnOff own (led.map (·.1)) := by
      rintro p hp _ hb rfl
      obtain ⟨q, hq, same⟩ := List.mem_map.mp hb
      have hp := hown p hp
      simp only [List.mem_cons, List.not_mem_nil, or_false] at hp
      rcases hp with isIt | isL
      · exact old_it (N q hq).1 (same.trans isIt)
      · exact Option.some_ne_none _ (at_l.symm.trans ((same.trans isL) ▸ (N q hq).2.2))
    have N₂ : News h₀ env.locals h₁ (led ++ own) := fun p hp => N₁ p (List.mem_append.mpr (List.mem_append.mp hp).symm)
    refine wpAny_mono (turn i v m₁ h₁ tk₁ own item apart hJ F₁ N₂) ?_ fun _ _ e => e
    intro _ s₃ body₃
    refine wpAny_mono body₃ ?_ fun _ _ e => e
    intro f s₂ p
    have step : TlEnd h₀ env.locals led own (J (i + 1)) { s with heap := h₁, toks := tk₁ } s₂ → LoopStepU h₀ env.locals [s.heap.objs.size] own (fun m₁ led' => led' = led ∧ J (i + 1) m₁) { s with heap := h₁, toks := tk₁ } .next s₂ := by
      rintro ⟨h', tk, m', led', e, F', N', keptNews, keptOwn, hm⟩
      refine ⟨rfl, h', tk, m', led, e, F', fun p hp => N' p ?_, fun p hp hq => hoff p hp hq, rfl, hm⟩
      rcases List.mem_append.mp hp with z | z
      · exact keptOwn p z
      · exact keptNews p z
    match f, p with
    | .ret _, p => exact .ret p
    | .brk, p => exact .brk p
    | .next, p => exact .next (step p)
    | .cont, p => exact .cont (step p)
  case after =>
    rintro h' tk m' _ F' N' _ ⟨rfl, hJ⟩
    rw [List.size_toArray] at hJ
    exact done m' h' tk hJ F' N'
/-- the same; the turns store the names `stored` alone -/
theorem turns_listS {l : Addr} {vs : List Value} {m₀ : Str → Option Value} {news : List (Addr × Obj)} (stored : List Str) (P : Nat → Prop) (hh : A.handled = none) (hl : h₀.IsList l vs.toArray) (F : Fr h₀ env.locals s.heap m₀) (N : News h₀ env.locals s.heap news) (hp : P 0)
    (turn : ∀ i v (u : Str → Option Value) h tk own, vs[i]? = some v → OwnOff own (news.map (·.1)) → P i → Fr h₀ env.locals h (fun z => if stored.contains z then u z else m₀ z) → News h₀ env.locals h (news ++ own) →
      wpAny (model prog w) A (assign target env v) (fun _ s₃ => wpAny (model prog w) A (execs body env) (TlPost h₀ env.locals news own (fun m' => (∀ z, stored.contains z = false → m' z = m₀ z) ∧ P (i + 1)) { s with heap := h, toks := tk } Q) E s₃) E { s with heap := h, toks := tk })
    (done : ∀ (u : Str → Option Value) h tk, P vs.length → Fr h₀ env.locals h (fun z => if stored.contains z then u z else m₀ z) → News h₀ env.locals h news → Q .next { s with heap := h, toks := tk }) :
    wpAny (model prog w) A (pyIter (.ref l)) (fun it s₂ => TurnsAt prog w A h₀ env target body Q E it s₂) E s := by
  have same : ∀ m₁ : Str → Option Value, (∀ z, stored.contains z = false → m₁ z = m₀ z) → m₁ = fun z => if stored.contains z then m₁ z else m₀ z := fun m₁ e => by
    funext z
    cases h : stored.contains z with
    | true => simp
    | false => simpa using e z h
  refine turns_list (fun i m => (∀ z, stored.contains z = false → m z = m₀ z) ∧ P i) hh hl F N ⟨fun _ _ => rfl, hp⟩ (fun i v m₁ h tk own hv hoff hJ F₁ N₁ => ?_) fun m₁ h tk hJ F₁ N₁ => ?_
  · exact turn i v m₁ h tk own hv hoff hJ.2 (same m₁ hJ.1 ▸ F₁) N₁
  · exact done m₁ h tk hJ.2 (same m₁ hJ.1 ▸ F₁) N₁
end
end Mine
end
section
open PySem PySem.W PyProof.Rows PySem.Calls PySem.Spec
set_option maxRecDepth 100000
set_option maxHeartbeats 8000000
namespace Mine
theorem reg_L2T_1 : True := by
  k_with_none
  k_with "mp" => (first | assumption | lia | decide | (simp; lia) | (simp_all; done) | (simp_all; lia))
  k_with "mN" => (first | k_asm | exact cb_drop (by assumption) (by first | kcj_in | kcj_all))
  k_with "mGW" => (first | assumption | exact Glb.keep (by assumption) (Fr.keep (by assumption)) | exact Glb.keep (by assumption) (Below.stays (by assumption)))
  k_with "mG" => (first | assumption | exact Glb.keep (by assumption) (Fr.keep (by assumption)))
  k_with "mo" => (first | lia | (dsimp only; lia))
  k_with "mr" => (first | exact rfl | assumption)
  k_with "subscriptTail" => ((k_here; (with_reducible show wpAny _ _ (subscriptTail _ _ (Value.str (mk _) _) (Value.int _ _)) _ _ _); (refine' r_item (by lia) (by lia) (by lia) ?_); intro _ _))
  k_with "subscriptTail" => ((k_here; (with_reducible rename Fr _ _ _ _ => F'); (with_reducible rename News _ _ _ _ => N'); (with_reducible show wpAny _ _ (subscriptTail _ (Expr.Slice (some _) (some _) none _) (Value.str (mk _) _) (Value.ref _)) _ _ _); (refine' r_slice_ss (s := ⟨_, _, _, _, _⟩) F' N' (by lia) (by lia) (by lia) (by lia) ?_); intro _ _ _ _ _))
  k_with "subscriptTail" => ((k_here; (with_reducible rename Fr _ _ _ _ => F'); (with_reducible rename News _ _ _ _ => N'); (with_reducible show wpAny _ _ (subscriptTail _ (Expr.Slice (some _) none none _) (Value.str (mk _) _) (Value.ref _)) _ _ _); (refine' r_slice_sn (s := ⟨_, _, _, _, _⟩) F' N' (by lia) (by lia) (by lia) ?_); intro _ _ _ _ _))
  k_with "subscriptTail" => ((k_here; (with_reducible rename Fr _ _ _ _ => F'); (with_reducible rename News _ _ _ _ => N'); (with_reducible show wpAny _ _ (subscriptTail _ (Expr.Slice none (some _) none _) (Value.str (mk _) _) (Value.ref _)) _ _ _); (refine' r_slice_ns (s := ⟨_, _, _, _, _⟩) F' N' (by lia) (by lia) (by lia) ?_); intro _ _ _ _ _))
  k_with "call builtin:len" => ((k_here; (with_reducible show wpAny _ _ (call (Value.builtin "len") [Value.str (mk _) _]) _ _ _); (refine' r_len (by lia) ?_); intro _ _))
  k_with "binaryOp Add" => ((k_here; (with_reducible show wpAny _ _ (binaryOp Operator.Add (Value.str (mk _) _) (Value.str (mk _) _)) _ _ _); (refine' r_add (by first | lia | (simp; lia)) (by first | lia | (simp; lia)) ?_); intro _ _))
  k_with "compareOp Eq" => ((k_here; (with_reducible show wpAny _ _ (compareOp CmpOp.Eq (Value.str (mk _) _) (Value.str (mk _) _)) _ _ _); refine r_eq ?_))
  k_with "call builtin:str.endswith" => ((k_here; (with_reducible show wpAny _ _ (call (Value.builtin "str.endswith") [Value.str (mk _) _, Value.str (mk _) _]) _ _ _); refine r_ends ?_))
  trivial
noncomputable def anewF (l : List Nat) : List (List Nat × List Nat) → List Nat
  | [] => l
  | (o, n) :: r => if o <:+ l then l.take (l.length - o.length) ++ n else anewF l r
noncomputable def hardT : List (List Nat × List Nat) := [([269], [116]), ([100, 382], [100])]
noncomputable def gdT : List (List Nat × List Nat) := [([103, 100], [103])]
noncomputable def markT : List (List Nat × List Nat) := [([39], [])]
noncomputable def clashT : List (List Nat × List Nat) := [([97, 105, 116, 101], [97, 105, 116, 279]), ([97, 105, 116, 279, 115], [97, 105, 116, 279]), ([117, 111, 116, 101], [117, 111, 116, 279]), ([117, 111, 116, 279, 115], [117, 111, 116, 279]), ([111, 107, 97, 116, 101], [111, 107, 97, 116, 279]), ([111, 107, 97, 116, 279, 115], [111, 107, 97, 116, 279]), ([279, 106, 105, 109, 101], [279, 106, 105, 109, 97, 115]), ([97, 118, 105, 109, 101], [97, 118, 105, 109, 97, 115]), ([111, 106, 105, 109, 101], [111, 106, 105, 109, 97, 115]), ([97, 115, 105, 117, 115], [97, 115, 121, 115]), ([101, 115, 105, 117], [101, 115, 121, 115])]
theorem lw_0 : Str.ofString "" = mk [] := by decide +kernel
theorem lw_1 : Str.ofString "'" = mk [39] := by decide +kernel
theorem lw_2 : Str.ofString "aite" = mk [97, 105, 116, 101] := by decide +kernel
theorem lw_3 : Str.ofString "aitė" = mk [97, 105, 116, 279] := by decide +kernel
theorem lw_4 : Str.ofString "aitės" = mk [97, 105, 116, 279, 115] := by decide +kernel
theorem lw_5 : Str.ofString "asius" = mk [97, 115, 105, 117, 115] := by decide +kernel
theorem lw_6 : Str.ofString "asys" = mk [97, 115, 121, 115] := by decide +kernel
theorem lw_7 : Str.ofString "avimas" = mk [97, 118, 105, 109, 97, 115] := by decide +kernel
theorem lw_8 : Str.ofString "avime" = mk [97, 118, 105, 109, 101] := by decide +kernel
theorem lw_9 : Str.ofString "d" = mk [100] := by decide +kernel
theorem lw_10 : Str.ofString "dž" = mk [100, 382] := by decide +kernel
theorem lw_11 : Str.ofString "esiu" = mk [101, 115, 105, 117] := by decide +kernel
theorem lw_12 : Str.ofString "esys" = mk [101, 115, 121, 115] := by decide +kernel
theorem lw_13 : Str.ofString "g" = mk [103] := by decide +kernel
theorem lw_14 : Str.ofString "gd" = mk [103, 100] := by decide +kernel
theorem lw_15 : Str.ofString "ojimas" = mk [111, 106, 105, 109, 97, 115] := by decide +kernel
theorem lw_16 : Str.ofString "ojime" = mk [111, 106, 105, 109, 101] := by decide +kernel
theorem lw_17 : Str.ofString "okate" = mk [111, 107, 97, 116, 101] := by decide +kernel
theorem lw_18 : Str.ofString "okatė" = mk [111, 107, 97, 116, 279] := by decide +kernel
theorem lw_19 : Str.ofString "okatės" = mk [111, 107, 97, 116, 279, 115] := by decide +kernel
theorem lw_20 : Str.ofString "t" = mk [116] := by decide +kernel
theorem lw_21 : Str.ofString "uote" = mk [117, 111, 116, 101] := by decide +kernel
theorem lw_22 : Str.ofString "uotė" = mk [117, 111, 116, 279] := by decide +kernel
theorem lw_23 : Str.ofString "uotės" = mk [117, 111, 116, 279, 115] := by decide +kernel
theorem lw_24 : Str.ofString "č" = mk [269] := by decide +kernel
theorem lw_25 : Str.ofString "ėjimas" = mk [279, 106, 105, 109, 97, 115] := by decide +kernel
theorem lw_26 : Str.ofString "ėjime" = mk [279, 106, 105, 109, 101] := by decide +kernel
noncomputable def PairTab (h : Heap) (v : Addr) (tbl : List (List Nat × List Nat)) : Prop := ∃ vs : List Value, h.IsList v vs.toArray ∧ vs.length = tbl.length ∧ ∀ (i : Nat) (x : Value), vs[i]? = some x → ∃ (o n : List Nat) (T : Addr) (t1 t2 : Tok), tbl[i]? = some (o, n) ∧ x = Value.ref T ∧ IsTup h T #[.str (mk o) t1, .str (mk n) t2]
theorem PairTab.keep {h h' : Heap} {v : Addr} {tbl : List (List Nat × List Nat)} (x : PairTab h v tbl) (k : ∀ b o, h.get? b = some o → h'.get? b = some o) : PairTab h' v tbl :=
  let ⟨vs, ⟨o, ho, r⟩, e, f⟩ := x
  ⟨vs, ⟨o, k _ _ ho, r⟩, e, fun i x hx => let ⟨a, b, T, t1, t2, e1, e2, ⟨ob, hb, r⟩⟩ := f i x hx; ⟨a, b, T, t1, t2, e1, e2, ⟨ob, k _ _ hb, r⟩⟩⟩
theorem sufx_len {o l : List Nat} (h : o <:+ l) : o.length ≤ l.length := h.length_le
theorem anew_hit {l o n : List Nat} : ∀ {tbl : List (List Nat × List Nat)} {i : Nat}, tbl[i]? = some (o, n) → o <:+ l → (∀ j p, j < i → tbl[j]? = some p → ¬ p.1 <:+ l) → anewF l tbl = l.take (l.length - o.length) ++ n
  | [], i, h, _, _ => by simp at h
  | (a, b) :: r, 0, h, hs, _ => by
    simp only [List.getElem?_cons_zero, Option.some.injEq, Prod.mk.injEq] at h
    obtain ⟨rfl, rfl⟩ := h
    show (if a <:+ l then _ else _) = _
    rw [if_pos hs]
  | (a, b) :: r, i + 1, h, hs, hn => by
    have h0 : ¬ a <:+ l := hn 0 (a, b) (by lia) rfl
    show (if a <:+ l then _ else _) = _
    rw [if_neg h0]
    exact anew_hit (by simpa using h) hs fun j p hj hp => hn (j + 1) p (by lia) (by simpa using hp)
theorem anew_miss {l : List Nat} : ∀ {tbl : List (List Nat × List Nat)}, (∀ j p, j < tbl.length → tbl[j]? = some p → ¬ p.1 <:+ l) → anewF l tbl = l
  | [], _ => rfl
  | (a, b) :: r, hn => by
    have h0 : ¬ a <:+ l := hn 0 (a, b) (by simp) rfl
    show (if a <:+ l then _ else _) = _
    rw [if_neg h0]
    exact anew_miss fun j p hj hp => hn (j + 1) p (by simpa using hj) (by simpa using hp)
theorem anew_snoc {l o n : List Nat} {tbl : List (List Nat × List Nat)} {i : Nat} (h : tbl[i]? = some (o, n)) (hs : ¬ o <:+ l) (hn : ∀ j p, j < i → tbl[j]? = some p → ¬ p.1 <:+ l) : ∀ j p, j < i + 1 → tbl[j]? = some p → ¬ p.1 <:+ l := fun j p hj hp => by
  by_cases e : j < i
  · exact hn j p e hp
  · obtain rfl : j = i := by lia
    rw [h] at hp
    cases hp
    exact hs
theorem reg_L2T_2 : True := by
  k_with "exec For Tuple Name cons nil" => ((k_here; (rename Fr _ _ _ _ => lF'); (with_unfolding_all refine' For_turns lF' ?_); k_whole))
  k_with "pyIter ref" => ((k_here; refine Stop.out ?_))
  k_with "subscriptTail" => ((k_here; (with_reducible rename Fr _ _ _ _ => F'); (with_reducible rename News _ _ _ _ => N'); (with_reducible show wpAny _ _ (subscriptTail _ (Expr.Slice none (some _) none _) (Value.str (mk _) _) (Value.ref _)) _ _ _); (refine' r_slice_ns (s := ⟨_, _, _, _, _⟩) F' N' (by have := sufx_len (by assumption); lia) (by have := sufx_len (by assumption); lia) (by lia) ?_); intro _ _ _ _ _))
  k_with "binaryOp Add" => ((k_here; (with_reducible show wpAny _ _ (binaryOp Operator.Add (Value.str (mk _) _) (Value.str (mk _) _)) _ _ _); (refine' r_add (by first | lia | (simp; lia)) (by first | lia | (simp; lia)) ?_); intro _ _))
  trivial
theorem tup_keep {h h' : Heap} {T : Addr} {xs : Array Value} (x : IsTup h T xs) (k : ∀ b o, h.get? b = some o → h'.get? b = some o) : IsTup h' T xs := let ⟨o, ho, r⟩ := x; ⟨o, k _ _ ho, r⟩
theorem anew_ok : ∀ {w : World} {dp un : Nat} {gd : Option (List Code)} {cn : Str} {cs : Scope} {a : Addr} {ccd : Value} {cl : List (Str × Addr)} {outer : List Env} {A₀ : Around} {base h₀ : Heap} {L : Addr} {m : Str → Option Value} {s : Shared} {Q E : Value → Shared → Prop} {mean : ExcName → Option Value} {mg mb : Str → Option Value} {rest : List (Addr × Obj)} {l : List Nat} {t : Tok} {v : Addr} {tbl : List (List Nat × List Nat)}
    (B : Below A₀ base outer h₀) (F : Fr h₀ L s.heap m) (X : (MineH.KK w.params).In h₀) (N : News h₀ L s.heap rest)
    (T : Top MineH.VW (looseW MineH.VW loose0) mean mg mb h₀) (hk : cs.kind = .function) (hdp : dp + 6 < recursionLimit) (hun : un + 34 < cLine) (hl : l.length ≤ 400) (PT : PairTab h₀ v tbl) (hb : ∀ (i : Nat) (o n : List Nat), tbl[i]? = some (o, n) → o.length ≤ 10 ∧ n.length ≤ 10)
    (hret : ∀ (x : List Nat) (u : Tok) (h' : Heap) (tk' : Nat), x = anewF l tbl → Fr h₀ L h' m → News h₀ L h' rest → Q (.str (mk x) u) { s with heap := h', toks := tk' }),
    wpAny (model PySem.Challenge.rw_iu0024_01.row.prog w) (ktrTop dp un gd cn cs L a ccd cl outer) (call (.ref 1164) [.str (mk l) t, .ref v]) Q E s := by
  k_fill
  intro w dp un gd cn cs a ccd cl outer A₀ base h₀ L m s Q E mean mg mb rest l t v tbl B F X N T hk hdp hun hl PT hb hret
  refine wpAny_call ?_
  k_dflt cell_enter
  k_steps
  (with_reducible rename Fr _ _ _ _ => F3)
  (with_reducible rename News _ _ _ _ => N3)
  have PT' := PairTab.keep PT (Fr.keep ‹Fr h₀ L _ m›)
  obtain ⟨vs, hvl, hvn, hvi⟩ := PT'
  refine Stop.back ?_
  refine' turns_listS [Str.ofString "old", Str.ofString "new"] (fun i => ∀ j p, j < i → tbl[j]? = some p → ¬ p.1 <:+ l) ?hh hvl F3 N3 ?hp ?turn ?done
  case hh => exact rfl
  case hp => intro j p hj; lia
  case turn =>
    rintro i v' u5 h5 tk5 own e1 hoff p1 F5 N5
    obtain ⟨o, n, T', t1, t2, e2, rfl, hT⟩ := hvi i v' e1
    obtain ⟨ho, hn⟩ := hb i o n e2
    refine unpackN_ F5 N5 (tup_keep hT F5.keep) rfl rfl rfl ?_
    intro h6 F6 N6
    dsimp only at F6
    k_steps
    all_goals (try dsimp only [TlPost])
    all_goals (first
      | (refine' tl_end ?kF ?kN ?k1 ?k2 ⟨?kS, anew_snoc e2 (by assumption) p1⟩; (case kN => assumption); (case kF => assumption); (case k1 => exact fun p hp => List.mem_append_left _ hp); (case k2 => exact fun p hp => List.mem_append_right _ hp); (case kS => (intro z q; simp only [List.contains_cons, List.contains_nil, Bool.or_false, Bool.or_eq_false_iff, beq_eq_false_iff_ne] at q; simp [q])))
      | skip)
    k_steps
    all_goals (refine' hret _ _ _ _ ?e0 ?kF ?kN; (case kN => first | assumption | exact cb_drop (by assumption) (by first | kcj_in | kcj_all)); (case kF => assumption); (case e0 => ((rw [anew_hit e2 (by assumption) p1]; congr 2; lia))))
  case done =>
    rintro u6 h6 tk6 p1 F6 N6
    dsimp only at F6
    k_steps
    all_goals (refine' hret _ _ _ _ ?e0 ?kF ?kN; (case kN => first | assumption | exact cb_drop (by assumption) (by first | kcj_in | kcj_all)); (case kF => assumption); (case e0 => exact (anew_miss (by rw [← hvn]; exact p1)).symm))
end Mine
end
section
open PySem PySem.W PyProof.Rows PySem.Calls PySem.Spec
set_option maxRecDepth 100000
set_option maxHeartbeats 8000000
namespace Mine
open MineH
theorem pt_clash {P : Params} {h : Heap} (X : (KK P).In h) : PairTab h 1134 clashT := by
  refine ⟨[.ref 1123, .ref 1124, .ref 1125, .ref 1126, .ref 1127, .ref 1128, .ref 1129, .ref 1130, .ref 1131, .ref 1132, .ref 1133], ⟨_, X 1134 (o_1134 P) (by kernel_rfl), rfl, 0, rfl⟩, rfl, ?_⟩
  intro i x hx
  match i, hx with
  | 0, hx => cases hx; exact ⟨[97, 105, 116, 101], [97, 105, 116, 279], 1123, 4452, 4453, rfl, rfl, ⟨_, X 1123 (o_1123 P) (by kernel_rfl), rfl, 0, by kernel_rfl⟩⟩
  | 1, hx => cases hx; exact ⟨[97, 105, 116, 279, 115], [97, 105, 116, 279], 1124, 4454, 4455, rfl, rfl, ⟨_, X 1124 (o_1124 P) (by kernel_rfl), rfl, 0, by kernel_rfl⟩⟩
  | 2, hx => cases hx; exact ⟨[117, 111, 116, 101], [117, 111, 116, 279], 1125, 4456, 4457, rfl, rfl, ⟨_, X 1125 (o_1125 P) (by kernel_rfl), rfl, 0, by kernel_rfl⟩⟩
  | 3, hx => cases hx; exact ⟨[117, 111, 116, 279, 115], [117, 111, 116, 279], 1126, 4458, 4459, rfl, rfl, ⟨_, X 1126 (o_1126 P) (by kernel_rfl), rfl, 0, by kernel_rfl⟩⟩
  | 4, hx => cases hx; exact ⟨[111, 107, 97, 116, 101], [111, 107, 97, 116, 279], 1127, 4460, 4461, rfl, rfl, ⟨_, X 1127 (o_1127 P) (by kernel_rfl), rfl, 0, by kernel_rfl⟩⟩
  | 5, hx => cases hx; exact ⟨[111, 107, 97, 116, 279, 115], [111, 107, 97, 116, 279], 1128, 4462, 4463, rfl, rfl, ⟨_, X 1128 (o_1128 P) (by kernel_rfl), rfl, 0, by kernel_rfl⟩⟩
  | 6, hx => cases hx; exact ⟨[279, 106, 105, 109, 101], [279, 106, 105, 109, 97, 115], 1129, 4464, 4465, rfl, rfl, ⟨_, X 1129 (o_1129 P) (by kernel_rfl), rfl, 0, by kernel_rfl⟩⟩
  | 7, hx => cases hx; exact ⟨[97, 118, 105, 109, 101], [97, 118, 105, 109, 97, 115], 1130, 4466, 4467, rfl, rfl, ⟨_, X 1130 (o_1130 P) (by kernel_rfl), rfl, 0, by kernel_rfl⟩⟩
  | 8, hx => cases hx; exact ⟨[111, 106, 105, 109, 101], [111, 106, 105, 109, 97, 115], 1131, 4468, 4469, rfl, rfl, ⟨_, X 1131 (o_1131 P) (by kernel_rfl), rfl, 0, by kernel_rfl⟩⟩
  | 9, hx => cases hx; exact ⟨[97, 115, 105, 117, 115], [97, 115, 121, 115], 1132, 4470, 4471, rfl, rfl, ⟨_, X 1132 (o_1132 P) (by kernel_rfl), rfl, 0, by kernel_rfl⟩⟩
  | 10, hx => cases hx; exact ⟨[101, 115, 105, 117], [101, 115, 121, 115], 1133, 4472, 4473, rfl, rfl, ⟨_, X 1133 (o_1133 P) (by kernel_rfl), rfl, 0, by kernel_rfl⟩⟩
  | n + 11, hx => simp at hx
theorem pb_clash : ∀ (i : Nat) (o n : List Nat), clashT[i]? = some (o, n) → o.length ≤ 10 ∧ n.length ≤ 10 := by
  intro i o n h
  have := List.mem_of_getElem? h
  have q : ∀ p ∈ clashT, p.1.length ≤ 10 ∧ p.2.length ≤ 10 := by decide
  exact q _ this
theorem pt_hard {P : Params} {h : Heap} (X : (KK P).In h) : PairTab h 1137 hardT := by
  refine ⟨[.ref 1135, .ref 1136], ⟨_, X 1137 (o_1137 P) (by kernel_rfl), rfl, 0, rfl⟩, rfl, ?_⟩
  intro i x hx
  match i, hx with
  | 0, hx => cases hx; exact ⟨[269], [116], 1135, 4475, 4476, rfl, rfl, ⟨_, X 1135 (o_1135 P) (by kernel_rfl), rfl, 0, by kernel_rfl⟩⟩
  | 1, hx => cases hx; exact ⟨[100, 382], [100], 1136, 4477, 4478, rfl, rfl, ⟨_, X 1136 (o_1136 P) (by kernel_rfl), rfl, 0, by kernel_rfl⟩⟩
  | n + 2, hx => simp at hx
theorem pb_hard : ∀ (i : Nat) (o n : List Nat), hardT[i]? = some (o, n) → o.length ≤ 10 ∧ n.length ≤ 10 := by
  intro i o n h
  have := List.mem_of_getElem? h
  have q : ∀ p ∈ hardT, p.1.length ≤ 10 ∧ p.2.length ≤ 10 := by decide
  exact q _ this
theorem pt_gd {P : Params} {h : Heap} (X : (KK P).In h) : PairTab h 1139 gdT := by
  refine ⟨[.ref 1138], ⟨_, X 1139 (o_1139 P) (by kernel_rfl), rfl, 0, rfl⟩, rfl, ?_⟩
  intro i x hx
  match i, hx with
  | 0, hx => cases hx; exact ⟨[103, 100], [103], 1138, 4480, 4481, rfl, rfl, ⟨_, X 1138 (o_1138 P) (by kernel_rfl), rfl, 0, by kernel_rfl⟩⟩
  | n + 1, hx => simp at hx
theorem pb_gd : ∀ (i : Nat) (o n : List Nat), gdT[i]? = some (o, n) → o.length ≤ 10 ∧ n.length ≤ 10 := by
  intro i o n h
  have := List.mem_of_getElem? h
  have q : ∀ p ∈ gdT, p.1.length ≤ 10 ∧ p.2.length ≤ 10 := by decide
  exact q _ this
theorem pt_mark {P : Params} {h : Heap} (X : (KK P).In h) : PairTab h 1141 markT := by
  refine ⟨[.ref 1140], ⟨_, X 1141 (o_1141 P) (by kernel_rfl), rfl, 0, rfl⟩, rfl, ?_⟩
  intro i x hx
  match i, hx with
  | 0, hx => cases hx; exact ⟨[39], [], 1140, 4483, 4484, rfl, rfl, ⟨_, X 1140 (o_1140 P) (by kernel_rfl), rfl, 0, by kernel_rfl⟩⟩
  | n + 1, hx => simp at hx
theorem pb_mark : ∀ (i : Nat) (o n : List Nat), markT[i]? = some (o, n) → o.length ≤ 10 ∧ n.length ≤ 10 := by
  intro i o n h
  have := List.mem_of_getElem? h
  have q : ∀ p ∈ markT, p.1.length ≤ 10 ∧ p.2.length ≤ 10 := by decide
  exact q _ this
end Mine
end
section
open PySem PySem.W PyProof.Rows PySem.Calls PySem.Spec
set_option maxRecDepth 100000
set_option maxHeartbeats 8000000
namespace Mine
theorem reg_L4T_1 : True := by
  k_with_none
  k_with "mp" => (first | assumption | lia | decide | (simp; lia) | (simp_all; done) | (simp_all; lia))
  k_with "mN" => (first | k_asm | exact cb_drop (by assumption) (by first | kcj_in | kcj_all))
  k_with "mGW" => (first | assumption | exact Glb.keep (by assumption) (Fr.keep (by assumption)) | exact Glb.keep (by assumption) (Below.stays (by assumption)))
  k_with "mG" => (first | assumption | exact Glb.keep (by assumption) (Fr.keep (by assumption)))
  k_with "mo" => (first | lia | (dsimp only; lia))
  k_with "mr" => (first | exact rfl | assumption)
  k_with "subscriptTail" => ((k_here; (with_reducible show wpAny _ _ (subscriptTail _ _ (Value.str (mk _) _) (Value.int _ _)) _ _ _); (refine' r_item (by lia) (by lia) (by lia) ?_); intro _ _))
  k_with "subscriptTail" => ((k_here; (with_reducible rename Fr _ _ _ _ => F'); (with_reducible rename News _ _ _ _ => N'); (with_reducible show wpAny _ _ (subscriptTail _ (Expr.Slice (some _) (some _) none _) (Value.str (mk _) _) (Value.ref _)) _ _ _); (refine' r_slice_ss (s := ⟨_, _, _, _, _⟩) F' N' (by lia) (by lia) (by lia) (by lia) ?_); intro _ _ _ _ _))
  k_with "subscriptTail" => ((k_here; (with_reducible rename Fr _ _ _ _ => F'); (with_reducible rename News _ _ _ _ => N'); (with_reducible show wpAny _ _ (subscriptTail _ (Expr.Slice (some _) none none _) (Value.str (mk _) _) (Value.ref _)) _ _ _); (refine' r_slice_sn (s := ⟨_, _, _, _, _⟩) F' N' (by lia) (by lia) (by lia) ?_); intro _ _ _ _ _))
  k_with "subscriptTail" => ((k_here; (with_reducible rename Fr _ _ _ _ => F'); (with_reducible rename News _ _ _ _ => N'); (with_reducible show wpAny _ _ (subscriptTail _ (Expr.Slice none (some _) none _) (Value.str (mk _) _) (Value.ref _)) _ _ _); (refine' r_slice_ns (s := ⟨_, _, _, _, _⟩) F' N' (by lia) (by lia) (by lia) ?_); intro _ _ _ _ _))
  k_with "call builtin:len" => ((k_here; (with_reducible show wpAny _ _ (call (Value.builtin "len") [Value.str (mk _) _]) _ _ _); (refine' r_len (by lia) ?_); intro _ _))
  k_with "binaryOp Add" => ((k_here; (with_reducible show wpAny _ _ (binaryOp Operator.Add (Value.str (mk _) _) (Value.str (mk _) _)) _ _ _); (refine' r_add (by first | lia | (simp; lia)) (by first | lia | (simp; lia)) ?_); intro _ _))
  k_with "compareOp Eq" => ((k_here; (with_reducible show wpAny _ _ (compareOp CmpOp.Eq (Value.str (mk _) _) (Value.str (mk _) _)) _ _ _); refine r_eq ?_))
  k_with "call builtin:str.endswith" => ((k_here; (with_reducible show wpAny _ _ (call (Value.builtin "str.endswith") [Value.str (mk _) _, Value.str (mk _) _]) _ _ _); refine r_ends ?_))
  k_with "exec For Name Call cons nil" => ((k_here; refine Stop.out ?_))
  k_with "pyIter ref" => ((k_here; refine Stop.out ?_))
  k_with "compareOp In" => ((k_here; (with_reducible show wpAny _ _ (compareOp CmpOp.In (Value.str (mk _) _) (Value.ref _)) _ _ _); (with_reducible rename News _ _ _ _ => N'); (with_reducible rename StrsAre _ _ => S'); (refine' r_inR N' (by first | assumption | (simp only [List.mem_append]; exact .inl (by assumption)) | grind) (by assumption) S' ?_)))
  trivial
noncomputable def HasEnd (ends : List (List Nat)) (x : List Nat) : Prop := x ∈ ends
theorem any_mk (ends : List (List Nat)) (x : List Nat) : (ends.map mk).any (· == mk x) = decide (x ∈ ends) := by
  rw [List.any_map, Bool.eq_iff_iff]
  simp only [List.any_eq_true, Function.comp, mk_beq, decide_eq_true_eq]
  exact ⟨fun ⟨y, hy, e⟩ => e ▸ hy, fun h => ⟨x, h, rfl⟩⟩
theorem any_t {ends : List (List Nat)} {x : List Nat} (h : ((ends.map mk).any fun y => y == mk x) = true) : x ∈ ends := by rw [any_mk] at h; exact of_decide_eq_true h
theorem any_f {ends : List (List Nat)} {x : List Nat} (h : ((ends.map mk).any fun y => y == mk x) = false) : x ∉ ends := by rw [any_mk] at h; exact of_decide_eq_false h
/-- what _law_without gives -/
noncomputable def WO (l : List Nat) (e : Int) (ends : List (List Nat)) (x : List Nat) : Prop :=
  (∃ p : Nat, max e ((l.length : Int) - 7) ≤ p ∧ p < l.length ∧ l.drop p ∈ ends ∧ (∀ q : Nat, max e ((l.length : Int) - 7) ≤ q → q < p → l.drop q ∉ ends) ∧ x = l.take p) ∨
  ((∀ q : Nat, max e ((l.length : Int) - 7) ≤ q → q < l.length → l.drop q ∉ ends) ∧ x = l)
theorem wo_end {l : List Nat} {e a0 : Int} {ends : List (List Nat)} {n : Nat} (h : a0 = max e ((l.length : Int) - 7)) (e1 : n = ((l.length : Int) - a0).toNat) (p : ∀ q : Nat, a0 ≤ (q : Int) → (q : Int) < a0 + n → l.drop q ∉ ends) : WO l e ends l :=
  .inr ⟨fun q h1 h2 => p q (by lia) (by lia), rfl⟩
theorem wo_hit {l : List Nat} {e a0 k : Int} {ends : List (List Nat)} {n : Nat} (h : a0 = max e ((l.length : Int) - 7)) (h0 : 0 ≤ a0) (ek : k = a0 + n) (e1 : n < ((l.length : Int) - a0).toNat) (p : ∀ q : Nat, a0 ≤ (q : Int) → (q : Int) < a0 + n → l.drop q ∉ ends) (hm : l.drop k.toNat ∈ ends) : WO l e ends (l.take k.toNat) :=
  .inl ⟨k.toNat, by lia, by lia, hm, fun q h1 h2 => p q (by lia) (by lia), rfl⟩
theorem wo_snoc {l : List Nat} {a0 k : Int} {ends : List (List Nat)} {n : Nat} (h0 : 0 ≤ a0) (ek : k = a0 + n) (p : ∀ q : Nat, a0 ≤ (q : Int) → (q : Int) < a0 + n → l.drop q ∉ ends) (hm : l.drop k.toNat ∉ ends) : ∀ q : Nat, a0 ≤ (q : Int) → (q : Int) < a0 + ((n + 1 : Nat) : Int) → l.drop q ∉ ends := fun q h1 h2 => by
  by_cases z : (q : Int) < a0 + n
  · exact p q h1 z
  · have : k.toNat = q := by lia
    rw [← this]; exact hm
theorem without_ok : ∀ {w : World} {dp un : Nat} {gd : Option (List Code)} {cn : Str} {cs : Scope} {a : Addr} {ccd : Value} {cl : List (Str × Addr)} {outer : List Env} {A₀ : Around} {base h₀ : Heap} {L : Addr} {m : Str → Option Value} {s : Shared} {Q E : Value → Shared → Prop} {mean : ExcName → Option Value} {mg mb : Str → Option Value} {rest : List (Addr × Obj)} {l : List Nat} {t u : Tok} {R : Addr} {e : Int} {ob : Obj} {vs : List Value} {ends : List (List Nat)}
    (B : Below A₀ base outer h₀) (F : Fr h₀ L s.heap m) (X : (MineH.KK w.params).In h₀) (N : News h₀ L s.heap rest)
    (T : Top MineH.VW (looseW MineH.VW loose0) mean mg mb h₀) (hk : cs.kind = .function) (hdp : dp + 6 < recursionLimit) (hun : un + 34 < cLine) (hl : l.length ≤ 400) (he : 0 ≤ e) (he2 : e ≤ 1000) (hm : (R, ob) ∈ rest) (hob : ∀ h : Heap, h.get? R = some ob → h.IsList R vs.toArray) (hS : StrsAre vs (ends.map mk))
    (hret : ∀ (x : List Nat) (t' : Tok) (h' : Heap) (tk' : Nat), WO l e ends x → Fr h₀ L h' m → News h₀ L h' rest → Q (.str (mk x) t') { s with heap := h', toks := tk' }),
    wpAny (model PySem.Challenge.rw_iu0024_01.row.prog w) (ktrTop dp un gd cn cs L a ccd cl outer) (call (.ref 1171) [.str (mk l) t, .int e u, .ref R]) Q E s := by
  k_fill
  intro w dp un gd cn cs a ccd cl outer A₀ base h₀ L m s Q E mean mg mb rest l t u R e ob vs ends B F X N T hk hdp hun hl he he2 hm hob hS hret
  refine wpAny_call ?_
  k_dflt cell_enter
  k_steps
  (with_reducible rename Fr _ _ _ _ => F3)
  refine Stop.back ?_
  refine for_at F3 (by rfl) (by rfl) ?_
  k_steps
  (with_reducible rename IsRange _ _ _ _ _ _ _ _ => R4)
  obtain ⟨a0, hA0, hA1⟩ : ∃ a0 : Int, (if (l.length : Int) - 7 > e then (l.length : Int) - 7 else e) = a0 ∧ a0 = max e ((l.length : Int) - 7) := ⟨_, rfl, by split <;> lia⟩
  rw [hA0] at R4
  (with_reducible rename Fr _ _ _ _ => F4)
  (with_reducible rename News _ _ _ _ => N4)
  refine Stop.back ?_
  refine' mi_up (σ := Unit) (fun c => rest) (fun c => []) [] (fun pre c => ∀ q : Nat, a0 ≤ (q : Int) → (q : Int) < a0 + pre.length → l.drop q ∉ ends) () rfl R4 (by lia) (by lia) (by lia) (by lia) rfl F4 ?N ?hk ?hp ?turn ?done
  case N => exact cb_drop N4 (by first | kcj_in | kcj_all)
  case hk => exact Has.nil
  case hp => intro q h1 h2; simp at h2; lia
  case turn =>
    rintro c pre kk tkk u5 h5 tk5 own e1 e2 hoff p1 F5 N5
    dsimp only at p1 F5
    k_steps
    all_goals (try dsimp only [MiPost])
    all_goals (first
      | (refine' mi_end c ?kF ?kN ?kn ?ko rfl ?kp ?kr ?kP; (case kN => assumption); (case kF => assumption); (case kn => intro p hp; simp only [List.mem_cons, List.mem_append] at hp ⊢; grind); (case ko => intro p hp; simp only [List.mem_cons, List.mem_append] at hp ⊢; grind); (case kp => exact Has.nil); (case kr => (intro z q0 q1 q2; simp only [List.not_mem_nil, false_implies, implies_true, List.contains_nil] at q0 q1 q2; simp [kstB, q0])); (case kP => (rw [List.length_append]; exact wo_snoc (by lia) e1 p1 (any_f (by assumption)))))
      | skip)
    k_steps
    all_goals (refine' hret _ _ _ _ ?e0 ?kF ?kN; (case kN => first | assumption | exact cb_drop (by assumption) (by first | kcj_in | kcj_all)); (case kF => assumption); (case e0 => exact wo_hit hA1 (by lia) e1 e2 p1 (any_t (by assumption))))
  case done =>
    rintro c pre u6 h6 tk6 e1 p1 F6 N6
    dsimp only at p1 F6
    k_steps
    all_goals (refine' hret _ _ _ _ ?e0 ?kF ?kN; (case kN => first | assumption | exact cb_drop (by assumption) (by first | kcj_in | kcj_all)); (case kF => assumption); (case e0 => exact wo_end hA1 e1 p1))
end Mine
end
section
open PySem PySem.W PyProof.Rows PySem.Calls PySem.Spec
set_option maxRecDepth 100000
set_option maxHeartbeats 8000000
namespace Mine
theorem reg_L5T_1 : True := by
  k_with_none
  k_with "mp" => (first | assumption | lia | decide | (simp; lia) | (simp_all; done) | (simp_all; lia))
  k_with "mN" => (first | k_asm | exact cb_drop (by assumption) (by first | kcj_in | kcj_all))
  k_with "mGW" => (first | assumption | exact Glb.keep (by assumption) (Fr.keep (by assumption)) | exact Glb.keep (by assumption) (Below.stays (by assumption)))
  k_with "mG" => (first | assumption | exact Glb.keep (by assumption) (Fr.keep (by assumption)))
  k_with "mo" => (first | lia | (dsimp only; lia))
  k_with "mr" => (first | exact rfl | assumption)
  k_with "subscriptTail" => ((k_here; (with_reducible show wpAny _ _ (subscriptTail _ _ (Value.str (mk _) _) (Value.int _ _)) _ _ _); (refine' r_item (by lia) (by lia) (by lia) ?_); intro _ _))
  k_with "subscriptTail" => ((k_here; (with_reducible rename Fr _ _ _ _ => F'); (with_reducible rename News _ _ _ _ => N'); (with_reducible show wpAny _ _ (subscriptTail _ (Expr.Slice (some _) (some _) none _) (Value.str (mk _) _) (Value.ref _)) _ _ _); (refine' r_slice_ss (s := ⟨_, _, _, _, _⟩) F' N' (by lia) (by lia) (by lia) (by lia) ?_); intro _ _ _ _ _))
  k_with "subscriptTail" => ((k_here; (with_reducible rename Fr _ _ _ _ => F'); (with_reducible rename News _ _ _ _ => N'); (with_reducible show wpAny _ _ (subscriptTail _ (Expr.Slice (some _) none none _) (Value.str (mk _) _) (Value.ref _)) _ _ _); (refine' r_slice_sn (s := ⟨_, _, _, _, _⟩) F' N' (by lia) (by lia) (by lia) ?_); intro _ _ _ _ _))
  k_with "subscriptTail" => ((k_here; (with_reducible rename Fr _ _ _ _ => F'); (with_reducible rename News _ _ _ _ => N'); (with_reducible show wpAny _ _ (subscriptTail _ (Expr.Slice none (some _) none _) (Value.str (mk _) _) (Value.ref _)) _ _ _); (refine' r_slice_ns (s := ⟨_, _, _, _, _⟩) F' N' (by lia) (by lia) (by lia) ?_); intro _ _ _ _ _))
  k_with "call builtin:len" => ((k_here; (with_reducible show wpAny _ _ (call (Value.builtin "len") [Value.str (mk _) _]) _ _ _); (refine' r_len (by lia) ?_); intro _ _))
  k_with "binaryOp Add" => ((k_here; (with_reducible show wpAny _ _ (binaryOp Operator.Add (Value.str (mk _) _) (Value.str (mk _) _)) _ _ _); (refine' r_add (by first | lia | (simp; lia)) (by first | lia | (simp; lia)) ?_); intro _ _))
  k_with "compareOp Eq" => ((k_here; (with_reducible show wpAny _ _ (compareOp CmpOp.Eq (Value.str (mk _) _) (Value.str (mk _) _)) _ _ _); refine r_eq ?_))
  k_with "call builtin:str.endswith" => ((k_here; (with_reducible show wpAny _ _ (call (Value.builtin "str.endswith") [Value.str (mk _) _, Value.str (mk _) _]) _ _ _); refine r_ends ?_))
  k_with "exec For Name Call cons nil" => ((k_here; refine Stop.out ?_))
  k_with "pyIter ref" => ((k_here; refine Stop.out ?_))
  k_with "compareOp Eq" => ((k_here; (with_reducible show wpAny _ _ (compareOp CmpOp.Eq (Value.str (mk _) _) (Value.str (mk _) _)) _ _ _); refine r_eq ?_))
  trivial
theorem anew_len {l : List Nat} : ∀ {tbl : List (List Nat × List Nat)}, (∀ (i : Nat) (o n : List Nat), tbl[i]? = some (o, n) → o.length ≤ 10 ∧ n.length ≤ 10) → (anewF l tbl).length ≤ l.length + 10
  | [], _ => by show l.length ≤ _; lia
  | (a, b) :: r, h => by
    show (if a <:+ l then l.take (l.length - a.length) ++ b else anewF l r).length ≤ _
    split
    · have := (h 0 a b rfl).2
      rw [List.length_append, List.length_take]; lia
    · exact anew_len fun i o n e => h (i + 1) o n (by simpa using e)
theorem wo_len {l : List Nat} {e : Int} {ends : List (List Nat)} {x : List Nat} (h : WO l e ends x) : x.length ≤ l.length := by
  rcases h with ⟨p, _, _, _, _, rfl⟩ | ⟨_, rfl⟩
  · rw [List.length_take]; lia
  · lia
inductive CutsL (e : Int) (ends : List (List Nat)) (c : List Nat) : List Nat → Nat → Prop
  | zero : CutsL e ends c c 0
  | step {d d' : List Nat} {n : Nat} (h : CutsL e ends c d n) (w : WO d e ends d') (ne : d' ≠ d) : CutsL e ends c d' (n + 1)
theorem wo_lt {l : List Nat} {e : Int} {ends : List (List Nat)} {x : List Nat} (h : WO l e ends x) (ne : x ≠ l) : x.length < l.length := by
  rcases h with ⟨p, _, hp, _, _, rfl⟩ | ⟨_, rfl⟩
  · rw [List.length_take]; lia
  · exact absurd rfl ne
theorem cuts_len {e : Int} {ends : List (List Nat)} {c d : List Nat} {n : Nat} (h : CutsL e ends c d n) : d.length + n ≤ c.length := by
  induction h with
  | zero => lia
  | step h w ne ih => have := wo_lt w ne; lia
theorem mk_ne {x d : List Nat} (h : (mk x == mk d) = false) : x ≠ d := fun e => by rw [e] at h; simp at h
/-- the loop that cuts -/
noncomputable def LW (c : List Nat) (e : Int) (ends : List (List Nat)) (d : List Nat) : Prop := (∃ n, CutsL e ends c d n) ∧ WO d e ends d
theorem lw_brk {c d x : List Nat} {e : Int} {ends : List (List Nat)} {n : Nat} (h : CutsL e ends c d n) (w : WO d e ends x) (eq : x = d) : LW c e ends d := ⟨⟨n, h⟩, eq ▸ w⟩
theorem lw_done {c d : List Nat} {e : Int} {ends : List (List Nat)} {n : Nat} (h : CutsL e ends c d n) (he : n = c.length) : LW c e ends d := by
  refine ⟨⟨n, h⟩, ?_⟩
  have := cuts_len h
  have hd : d.length = 0 := by lia
  rw [List.length_eq_zero_iff.mp hd]
  exact .inr ⟨fun q _ h2 => by simp at h2, rfl⟩
theorem lw_len {c d : List Nat} {e : Int} {ends : List (List Nat)} (h : LW c e ends d) : d.length ≤ c.length := let ⟨⟨_, h⟩, _⟩ := h; by have := cuts_len h; lia
theorem le_nonneg {l : List Nat} {p : Int} (h : LE l (firstN l) p) : 0 ≤ p ∧ p ≤ l.length + 1 := by
  rcases h with ⟨k, _, _, _, _, rfl⟩ | ⟨_, rfl⟩ <;> lia
/-- the law's own reading of a stem -/
noncomputable def LS (l : List Nat) (once often : List (List Nat)) (x : List Nat) : Prop := ∃ (p : Int) (b d : List Nat), LE l (firstN l) p ∧ WO (anewF l clashT) p once b ∧ LW (anewF b hardT) p often d ∧ x = anewF (anewF (anewF d hardT) gdT) markT
theorem edge_ok2 : ∀ {w : World} {dp un : Nat} {gd : Option (List Code)} {cn : Str} {cs : Scope} {a : Addr} {ccd : Value} {cl : List (Str × Addr)} {outer : List Env} {A₀ : Around} {base h₀ : Heap} {L : Addr} {m : Str → Option Value} {s : Shared} {Q E : Value → Shared → Prop} {mean : ExcName → Option Value} {mg mb : Str → Option Value} {rest : List (Addr × Obj)} {l : List Nat} {t : Tok}
    (B : Below A₀ base outer h₀) (F : Fr h₀ L s.heap m) (X : (MineH.KK w.params).In h₀) (N : News h₀ L s.heap rest)
    (T : Top MineH.VW (looseW MineH.VW loose0) mean mg mb h₀) (hk : cs.kind = .function) (hdp : dp + 6 < recursionLimit) (hun : un + 34 < cLine) (hl : l.length ≤ 400)
    (hret : ∀ (p : Int) (u : Tok) (h' : Heap) (tk' : Nat), LE l (firstN l) p → 0 ≤ p → p ≤ l.length + 1 → Fr h₀ L h' m → News h₀ L h' rest → Q (.int p u) { s with heap := h', toks := tk' }),
    wpAny (model PySem.Challenge.rw_iu0024_01.row.prog w) (ktrTop dp un gd cn cs L a ccd cl outer) (call (.ref 1157) [.str (mk l) t]) Q E s := by
  intro w dp un gd cn cs a ccd cl outer A₀ base h₀ L m s Q E mean mg mb rest l t B F X N T hk hdp hun hl hret
  exact edge_ok B F X N T hk hdp hun hl fun p u h' tk' e => hret p u h' tk' e (le_nonneg e).1 (le_nonneg e).2
theorem anew_ok2 : ∀ {w : World} {dp un : Nat} {gd : Option (List Code)} {cn : Str} {cs : Scope} {a : Addr} {ccd : Value} {cl : List (Str × Addr)} {outer : List Env} {A₀ : Around} {base h₀ : Heap} {L : Addr} {m : Str → Option Value} {s : Shared} {Q E : Value → Shared → Prop} {mean : ExcName → Option Value} {mg mb : Str → Option Value} {rest : List (Addr × Obj)} {l : List Nat} {t : Tok} {v : Addr} {tbl : List (List Nat × List Nat)}
    (B : Below A₀ base outer h₀) (F : Fr h₀ L s.heap m) (X : (MineH.KK w.params).In h₀) (N : News h₀ L s.heap rest)
    (T : Top MineH.VW (looseW MineH.VW loose0) mean mg mb h₀) (hk : cs.kind = .function) (hdp : dp + 6 < recursionLimit) (hun : un + 34 < cLine) (hl : l.length ≤ 400) (PT : PairTab h₀ v tbl) (hb : ∀ (i : Nat) (o n : List Nat), tbl[i]? = some (o, n) → o.length ≤ 10 ∧ n.length ≤ 10)
    (hret : ∀ (x : List Nat) (u : Tok) (h' : Heap) (tk' : Nat), x = anewF l tbl → x.length ≤ l.length + 10 → Fr h₀ L h' m → News h₀ L h' rest → Q (.str (mk x) u) { s with heap := h', toks := tk' }),
    wpAny (model PySem.Challenge.rw_iu0024_01.row.prog w) (ktrTop dp un gd cn cs L a ccd cl outer) (call (.ref 1164) [.str (mk l) t, .ref v]) Q E s := by
  intro w dp un gd cn cs a ccd cl outer A₀ base h₀ L m s Q E mean mg mb rest l t v tbl B F X N T hk hdp hun hl PT hb hret
  exact anew_ok B F X N T hk hdp hun hl PT hb fun x u h' tk' e => hret x u h' tk' e (e ▸ anew_len hb)
theorem without_ok2 : ∀ {w : World} {dp un : Nat} {gd : Option (List Code)} {cn : Str} {cs : Scope} {a : Addr} {ccd : Value} {cl : List (Str × Addr)} {outer : List Env} {A₀ : Around} {base h₀ : Heap} {L : Addr} {m : Str → Option Value} {s : Shared} {Q E : Value → Shared → Prop} {mean : ExcName → Option Value} {mg mb : Str → Option Value} {rest : List (Addr × Obj)} {l : List Nat} {t u : Tok} {R : Addr} {e : Int} {ob : Obj} {vs : List Value} {ends : List (List Nat)}
    (B : Below A₀ base outer h₀) (F : Fr h₀ L s.heap m) (X : (MineH.KK w.params).In h₀) (N : News h₀ L s.heap rest)
    (T : Top MineH.VW (looseW MineH.VW loose0) mean mg mb h₀) (hk : cs.kind = .function) (hdp : dp + 6 < recursionLimit) (hun : un + 34 < cLine) (hl : l.length ≤ 400) (he : 0 ≤ e) (he2 : e ≤ 1000) (hm : (R, ob) ∈ rest) (hob : ∀ h : Heap, h.get? R = some ob → h.IsList R vs.toArray) (hS : StrsAre vs (ends.map mk))
    (hret : ∀ (x : List Nat) (t' : Tok) (h' : Heap) (tk' : Nat), WO l e ends x → x.length ≤ l.length → Fr h₀ L h' m → News h₀ L h' rest → Q (.str (mk x) t') { s with heap := h', toks := tk' }),
    wpAny (model PySem.Challenge.rw_iu0024_01.row.prog w) (ktrTop dp un gd cn cs L a ccd cl outer) (call (.ref 1171) [.str (mk l) t, .int e u, .ref R]) Q E s := by
  intro w dp un gd cn cs a ccd cl outer A₀ base h₀ L m s Q E mean mg mb rest l t u R e ob vs ends B F X N T hk hdp hun hl he he2 hm hob hS hret
  exact without_ok B F X N T hk hdp hun hl he he2 hm hob hS fun x u h' tk' e => hret x u h' tk' e (wo_len e)
theorem reg_L5T_2 : True := by
  k_with "call ref" => ((k_here; (with_reducible show wpAny _ _ (call (Value.ref 1157) _) _ _ _); k_dflt (apply edge_ok2; (case F => k_asm); (case N => k_asm); (case B => k_asm); (case X => k_asm); (case T => k_asm); (case hk => walk_at "mr"); (case hdp => walk_at "mo"); (case hun => walk_at "mo"); (case hl => lia); intros; (try k_sweep))))
  k_with "call ref" => ((k_here; (with_reducible show wpAny _ _ (call (Value.ref 1164) _) _ _ _); k_dflt (apply anew_ok2; (case F => k_asm); (case N => k_asm); (case B => k_asm); (case X => k_asm); (case T => k_asm); (case hk => walk_at "mr"); (case hdp => walk_at "mo"); (case hun => walk_at "mo"); (case hl => lia); (case PT => first | exact pt_clash (by assumption) | exact pt_hard (by assumption) | exact pt_gd (by assumption) | exact pt_mark (by assumption)); (case hb => first | exact pb_clash | exact pb_hard | exact pb_gd | exact pb_mark); intros; (try k_sweep))))
  k_with "call ref" => ((k_here; (with_reducible show wpAny _ _ (call (Value.ref 1171) _) _ _ _); k_dflt (apply without_ok2; (case F => k_asm); (case N => k_asm); (case B => k_asm); (case X => k_asm); (case T => k_asm); (case hk => walk_at "mr"); (case hdp => walk_at "mo"); (case hun => walk_at "mo"); (case hl => lia); (case he => lia); (case he2 => lia); (case hm => first | assumption | exact List.mem_append_left _ (by assumption)); (case hob => assumption); (case hS => assumption); intros; (try k_sweep))))
  trivial
theorem stem_ok : ∀ {w : World} {dp un : Nat} {gd : Option (List Code)} {cn : Str} {cs : Scope} {a : Addr} {ccd : Value} {cl : List (Str × Addr)} {outer : List Env} {A₀ : Around} {base h₀ : Heap} {L : Addr} {m : Str → Option Value} {s : Shared} {Q E : Value → Shared → Prop} {mean : ExcName → Option Value} {mg mb : Str → Option Value} {rest : List (Addr × Obj)} {l : List Nat} {t : Tok} {R1 R2 : Addr} {ob1 ob2 : Obj} {vs1 vs2 : List Value} {once often : List (List Nat)}
    (B : Below A₀ base outer h₀) (F : Fr h₀ L s.heap m) (X : (MineH.KK w.params).In h₀) (N : News h₀ L s.heap rest)
    (T : Top MineH.VW (looseW MineH.VW loose0) mean mg mb h₀) (hk : cs.kind = .function) (hdp : dp + 14 < recursionLimit) (hun : un + 66 < cLine) (hl : l.length ≤ 200) (hm1 : (R1, ob1) ∈ rest) (hob1 : ∀ h : Heap, h.get? R1 = some ob1 → h.IsList R1 vs1.toArray) (hS1 : StrsAre vs1 (once.map mk)) (hm2 : (R2, ob2) ∈ rest) (hob2 : ∀ h : Heap, h.get? R2 = some ob2 → h.IsList R2 vs2.toArray) (hS2 : StrsAre vs2 (often.map mk))
    (hret : ∀ (x : List Nat) (t' : Tok) (h' : Heap) (tk' : Nat), LS l once often x → Fr h₀ L h' m → News h₀ L h' rest → Q (.str (mk x) t') { s with heap := h', toks := tk' }),
    wpAny (model PySem.Challenge.rw_iu0024_01.row.prog w) (ktrTop dp un gd cn cs L a ccd cl outer) (call (.ref 1178) [.str (mk l) t, .ref R1, .ref R2]) Q E s := by
  k_fill
  intro w dp un gd cn cs a ccd cl outer A₀ base h₀ L m s Q E mean mg mb rest l t R1 R2 ob1 ob2 vs1 vs2 once often B F X N T hk hdp hun hl hm1 hob1 hS1 hm2 hob2 hS2 hret
  refine wpAny_call ?_
  k_dflt cell_enter
  k_steps
  subst_vars
  (with_reducible rename LE _ _ _ => hLE)
  (with_reducible rename WO _ _ _ _ => hWO)
  (with_reducible rename Fr _ _ _ _ => F3)
  rename_i tw _ _ _ _ _ _ _
  refine Stop.back ?_
  refine for_at F3 (by rfl) (by rfl) ?_
  k_steps
  (with_reducible rename IsRange _ _ _ _ _ _ _ _ => R4)
  (with_reducible rename Fr _ _ _ _ => F4)
  (with_reducible rename News _ _ _ _ => N4)
  refine Stop.back ?_
  obtain ⟨p0, rfl, -⟩ := (⟨_, rfl, hLE⟩ : ∃ p0, p0 = _ ∧ LE l (firstN l) p0)
  obtain ⟨b0, rfl, -⟩ := (⟨_, rfl, hWO⟩ : ∃ b0, b0 = _ ∧ WO (anewF l clashT) p0 once b0)
  refine' mi_up (σ := List Nat × Tok) (fun c => rest) (fun c => [(Str.ofString "word", .str (mk c.1) c.2)]) [Str.ofString "shorter"] (fun pre c => CutsL p0 often (anewF b0 hardT) c.1 pre.length) (anewF b0 hardT, tw) rfl R4 (by lia) (by lia) (by lia) (by lia) rfl F4 ?N ?hk ?hp ?turn ?done
  case N => exact cb_drop N4 (by first | kcj_in | kcj_all)
  case hk => exact Has.cons rfl Has.nil
  case hp => exact CutsL.zero
  case turn =>
    rintro ⟨d, td⟩ pre kk tkk u5 h5 tk5 own e1 e2 hoff p1 F5 N5
    dsimp only at p1 F5
    have hcl := cuts_len p1
    k_steps
    all_goals (try dsimp only [MiPost])
    all_goals (first
      | (rename_i x0 y0 _ _ w0 _ _ z0 _ _ _; refine' mi_end (x0, y0) ?kF ?kN ?kn ?ko rfl ?kp ?kr ?kP; (case kN => assumption); (case kF => assumption); (case kn => intro p hp; exact List.mem_append_left _ hp); (case ko => intro p hp; exact List.mem_append_right _ hp); (case kp => exact Has.cons rfl Has.nil); (case kr => (intro z q0 q1 q2; simp only [List.forall_mem_cons, List.not_mem_nil, false_implies, implies_true, and_true, ne_eq, List.contains_cons, List.contains_nil, Bool.or_false, beq_eq_false_iff_ne] at q0 q1 q2; simp [kstB, q0, q1, q2])); (case kP => (rw [List.length_append]; exact CutsL.step p1 w0 (mk_ne z0))))
      | skip)
    (with_reducible rename WO _ _ _ _ => hW2)
    have hLW := lw_brk p1 hW2 (mk_inj (eq_of_beq (by assumption)))
    have hdl := lw_len hLW
    k_steps
    all_goals (refine' hret _ _ _ _ ?e0 ?kF ?kN; (case kN => first | assumption | exact cb_drop (by assumption) (by first | kcj_in | kcj_all)); (case kF => assumption); (case e0 => subst_vars; exact ⟨_, _, _, hLE, hWO, hLW, rfl⟩))
  case done =>
    rintro ⟨d, td⟩ pre u6 h6 tk6 e1 p1 F6 N6
    dsimp only at p1 F6
    have hLW := lw_done p1 (by lia)
    have hdl := lw_len hLW
    k_steps
    all_goals (refine' hret _ _ _ _ ?e0 ?kF ?kN; (case kN => first | assumption | exact cb_drop (by assumption) (by first | kcj_in | kcj_all)); (case kF => assumption); (case e0 => subst_vars; exact ⟨_, _, _, hLE, hWO, hLW, rfl⟩))
end Mine
end
section
open PySem PySem.W PySem.Calls PyProof.Rows
set_option maxRecDepth 1000000
set_option maxHeartbeats 0
set_option linter.unusedVariables false
namespace MineH
noncomputable abbrev denQ : Code → Sem PySem.Fin := PySem.W.Fast.tw11892475500146522536 PySem.W.Fast.tw14364793385576792824
theorem den_eq : denote table = denQ := by
  rw [table_eq_tree, PySem.W.Fast.te11892475500146522536, PySem.W.Fast.te14364793385576792824]
noncomputable abbrev pw : Program := PySem.Challenge.pw_iu0024_01
noncomputable def S0 (P : Params) : St := ⟨(.node (boot_o_0 P) (.node (boot_o_1 P) (.node (boot_o_3 P) (.node (boot_o_7 P) .nil .nil) .nil) (.node (boot_o_5 P) (.node (boot_o_9 P) .nil .nil) .nil)) (.node (boot_o_2 P) (.node (boot_o_4 P) (.node (boot_o_8 P) .nil .nil) .nil) (.node (boot_o_6 P) (.node (boot_o_10 P) .nil .nil) .nil))), 11, boot_toks⟩
noncomputable abbrev s1_2 (P : Params) : Obj := ⟨.none, none, (.dict [].toArray 0), [].toArray⟩
noncomputable abbrev s1_3 (P : Params) : Obj := ⟨(.type "dict"), none, (.dict [⟨PyData.keyHash P (Str.ofString "__name__"), (.str (Str.ofString "__name__") 165), (.str (Str.ofString "__main__") 164)⟩, ⟨PyData.keyHash P (Str.ofString "__doc__"), (.str (Str.ofString "__doc__") 166), .none⟩, ⟨PyData.keyHash P (Str.ofString "__package__"), (.str (Str.ofString "__package__") 167), .none⟩, ⟨PyData.keyHash P (Str.ofString "__loader__"), (.str (Str.ofString "__loader__") 168), (.builtin "__main__.__loader__#opaque")⟩, ⟨PyData.keyHash P (Str.ofString "__spec__"), (.str (Str.ofString "__spec__") 169), .none⟩, ⟨PyData.keyHash P (Str.ofString "__annotations__"), (.str (Str.ofString "__annotations__") 170), (.ref 6)⟩, ⟨PyData.keyHash P (Str.ofString "__builtins__"), (.str (Str.ofString "__builtins__") 171), (.ref 4)⟩, ⟨PyData.keyHash P (Str.ofString "__file__"), (.str (Str.ofString "__file__") 173), (.str (Str.ofString "/claim/cut.py") 172)⟩, ⟨PyData.keyHash P (Str.ofString "__cached__"), (.str (Str.ofString "__cached__") 174), .none⟩].toArray 9), [].toArray⟩
noncomputable abbrev s1_12 (P : Params) : Obj := ⟨.none, none, (.fields [].toArray), [].toArray⟩
noncomputable def s1 (P : Params) : St := ⟨(.node (boot_o_0 P) (.node (boot_o_1 P) (.node (s1_3 P) (.node (boot_o_7 P) .nil .nil) (.node (o_11 P) .nil .nil)) (.node (boot_o_5 P) (.node (boot_o_9 P) .nil .nil) (.node (o_13 P) .nil .nil))) (.node (s1_2 P) (.node (boot_o_4 P) (.node (boot_o_8 P) .nil .nil) (.node (s1_12 P) .nil .nil)) (.node (boot_o_6 P) (.node (boot_o_10 P) .nil .nil) (.node (o_14 P) .nil .nil)))), 15, 187⟩
noncomputable abbrev s2_2 (P : Params) : Obj := ⟨.none, none, (.dict [].toArray 0), [].toArray⟩
noncomputable abbrev s2_3 (P : Params) : Obj := ⟨(.type "dict"), none, (.dict [⟨PyData.keyHash P (Str.ofString "__name__"), (.str (Str.ofString "__name__") 165), (.str (Str.ofString "snowballstemmer.lithuanian_stemmer") 461)⟩, ⟨PyData.keyHash P (Str.ofString "__doc__"), (.str (Str.ofString "__doc__") 166), .none⟩, ⟨PyData.keyHash P (Str.ofString "__package__"), (.str (Str.ofString "__package__") 167), .none⟩, ⟨PyData.keyHash P (Str.ofString "__loader__"), (.str (Str.ofString "__loader__") 168), (.builtin "__main__.__loader__#opaque")⟩, ⟨PyData.keyHash P (Str.ofString "__spec__"), (.str (Str.ofString "__spec__") 169), .none⟩, ⟨PyData.keyHash P (Str.ofString "__annotations__"), (.str (Str.ofString "__annotations__") 170), (.ref 6)⟩, ⟨PyData.keyHash P (Str.ofString "__builtins__"), (.str (Str.ofString "__builtins__") 171), (.ref 4)⟩, ⟨PyData.keyHash P (Str.ofString "__file__"), (.str (Str.ofString "__file__") 173), (.str (Str.ofString "/claim/cut.py") 172)⟩, ⟨PyData.keyHash P (Str.ofString "__cached__"), (.str (Str.ofString "__cached__") 174), .none⟩, ⟨PyData.keyHash P (Str.ofString "_wall"), (.str (Str.ofString "_wall") 193), (.ref 21)⟩, ⟨PyData.keyHash P (Str.ofString "BaseStemmer"), (.str (Str.ofString "BaseStemmer") 425), (.ref 199)⟩, ⟨PyData.keyHash P (Str.ofString "Among"), (.str (Str.ofString "Among") 460), (.ref 220)⟩].toArray 12), [].toArray⟩
noncomputable abbrev s2_12 (P : Params) : Obj := ⟨.none, none, (.fields [(.int 1 0), (.int 0 0), (.ref 20), (.int 5 0), (.int 0 0), (.ref 27), (.int 151 0), (.int 0 0), (.ref 209)].toArray), [].toArray⟩
noncomputable abbrev s2_199 (P : Params) : Obj := ⟨(.type "type"), none, (.cls ⟨(Str.ofString "BaseStemmer"), [(.type "object")], [(.ref 199), (.type "object")], 198, (Str.ofString "BaseStemmer"), true, [], [], false, none, false⟩), [none, none, (some (.str (Str.ofString "BaseStemmer") 196)), (some (.str (Str.ofString "BaseStemmer") 204)), (some (.builtin "object.__new__")), (some (.bool true))].toArray⟩
noncomputable def s2 (P : Params) : St := ⟨(.node (boot_o_0 P) (.node (boot_o_1 P) (.node (s2_3 P) (.node (boot_o_7 P) (.node (o_15 P) (.node (o_31 P) (.node (o_63 P) (.node (o_127 P) .nil .nil) (.node (o_191 P) .nil .nil)) (.node (o_95 P) (.node (o_159 P) .nil .nil) (.node (o_223 P) .nil .nil))) (.node (o_47 P) (.node (o_79 P) (.node (o_143 P) .nil .nil) (.node (o_207 P) .nil .nil)) (.node (o_111 P) (.node (o_175 P) .nil .nil) .nil))) (.node (o_23 P) (.node (o_39 P) (.node (o_71 P) (.node (o_135 P) .nil .nil) (.node (s2_199 P) .nil .nil)) (.node (o_103 P) (.node (o_167 P) .nil .nil) .nil)) (.node (o_55 P) (.node (o_87 P) (.node (o_151 P) .nil .nil) (.node (o_215 P) .nil .nil)) (.node (o_119 P) (.node (o_183 P) .nil .nil) .nil)))) (.node (o_11 P) (.node (o_19 P) (.node (o_35 P) (.node (o_67 P) (.node (o_131 P) .nil .nil) (.node (o_195 P) .nil .nil)) (.node (o_99 P) (.node (o_163 P) .nil .nil) .nil)) (.node (o_51 P) (.node (o_83 P) (.node (o_147 P) .nil .nil) (.node (o_211 P) .nil .nil)) (.node (o_115 P) (.node (o_179 P) .nil .nil) .nil))) (.node (o_27 P) (.node (o_43 P) (.node (o_75 P) (.node (o_139 P) .nil .nil) (.node (o_203 P) .nil .nil)) (.node (o_107 P) (.node (o_171 P) .nil .nil) .nil)) (.node (o_59 P) (.node (o_91 P) (.node (o_155 P) .nil .nil) (.node (o_219 P) .nil .nil)) (.node (o_123 P) (.node (o_187 P) .nil .nil) .nil))))) (.node (boot_o_5 P) (.node (boot_o_9 P) (.node (o_17 P) (.node (o_33 P) (.node (o_65 P) (.node (o_129 P) .nil .nil) (.node (o_193 P) .nil .nil)) (.node (o_97 P) (.node (o_161 P) .nil .nil) .nil)) (.node (o_49 P) (.node (o_81 P) (.node (o_145 P) .nil .nil) (.node (o_209 P) .nil .nil)) (.node (o_113 P) (.node (o_177 P) .nil .nil) .nil))) (.node (o_25 P) (.node (o_41 P) (.node (o_73 P) (.node (o_137 P) .nil .nil) (.node (o_201 P) .nil .nil)) (.node (o_105 P) (.node (o_169 P) .nil .nil) .nil)) (.node (o_57 P) (.node (o_89 P) (.node (o_153 P) .nil .nil) (.node (o_217 P) .nil .nil)) (.node (o_121 P) (.node (o_185 P) .nil .nil) .nil)))) (.node (o_13 P) (.node (o_21 P) (.node (o_37 P) (.node (o_69 P) (.node (o_133 P) .nil .nil) (.node (o_197 P) .nil .nil)) (.node (o_101 P) (.node (o_165 P) .nil .nil) .nil)) (.node (o_53 P) (.node (o_85 P) (.node (o_149 P) .nil .nil) (.node (o_213 P) .nil .nil)) (.node (o_117 P) (.node (o_181 P) .nil .nil) .nil))) (.node (o_29 P) (.node (o_45 P) (.node (o_77 P) (.node (o_141 P) .nil .nil) (.node (o_205 P) .nil .nil)) (.node (o_109 P) (.node (o_173 P) .nil .nil) .nil)) (.node (o_61 P) (.node (o_93 P) (.node (o_157 P) .nil .nil) (.node (o_221 P) .nil .nil)) (.node (o_125 P) (.node (o_189 P) .nil .nil) .nil)))))) (.node (s2_2 P) (.node (boot_o_4 P) (.node (boot_o_8 P) (.node (o_16 P) (.node (o_32 P) (.node (o_64 P) (.node (o_128 P) .nil .nil) (.node (o_192 P) .nil .nil)) (.node (o_96 P) (.node (o_160 P) .nil .nil) (.node (o_224 P) .nil .nil))) (.node (o_48 P) (.node (o_80 P) (.node (o_144 P) .nil .nil) (.node (o_208 P) .nil .nil)) (.node (o_112 P) (.node (o_176 P) .nil .nil) .nil))) (.node (o_24 P) (.node (o_40 P) (.node (o_72 P) (.node (o_136 P) .nil .nil) (.node (o_200 P) .nil .nil)) (.node (o_104 P) (.node (o_168 P) .nil .nil) .nil)) (.node (o_56 P) (.node (o_88 P) (.node (o_152 P) .nil .nil) (.node (o_216 P) .nil .nil)) (.node (o_120 P) (.node (o_184 P) .nil .nil) .nil)))) (.node (s2_12 P) (.node (o_20 P) (.node (o_36 P) (.node (o_68 P) (.node (o_132 P) .nil .nil) (.node (o_196 P) .nil .nil)) (.node (o_100 P) (.node (o_164 P) .nil .nil) .nil)) (.node (o_52 P) (.node (o_84 P) (.node (o_148 P) .nil .nil) (.node (o_212 P) .nil .nil)) (.node (o_116 P) (.node (o_180 P) .nil .nil) .nil))) (.node (o_28 P) (.node (o_44 P) (.node (o_76 P) (.node (o_140 P) .nil .nil) (.node (o_204 P) .nil .nil)) (.node (o_108 P) (.node (o_172 P) .nil .nil) .nil)) (.node (o_60 P) (.node (o_92 P) (.node (o_156 P) .nil .nil) (.node (o_220 P) .nil .nil)) (.node (o_124 P) (.node (o_188 P) .nil .nil) .nil))))) (.node (boot_o_6 P) (.node (boot_o_10 P) (.node (o_18 P) (.node (o_34 P) (.node (o_66 P) (.node (o_130 P) .nil .nil) (.node (o_194 P) .nil .nil)) (.node (o_98 P) (.node (o_162 P) .nil .nil) .nil)) (.node (o_50 P) (.node (o_82 P) (.node (o_146 P) .nil .nil) (.node (o_210 P) .nil .nil)) (.node (o_114 P) (.node (o_178 P) .nil .nil) .nil))) (.node (o_26 P) (.node (o_42 P) (.node (o_74 P) (.node (o_138 P) .nil .nil) (.node (o_202 P) .nil .nil)) (.node (o_106 P) (.node (o_170 P) .nil .nil) .nil)) (.node (o_58 P) (.node (o_90 P) (.node (o_154 P) .nil .nil) (.node (o_218 P) .nil .nil)) (.node (o_122 P) (.node (o_186 P) .nil .nil) .nil)))) (.node (o_14 P) (.node (o_22 P) (.node (o_38 P) (.node (o_70 P) (.node (o_134 P) .nil .nil) (.node (o_198 P) .nil .nil)) (.node (o_102 P) (.node (o_166 P) .nil .nil) .nil)) (.node (o_54 P) (.node (o_86 P) (.node (o_150 P) .nil .nil) (.node (o_214 P) .nil .nil)) (.node (o_118 P) (.node (o_182 P) .nil .nil) .nil))) (.node (o_30 P) (.node (o_46 P) (.node (o_78 P) (.node (o_142 P) .nil .nil) (.node (o_206 P) .nil .nil)) (.node (o_110 P) (.node (o_174 P) .nil .nil) .nil)) (.node (o_62 P) (.node (o_94 P) (.node (o_158 P) .nil .nil) (.node (o_222 P) .nil .nil)) (.node (o_126 P) (.node (o_190 P) .nil .nil) .nil))))))), 225, 463⟩
noncomputable abbrev s3_2 (P : Params) : Obj := ⟨.none, none, (.dict [].toArray 0), [].toArray⟩
noncomputable abbrev s3_3 (P : Params) : Obj := ⟨(.type "dict"), none, (.dict [⟨PyData.keyHash P (Str.ofString "__name__"), (.str (Str.ofString "__name__") 165), (.str (Str.ofString "snowballstemmer.lithuanian_stemmer") 461)⟩, ⟨PyData.keyHash P (Str.ofString "__doc__"), (.str (Str.ofString "__doc__") 166), .none⟩, ⟨PyData.keyHash P (Str.ofString "__package__"), (.str (Str.ofString "__package__") 167), .none⟩, ⟨PyData.keyHash P (Str.ofString "__loader__"), (.str (Str.ofString "__loader__") 168), (.builtin "__main__.__loader__#opaque")⟩, ⟨PyData.keyHash P (Str.ofString "__spec__"), (.str (Str.ofString "__spec__") 169), .none⟩, ⟨PyData.keyHash P (Str.ofString "__annotations__"), (.str (Str.ofString "__annotations__") 170), (.ref 6)⟩, ⟨PyData.keyHash P (Str.ofString "__builtins__"), (.str (Str.ofString "__builtins__") 171), (.ref 4)⟩, ⟨PyData.keyHash P (Str.ofString "__file__"), (.str (Str.ofString "__file__") 173), (.str (Str.ofString "/claim/cut.py") 172)⟩, ⟨PyData.keyHash P (Str.ofString "__cached__"), (.str (Str.ofString "__cached__") 174), .none⟩, ⟨PyData.keyHash P (Str.ofString "_wall"), (.str (Str.ofString "_wall") 193), (.ref 21)⟩, ⟨PyData.keyHash P (Str.ofString "BaseStemmer"), (.str (Str.ofString "BaseStemmer") 425), (.ref 199)⟩, ⟨PyData.keyHash P (Str.ofString "Among"), (.str (Str.ofString "Among") 460), (.ref 220)⟩].toArray 12), [].toArray⟩
noncomputable abbrev s3_12 (P : Params) : Obj := ⟨.none, none, (.fields [(.int 1 0), (.int 0 0), (.ref 20), (.int 5 0), (.int 0 0), (.ref 27), (.int 151 0), (.int 0 0), (.ref 209), (.int 158 0), (.int 0 0), (.ref 230)].toArray), [].toArray⟩
noncomputable abbrev s3_199 (P : Params) : Obj := ⟨(.type "type"), none, (.cls ⟨(Str.ofString "BaseStemmer"), [(.type "object")], [(.ref 199), (.type "object")], 198, (Str.ofString "BaseStemmer"), true, [], [], false, none, false⟩), [none, none, (some (.str (Str.ofString "BaseStemmer") 196)), (some (.str (Str.ofString "BaseStemmer") 204)), (some (.builtin "object.__new__")), (some (.bool true))].toArray⟩
noncomputable abbrev s3_227 (P : Params) : Obj := ⟨(.type "dict"), none, (.dict [⟨PyData.keyHash P (Str.ofString "__module__"), (.str (Str.ofString "__module__") 470), (.str (Str.ofString "snowballstemmer.lithuanian_stemmer") 461)⟩, ⟨PyData.keyHash P (Str.ofString "__qualname__"), (.str (Str.ofString "__qualname__") 472), (.str (Str.ofString "LithuanianStemmer") 471)⟩, ⟨PyData.keyHash P (Str.ofString "__firstlineno__"), (.str (Str.ofString "__firstlineno__") 474), (.int 158 473)⟩].toArray 3), [].toArray⟩
noncomputable abbrev s3_229 (P : Params) : Obj := ⟨.none, none, (.fields [].toArray), [].toArray⟩
noncomputable def s3 (P : Params) : St := ⟨(.node (boot_o_0 P) (.node (boot_o_1 P) (.node (s3_3 P) (.node (boot_o_7 P) (.node (o_15 P) (.node (o_31 P) (.node (o_63 P) (.node (o_127 P) .nil .nil) (.node (o_191 P) .nil .nil)) (.node (o_95 P) (.node (o_159 P) .nil .nil) (.node (o_223 P) .nil .nil))) (.node (o_47 P) (.node (o_79 P) (.node (o_143 P) .nil .nil) (.node (o_207 P) .nil .nil)) (.node (o_111 P) (.node (o_175 P) .nil .nil) .nil))) (.node (o_23 P) (.node (o_39 P) (.node (o_71 P) (.node (o_135 P) .nil .nil) (.node (s3_199 P) .nil .nil)) (.node (o_103 P) (.node (o_167 P) .nil .nil) (.node (o_231 P) .nil .nil))) (.node (o_55 P) (.node (o_87 P) (.node (o_151 P) .nil .nil) (.node (o_215 P) .nil .nil)) (.node (o_119 P) (.node (o_183 P) .nil .nil) .nil)))) (.node (o_11 P) (.node (o_19 P) (.node (o_35 P) (.node (o_67 P) (.node (o_131 P) .nil .nil) (.node (o_195 P) .nil .nil)) (.node (o_99 P) (.node (o_163 P) .nil .nil) (.node (s3_227 P) .nil .nil))) (.node (o_51 P) (.node (o_83 P) (.node (o_147 P) .nil .nil) (.node (o_211 P) .nil .nil)) (.node (o_115 P) (.node (o_179 P) .nil .nil) .nil))) (.node (o_27 P) (.node (o_43 P) (.node (o_75 P) (.node (o_139 P) .nil .nil) (.node (o_203 P) .nil .nil)) (.node (o_107 P) (.node (o_171 P) .nil .nil) .nil)) (.node (o_59 P) (.node (o_91 P) (.node (o_155 P) .nil .nil) (.node (o_219 P) .nil .nil)) (.node (o_123 P) (.node (o_187 P) .nil .nil) .nil))))) (.node (boot_o_5 P) (.node (boot_o_9 P) (.node (o_17 P) (.node (o_33 P) (.node (o_65 P) (.node (o_129 P) .nil .nil) (.node (o_193 P) .nil .nil)) (.node (o_97 P) (.node (o_161 P) .nil .nil) (.node (o_225 P) .nil .nil))) (.node (o_49 P) (.node (o_81 P) (.node (o_145 P) .nil .nil) (.node (o_209 P) .nil .nil)) (.node (o_113 P) (.node (o_177 P) .nil .nil) .nil))) (.node (o_25 P) (.node (o_41 P) (.node (o_73 P) (.node (o_137 P) .nil .nil) (.node (o_201 P) .nil .nil)) (.node (o_105 P) (.node (o_169 P) .nil .nil) .nil)) (.node (o_57 P) (.node (o_89 P) (.node (o_153 P) .nil .nil) (.node (o_217 P) .nil .nil)) (.node (o_121 P) (.node (o_185 P) .nil .nil) .nil)))) (.node (o_13 P) (.node (o_21 P) (.node (o_37 P) (.node (o_69 P) (.node (o_133 P) .nil .nil) (.node (o_197 P) .nil .nil)) (.node (o_101 P) (.node (o_165 P) .nil .nil) (.node (s3_229 P) .nil .nil))) (.node (o_53 P) (.node (o_85 P) (.node (o_149 P) .nil .nil) (.node (o_213 P) .nil .nil)) (.node (o_117 P) (.node (o_181 P) .nil .nil) .nil))) (.node (o_29 P) (.node (o_45 P) (.node (o_77 P) (.node (o_141 P) .nil .nil) (.node (o_205 P) .nil .nil)) (.node (o_109 P) (.node (o_173 P) .nil .nil) .nil)) (.node (o_61 P) (.node (o_93 P) (.node (o_157 P) .nil .nil) (.node (o_221 P) .nil .nil)) (.node (o_125 P) (.node (o_189 P) .nil .nil) .nil)))))) (.node (s3_2 P) (.node (boot_o_4 P) (.node (boot_o_8 P) (.node (o_16 P) (.node (o_32 P) (.node (o_64 P) (.node (o_128 P) .nil .nil) (.node (o_192 P) .nil .nil)) (.node (o_96 P) (.node (o_160 P) .nil .nil) (.node (o_224 P) .nil .nil))) (.node (o_48 P) (.node (o_80 P) (.node (o_144 P) .nil .nil) (.node (o_208 P) .nil .nil)) (.node (o_112 P) (.node (o_176 P) .nil .nil) .nil))) (.node (o_24 P) (.node (o_40 P) (.node (o_72 P) (.node (o_136 P) .nil .nil) (.node (o_200 P) .nil .nil)) (.node (o_104 P) (.node (o_168 P) .nil .nil) .nil)) (.node (o_56 P) (.node (o_88 P) (.node (o_152 P) .nil .nil) (.node (o_216 P) .nil .nil)) (.node (o_120 P) (.node (o_184 P) .nil .nil) .nil)))) (.node (s3_12 P) (.node (o_20 P) (.node (o_36 P) (.node (o_68 P) (.node (o_132 P) .nil .nil) (.node (o_196 P) .nil .nil)) (.node (o_100 P) (.node (o_164 P) .nil .nil) (.node (o_228 P) .nil .nil))) (.node (o_52 P) (.node (o_84 P) (.node (o_148 P) .nil .nil) (.node (o_212 P) .nil .nil)) (.node (o_116 P) (.node (o_180 P) .nil .nil) .nil))) (.node (o_28 P) (.node (o_44 P) (.node (o_76 P) (.node (o_140 P) .nil .nil) (.node (o_204 P) .nil .nil)) (.node (o_108 P) (.node (o_172 P) .nil .nil) .nil)) (.node (o_60 P) (.node (o_92 P) (.node (o_156 P) .nil .nil) (.node (o_220 P) .nil .nil)) (.node (o_124 P) (.node (o_188 P) .nil .nil) .nil))))) (.node (boot_o_6 P) (.node (boot_o_10 P) (.node (o_18 P) (.node (o_34 P) (.node (o_66 P) (.node (o_130 P) .nil .nil) (.node (o_194 P) .nil .nil)) (.node (o_98 P) (.node (o_162 P) .nil .nil) (.node (o_226 P) .nil .nil))) (.node (o_50 P) (.node (o_82 P) (.node (o_146 P) .nil .nil) (.node (o_210 P) .nil .nil)) (.node (o_114 P) (.node (o_178 P) .nil .nil) .nil))) (.node (o_26 P) (.node (o_42 P) (.node (o_74 P) (.node (o_138 P) .nil .nil) (.node (o_202 P) .nil .nil)) (.node (o_106 P) (.node (o_170 P) .nil .nil) .nil)) (.node (o_58 P) (.node (o_90 P) (.node (o_154 P) .nil .nil) (.node (o_218 P) .nil .nil)) (.node (o_122 P) (.node (o_186 P) .nil .nil) .nil)))) (.node (o_14 P) (.node (o_22 P) (.node (o_38 P) (.node (o_70 P) (.node (o_134 P) .nil .nil) (.node (o_198 P) .nil .nil)) (.node (o_102 P) (.node (o_166 P) .nil .nil) (.node (o_230 P) .nil .nil))) (.node (o_54 P) (.node (o_86 P) (.node (o_150 P) .nil .nil) (.node (o_214 P) .nil .nil)) (.node (o_118 P) (.node (o_182 P) .nil .nil) .nil))) (.node (o_30 P) (.node (o_46 P) (.node (o_78 P) (.node (o_142 P) .nil .nil) (.node (o_206 P) .nil .nil)) (.node (o_110 P) (.node (o_174 P) .nil .nil) .nil)) (.node (o_62 P) (.node (o_94 P) (.node (o_158 P) .nil .nil) (.node (o_222 P) .nil .nil)) (.node (o_126 P) (.node (o_190 P) .nil .nil) .nil))))))), 232, 475⟩
noncomputable def bQ : List Stmt := behindTheImports pw
noncomputable def cQ : Stmt := bQ.getD 6 (.Pass default)
noncomputable def cb : List Stmt := clsBody cQ
noncomputable def clsScope : Stmt → Scope
  | .ClassDef _ _ _ _ _ _ s .. => s
  | _ => default
noncomputable def benv : Env := { scope := pw.main.scope, locals := mainNs, globals := mainNs, cells := [], code := .ref 13, frame := some 14 }
noncomputable def cenv : Env := { scope := clsScope cQ, locals := 227, globals := mainNs, cells := [], qual := Str.ofString "LithuanianStemmer.", code := .ref 230, frame := some 231, builtins := 0 }
noncomputable def G0 : Ctx := ⟨.builtin "claim.caller" {}, none, none, [], none⟩
noncomputable def pos0 : Pos := default
noncomputable def pos2 : Pos := ⟨157, 0, 157, 8⟩
noncomputable def pos3 : Pos := ⟨158, 0, 282, 21⟩
noncomputable def G1 : Ctx := G0.enter (.body bQ benv) none pos0
noncomputable def G2 : Ctx := G1.enter (.body cb cenv) none pos3
/-- an evaluation that halts at a body -/
inductive TRes (α : Type) where
  | at (c : Code) (h : Option Value) (p : Pos) (s : St) (k : Result → Sem α)
  | no
noncomputable def evTo (S : Setting) (cf : CallF) (Γ : Ctx) {α : Type} (x : Sem α) : Pos → St → TRes α :=
  @Sem.rec α (fun _ => Pos → St → TRes α)
    (fun _ _ _ => .no)
    (fun _ _ _ => .no)
    (fun _ _ _ => .no)
    (fun _ _ _ => .no)
    (fun _ _ k p s => k () p s)
    (fun q _ k _ s => k () q s)
    (fun a _ _ k p s => @Bool.rec (fun _ => TRes α) .no (@Option.rec Obj (fun _ => TRes α) .no (fun o => @Option.rec Obj (fun _ => TRes α) .no (fun o' => k o' p s) (alive o)) (getR s.t a)) (Nat.blt a s.n))
    (fun a _ f _ k p s => @Bool.rec (fun _ => TRes α) .no (@Option.rec Obj (fun _ => TRes α) .no (fun o => @Option.rec Obj (fun _ => TRes α) .no (fun _ => setK s.t a f (fun t' => k () p ⟨t', s.n, s.k⟩)) (alive o)) (getR s.t a)) (Nat.blt a s.n))
    (fun o _ k p s => numK s.n (fun n => insK s.t n o (fun t' => @Option.rec Obj (fun _ => TRes α) .no (fun _ => k n p ⟨t', Nat.succ n, s.k⟩) (getR t' n))))
    (fun a _ k p s => @Bool.rec (fun _ => TRes α) (k none p s) (@Option.rec Obj (fun _ => TRes α) .no (fun o => k (alive o) p s) (getR s.t a)) (Nat.blt a s.n))
    (fun _ _ k p s => k () p s)
    (fun _ _ _ _ _ => .no)
    (fun _ k p s => numK s.k (fun m => k m p ⟨s.t, s.n, Nat.succ m⟩))
    (fun _ k p s => k S p s)
    (fun _ _ _ _ _ _ => .no)
    (fun _ _ _ _ _ _ => .no)
    (fun c h _ _ kk k p s => @Bool.rec (fun _ => TRes α) (@CRes.rec (fun _ => TRes α) (fun r s' => k r p s') .no (cf (Γ.enter c h p) c p s)) (.at c h p s kk)
      (@Code.rec (fun _ => Bool) (fun _ _ => false) (fun _ _ => false) (fun _ _ => true) (fun _ _ => false) (fun _ _ _ => false) (fun _ _ _ _ _ => false) (fun _ _ => false) (fun _ _ => false) (fun _ _ _ _ => false) (fun _ _ _ _ _ => false) (fun _ _ _ _ _ => false) (fun _ _ _ _ _ => false) (fun _ _ _ _ _ => false) c))
    (fun own _ k p s => k (@Bool.rec (fun _ => Option Value) Γ.handled Γ.own own) p s)
    (fun _ _ _ _ _ => .no)
    (fun _ _ _ _ _ => .no)
    (fun _ _ _ _ _ _ _ => .no)
    (fun _ _ _ _ _ _ _ => .no)
    (fun _ k p s => k ((Γ.code, p) :: Γ.below) p s)
    (fun _ _ _ _ _ => .no)
    (fun _ k p s => k 0 p s)
    (fun _ _ _ _ _ _ _ _ => .no)
    x
noncomputable def TRes.k {α : Type} (r : TRes α) : Result → Sem α := @TRes.rec α (fun _ => Result → Sem α) (fun _ _ _ _ k => k) (fun _ => .unsupported "") r
noncomputable abbrev cf (P : Params) : CallF := evC ⟨pw, P⟩ denQ 10000
noncomputable def t0 : Sem PySem.Fin := (topStub pw).cur
noncomputable def k0 (P : Params) : Result → Sem PySem.Fin := (evTo ⟨pw, P⟩ (cf P) G0 t0 pos0 (S0 P)).k
theorem e0 (P : Params) : evTo ⟨pw, P⟩ (cf P) G0 t0 pos0 (S0 P) = .at (.body bQ benv) none pos0 (s1 P) (k0 P) := by kernel_rfl
theorem e1 (P : Params) : ev ⟨pw, P⟩ (cf P) G1 (blockStart bQ benv) pos0 (s1 P) = .ok () pos0 (s1 P) := by kernel_rfl
theorem e2 (P : Params) : ev ⟨pw, P⟩ (cf P) G1 (execs (bQ.take 6) benv) pos0 (s1 P) = .ok .next pos2 (s2 P) := by kernel_rfl
noncomputable def k3 (P : Params) : Result → Sem Flow := (evTo ⟨pw, P⟩ (cf P) G1 (exec cQ benv) pos2 (s2 P)).k
theorem e3 (P : Params) : evTo ⟨pw, P⟩ (cf P) G1 (exec cQ benv) pos2 (s2 P) = .at (.body cb cenv) none pos3 (s3 P) (k3 P) := by kernel_rfl
theorem e4 (P : Params) : ev ⟨pw, P⟩ (cf P) G2 (blockStart cb cenv) pos3 (s3 P) = .ok () pos3 (s3 P) := by kernel_rfl
end MineH
end
section
open PySem PySem.W PySem.Calls PyProof.Rows
set_option maxRecDepth 1000000
set_option maxHeartbeats 0
set_option linter.unusedVariables false
namespace MineH
noncomputable abbrev s4_227 (P : Params) : Obj := ⟨(.type "dict"), none, (.dict [⟨PyData.keyHash P (Str.ofString "__module__"), (.str (Str.ofString "__module__") 470), (.str (Str.ofString "snowballstemmer.lithuanian_stemmer") 461)⟩, ⟨PyData.keyHash P (Str.ofString "__qualname__"), (.str (Str.ofString "__qualname__") 472), (.str (Str.ofString "LithuanianStemmer") 471)⟩, ⟨PyData.keyHash P (Str.ofString "__firstlineno__"), (.str (Str.ofString "__firstlineno__") 474), (.int 158 473)⟩, ⟨PyData.keyHash P (Str.ofString "g_v"), (.str (Str.ofString "g_v") 499), (.ref 232)⟩].toArray 4), [].toArray⟩
noncomputable abbrev s5_227 (P : Params) : Obj := ⟨(.type "dict"), none, (.dict [⟨PyData.keyHash P (Str.ofString "__module__"), (.str (Str.ofString "__module__") 470), (.str (Str.ofString "snowballstemmer.lithuanian_stemmer") 461)⟩, ⟨PyData.keyHash P (Str.ofString "__qualname__"), (.str (Str.ofString "__qualname__") 472), (.str (Str.ofString "LithuanianStemmer") 471)⟩, ⟨PyData.keyHash P (Str.ofString "__firstlineno__"), (.str (Str.ofString "__firstlineno__") 474), (.int 158 473)⟩, ⟨PyData.keyHash P (Str.ofString "g_v"), (.str (Str.ofString "g_v") 499), (.ref 232)⟩, ⟨PyData.keyHash P (Str.ofString "I_p1"), (.str (Str.ofString "I_p1") 501), (.int 0 500)⟩, ⟨PyData.keyHash P (Str.ofString "r_step1"), (.str (Str.ofString "r_step1") 509), (.ref 239)⟩, ⟨PyData.keyHash P (Str.ofString "r_step2"), (.str (Str.ofString "r_step2") 518), (.ref 246)⟩, ⟨PyData.keyHash P (Str.ofString "r_fix_conflicts"), (.str (Str.ofString "r_fix_conflicts") 526), (.ref 253)⟩, ⟨PyData.keyHash P (Str.ofString "r_fix_chdz"), (.str (Str.ofString "r_fix_chdz") 534), (.ref 260)⟩, ⟨PyData.keyHash P (Str.ofString "r_fix_gd"), (.str (Str.ofString "r_fix_gd") 541), (.ref 267)⟩, ⟨PyData.keyHash P (Str.ofString "_stem"), (.str (Str.ofString "_stem") 556), (.ref 274)⟩].toArray 11), [].toArray⟩
noncomputable abbrev s6_227 (P : Params) : Obj := ⟨(.type "dict"), none, (.dict [⟨PyData.keyHash P (Str.ofString "__module__"), (.str (Str.ofString "__module__") 470), (.str (Str.ofString "snowballstemmer.lithuanian_stemmer") 461)⟩, ⟨PyData.keyHash P (Str.ofString "__qualname__"), (.str (Str.ofString "__qualname__") 472), (.str (Str.ofString "LithuanianStemmer") 471)⟩, ⟨PyData.keyHash P (Str.ofString "__firstlineno__"), (.str (Str.ofString "__firstlineno__") 474), (.int 158 473)⟩, ⟨PyData.keyHash P (Str.ofString "g_v"), (.str (Str.ofString "g_v") 499), (.ref 232)⟩, ⟨PyData.keyHash P (Str.ofString "I_p1"), (.str (Str.ofString "I_p1") 501), (.int 0 500)⟩, ⟨PyData.keyHash P (Str.ofString "r_step1"), (.str (Str.ofString "r_step1") 509), (.ref 239)⟩, ⟨PyData.keyHash P (Str.ofString "r_step2"), (.str (Str.ofString "r_step2") 518), (.ref 246)⟩, ⟨PyData.keyHash P (Str.ofString "r_fix_conflicts"), (.str (Str.ofString "r_fix_conflicts") 526), (.ref 253)⟩, ⟨PyData.keyHash P (Str.ofString "r_fix_chdz"), (.str (Str.ofString "r_fix_chdz") 534), (.ref 260)⟩, ⟨PyData.keyHash P (Str.ofString "r_fix_gd"), (.str (Str.ofString "r_fix_gd") 541), (.ref 267)⟩, ⟨PyData.keyHash P (Str.ofString "_stem"), (.str (Str.ofString "_stem") 556), (.ref 274)⟩, ⟨PyData.keyHash P (Str.ofString "a_0"), (.str (Str.ofString "a_0") 3288), (.ref 854)⟩].toArray 12), [].toArray⟩
noncomputable abbrev s7_227 (P : Params) : Obj := ⟨(.type "dict"), none, (.dict [⟨PyData.keyHash P (Str.ofString "__module__"), (.str (Str.ofString "__module__") 470), (.str (Str.ofString "snowballstemmer.lithuanian_stemmer") 461)⟩, ⟨PyData.keyHash P (Str.ofString "__qualname__"), (.str (Str.ofString "__qualname__") 472), (.str (Str.ofString "LithuanianStemmer") 471)⟩, ⟨PyData.keyHash P (Str.ofString "__firstlineno__"), (.str (Str.ofString "__firstlineno__") 474), (.int 158 473)⟩, ⟨PyData.keyHash P (Str.ofString "g_v"), (.str (Str.ofString "g_v") 499), (.ref 232)⟩, ⟨PyData.keyHash P (Str.ofString "I_p1"), (.str (Str.ofString "I_p1") 501), (.int 0 500)⟩, ⟨PyData.keyHash P (Str.ofString "r_step1"), (.str (Str.ofString "r_step1") 509), (.ref 239)⟩, ⟨PyData.keyHash P (Str.ofString "r_step2"), (.str (Str.ofString "r_step2") 518), (.ref 246)⟩, ⟨PyData.keyHash P (Str.ofString "r_fix_conflicts"), (.str (Str.ofString "r_fix_conflicts") 526), (.ref 253)⟩, ⟨PyData.keyHash P (Str.ofString "r_fix_chdz"), (.str (Str.ofString "r_fix_chdz") 534), (.ref 260)⟩, ⟨PyData.keyHash P (Str.ofString "r_fix_gd"), (.str (Str.ofString "r_fix_gd") 541), (.ref 267)⟩, ⟨PyData.keyHash P (Str.ofString "_stem"), (.str (Str.ofString "_stem") 556), (.ref 274)⟩, ⟨PyData.keyHash P (Str.ofString "a_0"), (.str (Str.ofString "a_0") 3288), (.ref 854)⟩, ⟨PyData.keyHash P (Str.ofString "a_1"), (.str (Str.ofString "a_1") 4196), (.ref 1041)⟩].toArray 13), [].toArray⟩
noncomputable def L_0 (P : Params) (X : Obj) : List Obj := (boot_o_0 P) :: (boot_o_1 P) :: (o_2 P) :: (o_3 P) :: (boot_o_4 P) :: (boot_o_5 P) :: (boot_o_6 P) :: (boot_o_7 P) :: (boot_o_8 P) :: (boot_o_9 P) :: (boot_o_10 P) :: (o_11 P) :: (o_12 P) :: (o_13 P) :: (o_14 P) :: (o_15 P) :: (o_16 P) :: (o_17 P) :: (o_18 P) :: (o_19 P) :: (o_20 P) :: (o_21 P) :: (o_22 P) :: (o_23 P) :: (o_24 P) :: (o_25 P) :: (o_26 P) :: (o_27 P) :: (o_28 P) :: (o_29 P) :: (o_30 P) :: (o_31 P) :: (o_32 P) :: (o_33 P) :: (o_34 P) :: (o_35 P) :: (o_36 P) :: (o_37 P) :: (o_38 P) :: (o_39 P) :: (o_40 P) :: (o_41 P) :: (o_42 P) :: (o_43 P) :: (o_44 P) :: (o_45 P) :: (o_46 P) :: (o_47 P) :: (o_48 P) :: (o_49 P) :: (o_50 P) :: (o_51 P) :: (o_52 P) :: (o_53 P) :: (o_54 P) :: (o_55 P) :: (o_56 P) :: (o_57 P) :: (o_58 P) :: (o_59 P) :: (o_60 P) :: (o_61 P) :: (o_62 P) :: (o_63 P) :: (o_64 P) :: (o_65 P) :: (o_66 P) :: (o_67 P) :: (o_68 P) :: (o_69 P) :: (o_70 P) :: (o_71 P) :: (o_72 P) :: (o_73 P) :: (o_74 P) :: (o_75 P) :: (o_76 P) :: (o_77 P) :: (o_78 P) :: (o_79 P) :: (o_80 P) :: (o_81 P) :: (o_82 P) :: (o_83 P) :: (o_84 P) :: (o_85 P) :: (o_86 P) :: (o_87 P) :: (o_88 P) :: (o_89 P) :: (o_90 P) :: (o_91 P) :: (o_92 P) :: (o_93 P) :: (o_94 P) :: (o_95 P) :: (o_96 P) :: (o_97 P) :: (o_98 P) :: (o_99 P) :: []
noncomputable def L_1 (P : Params) (X : Obj) : List Obj := (o_100 P) :: (o_101 P) :: (o_102 P) :: (o_103 P) :: (o_104 P) :: (o_105 P) :: (o_106 P) :: (o_107 P) :: (o_108 P) :: (o_109 P) :: (o_110 P) :: (o_111 P) :: (o_112 P) :: (o_113 P) :: (o_114 P) :: (o_115 P) :: (o_116 P) :: (o_117 P) :: (o_118 P) :: (o_119 P) :: (o_120 P) :: (o_121 P) :: (o_122 P) :: (o_123 P) :: (o_124 P) :: (o_125 P) :: (o_126 P) :: (o_127 P) :: (o_128 P) :: (o_129 P) :: (o_130 P) :: (o_131 P) :: (o_132 P) :: (o_133 P) :: (o_134 P) :: (o_135 P) :: (o_136 P) :: (o_137 P) :: (o_138 P) :: (o_139 P) :: (o_140 P) :: (o_141 P) :: (o_142 P) :: (o_143 P) :: (o_144 P) :: (o_145 P) :: (o_146 P) :: (o_147 P) :: (o_148 P) :: (o_149 P) :: (o_150 P) :: (o_151 P) :: (o_152 P) :: (o_153 P) :: (o_154 P) :: (o_155 P) :: (o_156 P) :: (o_157 P) :: (o_158 P) :: (o_159 P) :: (o_160 P) :: (o_161 P) :: (o_162 P) :: (o_163 P) :: (o_164 P) :: (o_165 P) :: (o_166 P) :: (o_167 P) :: (o_168 P) :: (o_169 P) :: (o_170 P) :: (o_171 P) :: (o_172 P) :: (o_173 P) :: (o_174 P) :: (o_175 P) :: (o_176 P) :: (o_177 P) :: (o_178 P) :: (o_179 P) :: (o_180 P) :: (o_181 P) :: (o_182 P) :: (o_183 P) :: (o_184 P) :: (o_185 P) :: (o_186 P) :: (o_187 P) :: (o_188 P) :: (o_189 P) :: (o_190 P) :: (o_191 P) :: (o_192 P) :: (o_193 P) :: (o_194 P) :: (o_195 P) :: (o_196 P) :: (o_197 P) :: (o_198 P) :: (o_199 P) :: []
noncomputable def L_2 (P : Params) (X : Obj) : List Obj := (o_200 P) :: (o_201 P) :: (o_202 P) :: (o_203 P) :: (o_204 P) :: (o_205 P) :: (o_206 P) :: (o_207 P) :: (o_208 P) :: (o_209 P) :: (o_210 P) :: (o_211 P) :: (o_212 P) :: (o_213 P) :: (o_214 P) :: (o_215 P) :: (o_216 P) :: (o_217 P) :: (o_218 P) :: (o_219 P) :: (o_220 P) :: (o_221 P) :: (o_222 P) :: (o_223 P) :: (o_224 P) :: (o_225 P) :: (o_226 P) :: (o_227 P) :: (o_228 P) :: (o_229 P) :: (o_230 P) :: (o_231 P) :: X :: (o_233 P) :: (o_234 P) :: (o_235 P) :: (o_236 P) :: (o_237 P) :: (o_238 P) :: (o_239 P) :: (o_240 P) :: (o_241 P) :: (o_242 P) :: (o_243 P) :: (o_244 P) :: (o_245 P) :: (o_246 P) :: (o_247 P) :: (o_248 P) :: (o_249 P) :: (o_250 P) :: (o_251 P) :: (o_252 P) :: (o_253 P) :: (o_254 P) :: (o_255 P) :: (o_256 P) :: (o_257 P) :: (o_258 P) :: (o_259 P) :: (o_260 P) :: (o_261 P) :: (o_262 P) :: (o_263 P) :: (o_264 P) :: (o_265 P) :: (o_266 P) :: (o_267 P) :: (o_268 P) :: (o_269 P) :: (o_270 P) :: (o_271 P) :: (o_272 P) :: (o_273 P) :: (o_274 P) :: (aD P 567 (Str.ofString "a") 557 569 (-1) 559 571 (-1) 561) :: (aI 275) :: (aF P 562 276 563 (Str.ofString "a") 557 564 (-1) 559 565 (-1) 561) :: (aD P 581 (Str.ofString "ia") 572 583 0 573 585 (-1) 575) :: (aI 278) :: (aF P 576 279 577 (Str.ofString "ia") 572 578 0 573 579 (-1) 575) :: (aD P 595 (Str.ofString "osna") 586 597 0 587 599 (-1) 589) :: (aI 281) :: (aF P 590 282 591 (Str.ofString "osna") 586 592 0 587 593 (-1) 589) :: (aD P 609 (Str.ofString "iosna") 600 611 2 601 613 (-1) 603) :: (aI 284) :: (aF P 604 285 605 (Str.ofString "iosna") 600 606 2 601 607 (-1) 603) :: (aD P 623 (Str.ofString "uosna") 614 625 2 615 627 (-1) 617) :: (aI 287) :: (aF P 618 288 619 (Str.ofString "uosna") 614 620 2 615 621 (-1) 617) :: (aD P 637 (Str.ofString "iuosna") 628 639 4 629 641 (-1) 631) :: (aI 290) :: (aF P 632 291 633 (Str.ofString "iuosna") 628 634 4 629 635 (-1) 631) :: (aD P 651 (Str.ofString "ysna") 642 653 0 643 655 (-1) 645) :: (aI 293) :: (aF P 646 294 647 (Str.ofString "ysna") 642 648 0 643 649 (-1) 645) :: (aD P 665 (Str.ofString "ėsna") 656 667 0 657 669 (-1) 659) :: (aI 296) :: (aF P 660 297 661 (Str.ofString "ėsna") 656 662 0 657 663 (-1) 659) :: (aD P 680 (Str.ofString "e") 670 682 (-1) 672 684 (-1) 674) :: []
noncomputable def L_3 (P : Params) (X : Obj) : List Obj := (aI 299) :: (aF P 675 300 676 (Str.ofString "e") 670 677 (-1) 672 678 (-1) 674) :: (aD P 694 (Str.ofString "ie") 685 696 8 686 698 (-1) 688) :: (aI 302) :: (aF P 689 303 690 (Str.ofString "ie") 685 691 8 686 692 (-1) 688) :: (aD P 708 (Str.ofString "enie") 699 710 9 700 712 (-1) 702) :: (aI 305) :: (aF P 703 306 704 (Str.ofString "enie") 699 705 9 700 706 (-1) 702) :: (aD P 722 (Str.ofString "oje") 713 724 8 714 726 (-1) 716) :: (aI 308) :: (aF P 717 309 718 (Str.ofString "oje") 713 719 8 714 720 (-1) 716) :: (aD P 736 (Str.ofString "ioje") 727 738 11 728 740 (-1) 730) :: (aI 311) :: (aF P 731 312 732 (Str.ofString "ioje") 727 733 11 728 734 (-1) 730) :: (aD P 750 (Str.ofString "uje") 741 752 8 742 754 (-1) 744) :: (aI 314) :: (aF P 745 315 746 (Str.ofString "uje") 741 747 8 742 748 (-1) 744) :: (aD P 764 (Str.ofString "iuje") 755 766 13 756 768 (-1) 758) :: (aI 317) :: (aF P 759 318 760 (Str.ofString "iuje") 755 761 13 756 762 (-1) 758) :: (aD P 778 (Str.ofString "yje") 769 780 8 770 782 (-1) 772) :: (aI 320) :: (aF P 773 321 774 (Str.ofString "yje") 769 775 8 770 776 (-1) 772) :: (aD P 792 (Str.ofString "enyje") 783 794 15 784 796 (-1) 786) :: (aI 323) :: (aF P 787 324 788 (Str.ofString "enyje") 783 789 15 784 790 (-1) 786) :: (aD P 806 (Str.ofString "ėje") 797 808 8 798 810 (-1) 800) :: (aI 326) :: (aF P 801 327 802 (Str.ofString "ėje") 797 803 8 798 804 (-1) 800) :: (aD P 820 (Str.ofString "ame") 811 822 8 812 824 (-1) 814) :: (aI 329) :: (aF P 815 330 816 (Str.ofString "ame") 811 817 8 812 818 (-1) 814) :: (aD P 834 (Str.ofString "iame") 825 836 18 826 838 (-1) 828) :: (aI 332) :: (aF P 829 333 830 (Str.ofString "iame") 825 831 18 826 832 (-1) 828) :: (aD P 848 (Str.ofString "sime") 839 850 8 840 852 (-1) 842) :: (aI 335) :: (aF P 843 336 844 (Str.ofString "sime") 839 845 8 840 846 (-1) 842) :: (aD P 862 (Str.ofString "ome") 853 864 8 854 866 (-1) 856) :: (aI 338) :: (aF P 857 339 858 (Str.ofString "ome") 853 859 8 854 860 (-1) 856) :: (aD P 876 (Str.ofString "ėme") 867 878 8 868 880 (-1) 870) :: (aI 341) :: (aF P 871 342 872 (Str.ofString "ėme") 867 873 8 868 874 (-1) 870) :: (aD P 890 (Str.ofString "tumėme") 881 892 22 882 894 (-1) 884) :: (aI 344) :: (aF P 885 345 886 (Str.ofString "tumėme") 881 887 22 882 888 (-1) 884) :: (aD P 904 (Str.ofString "ose") 895 906 8 896 908 (-1) 898) :: (aI 347) :: (aF P 899 348 900 (Str.ofString "ose") 895 901 8 896 902 (-1) 898) :: (aD P 918 (Str.ofString "iose") 909 920 24 910 922 (-1) 912) :: (aI 350) :: (aF P 913 351 914 (Str.ofString "iose") 909 915 24 910 916 (-1) 912) :: (aD P 932 (Str.ofString "uose") 923 934 24 924 936 (-1) 926) :: (aI 353) :: (aF P 927 354 928 (Str.ofString "uose") 923 929 24 924 930 (-1) 926) :: (aD P 946 (Str.ofString "iuose") 937 948 26 938 950 (-1) 940) :: (aI 356) :: (aF P 941 357 942 (Str.ofString "iuose") 937 943 26 938 944 (-1) 940) :: (aD P 960 (Str.ofString "yse") 951 962 8 952 964 (-1) 954) :: (aI 359) :: (aF P 955 360 956 (Str.ofString "yse") 951 957 8 952 958 (-1) 954) :: (aD P 974 (Str.ofString "enyse") 965 976 28 966 978 (-1) 968) :: (aI 362) :: (aF P 969 363 970 (Str.ofString "enyse") 965 971 28 966 972 (-1) 968) :: (aD P 988 (Str.ofString "ėse") 979 990 8 980 992 (-1) 982) :: (aI 365) :: (aF P 983 366 984 (Str.ofString "ėse") 979 985 8 980 986 (-1) 982) :: (aD P 1002 (Str.ofString "ate") 993 1004 8 994 1006 (-1) 996) :: (aI 368) :: (aF P 997 369 998 (Str.ofString "ate") 993 999 8 994 1000 (-1) 996) :: (aD P 1016 (Str.ofString "iate") 1007 1018 31 1008 1020 (-1) 1010) :: (aI 371) :: (aF P 1011 372 1012 (Str.ofString "iate") 1007 1013 31 1008 1014 (-1) 1010) :: (aD P 1030 (Str.ofString "ite") 1021 1032 8 1022 1034 (-1) 1024) :: (aI 374) :: (aF P 1025 375 1026 (Str.ofString "ite") 1021 1027 8 1022 1028 (-1) 1024) :: (aD P 1044 (Str.ofString "kite") 1035 1046 33 1036 1048 (-1) 1038) :: (aI 377) :: (aF P 1039 378 1040 (Str.ofString "kite") 1035 1041 33 1036 1042 (-1) 1038) :: (aD P 1058 (Str.ofString "site") 1049 1060 33 1050 1062 (-1) 1052) :: (aI 380) :: (aF P 1053 381 1054 (Str.ofString "site") 1049 1055 33 1050 1056 (-1) 1052) :: (aD P 1072 (Str.ofString "ote") 1063 1074 8 1064 1076 (-1) 1066) :: (aI 383) :: (aF P 1067 384 1068 (Str.ofString "ote") 1063 1069 8 1064 1070 (-1) 1066) :: (aD P 1086 (Str.ofString "tute") 1077 1088 8 1078 1090 (-1) 1080) :: (aI 386) :: (aF P 1081 387 1082 (Str.ofString "tute") 1077 1083 8 1078 1084 (-1) 1080) :: (aD P 1100 (Str.ofString "ėte") 1091 1102 8 1092 1104 (-1) 1094) :: (aI 389) :: (aF P 1095 390 1096 (Str.ofString "ėte") 1091 1097 8 1092 1098 (-1) 1094) :: (aD P 1114 (Str.ofString "tumėte") 1105 1116 38 1106 1118 (-1) 1108) :: (aI 392) :: (aF P 1109 393 1110 (Str.ofString "tumėte") 1105 1111 38 1106 1112 (-1) 1108) :: (aD P 1129 (Str.ofString "i") 1119 1131 (-1) 1121 1133 (-1) 1123) :: (aI 395) :: (aF P 1124 396 1125 (Str.ofString "i") 1119 1126 (-1) 1121 1127 (-1) 1123) :: (aD P 1143 (Str.ofString "ai") 1134 1145 40 1135 1147 (-1) 1137) :: (aI 398) :: []
noncomputable def L_4 (P : Params) (X : Obj) : List Obj := (aF P 1138 399 1139 (Str.ofString "ai") 1134 1140 40 1135 1141 (-1) 1137) :: (aD P 1157 (Str.ofString "iai") 1148 1159 41 1149 1161 (-1) 1151) :: (aI 401) :: (aF P 1152 402 1153 (Str.ofString "iai") 1148 1154 41 1149 1155 (-1) 1151) :: (aD P 1171 (Str.ofString "ei") 1162 1173 40 1163 1175 (-1) 1165) :: (aI 404) :: (aF P 1166 405 1167 (Str.ofString "ei") 1162 1168 40 1163 1169 (-1) 1165) :: (aD P 1185 (Str.ofString "tumei") 1176 1187 43 1177 1189 (-1) 1179) :: (aI 407) :: (aF P 1180 408 1181 (Str.ofString "tumei") 1176 1182 43 1177 1183 (-1) 1179) :: (aD P 1199 (Str.ofString "ki") 1190 1201 40 1191 1203 (-1) 1193) :: (aI 410) :: (aF P 1194 411 1195 (Str.ofString "ki") 1190 1196 40 1191 1197 (-1) 1193) :: (aD P 1213 (Str.ofString "imi") 1204 1215 40 1205 1217 (-1) 1207) :: (aI 413) :: (aF P 1208 414 1209 (Str.ofString "imi") 1204 1210 40 1205 1211 (-1) 1207) :: (aD P 1227 (Str.ofString "umi") 1218 1229 40 1219 1231 (-1) 1221) :: (aI 416) :: (aF P 1222 417 1223 (Str.ofString "umi") 1218 1224 40 1219 1225 (-1) 1221) :: (aD P 1241 (Str.ofString "iumi") 1232 1243 47 1233 1245 (-1) 1235) :: (aI 419) :: (aF P 1236 420 1237 (Str.ofString "iumi") 1232 1238 47 1233 1239 (-1) 1235) :: (aD P 1255 (Str.ofString "si") 1246 1257 40 1247 1259 (-1) 1249) :: (aI 422) :: (aF P 1250 423 1251 (Str.ofString "si") 1246 1252 40 1247 1253 (-1) 1249) :: (aD P 1269 (Str.ofString "asi") 1260 1271 49 1261 1273 (-1) 1263) :: (aI 425) :: (aF P 1264 426 1265 (Str.ofString "asi") 1260 1266 49 1261 1267 (-1) 1263) :: (aD P 1283 (Str.ofString "iasi") 1274 1285 50 1275 1287 (-1) 1277) :: (aI 428) :: (aF P 1278 429 1279 (Str.ofString "iasi") 1274 1280 50 1275 1281 (-1) 1277) :: (aD P 1297 (Str.ofString "esi") 1288 1299 49 1289 1301 (-1) 1291) :: (aI 431) :: (aF P 1292 432 1293 (Str.ofString "esi") 1288 1294 49 1289 1295 (-1) 1291) :: (aD P 1311 (Str.ofString "iesi") 1302 1313 52 1303 1315 (-1) 1305) :: (aI 434) :: (aF P 1306 435 1307 (Str.ofString "iesi") 1302 1308 52 1303 1309 (-1) 1305) :: (aD P 1325 (Str.ofString "siesi") 1316 1327 53 1317 1329 (-1) 1319) :: (aI 437) :: (aF P 1320 438 1321 (Str.ofString "siesi") 1316 1322 53 1317 1323 (-1) 1319) :: (aD P 1339 (Str.ofString "isi") 1330 1341 49 1331 1343 (-1) 1333) :: (aI 440) :: (aF P 1334 441 1335 (Str.ofString "isi") 1330 1336 49 1331 1337 (-1) 1333) :: (aD P 1353 (Str.ofString "aisi") 1344 1355 55 1345 1357 (-1) 1347) :: (aI 443) :: (aF P 1348 444 1349 (Str.ofString "aisi") 1344 1350 55 1345 1351 (-1) 1347) :: (aD P 1367 (Str.ofString "eisi") 1358 1369 55 1359 1371 (-1) 1361) :: (aI 446) :: (aF P 1362 447 1363 (Str.ofString "eisi") 1358 1364 55 1359 1365 (-1) 1361) :: (aD P 1381 (Str.ofString "tumeisi") 1372 1383 57 1373 1385 (-1) 1375) :: (aI 449) :: (aF P 1376 450 1377 (Str.ofString "tumeisi") 1372 1378 57 1373 1379 (-1) 1375) :: (aD P 1395 (Str.ofString "uisi") 1386 1397 55 1387 1399 (-1) 1389) :: (aI 452) :: (aF P 1390 453 1391 (Str.ofString "uisi") 1386 1392 55 1387 1393 (-1) 1389) :: (aD P 1409 (Str.ofString "osi") 1400 1411 49 1401 1413 (-1) 1403) :: (aI 455) :: (aF P 1404 456 1405 (Str.ofString "osi") 1400 1406 49 1401 1407 (-1) 1403) :: (aD P 1423 (Str.ofString "ėjosi") 1414 1425 60 1415 1427 (-1) 1417) :: (aI 458) :: (aF P 1418 459 1419 (Str.ofString "ėjosi") 1414 1420 60 1415 1421 (-1) 1417) :: (aD P 1437 (Str.ofString "uosi") 1428 1439 60 1429 1441 (-1) 1431) :: (aI 461) :: (aF P 1432 462 1433 (Str.ofString "uosi") 1428 1434 60 1429 1435 (-1) 1431) :: (aD P 1451 (Str.ofString "iuosi") 1442 1453 62 1443 1455 (-1) 1445) :: (aI 464) :: (aF P 1446 465 1447 (Str.ofString "iuosi") 1442 1448 62 1443 1449 (-1) 1445) :: (aD P 1465 (Str.ofString "siuosi") 1456 1467 63 1457 1469 (-1) 1459) :: (aI 467) :: (aF P 1460 468 1461 (Str.ofString "siuosi") 1456 1462 63 1457 1463 (-1) 1459) :: (aD P 1479 (Str.ofString "usi") 1470 1481 49 1471 1483 (-1) 1473) :: (aI 470) :: (aF P 1474 471 1475 (Str.ofString "usi") 1470 1476 49 1471 1477 (-1) 1473) :: (aD P 1493 (Str.ofString "ausi") 1484 1495 65 1485 1497 (-1) 1487) :: (aI 473) :: (aF P 1488 474 1489 (Str.ofString "ausi") 1484 1490 65 1485 1491 (-1) 1487) :: (aD P 1507 (Str.ofString "čiausi") 1498 1509 66 1499 1511 (-1) 1501) :: (aI 476) :: (aF P 1502 477 1503 (Str.ofString "čiausi") 1498 1504 66 1499 1505 (-1) 1501) :: (aD P 1521 (Str.ofString "ąsi") 1512 1523 49 1513 1525 (-1) 1515) :: (aI 479) :: (aF P 1516 480 1517 (Str.ofString "ąsi") 1512 1518 49 1513 1519 (-1) 1515) :: (aD P 1535 (Str.ofString "ėsi") 1526 1537 49 1527 1539 (-1) 1529) :: (aI 482) :: (aF P 1530 483 1531 (Str.ofString "ėsi") 1526 1532 49 1527 1533 (-1) 1529) :: (aD P 1549 (Str.ofString "ųsi") 1540 1551 49 1541 1553 (-1) 1543) :: (aI 485) :: (aF P 1544 486 1545 (Str.ofString "ųsi") 1540 1546 49 1541 1547 (-1) 1543) :: (aD P 1563 (Str.ofString "tųsi") 1554 1565 70 1555 1567 (-1) 1557) :: (aI 488) :: (aF P 1558 489 1559 (Str.ofString "tųsi") 1554 1560 70 1555 1561 (-1) 1557) :: (aD P 1577 (Str.ofString "ti") 1568 1579 40 1569 1581 (-1) 1571) :: (aI 491) :: (aF P 1572 492 1573 (Str.ofString "ti") 1568 1574 40 1569 1575 (-1) 1571) :: (aD P 1591 (Str.ofString "enti") 1582 1593 72 1583 1595 (-1) 1585) :: (aI 494) :: (aF P 1586 495 1587 (Str.ofString "enti") 1582 1588 72 1583 1589 (-1) 1585) :: (aD P 1605 (Str.ofString "inti") 1596 1607 72 1597 1609 (-1) 1599) :: (aI 497) :: (aF P 1600 498 1601 (Str.ofString "inti") 1596 1602 72 1597 1603 (-1) 1599) :: []
noncomputable def L_5 (P : Params) (X : Obj) : List Obj := (aD P 1619 (Str.ofString "oti") 1610 1621 72 1611 1623 (-1) 1613) :: (aI 500) :: (aF P 1614 501 1615 (Str.ofString "oti") 1610 1616 72 1611 1617 (-1) 1613) :: (aD P 1633 (Str.ofString "ioti") 1624 1635 75 1625 1637 (-1) 1627) :: (aI 503) :: (aF P 1628 504 1629 (Str.ofString "ioti") 1624 1630 75 1625 1631 (-1) 1627) :: (aD P 1647 (Str.ofString "uoti") 1638 1649 75 1639 1651 (-1) 1641) :: (aI 506) :: (aF P 1642 507 1643 (Str.ofString "uoti") 1638 1644 75 1639 1645 (-1) 1641) :: (aD P 1661 (Str.ofString "iuoti") 1652 1663 77 1653 1665 (-1) 1655) :: (aI 509) :: (aF P 1656 510 1657 (Str.ofString "iuoti") 1652 1658 77 1653 1659 (-1) 1655) :: (aD P 1675 (Str.ofString "auti") 1666 1677 72 1667 1679 (-1) 1669) :: (aI 512) :: (aF P 1670 513 1671 (Str.ofString "auti") 1666 1672 72 1667 1673 (-1) 1669) :: (aD P 1689 (Str.ofString "iauti") 1680 1691 79 1681 1693 (-1) 1683) :: (aI 515) :: (aF P 1684 516 1685 (Str.ofString "iauti") 1680 1686 79 1681 1687 (-1) 1683) :: (aD P 1703 (Str.ofString "yti") 1694 1705 72 1695 1707 (-1) 1697) :: (aI 518) :: (aF P 1698 519 1699 (Str.ofString "yti") 1694 1700 72 1695 1701 (-1) 1697) :: (aD P 1717 (Str.ofString "ėti") 1708 1719 72 1709 1721 (-1) 1711) :: (aI 521) :: (aF P 1712 522 1713 (Str.ofString "ėti") 1708 1714 72 1709 1715 (-1) 1711) :: (aD P 1731 (Str.ofString "telėti") 1722 1733 82 1723 1735 (-1) 1725) :: (aI 524) :: (aF P 1726 525 1727 (Str.ofString "telėti") 1722 1728 82 1723 1729 (-1) 1725) :: (aD P 1745 (Str.ofString "inėti") 1736 1747 82 1737 1749 (-1) 1739) :: (aI 527) :: (aF P 1740 528 1741 (Str.ofString "inėti") 1736 1742 82 1737 1743 (-1) 1739) :: (aD P 1759 (Str.ofString "terėti") 1750 1761 82 1751 1763 (-1) 1753) :: (aI 530) :: (aF P 1754 531 1755 (Str.ofString "terėti") 1750 1756 82 1751 1757 (-1) 1753) :: (aD P 1773 (Str.ofString "ui") 1764 1775 40 1765 1777 (-1) 1767) :: (aI 533) :: (aF P 1768 534 1769 (Str.ofString "ui") 1764 1770 40 1765 1771 (-1) 1767) :: (aD P 1787 (Str.ofString "iui") 1778 1789 86 1779 1791 (-1) 1781) :: (aI 536) :: (aF P 1782 537 1783 (Str.ofString "iui") 1778 1784 86 1779 1785 (-1) 1781) :: (aD P 1801 (Str.ofString "eniui") 1792 1803 87 1793 1805 (-1) 1795) :: (aI 539) :: (aF P 1796 540 1797 (Str.ofString "eniui") 1792 1798 87 1793 1799 (-1) 1795) :: (aD P 1816 (Str.ofString "oj") 1806 1818 (-1) 1808 1820 (-1) 1810) :: (aI 542) :: (aF P 1811 543 1812 (Str.ofString "oj") 1806 1813 (-1) 1808 1814 (-1) 1810) :: (aD P 1831 (Str.ofString "ėj") 1821 1833 (-1) 1823 1835 (-1) 1825) :: (aI 545) :: (aF P 1826 546 1827 (Str.ofString "ėj") 1821 1828 (-1) 1823 1829 (-1) 1825) :: (aD P 1846 (Str.ofString "k") 1836 1848 (-1) 1838 1850 (-1) 1840) :: (aI 548) :: (aF P 1841 549 1842 (Str.ofString "k") 1836 1843 (-1) 1838 1844 (-1) 1840) :: (aD P 1861 (Str.ofString "am") 1851 1863 (-1) 1853 1865 (-1) 1855) :: (aI 551) :: (aF P 1856 552 1857 (Str.ofString "am") 1851 1858 (-1) 1853 1859 (-1) 1855) :: (aD P 1875 (Str.ofString "iam") 1866 1877 92 1867 1879 (-1) 1869) :: (aI 554) :: (aF P 1870 555 1871 (Str.ofString "iam") 1866 1872 92 1867 1873 (-1) 1869) :: (aD P 1890 (Str.ofString "iem") 1880 1892 (-1) 1882 1894 (-1) 1884) :: (aI 557) :: (aF P 1885 558 1886 (Str.ofString "iem") 1880 1887 (-1) 1882 1888 (-1) 1884) :: (aD P 1905 (Str.ofString "im") 1895 1907 (-1) 1897 1909 (-1) 1899) :: (aI 560) :: (aF P 1900 561 1901 (Str.ofString "im") 1895 1902 (-1) 1897 1903 (-1) 1899) :: (aD P 1919 (Str.ofString "sim") 1910 1921 95 1911 1923 (-1) 1913) :: (aI 563) :: (aF P 1914 564 1915 (Str.ofString "sim") 1910 1916 95 1911 1917 (-1) 1913) :: (aD P 1934 (Str.ofString "om") 1924 1936 (-1) 1926 1938 (-1) 1928) :: (aI 566) :: (aF P 1929 567 1930 (Str.ofString "om") 1924 1931 (-1) 1926 1932 (-1) 1928) :: (aD P 1949 (Str.ofString "tum") 1939 1951 (-1) 1941 1953 (-1) 1943) :: (aI 569) :: (aF P 1944 570 1945 (Str.ofString "tum") 1939 1946 (-1) 1941 1947 (-1) 1943) :: (aD P 1964 (Str.ofString "ėm") 1954 1966 (-1) 1956 1968 (-1) 1958) :: (aI 572) :: (aF P 1959 573 1960 (Str.ofString "ėm") 1954 1961 (-1) 1956 1962 (-1) 1958) :: (aD P 1978 (Str.ofString "tumėm") 1969 1980 99 1970 1982 (-1) 1972) :: (aI 575) :: (aF P 1973 576 1974 (Str.ofString "tumėm") 1969 1975 99 1970 1976 (-1) 1972) :: (aD P 1993 (Str.ofString "an") 1983 1995 (-1) 1985 1997 (-1) 1987) :: (aI 578) :: (aF P 1988 579 1989 (Str.ofString "an") 1983 1990 (-1) 1985 1991 (-1) 1987) :: (aD P 2008 (Str.ofString "on") 1998 2010 (-1) 2000 2012 (-1) 2002) :: (aI 581) :: (aF P 2003 582 2004 (Str.ofString "on") 1998 2005 (-1) 2000 2006 (-1) 2002) :: (aD P 2022 (Str.ofString "ion") 2013 2024 102 2014 2026 (-1) 2016) :: (aI 584) :: (aF P 2017 585 2018 (Str.ofString "ion") 2013 2019 102 2014 2020 (-1) 2016) :: (aD P 2037 (Str.ofString "un") 2027 2039 (-1) 2029 2041 (-1) 2031) :: (aI 587) :: (aF P 2032 588 2033 (Str.ofString "un") 2027 2034 (-1) 2029 2035 (-1) 2031) :: (aD P 2051 (Str.ofString "iun") 2042 2053 104 2043 2055 (-1) 2045) :: (aI 590) :: (aF P 2046 591 2047 (Str.ofString "iun") 2042 2048 104 2043 2049 (-1) 2045) :: (aD P 2066 (Str.ofString "ėn") 2056 2068 (-1) 2058 2070 (-1) 2060) :: (aI 593) :: (aF P 2061 594 2062 (Str.ofString "ėn") 2056 2063 (-1) 2058 2064 (-1) 2060) :: (aD P 2081 (Str.ofString "o") 2071 2083 (-1) 2073 2085 (-1) 2075) :: (aI 596) :: (aF P 2076 597 2077 (Str.ofString "o") 2071 2078 (-1) 2073 2079 (-1) 2075) :: (aD P 2095 (Str.ofString "io") 2086 2097 107 2087 2099 (-1) 2089) :: []
noncomputable def L_6 (P : Params) (X : Obj) : List Obj := (aI 599) :: (aF P 2090 600 2091 (Str.ofString "io") 2086 2092 107 2087 2093 (-1) 2089) :: (aD P 2109 (Str.ofString "enio") 2100 2111 108 2101 2113 (-1) 2103) :: (aI 602) :: (aF P 2104 603 2105 (Str.ofString "enio") 2100 2106 108 2101 2107 (-1) 2103) :: (aD P 2123 (Str.ofString "ėjo") 2114 2125 107 2115 2127 (-1) 2117) :: (aI 605) :: (aF P 2118 606 2119 (Str.ofString "ėjo") 2114 2120 107 2115 2121 (-1) 2117) :: (aD P 2137 (Str.ofString "uo") 2128 2139 107 2129 2141 (-1) 2131) :: (aI 608) :: (aF P 2132 609 2133 (Str.ofString "uo") 2128 2134 107 2129 2135 (-1) 2131) :: (aD P 2152 (Str.ofString "s") 2142 2154 (-1) 2144 2156 (-1) 2146) :: (aI 611) :: (aF P 2147 612 2148 (Str.ofString "s") 2142 2149 (-1) 2144 2150 (-1) 2146) :: (aD P 2166 (Str.ofString "as") 2157 2168 112 2158 2170 (-1) 2160) :: (aI 614) :: (aF P 2161 615 2162 (Str.ofString "as") 2157 2163 112 2158 2164 (-1) 2160) :: (aD P 2180 (Str.ofString "ias") 2171 2182 113 2172 2184 (-1) 2174) :: (aI 617) :: (aF P 2175 618 2176 (Str.ofString "ias") 2171 2177 113 2172 2178 (-1) 2174) :: (aD P 2194 (Str.ofString "es") 2185 2196 112 2186 2198 (-1) 2188) :: (aI 620) :: (aF P 2189 621 2190 (Str.ofString "es") 2185 2191 112 2186 2192 (-1) 2188) :: (aD P 2208 (Str.ofString "ies") 2199 2210 115 2200 2212 (-1) 2202) :: (aI 623) :: (aF P 2203 624 2204 (Str.ofString "ies") 2199 2205 115 2200 2206 (-1) 2202) :: (aD P 2222 (Str.ofString "is") 2213 2224 112 2214 2226 (-1) 2216) :: (aI 626) :: (aF P 2217 627 2218 (Str.ofString "is") 2213 2219 112 2214 2220 (-1) 2216) :: (aD P 2236 (Str.ofString "ais") 2227 2238 117 2228 2240 (-1) 2230) :: (aI 629) :: (aF P 2231 630 2232 (Str.ofString "ais") 2227 2233 117 2228 2234 (-1) 2230) :: (aD P 2250 (Str.ofString "iais") 2241 2252 118 2242 2254 (-1) 2244) :: (aI 632) :: (aF P 2245 633 2246 (Str.ofString "iais") 2241 2247 118 2242 2248 (-1) 2244) :: (aD P 2264 (Str.ofString "tumeis") 2255 2266 117 2256 2268 (-1) 2258) :: (aI 635) :: (aF P 2259 636 2260 (Str.ofString "tumeis") 2255 2261 117 2256 2262 (-1) 2258) :: (aD P 2278 (Str.ofString "imis") 2269 2280 117 2270 2282 (-1) 2272) :: (aI 638) :: (aF P 2273 639 2274 (Str.ofString "imis") 2269 2275 117 2270 2276 (-1) 2272) :: (aD P 2292 (Str.ofString "enimis") 2283 2294 121 2284 2296 (-1) 2286) :: (aI 641) :: (aF P 2287 642 2288 (Str.ofString "enimis") 2283 2289 121 2284 2290 (-1) 2286) :: (aD P 2306 (Str.ofString "omis") 2297 2308 117 2298 2310 (-1) 2300) :: (aI 644) :: (aF P 2301 645 2302 (Str.ofString "omis") 2297 2303 117 2298 2304 (-1) 2300) :: (aD P 2320 (Str.ofString "iomis") 2311 2322 123 2312 2324 (-1) 2314) :: (aI 647) :: (aF P 2315 648 2316 (Str.ofString "iomis") 2311 2317 123 2312 2318 (-1) 2314) :: (aD P 2334 (Str.ofString "umis") 2325 2336 117 2326 2338 (-1) 2328) :: (aI 650) :: (aF P 2329 651 2330 (Str.ofString "umis") 2325 2331 117 2326 2332 (-1) 2328) :: (aD P 2348 (Str.ofString "ėmis") 2339 2350 117 2340 2352 (-1) 2342) :: (aI 653) :: (aF P 2343 654 2344 (Str.ofString "ėmis") 2339 2345 117 2340 2346 (-1) 2342) :: (aD P 2362 (Str.ofString "enis") 2353 2364 117 2354 2366 (-1) 2356) :: (aI 656) :: (aF P 2357 657 2358 (Str.ofString "enis") 2353 2359 117 2354 2360 (-1) 2356) :: (aD P 2376 (Str.ofString "asis") 2367 2378 117 2368 2380 (-1) 2370) :: (aI 659) :: (aF P 2371 660 2372 (Str.ofString "asis") 2367 2373 117 2368 2374 (-1) 2370) :: (aD P 2390 (Str.ofString "ysis") 2381 2392 117 2382 2394 (-1) 2384) :: (aI 662) :: (aF P 2385 663 2386 (Str.ofString "ysis") 2381 2387 117 2382 2388 (-1) 2384) :: (aD P 2404 (Str.ofString "ams") 2395 2406 112 2396 2408 (-1) 2398) :: (aI 665) :: (aF P 2399 666 2400 (Str.ofString "ams") 2395 2401 112 2396 2402 (-1) 2398) :: (aD P 2418 (Str.ofString "iams") 2409 2420 130 2410 2422 (-1) 2412) :: (aI 668) :: (aF P 2413 669 2414 (Str.ofString "iams") 2409 2415 130 2410 2416 (-1) 2412) :: (aD P 2432 (Str.ofString "iems") 2423 2434 112 2424 2436 (-1) 2426) :: (aI 671) :: (aF P 2427 672 2428 (Str.ofString "iems") 2423 2429 112 2424 2430 (-1) 2426) :: (aD P 2446 (Str.ofString "ims") 2437 2448 112 2438 2450 (-1) 2440) :: (aI 674) :: (aF P 2441 675 2442 (Str.ofString "ims") 2437 2443 112 2438 2444 (-1) 2440) :: (aD P 2460 (Str.ofString "enims") 2451 2462 133 2452 2464 (-1) 2454) :: (aI 677) :: (aF P 2455 678 2456 (Str.ofString "enims") 2451 2457 133 2452 2458 (-1) 2454) :: (aD P 2474 (Str.ofString "oms") 2465 2476 112 2466 2478 (-1) 2468) :: (aI 680) :: (aF P 2469 681 2470 (Str.ofString "oms") 2465 2471 112 2466 2472 (-1) 2468) :: (aD P 2488 (Str.ofString "ioms") 2479 2490 135 2480 2492 (-1) 2482) :: (aI 683) :: (aF P 2483 684 2484 (Str.ofString "ioms") 2479 2485 135 2480 2486 (-1) 2482) :: (aD P 2502 (Str.ofString "ums") 2493 2504 112 2494 2506 (-1) 2496) :: (aI 686) :: (aF P 2497 687 2498 (Str.ofString "ums") 2493 2499 112 2494 2500 (-1) 2496) :: (aD P 2516 (Str.ofString "ėms") 2507 2518 112 2508 2520 (-1) 2510) :: (aI 689) :: (aF P 2511 690 2512 (Str.ofString "ėms") 2507 2513 112 2508 2514 (-1) 2510) :: (aD P 2530 (Str.ofString "ens") 2521 2532 112 2522 2534 (-1) 2524) :: (aI 692) :: (aF P 2525 693 2526 (Str.ofString "ens") 2521 2527 112 2522 2528 (-1) 2524) :: (aD P 2544 (Str.ofString "os") 2535 2546 112 2536 2548 (-1) 2538) :: (aI 695) :: (aF P 2539 696 2540 (Str.ofString "os") 2535 2541 112 2536 2542 (-1) 2538) :: (aD P 2558 (Str.ofString "ios") 2549 2560 140 2550 2562 (-1) 2552) :: (aI 698) :: []
noncomputable def L_7 (P : Params) (X : Obj) : List Obj := (aF P 2553 699 2554 (Str.ofString "ios") 2549 2555 140 2550 2556 (-1) 2552) :: (aD P 2572 (Str.ofString "uos") 2563 2574 140 2564 2576 (-1) 2566) :: (aI 701) :: (aF P 2567 702 2568 (Str.ofString "uos") 2563 2569 140 2564 2570 (-1) 2566) :: (aD P 2586 (Str.ofString "iuos") 2577 2588 142 2578 2590 (-1) 2580) :: (aI 704) :: (aF P 2581 705 2582 (Str.ofString "iuos") 2577 2583 142 2578 2584 (-1) 2580) :: (aD P 2600 (Str.ofString "us") 2591 2602 112 2592 2604 (-1) 2594) :: (aI 707) :: (aF P 2595 708 2596 (Str.ofString "us") 2591 2597 112 2592 2598 (-1) 2594) :: (aD P 2614 (Str.ofString "aus") 2605 2616 144 2606 2618 (-1) 2608) :: (aI 710) :: (aF P 2609 711 2610 (Str.ofString "aus") 2605 2611 144 2606 2612 (-1) 2608) :: (aD P 2628 (Str.ofString "iaus") 2619 2630 145 2620 2632 (-1) 2622) :: (aI 713) :: (aF P 2623 714 2624 (Str.ofString "iaus") 2619 2625 145 2620 2626 (-1) 2622) :: (aD P 2642 (Str.ofString "ius") 2633 2644 144 2634 2646 (-1) 2636) :: (aI 716) :: (aF P 2637 717 2638 (Str.ofString "ius") 2633 2639 144 2634 2640 (-1) 2636) :: (aD P 2656 (Str.ofString "ys") 2647 2658 112 2648 2660 (-1) 2650) :: (aI 719) :: (aF P 2651 720 2652 (Str.ofString "ys") 2647 2653 112 2648 2654 (-1) 2650) :: (aD P 2670 (Str.ofString "enys") 2661 2672 148 2662 2674 (-1) 2664) :: (aI 722) :: (aF P 2665 723 2666 (Str.ofString "enys") 2661 2667 148 2662 2668 (-1) 2664) :: (aD P 2684 (Str.ofString "ąs") 2675 2686 112 2676 2688 (-1) 2678) :: (aI 725) :: (aF P 2679 726 2680 (Str.ofString "ąs") 2675 2681 112 2676 2682 (-1) 2678) :: (aD P 2698 (Str.ofString "iąs") 2689 2700 150 2690 2702 (-1) 2692) :: (aI 728) :: (aF P 2693 729 2694 (Str.ofString "iąs") 2689 2695 150 2690 2696 (-1) 2692) :: (aD P 2712 (Str.ofString "ės") 2703 2714 112 2704 2716 (-1) 2706) :: (aI 731) :: (aF P 2707 732 2708 (Str.ofString "ės") 2703 2709 112 2704 2710 (-1) 2706) :: (aD P 2726 (Str.ofString "amės") 2717 2728 152 2718 2730 (-1) 2720) :: (aI 734) :: (aF P 2721 735 2722 (Str.ofString "amės") 2717 2723 152 2718 2724 (-1) 2720) :: (aD P 2740 (Str.ofString "iamės") 2731 2742 153 2732 2744 (-1) 2734) :: (aI 737) :: (aF P 2735 738 2736 (Str.ofString "iamės") 2731 2737 153 2732 2738 (-1) 2734) :: (aD P 2754 (Str.ofString "imės") 2745 2756 152 2746 2758 (-1) 2748) :: (aI 740) :: (aF P 2749 741 2750 (Str.ofString "imės") 2745 2751 152 2746 2752 (-1) 2748) :: (aD P 2768 (Str.ofString "kimės") 2759 2770 155 2760 2772 (-1) 2762) :: (aI 743) :: (aF P 2763 744 2764 (Str.ofString "kimės") 2759 2765 155 2760 2766 (-1) 2762) :: (aD P 2782 (Str.ofString "simės") 2773 2784 155 2774 2786 (-1) 2776) :: (aI 746) :: (aF P 2777 747 2778 (Str.ofString "simės") 2773 2779 155 2774 2780 (-1) 2776) :: (aD P 2796 (Str.ofString "omės") 2787 2798 152 2788 2800 (-1) 2790) :: (aI 749) :: (aF P 2791 750 2792 (Str.ofString "omės") 2787 2793 152 2788 2794 (-1) 2790) :: (aD P 2810 (Str.ofString "ėmės") 2801 2812 152 2802 2814 (-1) 2804) :: (aI 752) :: (aF P 2805 753 2806 (Str.ofString "ėmės") 2801 2807 152 2802 2808 (-1) 2804) :: (aD P 2824 (Str.ofString "tumėmės") 2815 2826 159 2816 2828 (-1) 2818) :: (aI 755) :: (aF P 2819 756 2820 (Str.ofString "tumėmės") 2815 2821 159 2816 2822 (-1) 2818) :: (aD P 2838 (Str.ofString "atės") 2829 2840 152 2830 2842 (-1) 2832) :: (aI 758) :: (aF P 2833 759 2834 (Str.ofString "atės") 2829 2835 152 2830 2836 (-1) 2832) :: (aD P 2852 (Str.ofString "iatės") 2843 2854 161 2844 2856 (-1) 2846) :: (aI 761) :: (aF P 2847 762 2848 (Str.ofString "iatės") 2843 2849 161 2844 2850 (-1) 2846) :: (aD P 2866 (Str.ofString "sitės") 2857 2868 152 2858 2870 (-1) 2860) :: (aI 764) :: (aF P 2861 765 2862 (Str.ofString "sitės") 2857 2863 152 2858 2864 (-1) 2860) :: (aD P 2880 (Str.ofString "otės") 2871 2882 152 2872 2884 (-1) 2874) :: (aI 767) :: (aF P 2875 768 2876 (Str.ofString "otės") 2871 2877 152 2872 2878 (-1) 2874) :: (aD P 2894 (Str.ofString "ėtės") 2885 2896 152 2886 2898 (-1) 2888) :: (aI 770) :: (aF P 2889 771 2890 (Str.ofString "ėtės") 2885 2891 152 2886 2892 (-1) 2888) :: (aD P 2908 (Str.ofString "tumėtės") 2899 2910 165 2900 2912 (-1) 2902) :: (aI 773) :: (aF P 2903 774 2904 (Str.ofString "tumėtės") 2899 2905 165 2900 2906 (-1) 2902) :: (aD P 2922 (Str.ofString "įs") 2913 2924 112 2914 2926 (-1) 2916) :: (aI 776) :: (aF P 2917 777 2918 (Str.ofString "įs") 2913 2919 112 2914 2920 (-1) 2916) :: (aD P 2936 (Str.ofString "ūs") 2927 2938 112 2928 2940 (-1) 2930) :: (aI 779) :: (aF P 2931 780 2932 (Str.ofString "ūs") 2927 2933 112 2928 2934 (-1) 2930) :: (aD P 2950 (Str.ofString "tųs") 2941 2952 112 2942 2954 (-1) 2944) :: (aI 782) :: (aF P 2945 783 2946 (Str.ofString "tųs") 2941 2947 112 2942 2948 (-1) 2944) :: (aD P 2965 (Str.ofString "at") 2955 2967 (-1) 2957 2969 (-1) 2959) :: (aI 785) :: (aF P 2960 786 2961 (Str.ofString "at") 2955 2962 (-1) 2957 2963 (-1) 2959) :: (aD P 2979 (Str.ofString "iat") 2970 2981 170 2971 2983 (-1) 2973) :: (aI 788) :: (aF P 2974 789 2975 (Str.ofString "iat") 2970 2976 170 2971 2977 (-1) 2973) :: (aD P 2994 (Str.ofString "it") 2984 2996 (-1) 2986 2998 (-1) 2988) :: (aI 791) :: (aF P 2989 792 2990 (Str.ofString "it") 2984 2991 (-1) 2986 2992 (-1) 2988) :: (aD P 3008 (Str.ofString "sit") 2999 3010 172 3000 3012 (-1) 3002) :: (aI 794) :: (aF P 3003 795 3004 (Str.ofString "sit") 2999 3005 172 3000 3006 (-1) 3002) :: (aD P 3023 (Str.ofString "ot") 3013 3025 (-1) 3015 3027 (-1) 3017) :: (aI 797) :: (aF P 3018 798 3019 (Str.ofString "ot") 3013 3020 (-1) 3015 3021 (-1) 3017) :: []
noncomputable def L_8 (P : Params) (X : Obj) : List Obj := (aD P 3038 (Str.ofString "ėt") 3028 3040 (-1) 3030 3042 (-1) 3032) :: (aI 800) :: (aF P 3033 801 3034 (Str.ofString "ėt") 3028 3035 (-1) 3030 3036 (-1) 3032) :: (aD P 3052 (Str.ofString "tumėt") 3043 3054 175 3044 3056 (-1) 3046) :: (aI 803) :: (aF P 3047 804 3048 (Str.ofString "tumėt") 3043 3049 175 3044 3050 (-1) 3046) :: (aD P 3067 (Str.ofString "u") 3057 3069 (-1) 3059 3071 (-1) 3061) :: (aI 806) :: (aF P 3062 807 3063 (Str.ofString "u") 3057 3064 (-1) 3059 3065 (-1) 3061) :: (aD P 3081 (Str.ofString "au") 3072 3083 177 3073 3085 (-1) 3075) :: (aI 809) :: (aF P 3076 810 3077 (Str.ofString "au") 3072 3078 177 3073 3079 (-1) 3075) :: (aD P 3095 (Str.ofString "iau") 3086 3097 178 3087 3099 (-1) 3089) :: (aI 812) :: (aF P 3090 813 3091 (Str.ofString "iau") 3086 3092 178 3087 3093 (-1) 3089) :: (aD P 3109 (Str.ofString "čiau") 3100 3111 179 3101 3113 (-1) 3103) :: (aI 815) :: (aF P 3104 816 3105 (Str.ofString "čiau") 3100 3106 179 3101 3107 (-1) 3103) :: (aD P 3123 (Str.ofString "iu") 3114 3125 177 3115 3127 (-1) 3117) :: (aI 818) :: (aF P 3118 819 3119 (Str.ofString "iu") 3114 3120 177 3115 3121 (-1) 3117) :: (aD P 3137 (Str.ofString "eniu") 3128 3139 181 3129 3141 (-1) 3131) :: (aI 821) :: (aF P 3132 822 3133 (Str.ofString "eniu") 3128 3134 181 3129 3135 (-1) 3131) :: (aD P 3151 (Str.ofString "siu") 3142 3153 181 3143 3155 (-1) 3145) :: (aI 824) :: (aF P 3146 825 3147 (Str.ofString "siu") 3142 3148 181 3143 3149 (-1) 3145) :: (aD P 3166 (Str.ofString "y") 3156 3168 (-1) 3158 3170 (-1) 3160) :: (aI 827) :: (aF P 3161 828 3162 (Str.ofString "y") 3156 3163 (-1) 3158 3164 (-1) 3160) :: (aD P 3181 (Str.ofString "ą") 3171 3183 (-1) 3173 3185 (-1) 3175) :: (aI 830) :: (aF P 3176 831 3177 (Str.ofString "ą") 3171 3178 (-1) 3173 3179 (-1) 3175) :: (aD P 3195 (Str.ofString "ią") 3186 3197 185 3187 3199 (-1) 3189) :: (aI 833) :: (aF P 3190 834 3191 (Str.ofString "ią") 3186 3192 185 3187 3193 (-1) 3189) :: (aD P 3210 (Str.ofString "ė") 3200 3212 (-1) 3202 3214 (-1) 3204) :: (aI 836) :: (aF P 3205 837 3206 (Str.ofString "ė") 3200 3207 (-1) 3202 3208 (-1) 3204) :: (aD P 3225 (Str.ofString "ę") 3215 3227 (-1) 3217 3229 (-1) 3219) :: (aI 839) :: (aF P 3220 840 3221 (Str.ofString "ę") 3215 3222 (-1) 3217 3223 (-1) 3219) :: (aD P 3240 (Str.ofString "į") 3230 3242 (-1) 3232 3244 (-1) 3234) :: (aI 842) :: (aF P 3235 843 3236 (Str.ofString "į") 3230 3237 (-1) 3232 3238 (-1) 3234) :: (aD P 3254 (Str.ofString "enį") 3245 3256 189 3246 3258 (-1) 3248) :: (aI 845) :: (aF P 3249 846 3250 (Str.ofString "enį") 3245 3251 189 3246 3252 (-1) 3248) :: (aD P 3269 (Str.ofString "ų") 3259 3271 (-1) 3261 3273 (-1) 3263) :: (aI 848) :: (aF P 3264 849 3265 (Str.ofString "ų") 3259 3266 (-1) 3261 3267 (-1) 3263) :: (aD P 3283 (Str.ofString "ių") 3274 3285 191 3275 3287 (-1) 3277) :: (aI 851) :: (aF P 3278 852 3279 (Str.ofString "ių") 3274 3280 191 3275 3281 (-1) 3277) :: (o_854 P) :: (aD P 3299 (Str.ofString "ing") 3289 3301 (-1) 3291 3303 (-1) 3293) :: (aI 855) :: (aF P 3294 856 3295 (Str.ofString "ing") 3289 3296 (-1) 3291 3297 (-1) 3293) :: (aD P 3314 (Str.ofString "aj") 3304 3316 (-1) 3306 3318 (-1) 3308) :: (aI 858) :: (aF P 3309 859 3310 (Str.ofString "aj") 3304 3311 (-1) 3306 3312 (-1) 3308) :: (aD P 3328 (Str.ofString "iaj") 3319 3330 1 3320 3332 (-1) 3322) :: (aI 861) :: (aF P 3323 862 3324 (Str.ofString "iaj") 3319 3325 1 3320 3326 (-1) 3322) :: (aD P 3343 (Str.ofString "iej") 3333 3345 (-1) 3335 3347 (-1) 3337) :: (aI 864) :: (aF P 3338 865 3339 (Str.ofString "iej") 3333 3340 (-1) 3335 3341 (-1) 3337) :: (aD P 3358 (Str.ofString "oj") 3348 3360 (-1) 3350 3362 (-1) 3352) :: (aI 867) :: (aF P 3353 868 3354 (Str.ofString "oj") 3348 3355 (-1) 3350 3356 (-1) 3352) :: (aD P 3372 (Str.ofString "ioj") 3363 3374 4 3364 3376 (-1) 3366) :: (aI 870) :: (aF P 3367 871 3368 (Str.ofString "ioj") 3363 3369 4 3364 3370 (-1) 3366) :: (aD P 3386 (Str.ofString "uoj") 3377 3388 4 3378 3390 (-1) 3380) :: (aI 873) :: (aF P 3381 874 3382 (Str.ofString "uoj") 3377 3383 4 3378 3384 (-1) 3380) :: (aD P 3400 (Str.ofString "iuoj") 3391 3402 6 3392 3404 (-1) 3394) :: (aI 876) :: (aF P 3395 877 3396 (Str.ofString "iuoj") 3391 3397 6 3392 3398 (-1) 3394) :: (aD P 3415 (Str.ofString "auj") 3405 3417 (-1) 3407 3419 (-1) 3409) :: (aI 879) :: (aF P 3410 880 3411 (Str.ofString "auj") 3405 3412 (-1) 3407 3413 (-1) 3409) :: (aD P 3430 (Str.ofString "ąj") 3420 3432 (-1) 3422 3434 (-1) 3424) :: (aI 882) :: (aF P 3425 883 3426 (Str.ofString "ąj") 3420 3427 (-1) 3422 3428 (-1) 3424) :: (aD P 3444 (Str.ofString "iąj") 3435 3446 9 3436 3448 (-1) 3438) :: (aI 885) :: (aF P 3439 886 3440 (Str.ofString "iąj") 3435 3441 9 3436 3442 (-1) 3438) :: (aD P 3459 (Str.ofString "ėj") 3449 3461 (-1) 3451 3463 (-1) 3453) :: (aI 888) :: (aF P 3454 889 3455 (Str.ofString "ėj") 3449 3456 (-1) 3451 3457 (-1) 3453) :: (aD P 3474 (Str.ofString "ųj") 3464 3476 (-1) 3466 3478 (-1) 3468) :: (aI 891) :: (aF P 3469 892 3470 (Str.ofString "ųj") 3464 3471 (-1) 3466 3472 (-1) 3468) :: (aD P 3488 (Str.ofString "iųj") 3479 3490 12 3480 3492 (-1) 3482) :: (aI 894) :: (aF P 3483 895 3484 (Str.ofString "iųj") 3479 3485 12 3480 3486 (-1) 3482) :: (aD P 3503 (Str.ofString "ok") 3493 3505 (-1) 3495 3507 (-1) 3497) :: (aI 897) :: (aF P 3498 898 3499 (Str.ofString "ok") 3493 3500 (-1) 3495 3501 (-1) 3497) :: []
noncomputable def L_9 (P : Params) (X : Obj) : List Obj := (aD P 3517 (Str.ofString "iok") 3508 3519 14 3509 3521 (-1) 3511) :: (aI 900) :: (aF P 3512 901 3513 (Str.ofString "iok") 3508 3514 14 3509 3515 (-1) 3511) :: (aD P 3532 (Str.ofString "iuk") 3522 3534 (-1) 3524 3536 (-1) 3526) :: (aI 903) :: (aF P 3527 904 3528 (Str.ofString "iuk") 3522 3529 (-1) 3524 3530 (-1) 3526) :: (aD P 3546 (Str.ofString "uliuk") 3537 3548 16 3538 3550 (-1) 3540) :: (aI 906) :: (aF P 3541 907 3542 (Str.ofString "uliuk") 3537 3543 16 3538 3544 (-1) 3540) :: (aD P 3560 (Str.ofString "učiuk") 3551 3562 16 3552 3564 (-1) 3554) :: (aI 909) :: (aF P 3555 910 3556 (Str.ofString "učiuk") 3551 3557 16 3552 3558 (-1) 3554) :: (aD P 3575 (Str.ofString "išk") 3565 3577 (-1) 3567 3579 (-1) 3569) :: (aI 912) :: (aF P 3570 913 3571 (Str.ofString "išk") 3565 3572 (-1) 3567 3573 (-1) 3569) :: (aD P 3590 (Str.ofString "iul") 3580 3592 (-1) 3582 3594 (-1) 3584) :: (aI 915) :: (aF P 3585 916 3586 (Str.ofString "iul") 3580 3587 (-1) 3582 3588 (-1) 3584) :: (aD P 3605 (Str.ofString "yl") 3595 3607 (-1) 3597 3609 (-1) 3599) :: (aI 918) :: (aF P 3600 919 3601 (Str.ofString "yl") 3595 3602 (-1) 3597 3603 (-1) 3599) :: (aD P 3620 (Str.ofString "ėl") 3610 3622 (-1) 3612 3624 (-1) 3614) :: (aI 921) :: (aF P 3615 922 3616 (Str.ofString "ėl") 3610 3617 (-1) 3612 3618 (-1) 3614) :: (aD P 3635 (Str.ofString "am") 3625 3637 (-1) 3627 3639 (-1) 3629) :: (aI 924) :: (aF P 3630 925 3631 (Str.ofString "am") 3625 3632 (-1) 3627 3633 (-1) 3629) :: (aD P 3649 (Str.ofString "dam") 3640 3651 23 3641 3653 (-1) 3643) :: (aI 927) :: (aF P 3644 928 3645 (Str.ofString "dam") 3640 3646 23 3641 3647 (-1) 3643) :: (aD P 3663 (Str.ofString "jam") 3654 3665 23 3655 3667 (-1) 3657) :: (aI 930) :: (aF P 3658 931 3659 (Str.ofString "jam") 3654 3660 23 3655 3661 (-1) 3657) :: (aD P 3678 (Str.ofString "zgan") 3668 3680 (-1) 3670 3682 (-1) 3672) :: (aI 933) :: (aF P 3673 934 3674 (Str.ofString "zgan") 3668 3675 (-1) 3670 3676 (-1) 3672) :: (aD P 3693 (Str.ofString "ain") 3683 3695 (-1) 3685 3697 (-1) 3687) :: (aI 936) :: (aF P 3688 937 3689 (Str.ofString "ain") 3683 3690 (-1) 3685 3691 (-1) 3687) :: (aD P 3708 (Str.ofString "esn") 3698 3710 (-1) 3700 3712 (-1) 3702) :: (aI 939) :: (aF P 3703 940 3704 (Str.ofString "esn") 3698 3705 (-1) 3700 3706 (-1) 3702) :: (aD P 3723 (Str.ofString "op") 3713 3725 (-1) 3715 3727 (-1) 3717) :: (aI 942) :: (aF P 3718 943 3719 (Str.ofString "op") 3713 3720 (-1) 3715 3721 (-1) 3717) :: (aD P 3737 (Str.ofString "iop") 3728 3739 29 3729 3741 (-1) 3731) :: (aI 945) :: (aF P 3732 946 3733 (Str.ofString "iop") 3728 3734 29 3729 3735 (-1) 3731) :: (aD P 3752 (Str.ofString "ias") 3742 3754 (-1) 3744 3756 (-1) 3746) :: (aI 948) :: (aF P 3747 949 3748 (Str.ofString "ias") 3742 3749 (-1) 3744 3750 (-1) 3746) :: (aD P 3767 (Str.ofString "ies") 3757 3769 (-1) 3759 3771 (-1) 3761) :: (aI 951) :: (aF P 3762 952 3763 (Str.ofString "ies") 3757 3764 (-1) 3759 3765 (-1) 3761) :: (aD P 3782 (Str.ofString "ais") 3772 3784 (-1) 3774 3786 (-1) 3776) :: (aI 954) :: (aF P 3777 955 3778 (Str.ofString "ais") 3772 3779 (-1) 3774 3780 (-1) 3776) :: (aD P 3796 (Str.ofString "iais") 3787 3798 33 3788 3800 (-1) 3790) :: (aI 957) :: (aF P 3791 958 3792 (Str.ofString "iais") 3787 3793 33 3788 3794 (-1) 3790) :: (aD P 3811 (Str.ofString "os") 3801 3813 (-1) 3803 3815 (-1) 3805) :: (aI 960) :: (aF P 3806 961 3807 (Str.ofString "os") 3801 3808 (-1) 3803 3809 (-1) 3805) :: (aD P 3825 (Str.ofString "ios") 3816 3827 35 3817 3829 (-1) 3819) :: (aI 963) :: (aF P 3820 964 3821 (Str.ofString "ios") 3816 3822 35 3817 3823 (-1) 3819) :: (aD P 3839 (Str.ofString "uos") 3830 3841 35 3831 3843 (-1) 3833) :: (aI 966) :: (aF P 3834 967 3835 (Str.ofString "uos") 3830 3836 35 3831 3837 (-1) 3833) :: (aD P 3853 (Str.ofString "iuos") 3844 3855 37 3845 3857 (-1) 3847) :: (aI 969) :: (aF P 3848 970 3849 (Str.ofString "iuos") 3844 3850 37 3845 3851 (-1) 3847) :: (aD P 3868 (Str.ofString "aus") 3858 3870 (-1) 3860 3872 (-1) 3862) :: (aI 972) :: (aF P 3863 973 3864 (Str.ofString "aus") 3858 3865 (-1) 3860 3866 (-1) 3862) :: (aD P 3882 (Str.ofString "iaus") 3873 3884 39 3874 3886 (-1) 3876) :: (aI 975) :: (aF P 3877 976 3878 (Str.ofString "iaus") 3873 3879 39 3874 3880 (-1) 3876) :: (aD P 3897 (Str.ofString "ąs") 3887 3899 (-1) 3889 3901 (-1) 3891) :: (aI 978) :: (aF P 3892 979 3893 (Str.ofString "ąs") 3887 3894 (-1) 3889 3895 (-1) 3891) :: (aD P 3911 (Str.ofString "iąs") 3902 3913 41 3903 3915 (-1) 3905) :: (aI 981) :: (aF P 3906 982 3907 (Str.ofString "iąs") 3902 3908 41 3903 3909 (-1) 3905) :: (aD P 3926 (Str.ofString "ęs") 3916 3928 (-1) 3918 3930 (-1) 3920) :: (aI 984) :: (aF P 3921 985 3922 (Str.ofString "ęs") 3916 3923 (-1) 3918 3924 (-1) 3920) :: (aD P 3941 (Str.ofString "utėait") 3931 3943 (-1) 3933 3945 (-1) 3935) :: (aI 987) :: (aF P 3936 988 3937 (Str.ofString "utėait") 3931 3938 (-1) 3933 3939 (-1) 3935) :: (aD P 3956 (Str.ofString "ant") 3946 3958 (-1) 3948 3960 (-1) 3950) :: (aI 990) :: (aF P 3951 991 3952 (Str.ofString "ant") 3946 3953 (-1) 3948 3954 (-1) 3950) :: (aD P 3970 (Str.ofString "iant") 3961 3972 45 3962 3974 (-1) 3964) :: (aI 993) :: (aF P 3965 994 3966 (Str.ofString "iant") 3961 3967 45 3962 3968 (-1) 3964) :: (aD P 3984 (Str.ofString "siant") 3975 3986 46 3976 3988 (-1) 3978) :: (aI 996) :: (aF P 3979 997 3980 (Str.ofString "siant") 3975 3981 46 3976 3982 (-1) 3978) :: (aD P 3999 (Str.ofString "int") 3989 4001 (-1) 3991 4003 (-1) 3993) :: []
noncomputable def L_10 (P : Params) (X : Obj) : List Obj := (aI 999) :: (aF P 3994 1000 3995 (Str.ofString "int") 3989 3996 (-1) 3991 3997 (-1) 3993) :: (aD P 4014 (Str.ofString "ot") 4004 4016 (-1) 4006 4018 (-1) 4008) :: (aI 1002) :: (aF P 4009 1003 4010 (Str.ofString "ot") 4004 4011 (-1) 4006 4012 (-1) 4008) :: (aD P 4028 (Str.ofString "uot") 4019 4030 49 4020 4032 (-1) 4022) :: (aI 1005) :: (aF P 4023 1006 4024 (Str.ofString "uot") 4019 4025 49 4020 4026 (-1) 4022) :: (aD P 4042 (Str.ofString "iuot") 4033 4044 50 4034 4046 (-1) 4036) :: (aI 1008) :: (aF P 4037 1009 4038 (Str.ofString "iuot") 4033 4039 50 4034 4040 (-1) 4036) :: (aD P 4057 (Str.ofString "yt") 4047 4059 (-1) 4049 4061 (-1) 4051) :: (aI 1011) :: (aF P 4052 1012 4053 (Str.ofString "yt") 4047 4054 (-1) 4049 4055 (-1) 4051) :: (aD P 4072 (Str.ofString "ėt") 4062 4074 (-1) 4064 4076 (-1) 4066) :: (aI 1014) :: (aF P 4067 1015 4068 (Str.ofString "ėt") 4062 4069 (-1) 4064 4070 (-1) 4066) :: (aD P 4087 (Str.ofString "ykšt") 4077 4089 (-1) 4079 4091 (-1) 4081) :: (aI 1017) :: (aF P 4082 1018 4083 (Str.ofString "ykšt") 4077 4084 (-1) 4079 4085 (-1) 4081) :: (aD P 4102 (Str.ofString "iau") 4092 4104 (-1) 4094 4106 (-1) 4096) :: (aI 1020) :: (aF P 4097 1021 4098 (Str.ofString "iau") 4092 4099 (-1) 4094 4100 (-1) 4096) :: (aD P 4117 (Str.ofString "dav") 4107 4119 (-1) 4109 4121 (-1) 4111) :: (aI 1023) :: (aF P 4112 1024 4113 (Str.ofString "dav") 4107 4114 (-1) 4109 4115 (-1) 4111) :: (aD P 4132 (Str.ofString "sv") 4122 4134 (-1) 4124 4136 (-1) 4126) :: (aI 1026) :: (aF P 4127 1027 4128 (Str.ofString "sv") 4122 4129 (-1) 4124 4130 (-1) 4126) :: (aD P 4147 (Str.ofString "šv") 4137 4149 (-1) 4139 4151 (-1) 4141) :: (aI 1029) :: (aF P 4142 1030 4143 (Str.ofString "šv") 4137 4144 (-1) 4139 4145 (-1) 4141) :: (aD P 4162 (Str.ofString "ykšč") 4152 4164 (-1) 4154 4166 (-1) 4156) :: (aI 1032) :: (aF P 4157 1033 4158 (Str.ofString "ykšč") 4152 4159 (-1) 4154 4160 (-1) 4156) :: (aD P 4177 (Str.ofString "ę") 4167 4179 (-1) 4169 4181 (-1) 4171) :: (aI 1035) :: (aF P 4172 1036 4173 (Str.ofString "ę") 4167 4174 (-1) 4169 4175 (-1) 4171) :: (aD P 4191 (Str.ofString "ėję") 4182 4193 60 4183 4195 (-1) 4185) :: (aI 1038) :: (aF P 4186 1039 4187 (Str.ofString "ėję") 4182 4188 60 4183 4189 (-1) 4185) :: (o_1041 P) :: (aD P 4206 (Str.ofString "ojime") 4197 4208 (-1) 4199 4210 7 4200) :: (aI 1042) :: (aF P 4201 1043 4202 (Str.ofString "ojime") 4197 4203 (-1) 4199 4204 7 4200) :: (aD P 4220 (Str.ofString "ėjime") 4211 4222 (-1) 4213 4224 3 4214) :: (aI 1045) :: (aF P 4215 1046 4216 (Str.ofString "ėjime") 4211 4217 (-1) 4213 4218 3 4214) :: (aD P 4234 (Str.ofString "avime") 4225 4236 (-1) 4227 4238 6 4228) :: (aI 1048) :: (aF P 4229 1049 4230 (Str.ofString "avime") 4225 4231 (-1) 4227 4232 6 4228) :: (aD P 4248 (Str.ofString "okate") 4239 4250 (-1) 4241 4252 8 4242) :: (aI 1051) :: (aF P 4243 1052 4244 (Str.ofString "okate") 4239 4245 (-1) 4241 4246 8 4242) :: (aD P 4262 (Str.ofString "aite") 4253 4264 (-1) 4255 4266 1 4256) :: (aI 1054) :: (aF P 4257 1055 4258 (Str.ofString "aite") 4253 4259 (-1) 4255 4260 1 4256) :: (aD P 4276 (Str.ofString "uote") 4267 4278 (-1) 4269 4280 2 4270) :: (aI 1057) :: (aF P 4271 1058 4272 (Str.ofString "uote") 4267 4273 (-1) 4269 4274 2 4270) :: (aD P 4290 (Str.ofString "asius") 4281 4292 (-1) 4283 4294 5 4284) :: (aI 1060) :: (aF P 4285 1061 4286 (Str.ofString "asius") 4281 4287 (-1) 4283 4288 5 4284) :: (aD P 4304 (Str.ofString "okatės") 4295 4306 (-1) 4297 4308 8 4298) :: (aI 1063) :: (aF P 4299 1064 4300 (Str.ofString "okatės") 4295 4301 (-1) 4297 4302 8 4298) :: (aD P 4318 (Str.ofString "aitės") 4309 4320 (-1) 4311 4322 1 4312) :: (aI 1066) :: (aF P 4313 1067 4314 (Str.ofString "aitės") 4309 4315 (-1) 4311 4316 1 4312) :: (aD P 4332 (Str.ofString "uotės") 4323 4334 (-1) 4325 4336 2 4326) :: (aI 1069) :: (aF P 4327 1070 4328 (Str.ofString "uotės") 4323 4329 (-1) 4325 4330 2 4326) :: (aD P 4346 (Str.ofString "esiu") 4337 4348 (-1) 4339 4350 4 4340) :: (aI 1072) :: (aF P 4341 1073 4342 (Str.ofString "esiu") 4337 4343 (-1) 4339 4344 4 4340) :: (o_1075 P) :: (o_1076 P) :: (aD P 4370 (Str.ofString "č") 4361 4372 (-1) 4363 4374 1 4364) :: (aI 1077) :: (aF P 4365 1078 4366 (Str.ofString "č") 4361 4367 (-1) 4363 4368 1 4364) :: (aD P 4384 (Str.ofString "dž") 4375 4386 (-1) 4377 4388 2 4378) :: (aI 1080) :: (aF P 4379 1081 4380 (Str.ofString "dž") 4375 4381 (-1) 4377 4382 2 4378) :: (o_1083 P) :: (o_1084 P) :: (o_1085 P) :: (o_1086 P) :: (o_1087 P) :: (o_1088 P) :: (o_1089 P) :: (o_1090 P) :: (o_1091 P) :: (o_1092 P) :: (o_1093 P) :: (o_1094 P) :: (o_1095 P) :: (o_1096 P) :: (o_1097 P) :: (o_1098 P) :: (o_1099 P) :: []
noncomputable def L_11 (P : Params) (X : Obj) : List Obj := (o_1100 P) :: (o_1101 P) :: (o_1102 P) :: (o_1103 P) :: (o_1104 P) :: (o_1105 P) :: (o_1106 P) :: (o_1107 P) :: (o_1108 P) :: (o_1109 P) :: (o_1110 P) :: (o_1111 P) :: (o_1112 P) :: (o_1113 P) :: (o_1114 P) :: (o_1115 P) :: (o_1116 P) :: (o_1117 P) :: (o_1118 P) :: (o_1119 P) :: (o_1120 P) :: (o_1121 P) :: (o_1122 P) :: (o_1123 P) :: (o_1124 P) :: (o_1125 P) :: (o_1126 P) :: (o_1127 P) :: (o_1128 P) :: (o_1129 P) :: (o_1130 P) :: (o_1131 P) :: (o_1132 P) :: (o_1133 P) :: (o_1134 P) :: (o_1135 P) :: (o_1136 P) :: (o_1137 P) :: (o_1138 P) :: (o_1139 P) :: (o_1140 P) :: (o_1141 P) :: (o_1142 P) :: (o_1143 P) :: (o_1144 P) :: (o_1145 P) :: (o_1146 P) :: (o_1147 P) :: (o_1148 P) :: (o_1149 P) :: (o_1150 P) :: (o_1151 P) :: (o_1152 P) :: (o_1153 P) :: (o_1154 P) :: (o_1155 P) :: (o_1156 P) :: (o_1157 P) :: (o_1158 P) :: (o_1159 P) :: (o_1160 P) :: (o_1161 P) :: (o_1162 P) :: (o_1163 P) :: (o_1164 P) :: (o_1165 P) :: (o_1166 P) :: (o_1167 P) :: (o_1168 P) :: (o_1169 P) :: (o_1170 P) :: (o_1171 P) :: (o_1172 P) :: (o_1173 P) :: (o_1174 P) :: (o_1175 P) :: (o_1176 P) :: (o_1177 P) :: (o_1178 P) :: (o_1179 P) :: (o_1180 P) :: (o_1181 P) :: (o_1182 P) :: (o_1183 P) :: []
noncomputable def all (P : Params) (X : Obj) : List Obj := L_0 P X ++ (L_1 P X ++ (L_2 P X ++ (L_3 P X ++ (L_4 P X ++ (L_5 P X ++ (L_6 P X ++ (L_7 P X ++ (L_8 P X ++ (L_9 P X ++ (L_10 P X ++ (L_11 P X)))))))))))
/-- a tree out of a list -/
noncomputable def insAll (l : List Obj) : BT → Nat → BT := @List.rec Obj (fun _ => BT → Nat → BT) (fun t _ => t) (fun o _ ih t n => insK t n o (fun t' => numK (Nat.succ n) (fun m => ih t' m))) l
noncomputable def setAll (l : List (Nat × Obj)) : BT → BT := @List.rec (Nat × Obj) (fun _ => BT → BT) (fun t => t) (fun x _ ih t => setK t x.1 (fun _ => x.2) (fun t' => ih t')) l
noncomputable def force {β : Type} (t : BT) (k : BT → β) : β := @BT.rec (fun _ => β) (k .nil) (fun v l r _ _ => k (.node v l r)) t
theorem force_eq {β : Type} (t : BT) (k : BT → β) : force t k = k t := by cases t <;> rfl
noncomputable def evF (P : Params) (G : Ctx) {α : Type} (x : Sem α) (p : Pos) (s : St) : Res α := force s.t (fun t => ev ⟨pw, P⟩ (cf P) G x p ⟨t, s.n, s.k⟩)
theorem evF_eq (P : Params) (G : Ctx) {α : Type} (x : Sem α) (p : Pos) (s : St) : evF P G x p s = ev ⟨pw, P⟩ (cf P) G x p s := by unfold evF; rw [force_eq]
/-- the state with n objects, some of them not yet as at the end -/
noncomputable def stN (P : Params) (X : Obj) (n k : Nat) (fix : List (Nat × Obj)) : St := ⟨setAll fix (insAll ((all P X).take n) .nil 0), n, k⟩
noncomputable def fx (P : Params) (o : Obj) : List (Nat × Obj) := [(2, s3_2 P), (3, s3_3 P), (12, s3_12 P), (199, s3_199 P), (227, o)]
noncomputable def asgVal : Stmt → PySem.Expr
  | .Assign _ v _ => v
  | _ => default
noncomputable def listElts : PySem.Expr → List PySem.Expr
  | .List e _ => e
  | _ => []
noncomputable def listPos : PySem.Expr → Pos
  | .List _ p => p
  | _ => default
noncomputable def el0 : List PySem.Expr := listElts (asgVal (cb.getD 8 (.Pass default)))
noncomputable def lp0 : Pos := listPos (asgVal (cb.getD 8 (.Pass default)))
noncomputable def el1 : List PySem.Expr := listElts (asgVal (cb.getD 9 (.Pass default)))
noncomputable def lp1 : Pos := listPos (asgVal (cb.getD 9 (.Pass default)))
noncomputable def callPos : PySem.Expr → Pos
  | .Call _ _ _ p => p
  | _ => default
noncomputable def s4 (P : Params) (X : Obj) : St := ⟨(.node (boot_o_0 P) (.node (boot_o_1 P) (.node (s3_3 P) (.node (boot_o_7 P) (.node (o_15 P) (.node (o_31 P) (.node (o_63 P) (.node (o_127 P) .nil .nil) (.node (o_191 P) .nil .nil)) (.node (o_95 P) (.node (o_159 P) .nil .nil) (.node (o_223 P) .nil .nil))) (.node (o_47 P) (.node (o_79 P) (.node (o_143 P) .nil .nil) (.node (o_207 P) .nil .nil)) (.node (o_111 P) (.node (o_175 P) .nil .nil) .nil))) (.node (o_23 P) (.node (o_39 P) (.node (o_71 P) (.node (o_135 P) .nil .nil) (.node (s3_199 P) .nil .nil)) (.node (o_103 P) (.node (o_167 P) .nil .nil) (.node (o_231 P) .nil .nil))) (.node (o_55 P) (.node (o_87 P) (.node (o_151 P) .nil .nil) (.node (o_215 P) .nil .nil)) (.node (o_119 P) (.node (o_183 P) .nil .nil) .nil)))) (.node (o_11 P) (.node (o_19 P) (.node (o_35 P) (.node (o_67 P) (.node (o_131 P) .nil .nil) (.node (o_195 P) .nil .nil)) (.node (o_99 P) (.node (o_163 P) .nil .nil) (.node (s4_227 P) .nil .nil))) (.node (o_51 P) (.node (o_83 P) (.node (o_147 P) .nil .nil) (.node (o_211 P) .nil .nil)) (.node (o_115 P) (.node (o_179 P) .nil .nil) .nil))) (.node (o_27 P) (.node (o_43 P) (.node (o_75 P) (.node (o_139 P) .nil .nil) (.node (o_203 P) .nil .nil)) (.node (o_107 P) (.node (o_171 P) .nil .nil) .nil)) (.node (o_59 P) (.node (o_91 P) (.node (o_155 P) .nil .nil) (.node (o_219 P) .nil .nil)) (.node (o_123 P) (.node (o_187 P) .nil .nil) .nil))))) (.node (boot_o_5 P) (.node (boot_o_9 P) (.node (o_17 P) (.node (o_33 P) (.node (o_65 P) (.node (o_129 P) .nil .nil) (.node (o_193 P) .nil .nil)) (.node (o_97 P) (.node (o_161 P) .nil .nil) (.node (o_225 P) .nil .nil))) (.node (o_49 P) (.node (o_81 P) (.node (o_145 P) .nil .nil) (.node (o_209 P) .nil .nil)) (.node (o_113 P) (.node (o_177 P) .nil .nil) .nil))) (.node (o_25 P) (.node (o_41 P) (.node (o_73 P) (.node (o_137 P) .nil .nil) (.node (o_201 P) .nil .nil)) (.node (o_105 P) (.node (o_169 P) .nil .nil) .nil)) (.node (o_57 P) (.node (o_89 P) (.node (o_153 P) .nil .nil) (.node (o_217 P) .nil .nil)) (.node (o_121 P) (.node (o_185 P) .nil .nil) .nil)))) (.node (o_13 P) (.node (o_21 P) (.node (o_37 P) (.node (o_69 P) (.node (o_133 P) .nil .nil) (.node (o_197 P) .nil .nil)) (.node (o_101 P) (.node (o_165 P) .nil .nil) (.node (s3_229 P) .nil .nil))) (.node (o_53 P) (.node (o_85 P) (.node (o_149 P) .nil .nil) (.node (o_213 P) .nil .nil)) (.node (o_117 P) (.node (o_181 P) .nil .nil) .nil))) (.node (o_29 P) (.node (o_45 P) (.node (o_77 P) (.node (o_141 P) .nil .nil) (.node (o_205 P) .nil .nil)) (.node (o_109 P) (.node (o_173 P) .nil .nil) .nil)) (.node (o_61 P) (.node (o_93 P) (.node (o_157 P) .nil .nil) (.node (o_221 P) .nil .nil)) (.node (o_125 P) (.node (o_189 P) .nil .nil) .nil)))))) (.node (s3_2 P) (.node (boot_o_4 P) (.node (boot_o_8 P) (.node (o_16 P) (.node (o_32 P) (.node (o_64 P) (.node (o_128 P) .nil .nil) (.node (o_192 P) .nil .nil)) (.node (o_96 P) (.node (o_160 P) .nil .nil) (.node (o_224 P) .nil .nil))) (.node (o_48 P) (.node (o_80 P) (.node (o_144 P) .nil .nil) (.node (o_208 P) .nil .nil)) (.node (o_112 P) (.node (o_176 P) .nil .nil) .nil))) (.node (o_24 P) (.node (o_40 P) (.node (o_72 P) (.node (o_136 P) .nil .nil) (.node (o_200 P) .nil .nil)) (.node (o_104 P) (.node (o_168 P) .nil .nil) (.node X .nil .nil))) (.node (o_56 P) (.node (o_88 P) (.node (o_152 P) .nil .nil) (.node (o_216 P) .nil .nil)) (.node (o_120 P) (.node (o_184 P) .nil .nil) .nil)))) (.node (s3_12 P) (.node (o_20 P) (.node (o_36 P) (.node (o_68 P) (.node (o_132 P) .nil .nil) (.node (o_196 P) .nil .nil)) (.node (o_100 P) (.node (o_164 P) .nil .nil) (.node (o_228 P) .nil .nil))) (.node (o_52 P) (.node (o_84 P) (.node (o_148 P) .nil .nil) (.node (o_212 P) .nil .nil)) (.node (o_116 P) (.node (o_180 P) .nil .nil) .nil))) (.node (o_28 P) (.node (o_44 P) (.node (o_76 P) (.node (o_140 P) .nil .nil) (.node (o_204 P) .nil .nil)) (.node (o_108 P) (.node (o_172 P) .nil .nil) .nil)) (.node (o_60 P) (.node (o_92 P) (.node (o_156 P) .nil .nil) (.node (o_220 P) .nil .nil)) (.node (o_124 P) (.node (o_188 P) .nil .nil) .nil))))) (.node (boot_o_6 P) (.node (boot_o_10 P) (.node (o_18 P) (.node (o_34 P) (.node (o_66 P) (.node (o_130 P) .nil .nil) (.node (o_194 P) .nil .nil)) (.node (o_98 P) (.node (o_162 P) .nil .nil) (.node (o_226 P) .nil .nil))) (.node (o_50 P) (.node (o_82 P) (.node (o_146 P) .nil .nil) (.node (o_210 P) .nil .nil)) (.node (o_114 P) (.node (o_178 P) .nil .nil) .nil))) (.node (o_26 P) (.node (o_42 P) (.node (o_74 P) (.node (o_138 P) .nil .nil) (.node (o_202 P) .nil .nil)) (.node (o_106 P) (.node (o_170 P) .nil .nil) .nil)) (.node (o_58 P) (.node (o_90 P) (.node (o_154 P) .nil .nil) (.node (o_218 P) .nil .nil)) (.node (o_122 P) (.node (o_186 P) .nil .nil) .nil)))) (.node (o_14 P) (.node (o_22 P) (.node (o_38 P) (.node (o_70 P) (.node (o_134 P) .nil .nil) (.node (o_198 P) .nil .nil)) (.node (o_102 P) (.node (o_166 P) .nil .nil) (.node (o_230 P) .nil .nil))) (.node (o_54 P) (.node (o_86 P) (.node (o_150 P) .nil .nil) (.node (o_214 P) .nil .nil)) (.node (o_118 P) (.node (o_182 P) .nil .nil) .nil))) (.node (o_30 P) (.node (o_46 P) (.node (o_78 P) (.node (o_142 P) .nil .nil) (.node (o_206 P) .nil .nil)) (.node (o_110 P) (.node (o_174 P) .nil .nil) .nil)) (.node (o_62 P) (.node (o_94 P) (.node (o_158 P) .nil .nil) (.node (o_222 P) .nil .nil)) (.node (o_126 P) (.node (o_190 P) .nil .nil) .nil))))))), 233, 500⟩
theorem m4 (P : Params) (X : Obj) (p : Pos) : ev ⟨pw, P⟩ (cf P) G2 (execs ((cb.drop 1).take 7) cenv) p (s4 P X) = .ok .next ⟨224, 4, 276, 19⟩ (stN P X 275 557 (fx P (s5_227 P))) := by kernel_rfl
end MineH
end
section
open PySem PySem.W PySem.Calls PyProof.Rows
set_option maxRecDepth 1000000
set_option maxHeartbeats 0
set_option linter.unusedVariables false
namespace MineH
theorem a0_0 (P : Params) (X : Obj) (p : Pos) : evF P G2 (spliced (backTo lp0 (starEach ((el0.drop 0).take 24) cenv))) p (stN P X 275 557 (fx P (s5_227 P))) = .ok ((List.range 24).map fun i => .ref (276 + 3 * i)) (callPos (el0.getD 23 default)) (stN P X 347 895 (fx P (s5_227 P))) := by kernel_rfl
theorem a0_1 (P : Params) (X : Obj) (p : Pos) : evF P G2 (spliced (backTo lp0 (starEach ((el0.drop 24).take 24) cenv))) p (stN P X 347 895 (fx P (s5_227 P))) = .ok ((List.range 24).map fun i => .ref (348 + 3 * i)) (callPos (el0.getD 47 default)) (stN P X 419 1232 (fx P (s5_227 P))) := by kernel_rfl
theorem a0_2 (P : Params) (X : Obj) (p : Pos) : evF P G2 (spliced (backTo lp0 (starEach ((el0.drop 48).take 24) cenv))) p (stN P X 419 1232 (fx P (s5_227 P))) = .ok ((List.range 24).map fun i => .ref (420 + 3 * i)) (callPos (el0.getD 71 default)) (stN P X 491 1568 (fx P (s5_227 P))) := by kernel_rfl
theorem a0_3 (P : Params) (X : Obj) (p : Pos) : evF P G2 (spliced (backTo lp0 (starEach ((el0.drop 72).take 24) cenv))) p (stN P X 491 1568 (fx P (s5_227 P))) = .ok ((List.range 24).map fun i => .ref (492 + 3 * i)) (callPos (el0.getD 95 default)) (stN P X 563 1910 (fx P (s5_227 P))) := by kernel_rfl
theorem a0_4 (P : Params) (X : Obj) (p : Pos) : evF P G2 (spliced (backTo lp0 (starEach ((el0.drop 96).take 24) cenv))) p (stN P X 563 1910 (fx P (s5_227 P))) = .ok ((List.range 24).map fun i => .ref (564 + 3 * i)) (callPos (el0.getD 119 default)) (stN P X 635 2255 (fx P (s5_227 P))) := by kernel_rfl
theorem a0_5 (P : Params) (X : Obj) (p : Pos) : evF P G2 (spliced (backTo lp0 (starEach ((el0.drop 120).take 24) cenv))) p (stN P X 635 2255 (fx P (s5_227 P))) = .ok ((List.range 24).map fun i => .ref (636 + 3 * i)) (callPos (el0.getD 143 default)) (stN P X 707 2591 (fx P (s5_227 P))) := by kernel_rfl
theorem a0_6 (P : Params) (X : Obj) (p : Pos) : evF P G2 (spliced (backTo lp0 (starEach ((el0.drop 144).take 24) cenv))) p (stN P X 707 2591 (fx P (s5_227 P))) = .ok ((List.range 24).map fun i => .ref (708 + 3 * i)) (callPos (el0.getD 167 default)) (stN P X 779 2927 (fx P (s5_227 P))) := by kernel_rfl
theorem a0_7 (P : Params) (X : Obj) (p : Pos) : evF P G2 (spliced (backTo lp0 (starEach ((el0.drop 168).take 24) cenv))) p (stN P X 779 2927 (fx P (s5_227 P))) = .ok ((List.range 24).map fun i => .ref (780 + 3 * i)) (callPos (el0.getD 191 default)) (stN P X 851 3274 (fx P (s5_227 P))) := by kernel_rfl
theorem a0_8 (P : Params) (X : Obj) (p : Pos) : evF P G2 (spliced (backTo lp0 (starEach ((el0.drop 192).take 1) cenv))) p (stN P X 851 3274 (fx P (s5_227 P))) = .ok ((List.range 1).map fun i => .ref (852 + 3 * i)) (callPos (el0.getD 192 default)) (stN P X 854 3288 (fx P (s5_227 P))) := by kernel_rfl
end MineH
end
section
open PySem PySem.W PySem.Calls PyProof.Rows
set_option maxRecDepth 1000000
set_option maxHeartbeats 0
set_option linter.unusedVariables false
namespace MineH
theorem a1_0 (P : Params) (X : Obj) (p : Pos) : evF P G2 (spliced (backTo lp1 (starEach ((el1.drop 0).take 31) cenv))) p (stN P X 855 3289 (fx P (s6_227 P))) = .ok ((List.range 31).map fun i => .ref (856 + 3 * i)) (callPos (el1.getD 30 default)) (stN P X 948 3742 (fx P (s6_227 P))) := by kernel_rfl
theorem a1_1 (P : Params) (X : Obj) (p : Pos) : evF P G2 (spliced (backTo lp1 (starEach ((el1.drop 31).take 31) cenv))) p (stN P X 948 3742 (fx P (s6_227 P))) = .ok ((List.range 31).map fun i => .ref (949 + 3 * i)) (callPos (el1.getD 61 default)) (stN P X 1041 4196 (fx P (s6_227 P))) := by kernel_rfl
end MineH
end
section
open PySem PySem.W PySem.Calls PyProof.Rows
set_option maxRecDepth 1000000
set_option maxHeartbeats 0
set_option linter.unusedVariables false
namespace MineH
noncomputable def asgName : Stmt → Str
  | .Assign [.Name x _] _ _ => x
  | _ => Str.empty
noncomputable def asgNp : Stmt → Pos
  | .Assign [.Name _ p] _ _ => p
  | _ => default
noncomputable def asgPos : Stmt → Pos
  | .Assign _ _ p => p
  | _ => default
noncomputable def st8 : Stmt := cb.getD 8 (.Pass default)
noncomputable def st9 : Stmt := cb.getD 9 (.Pass default)
theorem st8_is : st8 = .Assign [.Name (asgName st8) (asgNp st8)] (.List el0 lp0) (asgPos st8) := by kernel_rfl
theorem st9_is : st9 = .Assign [.Name (asgName st9) (asgNp st9)] (.List el1 lp1) (asgPos st9) := by kernel_rfl
noncomputable def tail (x : Str) (np : Pos) (vs : List Value) : Sem Unit := do
  let v ← newList vs
  standAt np
  bindName cenv x v
noncomputable def refs0 : List Value := (List.range 193).map fun i => .ref (276 + 3 * i)
noncomputable def refs1 : List Value := (List.range 62).map fun i => .ref (856 + 3 * i)
theorem m5 (P : Params) (X : Obj) (p : Pos) : evF P G2 (tail (asgName st8) (asgNp st8) refs0) p (stN P X 854 3288 (fx P (s5_227 P))) = .ok () (asgNp st8) (stN P X 855 3289 (fx P (s6_227 P))) := by kernel_rfl
theorem m6 (P : Params) (X : Obj) (p : Pos) : evF P G2 (tail (asgName st9) (asgNp st9) refs1) p (stN P X 1041 4196 (fx P (s6_227 P))) = .ok () (asgNp st9) (stN P X 1042 4197 (fx P (s7_227 P))) := by kernel_rfl
noncomputable def pos7 : Pos := ⟨330, 0, 345, 105⟩
/-- the class body's rest, the class made, the rest of the top -/
noncomputable def rest (P : Params) (X : Obj) (p₁ : Pos) : Res Flow :=
  @Res.rec Flow (fun _ => Res Flow) (fun f p s => @Flow.rec (fun _ => Res Flow)
      (@Res.rec Flow (fun _ => Res Flow) (fun f' p' s' => @Flow.rec (fun _ => Res Flow) (ev ⟨pw, P⟩ (cf P) G1 (execs (bQ.drop 7) benv) p' s') (.no) (.no) (fun _ => .no) f') (fun _ _ _ => .no) .no
        (ev ⟨pw, P⟩ (cf P) G1 (k3 P (.ok .next)) pos3 s)) (.no) (.no) (fun _ => .no) f) (fun _ _ _ => .no) .no
    (evF P G2 (execs (cb.drop 10) cenv) p₁ (stN P X 1042 4197 (fx P (s7_227 P))))
noncomputable def sEnd (P : Params) (X : Obj) : St := stN P X 1184 4741 []
noncomputable def XS (es : Array (Int × Value)) (n : Nat) (t : SetTable) : Obj := ⟨.type "set", none, .set es n t, #[]⟩
theorem m7 (P : Params) (es : Array (Int × Value)) (n : Nat) (t : SetTable) (p : Pos) : rest P (XS es n t) p = .ok .next pos7 (sEnd P (XS es n t)) := by kernel_rfl
theorem m8 (P : Params) (p : Pos) (s : St) : ev ⟨pw, P⟩ (cf P) G0 (k0 P (.ok .next)) p s = .ok (.done (.ret .none)) p s := by kernel_rfl
theorem cb_is : cb = cb.take 1 ++ ((cb.drop 1).take 7 ++ ([st8] ++ ([st9] ++ cb.drop 10))) := by kernel_rfl
theorem bQ_is : bQ = bQ.take 6 ++ ([cQ] ++ bQ.drop 7) := by kernel_rfl
end MineH
end
section
open PySem PySem.W PySem.Calls PyProof.Rows
set_option maxRecDepth 1000000
set_option maxHeartbeats 0
set_option linter.unusedVariables false
namespace MineH
noncomputable def st0 : Stmt := cb.getD 0 (.Pass default)
noncomputable def setElts : PySem.Expr → List PySem.Expr
  | .Set e _ _ => e
  | _ => []
noncomputable def setSrc : PySem.Expr → Nat
  | .Set _ k _ => k
  | _ => 0
noncomputable def setPos : PySem.Expr → Pos
  | .Set _ _ p => p
  | _ => default
noncomputable def gE : List PySem.Expr := setElts (asgVal st0)
noncomputable def gP : Pos := setPos (asgVal st0)
theorem st0_is : st0 = .Assign [.Name (asgName st0) (asgNp st0)] (.Set gE 0 gP) (asgPos st0) := by kernel_rfl
noncomputable def vowelStrs : List Str := [Str.ofString "a", Str.ofString "e", Str.ofString "i", Str.ofString "o", Str.ofString "u", Str.ofString "y", Str.ofString "ą", Str.ofString "ė", Str.ofString "ę", Str.ofString "į", Str.ofString "ū", Str.ofString "ų"]
noncomputable def gvPairs : List (Str × Tok) := vowelStrs.zip (List.range' 475 12)
noncomputable def gvVals : List Value := gvPairs.map fun x => .str x.1 x.2
noncomputable def setFresh (led : Bool) : Obj := { cls := .type "set", dict := none, data := .set #[] 0 (.fresh 0 0 led) }
noncomputable def gTrees : List (Sem Value) := (evalEach gE cenv).map fun t => do let v ← t; standAt gP; pure v
noncomputable def t3 (P : Params) : BT := (s3 P).t
theorem b1 (P : Params) (led : Bool) (Γ : Ctx) (p : Pos) : ev ⟨pw, P⟩ (cf P) Γ (evalAll gTrees) p ⟨(t3 P).ins 232 (setFresh led), 233, 475⟩ = .ok gvVals gP ⟨(t3 P).ins 232 (setFresh led), 233, 487⟩ := by kernel_rfl
theorem b2 (P : Params) (X : Obj) (Γ : Ctx) (p : Pos) : ev ⟨pw, P⟩ (cf P) Γ (storeName cenv (asgName st0) (.ref 232)) p ⟨(t3 P).ins 232 X, 233, 499⟩ = .ok () p (s4 P X) := by kernel_rfl
theorem b3 : gE.all kdsPlain = true ∧ gE.length = 12 ∧ displayRoad 0 gE = .unsure := ⟨by kernel_rfl, by kernel_rfl, by kernel_rfl⟩
section
variable {prog : Program} {w : World} {A : Around} {E : Value → Shared → Prop}
/-- the texts, one after the other, into the set -/
theorem fill {d : Addr} {Q : Value → Shared → Prop} {gens : Array GenState} {drawn : Drawn} {os : OsState} : ∀ (xs : List (Str × Tok)) (h : Heap) (tk n : Nat) (S : Str → Bool), h.SetOf (strKind prog w) d S n → n + xs.length < scanBound →
    (∀ h' n', Heap.SameBut d h h' → h'.SetOf (strKind prog w) d (fun c => S c || xs.any fun x => decide (c = x.1)) n' → Q (.ref d) ⟨h', gens, drawn, tk + xs.length, os⟩) →
    KdsFill (model prog w) A E true d Q (xs.map fun x => .str x.1 x.2) ⟨h, gens, drawn, tk, os⟩
  | [], h, tk, n, S, hS, hb, hQ => by
    refine kds_fill_unled rfl ?_
    obtain ⟨o, es, ep, t, ho, hex, hd, hel, hmem, hb', hf, hn⟩ := hS
    have hf' : ({ t with led := false } : SetTable).fits es.size = true := by cases t; exact hf
    unfold setUnled
    refine wpAny_bind (wpAny_setState_of ho hd hf ?_)
    dsimp only
    refine wpAny_storeSet_of ho hd ?_ (fits_of_scanBound hb')
    obtain ⟨_, hS⟩ := SetOf_store (knd := strKind prog w) ho hex hd hel hmem hb' hf'
    have q := hQ _ es.size (Heap.SameBut.update h d (Obj.putSet es { t with led := false })) (by simpa using hS)
    exact q
  | x :: xs, h, tk, n, S, hS, hb, hQ => by
    rw [List.length_cons] at hb
    refine kds_fill_cons ?_
    unfold setAdd
    refine wpAny_holding (wpAny_bind ((strKind prog w).pyHash (strKind_is prog w x.1 x.2) ?_))
    refine wpAny_setAddHashed_of (s := ⟨h, gens, drawn, tk + 1, os⟩) (strKind_is prog w x.1 x.2) rfl hS (by lia) fun h' hsb hS' => ?_
    refine fill xs h' (tk + 1) _ _ hS' (by split <;> lia) fun h'' n' hsb' hS'' => ?_
    have e := hQ h'' n' (hsb.trans hsb') (by
      have q : (fun c => S c || (x :: xs).any fun x => decide (c = x.1)) = fun c => (S c || decide (c = x.1)) || xs.any fun x => decide (c = x.1) := by
        funext c; rw [List.any_cons, Bool.or_assoc]
      rw [q]; exact hS'')
    rw [List.length_cons, show tk + (xs.length + 1) = tk + 1 + xs.length by lia] at e
    exact e
end
/-- all places are taken by living objects -/
noncomputable def livesAll (t : BT) (n : Nat) : Bool := (List.range n).all fun i => (t.get i).any fun o => (alive o).isSome
theorem lives_at {t : BT} {n : Nat} (h : livesAll t n = true) {i : Nat} (hi : i < n) : ∃ o, t.get i = some o ∧ alive o = some o := by
  have := List.all_eq_true.mp h i (List.mem_range.mpr hi)
  cases hg : t.get i with
  | none => rw [hg] at this; cases this
  | some o =>
    rw [hg] at this
    refine ⟨o, rfl, ?_⟩
    obtain ⟨c, d, dt, sl⟩ := o
    cases dt <;> first | rfl | cases this
theorem get_objs {h : Heap} {a : Addr} {o : Obj} (e : h.get? a = some o) : h.objs[a]? = some o := by
  unfold Heap.get? at e
  split at e
  · cases e
  · exact e
/-- a heap that differs from a tree's in its last object alone -/
theorem heap_of_but {t : BT} {n : Nat} {life : Life} {o X : Obj} {h' : Heap} (hl : livesAll t n = true) (hi : ((t.ins n X).get n).isSome = true) (hi' : ((t.ins n o).get n).isSome = true)
    (hb : Heap.SameBut n (absHeap (t.ins n o) (n + 1) life) h') (hX : h'.get? n = some X) : h' = absHeap (t.ins n X) (n + 1) h'.life := by
  obtain ⟨objs, life'⟩ := h'
  show Heap.mk _ _ = Heap.mk _ _
  congr 1
  have hsz : objs.size = n + 1 := by rw [← absHeap_size (t.ins n o) (n + 1) life]; exact hb.1
  refine Array.ext_getElem? fun i => ?_
  have ea := absHeap_at (t.ins n X) (n + 1) life' i
  unfold absHeap at ea
  refine Eq.trans ?_ ea.symm
  by_cases hlt : i < n + 1
  · rw [if_pos hlt, BT.get_ins X t n hi]
    by_cases hn : i = n
    · subst hn
      rw [if_pos rfl]
      exact get_objs hX
    · rw [if_neg hn]
      obtain ⟨oi, g1, g2⟩ := lives_at hl (i := i) (by lia)
      rw [g1]
      refine get_objs (h := ⟨objs, life'⟩) ?_
      rw [hb.2 i hn]
      exact (abs_get (by lia) (by rw [BT.get_ins o t n hi', if_neg hn]; exact g1)).trans g2
  · rw [if_neg hlt]
    exact Array.getElem?_eq_none (by lia)
end MineH
end
section
open PySem PySem.W PySem.Calls PyProof.Rows
set_option maxRecDepth 1000000
set_option maxHeartbeats 0
set_option linter.unusedVariables false
namespace MineH
section
variable {w : World} {life : Life} {drawn : Drawn} {os : OsState}
theorem cf_sound : Sound (model pw w) life drawn os (cf w.params) := by
  have h := evC_sound (M := model pw w) (life := life) (drawn := drawn) (os := os) 10000
  have e : (model pw w).den = denQ := den_eq
  rw [e] at h
  exact h
theorem wp_ev {α : Type} {Γ : Ctx} {x : Sem α} {a : α} {p p' : Pos} {s s' : St} {Q : α → Pos → Shared → Prop} {E : Value → Pos → Shared → Prop} (h : ev ⟨pw, w.params⟩ (cf w.params) Γ x p s = .ok a p' s') (q : Q a p' (s'.abs life drawn os)) :
    Sem.wp (model pw w) Γ x Q E p (s.abs life drawn os) := by
  have z := ev_sound (M := model pw w) (life := life) (drawn := drawn) (os := os) (cf_sound (w := w)) Γ x p s
  have h' : ev ⟨(model pw w).prog, (model pw w).w.params⟩ (cf w.params) Γ x p s = .ok a p' s' := h
  rw [h'] at z
  refine Sem.wp_mono _ _ _ (fun a' p'' s'' y => ?_) (fun _ _ _ y => y.elim) _ _ z
  obtain ⟨rfl, rfl, rfl⟩ := y
  exact q
theorem wpAny_ev {α : Type} {A : Around} {x : Sem α} {a : α} {s s' : St} {Q : α → Shared → Prop} {E : Value → Shared → Prop} (h : ∀ Γ p, ∃ p', ev ⟨pw, w.params⟩ (cf w.params) Γ x p s = .ok a p' s') (q : Q a (s'.abs life drawn os)) :
    wpAny (model pw w) A x Q E (s.abs life drawn os) := fun Γ p _ => let ⟨_, e⟩ := h Γ p; wp_ev e q
theorem TRes.at.inj' {α : Type} {c c' : Code} {h h' : Option Value} {p p' : Pos} {s s' : St} {k k' : Result → Sem α} (e : TRes.at c h p s k = TRes.at c' h' p' s' k') : c = c' ∧ h = h' ∧ p = p' ∧ s = s' ∧ k = k' := by
  cases e; exact ⟨rfl, rfl, rfl, rfl, rfl⟩
theorem evTo_sound {α : Type} {cf : CallF} {M : Model} (hcf : Sound M life drawn os cf) (Γ : Ctx) (x : Sem α) : ∀ (p : Pos) (s : St) {c : Code} {h : Option Value} {p' : Pos} {s' : St} {k : Result → Sem α}, evTo ⟨M.prog, M.w.params⟩ cf Γ x p s = .at c h p' s' k →
    ∀ (Q : α → Pos → Shared → Prop) (E : Value → Pos → Shared → Prop), wpCode M (Γ.enter c h p') (fun r s'' => Sem.wp M Γ (k r) Q E p' s'') p' (s'.abs life drawn os) → Sem.wp M Γ x Q E p (s.abs life drawn os) := by
  induction x with
  | pure | raise | unsupported | finish | register | choose | os | newGen | genState | resume | «yield» | fork | await => intro p s c h p' s' k e; cases e
  | rule _ k ih => intro p s c h p' s' k' e Q E z; exact ih () p s e Q E z
  | «at» q k ih => intro p s c h p' s' k' e Q E z; exact ih () q s e Q E z
  | point _ k ih => intro p s c h p' s' k' e Q E z; exact ih () p s e Q E z
  | ask k ih => intro p s c h p' s' k' e Q E z; exact ih _ p s e Q E z
  | stack k ih => intro p s c h p' s' k' e Q E z; exact ih _ p s e Q E z
  | thread k ih => intro p s c h p' s' k' e Q E z; exact ih 0 p s e Q E z
  | fresh k ih => intro p s c h p' s' k' e Q E z; exact ih s.k p ⟨s.t, s.n, Nat.succ s.k⟩ e Q E z
  | handled own k ih =>
    intro p s c h p' s' k' e Q E z
    have q : @Bool.rec (fun _ => Option Value) Γ.handled Γ.own own = (if own then Γ.own else Γ.handled) := by cases own <;> rfl
    have e' : evTo ⟨M.prog, M.w.params⟩ cf Γ (k (@Bool.rec (fun _ => Option Value) Γ.handled Γ.own own)) p s = _ := e
    rw [q] at e'
    rw [Sem.wp_handled]
    exact ih _ p s e' Q E z
  | load a part k ih =>
    intro p s c h p' s' k' e Q E z
    have e' : (@Bool.rec (fun _ => TRes α) .no (@Option.rec Obj (fun _ => TRes α) .no (fun o => @Option.rec Obj (fun _ => TRes α) .no (fun o' => evTo ⟨M.prog, M.w.params⟩ cf Γ (k o') p s) (alive o)) (getR s.t a)) (Nat.blt a s.n)) = .at c h p' s' k' := e
    cases hb : Nat.blt a s.n with
    | false => rw [hb] at e'; cases e'
    | true =>
      rw [hb] at e'
      cases hg : getR s.t a with
      | none => rw [hg] at e'; cases e'
      | some o =>
        rw [hg] at e'
        dsimp only at e'
        cases ho : alive o with
        | none => rw [ho] at e'; cases e'
        | some o' =>
          rw [ho] at e'
          rw [Sem.wp_load]
          exact ⟨o', (abs_get (Nat.le_of_ble_eq_true hb) ((getR_eq _ _).symm.trans hg)).trans ho, ih o' p s e' Q E z⟩
  | update a part f k ih =>
    intro p s c h p' s' k' e Q E z
    have e' : (@Bool.rec (fun _ => TRes α) .no (@Option.rec Obj (fun _ => TRes α) .no (fun o => @Option.rec Obj (fun _ => TRes α) .no (fun _ => setK s.t a f (fun t' => evTo ⟨M.prog, M.w.params⟩ cf Γ (k ()) p ⟨t', s.n, s.k⟩)) (alive o)) (getR s.t a)) (Nat.blt a s.n)) = .at c h p' s' k' := e
    cases hb : Nat.blt a s.n with
    | false => rw [hb] at e'; cases e'
    | true =>
      rw [hb] at e'
      cases hg : getR s.t a with
      | none => rw [hg] at e'; cases e'
      | some o =>
        rw [hg] at e'
        dsimp only at e'
        cases ho : alive o with
        | none => rw [ho] at e'; cases e'
        | some o' =>
          rw [ho] at e'
          dsimp only at e'
          rw [setK_eq] at e'
          rw [Sem.wp_update]
          have hg' := (getR_eq _ _).symm.trans hg
          refine ⟨by rw [show (s.abs life drawn os).heap = absHeap s.t s.n life from rfl, abs_get (Nat.le_of_ble_eq_true hb) hg', ho]; rfl, ?_⟩
          rw [show ({ s.abs life drawn os with heap := (s.abs life drawn os).heap.update a f } : Shared) = St.abs life drawn os ⟨s.t.set a f, s.n, s.k⟩ from by
            unfold St.abs; rw [absHeap_set hg']]
          exact ih () p _ e' Q E z
  | alloc o k ih =>
    intro p s c h p' s' k' e Q E z
    have e' : (insK s.t s.n o (fun t' => @Option.rec Obj (fun _ => TRes α) .no (fun _ => evTo ⟨M.prog, M.w.params⟩ cf Γ (k s.n) p ⟨t', Nat.succ s.n, s.k⟩) (getR t' s.n))) = .at c h p' s' k' := e
    rw [insK_eq] at e'
    cases hg : getR (s.t.ins s.n o) s.n with
    | none => rw [hg] at e'; cases e'
    | some o' =>
      rw [hg] at e'
      rw [Sem.wp_alloc]
      have q : (absHeap s.t s.n life).objs.size = s.n := absHeap_size _ _ _
      rw [show (s.abs life drawn os).heap.objs.size = s.n from q]
      rw [show ({ s.abs life drawn os with heap := (s.abs life drawn os).heap.push o } : Shared) = St.abs life drawn os ⟨s.t.ins s.n o, Nat.succ s.n, s.k⟩ from by
        unfold St.abs
        have := absHeap_ins (t := s.t) (n := s.n) (life := life) (o := o) (by rw [← getR_eq, hg]; rfl)
        dsimp only
        rw [show Nat.succ s.n = s.n + 1 from rfl, this]]
      exact ih s.n p _ e' Q E z
  | loadIfAlive a k ih =>
    intro p s c h p' s' k' e Q E z
    have e' : (@Bool.rec (fun _ => TRes α) (evTo ⟨M.prog, M.w.params⟩ cf Γ (k none) p s) (@Option.rec Obj (fun _ => TRes α) .no (fun o => evTo ⟨M.prog, M.w.params⟩ cf Γ (k (alive o)) p s) (getR s.t a)) (Nat.blt a s.n)) = .at c h p' s' k' := e
    rw [Sem.wp_loadIfAlive]
    cases hb : Nat.blt a s.n with
    | false =>
      rw [hb] at e'
      have : ¬ a < s.n := fun q => by
        have : Nat.blt a s.n = true := Nat.ble_eq_true_of_le q
        rw [hb] at this; cases this
      rw [show (s.abs life drawn os).heap.get? a = none from abs_get_none this]
      exact ih none p s e' Q E z
    | true =>
      rw [hb] at e'
      cases hg : getR s.t a with
      | none => rw [hg] at e'; cases e'
      | some o =>
        rw [hg] at e'
        rw [show (s.abs life drawn os).heap.get? a = alive o from abs_get (Nat.le_of_ble_eq_true hb) ((getR_eq _ _).symm.trans hg)]
        exact ih (alive o) p s e' Q E z
  | call c₀ h₀ g l k ih =>
    intro p s c h p' s' k' e Q E z
    let isB : Bool := @Code.rec (fun _ => Bool) (fun _ _ => false) (fun _ _ => false) (fun _ _ => true) (fun _ _ => false) (fun _ _ _ => false) (fun _ _ _ _ _ => false) (fun _ _ => false) (fun _ _ => false) (fun _ _ _ _ => false) (fun _ _ _ _ _ => false) (fun _ _ _ _ _ => false) (fun _ _ _ _ _ => false) (fun _ _ _ _ _ => false) c₀
    have e' : (@Bool.rec (fun _ => TRes α) (@CRes.rec (fun _ => TRes α) (fun r s' => evTo ⟨M.prog, M.w.params⟩ cf Γ (k r) p s') .no (cf (Γ.enter c₀ h₀ p) c₀ p s)) (.at c₀ h₀ p s k) isB) = .at c h p' s' k' := e
    rw [Sem.wp_call]
    cases hB : isB with
    | true =>
      rw [hB] at e'
      obtain ⟨rfl, rfl, rfl, rfl, rfl⟩ := TRes.at.inj' e'
      exact z
    | false =>
      rw [hB] at e'
      have hc := hcf (Γ.enter c₀ h₀ p) c₀ p s rfl
      cases hr : cf (Γ.enter c₀ h₀ p) c₀ p s with
      | no => rw [hr] at e'; cases e'
      | ret r s₁ =>
        rw [hr] at e' hc
        exact wpCode_mono (fun r' s'' y => by obtain ⟨rfl, rfl⟩ := y; exact ih _ p s₁ e' Q E z) hc
theorem wp_to {α : Type} {Γ : Ctx} {x : Sem α} {c : Code} {hd : Option Value} {p p' : Pos} {s s' : St} {k : Result → Sem α} {Q : α → Pos → Shared → Prop} {E : Value → Pos → Shared → Prop} (h : evTo ⟨pw, w.params⟩ (cf w.params) Γ x p s = .at c hd p' s' k)
    (q : wpCode (model pw w) (Γ.enter c hd p') (fun r s'' => Sem.wp (model pw w) Γ (k r) Q E p' s'') p' (s'.abs life drawn os)) : Sem.wp (model pw w) Γ x Q E p (s.abs life drawn os) :=
  evTo_sound (M := model pw w) cf_sound Γ x p s h Q E q
theorem execs_app {M : Model} {Γ : Ctx} {env : Env} {l2 : List Stmt} {Q : Flow → Pos → Shared → Prop} {E : Value → Pos → Shared → Prop} : ∀ {l1 : List Stmt} {p : Pos} {s : Shared},
    Sem.wp M Γ (execs l1 env) (fun f p s => match f with | .next => Sem.wp M Γ (execs l2 env) Q E p s | f => Q f p s) E p s → Sem.wp M Γ (execs (l1 ++ l2) env) Q E p s
  | [], p, s, h => h
  | st :: l1, p, s, h => by
    have e : ∀ l, execs (st :: l) env = (exec st env >>= fun f => match f with | .next => execs l env | f => pure f) := fun _ => rfl
    rw [List.cons_append, e, Sem.wp_bind']
    rw [e, Sem.wp_bind'] at h
    refine Sem.wp_mono _ _ _ (fun f p' s' z => ?_) (fun _ _ _ z => z) _ _ h
    cases f with
    | next => exact execs_app z
    | _ => exact z
theorem execs_one {M : Model} {Γ : Ctx} {env : Env} {st : Stmt} {Q : Flow → Pos → Shared → Prop} {E : Value → Pos → Shared → Prop} {p : Pos} {s : Shared} (h : Sem.wp M Γ (exec st env) (fun f p s => f = .next ∧ Q .next p s) E p s) : Sem.wp M Γ (execs [st] env) Q E p s := by
  have e : execs [st] env = (exec st env >>= fun f => match f with | .next => (pure .next : Sem Flow) | f => pure f) := rfl
  rw [e, Sem.wp_bind']
  refine Sem.wp_mono _ _ _ (fun f p' s' z => ?_) (fun _ _ _ z => z) _ _ h
  obtain ⟨rfl, z⟩ := z
  exact z
theorem body_code {Γ : Ctx} {b : List Stmt} {env : Env} {R : Result → Shared → Prop} {p : Pos} {s : Shared} (hc : Γ.code = .body b env)
    (h : Sem.wp (model pw w) Γ (blockStart b env) (fun _ p' s' => Sem.wp (model pw w) Γ (execs b env) (fun f _ s'' => R (.ok f) s'') (fun _ _ _ => False) p' s') (fun _ _ _ => False) p s) : wpCode (model pw w) Γ R p s := by
  rw [wpCode_iff_wp, hc]
  show Sem.wp _ _ ((blockStart b env).bind fun _ => ((execs b env).onRaise (leaving env)).bind fun f => (Sem.pure (Fin.done f) : Sem PySem.Fin)) _ _ _ _
  rw [Sem.wp_bind]
  refine Sem.wp_mono _ _ _ (fun _ p' s' z => ?_) (fun _ _ _ z => z.elim) _ _ h
  rw [Sem.wp_bind, Sem.wp_onRaise]
  exact Sem.wp_mono _ _ _ (fun f p'' s'' y => y) (fun _ _ _ y => y.elim) _ _ z
theorem spl_cons (x : Sem Value) (a : List (Bool × Sem Value)) : spliced ((false, x) :: a) = (x >>= fun v => holding [v] (spliced a) >>= fun r => pure ([v] ++ r)) := rfl
theorem spl_app {M : Model} {Γ : Ctx} {Q : List Value → Pos → Shared → Prop} {E : Value → Pos → Shared → Prop} {b : List (Bool × Sem Value)} : ∀ {a : List (Bool × Sem Value)} {p : Pos} {s : Shared}, (∀ e ∈ a, e.1 = false) →
    Sem.wp M Γ (spliced a) (fun va p s => Sem.wp M Γ (spliced b) (fun vb p s => Q (va ++ vb) p s) E p s) E p s → Sem.wp M Γ (spliced (a ++ b)) Q E p s
  | [], p, s, _, h => h
  | (star, x) :: a, p, s, ha, h => by
    obtain rfl : star = false := ha _ (.head _)
    rw [List.cons_append, spl_cons]
    rw [spl_cons] at h
    simp only [Sem.wp_bind', Sem.wp_holding, Sem.wp_pure'] at h ⊢
    refine Sem.wp_mono _ _ _ (fun v p' s' z => ?_) (fun _ _ _ z => z) _ _ h
    refine spl_app (fun e he => ha e (.tail _ he)) (Sem.wp_mono _ _ _ (fun va p'' s'' z => ?_) (fun _ _ _ z => z) _ _ z)
    exact Sem.wp_mono _ _ _ (fun vb p3 s3 y => by rw [← List.append_assoc]; exact y) (fun _ _ _ y => y) _ _ z
theorem star_app (env : Env) : ∀ (a b : List PySem.Expr), starEach (a ++ b) env = starEach a env ++ starEach b env
  | [], b => rfl
  | e :: a, b => by
    have h : ∀ l, starEach (e :: l) env = (match e with | .Starred x _ => (true, eval x env) | e => (false, eval e env)) :: starEach l env := fun l => by cases e <;> rfl
    rw [List.cons_append, h, h, star_app env a b]; rfl
theorem back_app (pos : Pos) (a b : List (Bool × Sem Value)) : backTo pos (a ++ b) = backTo pos a ++ backTo pos b := List.map_append
theorem back_plain (pos : Pos) (env : Env) (es : List PySem.Expr) (h : es.all kdsPlain = true) : ∀ e ∈ backTo pos (starEach es env), e.1 = false := by
  intro e he
  unfold backTo at he
  rw [kds_star es h, List.map_map] at he
  obtain ⟨t, _, rfl⟩ := List.mem_map.mp he
  rfl
/-- a list of calls, the first ones first -/
theorem spl_take {Γ : Ctx} {env : Env} {Q : List Value → Pos → Shared → Prop} {E : Value → Pos → Shared → Prop} {lp : Pos} {es : List PySem.Expr} {i k : Nat} {p : Pos} {s : Shared} (hp : es.all kdsPlain = true)
    (h : Sem.wp (model pw w) Γ (spliced (backTo lp (starEach ((es.drop i).take k) env))) (fun va p s => Sem.wp (model pw w) Γ (spliced (backTo lp (starEach (es.drop (i + k)) env))) (fun vb p s => Q (va ++ vb) p s) E p s) E p s) :
    Sem.wp (model pw w) Γ (spliced (backTo lp (starEach (es.drop i) env))) Q E p s := by
  have e : es.drop i = (es.drop i).take k ++ es.drop (i + k) := by rw [← List.drop_drop, List.take_append_drop]
  rw [e, star_app, back_app]
  refine spl_app (back_plain lp env _ ?_) h
  rw [List.all_eq_true] at hp ⊢
  exact fun x hx => hp x (List.mem_of_mem_drop (List.mem_of_mem_take hx))
theorem asg_list {Γ : Ctx} {x : Str} {np lp pos p : Pos} {es : List PySem.Expr} {s : Shared} {Q : Flow → Pos → Shared → Prop} {E : Value → Pos → Shared → Prop}
    (h : Sem.wp (model pw w) Γ (spliced (backTo lp (starEach es cenv))) (fun vs p s => Sem.wp (model pw w) Γ (tail x np vs) (fun _ p s => Q .next p s) E p s) E lp s) :
    Sem.wp (model pw w) Γ (exec (.Assign [.Name x np] (.List es lp) pos) cenv) Q E p s := by
  rw [exec_Assign_Name cenv x np _ pos rfl]
  rw [arm_eval_List]
  unfold tail at h
  simp only [Sem.wp_bind', Sem.wp_cmd_standAt, Sem.wp_pure'] at h ⊢
  exact h
end
end MineH
end
section
open PySem PySem.W PySem.Calls PyProof.Rows
set_option maxRecDepth 1000000
set_option maxHeartbeats 0
set_option linter.unusedVariables false
namespace MineH
section
variable {w : World} {life : Life} {drawn : Drawn} {os : OsState}
/-- what is known of the set -/
noncomputable def SetFact (w : World) (es : Array (Int × Value)) (n : Nat) (t : SetTable) : Prop := ∃ m, (XS es n t).SetObjOf (strKind pw w) (fun c => gvPairs.any fun x => decide (c = x.1)) m ∧ m < scanBound
noncomputable def A2 : Around := { handled := G2.handled, depth := frameCount G2.below + G2.code.weight, frames := none, guards := none, units := G2.units }
theorem A2_in : G2.In A2 := ⟨rfl, Nat.le_refl _, fun l h => (by cases h), fun g h => (by cases h), Nat.le_refl _⟩
theorem t3_lives (P : Params) : livesAll (t3 P) 232 = true := by kernel_rfl
theorem t3_ins (P : Params) (o : Obj) : (((t3 P).ins 232 o).get 232).isSome = true := by kernel_rfl
theorem t3_code (P : Params) : ((t3 P).get 230) = some (o_230 P) := by kernel_rfl
theorem alive_code (P : Params) : alive (o_230 P) = some (o_230 P) := by kernel_rfl
theorem disp {A : Around} {E : Value → Shared → Prop} {s : Shared} {K : Frag} {elts : List PySem.Expr} {k : Nat} {pos : Pos} {env : Env} {Q : Value → Shared → Prop} (X : K.In s.heap) (hc : kdsCode K env.code = true) (hp : elts.all kdsPlain = true) (hlen : elts.length ≤ 30) (hroad : displayRoad k elts = .unsure)
    (h : ∀ led : Bool, wpAny (model pw w) A (evalAll ((evalEach elts env).map fun t => do let v ← t; standAt pos; pure v)) (fun vs s' => KdsFill (model pw w) A E true s.heap.objs.size Q vs s') E { s with heap := s.heap.push (setFresh led) }) :
    wpAny (model pw w) A (eval (.Set elts k pos) env) Q E s := by
  rw [arm_eval_Set]
  refine wpAny_bind (wpAny_standAt ?_)
  refine wpAny_bind (kds_main X hc fun b => ?_)
  rw [kds_star elts hp, List.map_map, hroad]
  refine kds_core (ts := (evalEach elts env).map fun t => do let v ← t; standAt pos; pure v) rfl ?_ ?_ ?_ h
  · refine List.findIdx?_eq_none_iff.mpr fun x hx => ?_
    obtain ⟨t, _, rfl⟩ := List.mem_map.mp hx
    rfl
  · rw [List.length_map, kds_len]; exact hlen
  · rw [List.map_map]; rfl
theorem gv_any {A : Around} : wpAny (model pw w) A (exec st0 cenv) (fun f s' => f = .next ∧ ∃ es n t life', s' = (s4 w.params (XS es n t)).abs life' drawn os ∧ SetFact w es n t) (fun _ _ => False) ((s3 w.params).abs life drawn os) := by
  rw [st0_is]
  refine wpAny_Assign_Name ?_
  have X : Frag.In [((230 : Nat), o_230 w.params)] ((s3 w.params).abs life drawn os).heap := fun a o e => by
    rw [List.lookup_cons] at e
    split at e
    · rename_i q
      rw [beq_iff_eq.mp q, ← Option.some.inj e]
      exact (abs_get (by show 230 < 232; decide) (t3_code w.params)).trans (alive_code w.params)
    · cases e
  have hsz : ((s3 w.params).abs life drawn os).heap.objs.size = 232 := absHeap_size _ _ _
  refine disp X (by kernel_rfl) b3.1 (by rw [b3.2.1]; decide) b3.2.2 fun led => ?_
  rw [hsz]
  have hpush : ({ (s3 w.params).abs life drawn os with heap := ((s3 w.params).abs life drawn os).heap.push (setFresh led) } : Shared) = St.abs life drawn os ⟨(t3 w.params).ins 232 (setFresh led), 233, 475⟩ := by
    have := absHeap_ins (t := t3 w.params) (n := 232) (life := life) (o := setFresh led) (t3_ins _ _)
    unfold St.abs
    rw [this]; rfl
  show wpAny _ _ (evalAll gTrees) _ _ { (s3 w.params).abs life drawn os with heap := ((s3 w.params).abs life drawn os).heap.push (setFresh led) }
  rw [hpush]
  refine wpAny_ev (fun Γ p => ⟨_, b1 _ led Γ p⟩) ?_
  have hg : (absHeap ((t3 w.params).ins 232 (setFresh led)) 233 life).get? 232 = some (setFresh led) := by
    rw [abs_get (o := setFresh led) (by decide) (by rw [BT.get_ins _ _ _ (t3_ins _ _), if_pos rfl])]; rfl
  refine fill (prog := pw) (w := w) gvPairs _ 487 0 (fun _ => false) ⟨_, #[], 0, _, hg, ⟨rfl, rfl, rfl⟩, rfl, fun e he => by simp at he, fun k => by simp, by decide, by rfl, rfl⟩ (by decide) fun h' n' hsb hS => ?_
  obtain ⟨o, es, ep, tb, ho, ⟨c1, c2, c3⟩, hd, hel, hmem, hb', hf, hn⟩ := hS
  obtain ⟨oc, od, oo, osl⟩ := o
  dsimp only at c1 c2 c3 hd
  subst c1 c2 c3 hd
  have eh := heap_of_but (t3_lives w.params) (t3_ins w.params (XS es ep tb)) (t3_ins w.params _) hsb ho
  have es' : (⟨h', #[], drawn, 487 + gvPairs.length, os⟩ : Shared) = St.abs h'.life drawn os ⟨(t3 w.params).ins 232 (XS es ep tb), 233, 499⟩ := by
    unfold St.abs
    rw [← eh]; rfl
  show wpAny _ _ _ _ _ (⟨h', #[], drawn, 487 + gvPairs.length, os⟩ : Shared)
  rw [es']
  refine wpAny_ev (fun Γ p => ⟨_, b2 _ _ Γ p⟩) ⟨rfl, es, ep, tb, h'.life, rfl, n', ⟨⟨rfl, rfl, rfl⟩, es, ep, tb, rfl, hel, ?_, hn, hf⟩, by rw [← hn]; exact hb'⟩
  simpa using hmem
theorem el0_plain : el0.all kdsPlain = true := by kernel_rfl
theorem el1_plain : el1.all kdsPlain = true := by kernel_rfl
theorem el0_end : el0.drop 193 = [] := by kernel_rfl
theorem el1_end : el1.drop 62 = [] := by kernel_rfl
theorem rest_parts {P : Params} {X : Obj} {p q : Pos} {s : St} (h : rest P X p = .ok .next q s) : ∃ p5 s5 p6 s6, evF P G2 (execs (cb.drop 10) cenv) p (stN P X 1042 4197 (fx P (s7_227 P))) = .ok .next p5 s5 ∧
    ev ⟨pw, P⟩ (cf P) G1 (k3 P (.ok .next)) pos3 s5 = .ok .next p6 s6 ∧ ev ⟨pw, P⟩ (cf P) G1 (execs (bQ.drop 7) benv) p6 s6 = .ok .next q s := by
  unfold rest at h
  cases h1 : evF P G2 (execs (cb.drop 10) cenv) p (stN P X 1042 4197 (fx P (s7_227 P))) with
  | no => rw [h1] at h; cases h
  | err => rw [h1] at h; cases h
  | ok f p5 s5 =>
    rw [h1] at h
    cases f with
    | next =>
      dsimp only at h
      cases h2 : ev ⟨pw, P⟩ (cf P) G1 (k3 P (.ok .next)) pos3 s5 with
      | no => rw [h2] at h; cases h
      | err => rw [h2] at h; cases h
      | ok f' p6 s6 =>
        rw [h2] at h
        cases f' with
        | next => exact ⟨p5, s5, p6, s6, rfl, h2, h⟩
        | _ => cases h
    | _ => cases h
theorem cb0 : cb.take 1 = [st0] := by kernel_rfl
/-- the whole top -/
theorem top_wp : Sem.wp (model pw w) G0 t0 (fun fin _ s => fin = .done (.ret .none) ∧ ∃ es n t life', s = (sEnd w.params (XS es n t)).abs life' drawn os ∧ SetFact w es n t) (fun _ _ _ => False) pos0 ((S0 w.params).abs life drawn os) := by
  refine wp_to (e0 _) (body_code rfl ?_)
  show Sem.wp _ G1 _ _ _ _ _
  refine wp_ev (e1 _) ?_
  rw [bQ_is]
  refine execs_app (wp_ev (e2 _) ?_)
  dsimp only
  refine execs_app (execs_one (wp_to (e3 _) (body_code rfl ?_)))
  show Sem.wp _ G2 _ _ _ _ _
  refine wp_ev (e4 _) ?_
  rw [cb_is, cb0]
  refine execs_app (execs_one ?_)
  refine Sem.wp_mono _ _ _ (fun f p s z => ?_) (fun _ _ _ z => z) _ _ (gv_any (life := life) (drawn := drawn) (os := os) (A := A2) G2 _ A2_in)
  obtain ⟨rfl, es, n, t, life', rfl, hset⟩ := z
  refine ⟨rfl, ?_⟩
  dsimp only
  refine execs_app (wp_ev (m4 _ _ _) ?_)
  dsimp only
  refine execs_app (execs_one ?_)
  rw [st8_is]
  refine asg_list ?_
  rw [show el0 = el0.drop 0 from rfl]
  refine spl_take (i := 0) (k := 24) el0_plain (wp_ev ((evF_eq _ _ _ _ _).symm.trans (a0_0 _ _ _)) ?_)
  refine spl_take (i := 24) (k := 24) el0_plain (wp_ev ((evF_eq _ _ _ _ _).symm.trans (a0_1 _ _ _)) ?_)
  refine spl_take (i := 48) (k := 24) el0_plain (wp_ev ((evF_eq _ _ _ _ _).symm.trans (a0_2 _ _ _)) ?_)
  refine spl_take (i := 72) (k := 24) el0_plain (wp_ev ((evF_eq _ _ _ _ _).symm.trans (a0_3 _ _ _)) ?_)
  refine spl_take (i := 96) (k := 24) el0_plain (wp_ev ((evF_eq _ _ _ _ _).symm.trans (a0_4 _ _ _)) ?_)
  refine spl_take (i := 120) (k := 24) el0_plain (wp_ev ((evF_eq _ _ _ _ _).symm.trans (a0_5 _ _ _)) ?_)
  refine spl_take (i := 144) (k := 24) el0_plain (wp_ev ((evF_eq _ _ _ _ _).symm.trans (a0_6 _ _ _)) ?_)
  refine spl_take (i := 168) (k := 24) el0_plain (wp_ev ((evF_eq _ _ _ _ _).symm.trans (a0_7 _ _ _)) ?_)
  refine spl_take (i := 192) (k := 1) el0_plain (wp_ev ((evF_eq _ _ _ _ _).symm.trans (a0_8 _ _ _)) ?_)
  rw [el0_end]
  show Sem.wp _ _ (tail _ _ _) _ _ _ _
  refine wp_ev ((evF_eq _ _ _ _ _).symm.trans (m5 _ _ _)) ⟨rfl, ?_⟩
  dsimp only
  refine execs_app (execs_one ?_)
  rw [st9_is]
  refine asg_list ?_
  rw [show el1 = el1.drop 0 from rfl]
  refine spl_take (i := 0) (k := 31) el1_plain (wp_ev ((evF_eq _ _ _ _ _).symm.trans (a1_0 _ _ _)) ?_)
  refine spl_take (i := 31) (k := 31) el1_plain (wp_ev ((evF_eq _ _ _ _ _).symm.trans (a1_1 _ _ _)) ?_)
  rw [el1_end]
  show Sem.wp _ _ (tail _ _ _) _ _ _ _
  refine wp_ev ((evF_eq _ _ _ _ _).symm.trans (m6 _ _ _)) ⟨rfl, ?_⟩
  dsimp only
  obtain ⟨p5, s5, p6, s6, h1, h2, h3⟩ := rest_parts (m7 w.params es n t (asgNp st9))
  refine wp_ev ((evF_eq _ _ _ _ _).symm.trans h1) ?_
  refine wp_ev h2 ⟨rfl, ?_⟩
  refine wp_ev h3 ?_
  refine wp_ev (m8 _ _ _) ⟨rfl, es, n, t, life', rfl, hset⟩
end
end MineH
end
section
open PySem PySem.W PySem.Calls PyProof.Rows
set_option maxRecDepth 1000000
set_option maxHeartbeats 0
set_option linter.unusedVariables false
namespace MineH
noncomputable abbrev loose0 : List Str := [Str.ofString "LithuanianStemmer", Str.ofString "_law_clash", Str.ofString "_law_hard", Str.ofString "_law_gd",
      Str.ofString "_law_mark", Str.ofString "_law_once", Str.ofString "_law_once_also_with_i",
      Str.ofString "_law_often", Str.ofString "_law_often_also_with_i"]
noncomputable def heapE (P : Params) (X : Obj) (life : Life) : Heap := ⟨(all P X).toArray, life⟩
noncomputable abbrev mods0 : List Str := importedModules pw.main.body
noncomputable def shE (P : Params) (X : Obj) (life : Life) (drawn : Drawn) (os : OsState) : Shared := ⟨heapE P X life, #[], drawn, 4741, os⟩
theorem heap_end (P : Params) (X : Obj) (life : Life) (drawn : Drawn) (os : OsState) : (sEnd P X).abs life drawn os = shE P X life drawn os := by kernel_rfl
theorem heap_start (P : Params) (drawn : Drawn) (os : OsState) : (S0 P).abs {} drawn os = ⟨boot_heap P, #[], drawn, boot_toks, os⟩ := by kernel_rfl
theorem look1 (P : Params) (es : Array (Int × Value)) (n : Nat) (t : SetTable) (life : Life) (drawn : Drawn) (os : OsState) :
    openSeen VW loose0 mods0 (fun s => xlAt VW [] s && recOk [] s) true (shE P (XS es n t) life drawn os) = openGood VW loose0 := by
  rw [PySem.W.Fast.te4187177175401517315]; kernel_rfl
theorem look2 (P : Params) (X : Obj) (life : Life) (drawn : Drawn) (os : OsState) :
    (staticsOk mods0 (boot_heap P) (heapE P X life) && namesBound pw (heapE P X life) && gensDone (shE P X life drawn os) && laidKept (boot_heap P) (heapE P X life)) = true := by kernel_rfl
theorem look3 (P : Params) (X : Obj) (life : Life) : ∀ b : Nat, b < 11 → b ≠ 2 → b ≠ 3 → (heapE P X life).get? b = (boot_heap P).get? b := by
  intro b hb h2 h3
  match b, hb with
  | 0, _ => kernel_rfl
  | 1, _ => kernel_rfl
  | 2, _ => exact absurd rfl h2
  | 3, _ => exact absurd rfl h3
  | 4, _ => kernel_rfl
  | 5, _ => kernel_rfl
  | 6, _ => kernel_rfl
  | 7, _ => kernel_rfl
  | 8, _ => kernel_rfl
  | 9, _ => kernel_rfl
  | 10, _ => kernel_rfl
  | n + 11, h => exact absurd h (by lia)
theorem boot_size (P : Params) : (boot_heap P).objs.size = 11 := by kernel_rfl
theorem boot_isNs (P : Params) : (boot_heap P).isNs mainGlobals = true := by kernel_rfl
theorem chains : chainsOk VW = true := by kernel_rfl
theorem open_plain : opening pw = plainProg pw.main.scope.names := by kernel_rfl
theorem fence_id (s : Shared) : fenceModules? pw s = some s := by kernel_rfl
/-- a run that halts was running just before -/
theorem before_halt {den : Code → Sem PySem.Fin} {p : Program} {w : World} : ∀ {n : Nat} {s : Shared} {t : Thread} {o : Outcome} {s' : Shared}, runN den p w n s t = .halted o s' → ∃ k t₁, runN den p w k s t = .running s' t₁ ∧ step den p w s' t₁ = .halt o s'
  | 0, s, t, o, s', h => by cases h
  | n + 1, s, t, o, s', h => by
    simp only [runN] at h
    cases hs : step den p w s t with
    | go s₂ t₂ =>
      rw [hs] at h
      obtain ⟨k, t₁, a, b⟩ := before_halt h
      exact ⟨k + 1, t₁, by simp only [runN, hs]; exact a, b⟩
    | halt o₂ s₂ =>
      rw [hs] at h
      injection h with e1 e2
      subst e1 e2
      have := step_halt_same den p w _ _ _ _ hs
      subst this
      exact ⟨0, t, rfl, hs⟩
theorem fin_no {o : Outcome} {f : Flow} {s s' : Shared} (h : finish o s = .halt (.done f) s') : o = .done f := by
  unfold finish at h
  split at h
  · cases h
  · cases h; rfl
theorem through_of {den : Code → Sem PySem.Fin} {p : Program} {w : World} {s s' : Shared} {t : Thread} {f : Flow} (h : step den p w s t = .halt (.done f) s') : through t = true := by
  obtain ⟨heap, gens, drawn, toks, os⟩ := s
  obtain ⟨cur, code, pos, stack⟩ := t
  revert h
  cases cur with
  | pure x => cases x with
    | again c => exact fun h => nomatch (show Step.go _ _ = Step.halt _ _ from h)
    | done f' => cases stack with
      | nil => exact fun _ => rfl
      | cons fr r => cases fr <;> exact fun h => nomatch (show Step.go _ _ = Step.halt _ _ from h)
  | raise e => cases stack with
    | nil => exact fun h => nomatch (fin_no (show finish (.uncaught e) _ = _ from h))
    | cons fr r => cases fr <;> exact fun h => nomatch (show Step.go _ _ = Step.halt _ _ from h)
  | unsupported => exact fun h => nomatch (show Step.halt (.unsupported _) _ = Step.halt (.done _) _ from h)
  | finish e =>
    unfold step; dsimp only
    generalize leftWithCleanup gens = b
    cases b <;> exact fun h => by cases h
  | load a _ k =>
    unfold step; dsimp only
    generalize heap.get? a = x
    cases x <;> exact fun h => by cases h
  | update a _ g k =>
    unfold step; dsimp only
    generalize (heap.get? a).isSome = b
    cases b <;> exact fun h => by cases h
  | choose src n k =>
    unfold step; dsimp only
    by_cases hn : n = 0
    · rw [if_pos hn]; exact fun h => by cases h
    · rw [if_neg hn]; exact fun h => by cases h
  | genState g k =>
    unfold step; dsimp only
    generalize gens[g]? = x
    cases x <;> exact fun h => by cases h
  | resume g r l k =>
    unfold step; dsimp only
    generalize gens[g]? = x
    cases x with
    | none => exact fun h => by cases h
    | some st => cases st with
      | fresh c => cases r with
        | send v => cases v <;> exact fun h => nomatch (show Step.go _ _ = Step.halt _ _ from h)
        | throw e => exact fun h => nomatch (show Step.go _ _ = Step.halt _ _ from h)
      | suspended => exact fun h => by cases h
      | running => exact fun h => by cases h
      | finished => exact fun h => by cases h
  | yield v g0 l kk =>
    unfold step; dsimp only
    generalize splitAtGen stack = x
    cases x with
    | none => exact fun h => by cases h
    | some y => obtain ⟨fs, ⟨g, k, c, q⟩, r⟩ := y; exact fun h => by cases h
  | register => exact fun h => nomatch (show Step.halt (.unsupported _) _ = Step.halt (.done _) _ from h)
  | fork => exact fun h => nomatch (show Step.halt (.unsupported _) _ = Step.halt (.done _) _ from h)
  | await => exact fun h => nomatch (show Step.halt (.unsupported _) _ = Step.halt (.done _) _ from h)
  | _ => exact fun h => nomatch (show Step.go _ _ = Step.halt _ _ from h)
end MineH
end
section
open PySem PySem.W PySem.Calls PyProof.Rows
set_option maxRecDepth 1000000
set_option maxHeartbeats 0
set_option linter.unusedVariables false
namespace MineH
theorem behind (w : World) : (∃ s, AfterRun (opening pw) w s) ∧ ∀ s, AfterRun (opening pw) w s → ∃ s₀, fenceModules? pw s = some s₀ ∧ s₀.gens = #[] ∧ ∃ s₁ es n t, TopRan pw w s₀ s₁ ∧ s₁.asleep ∧ s₁.gens = #[] ∧ s₁.heap.isNs mainGlobals = true ∧
    Ground VW loose0 [] (fun mg h => XL VW [] mg h ∧ RecFacts [] h) w s₁ (s₁.heap.nsMap mainGlobals) (s₁.heap.nsMap builtinsNs) s₁.heap ∧ s₁.heap = heapE w.params (XS es n t) s₁.heap.life ∧ SetFact w es n t := by
  obtain ⟨s, hs, hv⟩ := Option.map_eq_some_iff.mp (boot_plain w pw.main.scope.names)
  rw [← open_plain, ← table_eq_tree] at hs
  have A := AfterImport.of_importEnds hs
  refine ⟨⟨s, A⟩, fun s' hs' => ?_⟩
  obtain rfl : s' = s := AfterImport.unique hs' A
  have z : s'.asleep := A.life
  obtain ⟨h₀, gs, dr, tk, os⟩ := s'
  obtain ⟨rfl, rfl, rfl, rfl⟩ : h₀ = boot_heap w.params ∧ gs = #[] ∧ dr = boot_drawn ∧ tk = boot_toks := by simpa using hv
  refine ⟨_, fence_id _, rfl, ?_⟩
  have hw := top_wp (w := w) (life := {}) (drawn := boot_drawn) (os := os)
  rw [heap_start] at hw
  let R : Result → Shared → Prop := fun r s' => r = .ok (.ret .none) ∧ ∃ es n t life', s' = shE w.params (XS es n t) life' boot_drawn os ∧ SetFact w es n t
  have hw2 : Sem.wp (model pw w) ⟨.builtin "claim.caller" {}, none, none, [], none⟩ t0 (Sem.finPost (model pw w) ⟨.builtin "claim.caller" {}, none, none, [], none⟩ fun r s' => R r s' ∧ leftWithCleanup s'.gens = false)
      (fun e _ s' => R (.error e) s' ∧ leftWithCleanup s'.gens = false) default ⟨boot_heap w.params, #[], boot_drawn, boot_toks, os⟩ := by
    refine Sem.wp_mono _ _ _ (fun fin p s₁ y => ?_) (fun _ _ _ y => y.elim) _ _ hw
    obtain ⟨rfl, es, n, t, life', rfl, hf⟩ := y
    rw [heap_end]
    exact ⟨⟨rfl, es, n, t, life', rfl, hf⟩, by show leftWithCleanup #[] = false; simp [leftWithCleanup]⟩
  obtain ⟨n, r, s₁, hn, hr, es, ne, t, life', e₁, hf⟩ := (wp_iff_halts t0 R default _).mp hw2
  subst hr
  obtain ⟨s₂, hrun, hfo, hc⟩ := runNI_real (model pw w).den (model pw w).prog (model pw w).w hn (outcomeOf_ends _)
  obtain rfl : s₂ = s₁ := Shared.eq_of_forget_eq hfo (by rw [e₁]; rfl)
  have hne : ∀ k s₃, runN (model pw w).den (model pw w).prog (model pw w).w k ⟨boot_heap w.params, #[], boot_drawn, boot_toks, os⟩ ⟨t0, .builtin "claim.caller" {}, default, []⟩ ≠ .halted (.unsupported "lifetime:generator-with-cleanup-left-suspended") s₃ := by
    intro k s₃ hk
    have a := runN_mono (model pw w).den (model pw w).prog (model pw w).w n k _ _ _ _ hrun
    have b := runN_mono (model pw w).den (model pw w).prog (model pw w).w k n _ _ _ s₃ hk
    rw [Nat.add_comm, b] at a
    injection a with a1 _
    cases a1
  obtain ⟨k, t₁, hk, hst⟩ := before_halt hrun
  have hth := through_of hst
  have hsch := (schedN_eq_runN (model pw w).den (model pw w).prog (model pw w).w _ _ z ⟨hc, hne⟩ k).trans (congrArg Run.lift hk)
  have hlife : s₂.heap.life = (boot_heap w.params).life := runN_life (model pw w).den (model pw w).prog (model pw w).w hrun
  have hheap : s₂.heap = heapE w.params (XS es ne t) life' := by rw [e₁]; rfl
  have hl' : s₂.heap.life = life' := by rw [hheap]; rfl
  obtain ⟨G, g0, g1, g2, g3, g4, g5⟩ := ground_of_open (w := w) (XP := fun mg h => XL VW [] mg h ∧ RecFacts [] h) (fun s hs => ⟨xl_of s (Bool.and_eq_true_iff.mp hs).1, recFacts_of (Bool.and_eq_true_iff.mp hs).2⟩) chains (look1 w.params es ne t life' boot_drawn os)
  have l2 := look2 w.params (XS es ne t) life' boot_drawn os
  obtain ⟨l2, l24⟩ := Bool.and_eq_true_iff.mp l2
  obtain ⟨l2, l23⟩ := Bool.and_eq_true_iff.mp l2
  obtain ⟨l21, l22⟩ := Bool.and_eq_true_iff.mp l2
  have e₂ : s₂ = shE w.params (XS es ne t) life' boot_drawn os := e₁
  rw [← e₂] at G g0 g1 g2 g3 g4 g5 l23
  rw [← hheap] at l21 l22 l24
  refine ⟨s₂, es, ne, t, ⟨⟨k, t₁, hsch, hth⟩, hlife, Shared.rest_eq (by rw [e₂]; rfl), fun b o hb hn => ?_, g2, statics_of_ok l21, g3, g4, g5, gens_of_done l23, names_of_bound l22, laid_of_kept l24⟩, Shared.asleep_of_life hlife z, by rw [e₂]; rfl, g1, G, by rw [hl']; exact hheap, hf⟩
  rw [hheap, look3 w.params (XS es ne t) life' b ?_ (fun q => hn (.inr (.inl q))) (fun q => hn (.inl q))]
  · exact hb
  · have := Heap.lt_size hb
    rw [← boot_size w.params]; exact this
end MineH
end
section
open PySem PySem.W PySem.Calls PyProof.Rows PySem.Spec
set_option maxRecDepth 1000000
set_option maxHeartbeats 0
set_option linter.unusedVariables false
namespace Mine
open MineH
noncomputable def liveO : Option Obj → Option Obj
  | some ⟨_, _, .freed, _⟩ => none
  | o => o
theorem get_live (l : List Obj) (life : Life) (a : Nat) : (Heap.mk l.toArray life).get? a = liveO l[a]? := by
  unfold Heap.get? liveO; simp only [List.getElem?_toArray]; rfl
/-- gets in one pass along the list, at rising places -/
noncomputable def goK : Nat → List Obj → List Nat → List (Option Obj)
  | _, _, [] => []
  | p, l, a :: as => liveO (l.drop (a - p)).head? :: goK a (l.drop (a - p)) as
noncomputable def asc : Nat → List Nat → Bool
  | _, [] => true
  | p, a :: as => Nat.ble p a && asc a as
theorem goK_map (l₀ : List Obj) : ∀ (as : List Nat) (p : Nat), asc p as = true → goK p (l₀.drop p) as = as.map fun a => liveO l₀[a]?
  | [], _, _ => rfl
  | a :: as, p, h => by
    obtain ⟨h1, h2⟩ := Bool.and_eq_true_iff.mp h
    have h1 := Nat.le_of_ble_eq_true h1
    rw [goK, List.drop_drop, show p + (a - p) = a from Nat.add_sub_of_le h1, goK_map l₀ as a h2, List.map_cons, List.head?_drop]
theorem kk_at (P : Params) (X : Obj) : goK 0 (all P X) ((KK P).map (·.1)) = (KK P).map fun p => some p.2 := by kernel_rfl
theorem kk_asc (P : Params) : asc 0 ((KK P).map (·.1)) = true := by kernel_rfl
theorem kk_map (P : Params) (X : Obj) (life : Life) : ((KK P).map (·.1)).map (heapE P X life).get? = (KK P).map fun p => some p.2 := by
  have e := goK_map (all P X) _ 0 (kk_asc P)
  rw [List.drop_zero] at e
  rw [← kk_at P X, e]
  exact List.map_congr_left fun a _ => get_live _ _ _
theorem kk_in (P : Params) (X : Obj) (life : Life) : (KK P).In (heapE P X life) := Frag.in_of rfl (kk_map P X life)
noncomputable def valTok : Value → Tok
  | .str _ t => t
  | .int _ t => t
  | _ => 0
noncomputable def toksOf : Option Obj → Tok × Tok × Tok × Tok × Tok × Tok × Nat
  | some ⟨_, _, .dict es n, _⟩ => match es.toList with
    | [a, b, c] => (valTok a.key, valTok a.val, valTok b.key, valTok b.val, valTok c.key, valTok c.val, n)
    | _ => default
  | _ => default
noncomputable def amObj (P : Params) (e : List Nat × Int × Int) (k : Tok × Tok × Tok × Tok × Tok × Tok × Nat) : Obj :=
  dictOf [⟨PyData.keyHash P (Str.ofString "s"), .str (Str.ofString "s") k.1, .str (mk e.1) k.2.1⟩, ⟨PyData.keyHash P (Str.ofString "substring_i"), .str (Str.ofString "substring_i") k.2.2.1, .int e.2.1 k.2.2.2.1⟩, ⟨PyData.keyHash P (Str.ofString "result"), .str (Str.ofString "result") k.2.2.2.2.1, .int e.2.2 k.2.2.2.2.2.1⟩] k.2.2.2.2.2.2
/-- every third place -/
noncomputable def pick3 : Nat → List Obj → List (Option Obj)
  | 0, _ => []
  | n + 1, l => liveO l.head? :: pick3 n (l.drop 3)
theorem pick3_map : ∀ (n : Nat) (l : List Obj), pick3 n l = (List.range n).map fun i => liveO l[3 * i]?
  | 0, _ => rfl
  | n + 1, l => by
    rw [pick3, pick3_map n, List.range_succ_eq_map, List.map_cons, List.map_map]
    congr 1
    · cases l <;> rfl
    · refine List.map_congr_left fun i _ => ?_
      simp only [Function.comp, List.getElem?_drop]
      congr 2; omega
noncomputable def amZ (P : Params) : List (List Nat × Int × Int) → List (Option Obj) → List (Option Obj)
  | e :: es, o :: os => some (amObj P e (toksOf o)) :: amZ P es os
  | _, _ => []
theorem amZ_at {P : Params} : ∀ {tbl : List (List Nat × Int × Int)} {os : List (Option Obj)}, amZ P tbl os = os → os.length = tbl.length → ∀ (i : Nat) (hi : i < tbl.length), ∃ k, os[i]? = some (some (amObj P tbl[i] k))
  | [], _, _, _, i, hi => absurd hi (Nat.not_lt_zero i)
  | e :: es, [], _, hl, _, _ => by cases hl
  | e :: es, o :: os, h, hl, 0, _ => by
    obtain ⟨h1, _⟩ := List.cons.inj h
    exact ⟨_, by rw [List.getElem?_cons_zero, ← h1]; rfl⟩
  | e :: es, o :: os, h, hl, i + 1, hi => by
    obtain ⟨_, h2⟩ := List.cons.inj h
    obtain ⟨k, hk⟩ := amZ_at h2 (Nat.succ.inj hl) i (Nat.lt_of_succ_lt_succ hi)
    exact ⟨k, by rw [List.getElem?_cons_succ, hk]; rfl⟩
theorem am_tab {w : World} {l : List Obj} {life : Life} {v : Addr} {b : Nat} {tbl : List (List Nat × Int × Int)}
    (h1 : (Heap.mk l.toArray life).get? v = some ⟨.type "list", none, .seq ((List.range tbl.length).map fun i => Value.ref (b + 3 * i + 1)).toArray 0, #[]⟩)
    (h2 : pick3 tbl.length (l.drop (b + 1)) = (List.range tbl.length).map fun i => some (instObj 220 (b + 3 * i)))
    (h3 : amZ w.params tbl (pick3 tbl.length (l.drop b)) = pick3 tbl.length (l.drop b)) : AmTab w (Heap.mk l.toArray life) v b tbl := by
  refine ⟨⟨_, h1, rfl, 0, rfl⟩, fun i hi => ⟨?_, ?_⟩⟩
  · rw [pick3_map] at h2
    have e := List.map_inj_left.mp h2 i (List.mem_range.mpr hi)
    rw [get_live, show b + 3 * i + 1 = b + 1 + 3 * i from Nat.add_right_comm b (3 * i) 1, ← List.getElem?_drop]
    exact e
  · obtain ⟨k, hk⟩ := amZ_at h3 (by rw [pick3_map, List.length_map, List.length_range]) i hi
    rw [pick3_map, List.getElem?_map, List.getElem?_range hi, Option.map_some, Option.some_inj, List.getElem?_drop] at hk
    rw [get_live, hk]
    exact ⟨_, _, _, _, _, _, _, rfl⟩
section
variable (w : World) (X : Obj) (life : Life)
theorem tab0 : AmTab w (heapE w.params X life) 854 275 tbl0 := am_tab (by kernel_rfl) (by kernel_rfl) (by kernel_rfl)
theorem tab1 : AmTab w (heapE w.params X life) 1041 855 tbl1 := am_tab (by kernel_rfl) (by kernel_rfl) (by kernel_rfl)
theorem tab2 : AmTab w (heapE w.params X life) 1075 1042 tbl2 := am_tab (by kernel_rfl) (by kernel_rfl) (by kernel_rfl)
theorem tab3 : AmTab w (heapE w.params X life) 1083 1077 tbl3 := am_tab (by kernel_rfl) (by kernel_rfl) (by kernel_rfl)
theorem vow_codes : vowelStrs = [97, 101, 105, 111, 117, 121, 261, 279, 281, 303, 363, 371].map fun v => mk [v] := by kernel_rfl
theorem vow_fst : gvPairs.map (·.1) = vowelStrs := by kernel_rfl
theorem any_mkV (c : Nat) : ∀ xs : List Nat, ((xs.map fun v => mk [v]).any fun x => decide (mk [c] = x)) = xs.contains c
  | [] => rfl
  | v :: xs => by
    rw [List.map_cons, List.any_cons, any_mkV c xs, List.contains_cons]
    congr 1
    rw [Bool.eq_iff_iff, decide_eq_true_iff, beq_iff_eq]
    exact ⟨fun h => by simpa using mk_inj h, fun h => by rw [h]⟩
theorem vow_is (c : Nat) : (gvPairs.any fun x => decide (mk [c] = x.1)) = isV c := by
  have e : (gvPairs.any fun x => decide (mk [c] = x.1)) = (gvPairs.map (·.1)).any fun x => decide (mk [c] = x) := by rw [List.any_map]; rfl
  rw [e, vow_fst, vow_codes, any_mkV, Bool.eq_iff_iff, isV, List.contains_iff_mem, List.contains_iff_mem]
  exact ⟨fun h => (by decide : ∀ x ∈ [97, 101, 105, 111, 117, 121, 261, 279, 281, 303, 363, 371], x ∈ vowels) c h, fun h => (by decide : ∀ x ∈ vowels, x ∈ [97, 101, 105, 111, 117, 121, 261, 279, 281, 303, 363, 371]) c h⟩
theorem glb_of {es : Array (Int × Value)} {n : Nat} {t : SetTable} (hf : SetFact w es n t) : Glb w (heapE w.params (XS es n t) life) := by
  refine ⟨?_, tab0 w _ life, tab1 w _ life, tab2 w _ life, tab3 w _ life⟩
  obtain ⟨m, ⟨hex, es', ep, t', hd, hel, hmem, hn, hfits⟩, hb⟩ := hf
  refine ⟨fun c => gvPairs.any fun x => decide (c = x.1), m, ⟨XS es n t, es', ep, t', by kernel_rfl, hex, hd, hel, hmem, by rw [hn]; exact hb, hfits, hn⟩, vow_is⟩
end
end Mine
end
section
open PySem PySem.W PySem.Calls PyProof.Rows PySem.Spec
set_option maxRecDepth 1000000
set_option maxHeartbeats 0
set_option linter.unusedVariables false
namespace Mine
open MineH
abbrev row0 : OpenRow := PySem.Challenge.rw_iu0024_01.row
/-- what the walk leans on beside the ground -/
noncomputable def YY (w : World) (h : Heap) : Prop := (KK w.params).In h ∧ Glb w h
theorem YY.keeps {w : World} {h h' : Heap} (y : YY w h) (k : ∀ b o, h.get? b = some o → h'.get? b = some o) : YY w h' := ⟨Frag.In.keeps y.1 k, y.2.keep k⟩
theorem opens0 : opensWell pw = true := by kernel_rfl
theorem frees0 : (frees row0.toRowW && row0.within.isEmpty) = true := by kernel_rfl
theorem holds0 {d : DefRec} {kwd : List (Str × PySem.Expr)} (hdef : defOf VW row0.name = some (d, kwd)) (hp : row0.prog.theDef row0.name = some (d.params, d.body, d.scope)) (hk : kwWritten? d.params.kwonlyargs d.params.kw_defaults = some kwd)
    (k1 : row0.wellSaid = true) (hb : row0.prog.bare) (hw : row0.toRowW.promised) (call : WalkO VW loose0 (XL VW []) YY row0.toRowW d kwd fun f vs => PySem.call f vs) : row0.Holds := by
  obtain ⟨f1, f2⟩ := Bool.and_eq_true_iff.mp frees0
  obtain ⟨hsame, hu, ha, hap, hm⟩ := frees_parts f1
  have hwi : row0.toRowW.claim.within = [] := List.isEmpty_iff.mp f2
  refine ⟨k1, hw, ⟨hb, opens0, rfl⟩, hw.witness, fun w => ⟨(behind w).1, fun s' hs' => ?_⟩⟩
  obtain ⟨s₀, hf, hg0, s, es, n, t, hT, hz, hgens, hg, G00, hheap, hset⟩ := (behind w).2 s' hs'
  have G0 : Ground VW loose0 [] (XL VW []) w s (s.heap.nsMap mainGlobals) (s.heap.nsMap builtinsNs) s.heap := ⟨G00.T, G00.B, G00.D, G00.TE, G00.TD, G00.W, G00.X.1, G00.cls, G00.has, G00.apart, G00.once, G00.K⟩
  have RF := G00.X.2
  have y : YY w s.heap := by rw [hheap]; exact ⟨kk_in _ _ _, glb_of w _ hset⟩
  refine ⟨s₀, hf, hg0, s, hT, fun m hm' => ?_, RF.1, RF.2.1, ?_⟩
  · have hm2 : m = row0.name := by
      by_cases hq : row0.pinned = true
      · rw [if_pos hq] at hm'; exact List.mem_singleton.mp hm'
      · rw [if_neg hq] at hm'; cases hm'
    subst hm2
    exact pinned_of_view hg G0 hdef hp hk
  have G : Ground VW loose0 row0.records (XL VW []) w s (s.heap.nsMap mainGlobals) (s.heap.nsMap builtinsNs) s.heap := RF.ground G0
  refine ClaimW.callFrom_of_specG (c := row0.toRowW.claim) hz hgens fun args hpre hlay ord hord => ?_
  obtain ⟨⟨vs, s₁⟩, hlaid⟩ := Option.isSome_iff_exists.mp (layAllW_isSome (P := w.params) (ord := ord) G.has args row0.args s (pre_splitW hpre).1)
  have keeps := layAllW_keeps _ _ _ hlaid
  have hal := layAllW_rest _ _ _ hlaid
  obtain ⟨as, hrd, hin, hold⟩ := reads_layAllW hord _ _ _ hlaid hlay s₁.heap (fun _ _ e => e)
  have L : Laid row0.records w s s₁ args vs as := ⟨⟨ord, hord, hlaid⟩, hrd, hin, hold, keeps, hal.1.trans hgens, hal.2.2.1⟩
  have G₁ := G.keeps XL.keeps keeps
  obtain ⟨a, o, pm, cd, doc, dV, kV, q1, q2, q3, q4, q5⟩ := G₁.fn hdef
  have hcall := call w s s₁ _ _ G₁ (y.keeps keeps) a o pm cd doc dV kV q2 q3 q4 q5 (defOf_name hdef ▸ q1) L.gens args vs as hpre hlay L.reads L.well (L.low G.low)
  have hi := ident_freeW hu ha hap
  refine ⟨vs, s₁, hlaid, wpAny_bind (wpAny_nsGet G₁.T.g ?_)⟩
  rw [show (s.heap.nsMap mainGlobals) row0.name = some (.ref a) from q1]
  refine wpAny_bind (wpAny_mono hcall (fun v s' g => ?_) fun e s' g => ?_)
  · have z := g.laid (c := row0.toRowW.claim) hsame hwi hi L
    exact wpAny_pure ⟨_, rfl, z.1, z.2.1, z.2.2, fun q => by cases q⟩
  · have z := g.laid (c := row0.toRowW.claim) hsame hwi hi L
    exact ⟨z.1, z.2.1, z.2.2, fun q => by cases q⟩
end Mine
end
section
open PySem PySem.W PyProof.Rows PySem.Calls PySem.Spec
set_option maxRecDepth 100000
namespace Mine
section
variable {prog : Program} {w : World} {A : Around} {E : Value → Shared → Prop} {s : Shared} {h₀ : Heap} {L : Addr} {m : Str → Option Value} {env : Env} {elt : PySem.Expr} {x : Str} {scope : Scope} {cl : List (Str × Addr)} {S : List (Addr × Obj) → Prop} {P : Nat → Value → Prop} {Fin : List Value → List (Addr × Obj) → Prop}
/-- the turns of a list comprehension, with a state c that the ledger hangs on -/
theorem lc_turns {σ : Type} (Led : σ → List (Addr × Obj)) (J : Nat → List Value → σ → Prop) {n : Nat} (c0 : σ) (h0 : J 0 [] c0)
    (turn : ∀ i c v I oI C oC D m₂ ys h tk (E' : Value → Shared → Prop), i < n → P i v → J i ys c → LCg.NsObj oC m₂ → m₂ x = some v → Fr h₀ L h m → News h₀ L h ((I, oI) :: (C, oC) :: (D, LCg.lst ys) :: Led c) → LCg.Off3 I C D (Led c) → ((@Ne Nat I C) ∧ (@Ne Nat I D) ∧ (@Ne Nat C D)) →
      wpAny (model prog w) A (eval elt (compEnvC scope cl C env)) (LCg.CompEnd h₀ L m { s with heap := h, toks := tk } I oI C oC D (LCg.lst ys) S (fun y news' => ∃ c', news' = Led c' ∧ J (i + 1) (ys ++ [y]) c')) E' { s with heap := h, toks := tk })
    (fin : ∀ ys c, J n ys c → Fin ys (Led c)) : LCg.CompRest prog w A h₀ L m env elt x scope cl s S P Fin n 0 [] (Led c0) := by
  have key : ∀ (j i : Nat) (ys : List Value) (c : σ), i + j = n → J i ys c → LCg.CompRest prog w A h₀ L m env elt x scope cl s S P Fin j i ys (Led c) := by
    intro j
    induction j with
    | zero =>
      intro i ys c hi hJ
      have e : i = n := by lia
      subst e
      exact LCg.CompRest.zero (fin ys c hJ)
    | succ j ih =>
      intro i ys c hi hJ
      refine LCg.CompRest.succ ?_
      intro v I oI C oC D m₂ h tk E' hv hC hx F N off ne
      refine wpAny_mono (turn i c v I oI C oC D m₂ ys h tk E' (by lia) hv hJ hC hx F N off ne) (fun y s₂ hq => ?_) fun _ _ e => e
      obtain ⟨h', tk', nw, e, F', N', off', hS, c', rfl, hJ'⟩ := hq
      exact ⟨h', tk', _, e, F', N', off', hS, ih (i + 1) _ c' (by lia) hJ'⟩
  exact key n 0 [] c0 (by lia) h0
theorem r_addL {l b : Addr} {vs ws : List Value} {news : List (Addr × Obj)} {Q : Value → Shared → Prop} (F : Fr h₀ L s.heap m) (N : News h₀ L s.heap news) (hl : s.heap.IsList l vs.toArray) (hb : s.heap.IsList b ws.toArray) (hsz : vs.length + ws.length ≤ sizeLine)
    (h : ∀ D h', Fr h₀ L h' m → News h₀ L h' ((D, listOf (vs ++ ws).toArray 0) :: news) → (∀ p ∈ news, p.1 < D) → Q (.ref D) { s with heap := h' }) :
    wpAny (model prog w) A (binaryOp .Add (.ref l) (.ref b)) Q E s :=
  add_lists F N hl hb (fun h' F' N' => h _ h' F' N' fun p hp => Heap.lt_size (N p hp).1) hsz
end
theorem strs_at : ∀ {vs : List Value} {xs : List (List Nat)}, StrsAre vs (xs.map mk) → ∀ {i : Nat} {v : Value}, vs[i]? = some v → ∃ x t, xs[i]? = some x ∧ v = .str (mk x) t
  | [], [], _, i, v, h => by simp at h
  | _ :: _, [], h, _, _, _ => by cases h
  | [], _ :: _, h, _, _, _ => by cases h
  | v :: vs, x :: xs, h, i, u, e => by
    rw [List.map_cons] at h
    cases h with
    | cons y t r =>
      cases i with
      | zero => simp at e; exact ⟨x, t, rfl, e.symm⟩
      | succ i => simp only [List.getElem?_cons_succ] at e; simpa using strs_at r e
theorem strs_len : ∀ {vs : List Value} {xs : List Str}, StrsAre vs xs → vs.length = xs.length
  | _, _, .nil => rfl
  | _, _, .cons _ _ r => by simp [strs_len r]
theorem strs_snoc' {us : List Value} {ws : List (List Nat)} {x : List Nat} {t : Tok} (h : StrsAre us (ws.map mk)) : StrsAre (us ++ [.str (mk x) t]) ((ws ++ [x]).map mk) := by
  rw [List.map_append]; exact h.append' (.cons _ t .nil)
end Mine
end
section
open PySem PySem.W PyProof.Rows PySem.Calls PySem.Spec
set_option maxRecDepth 100000
set_option maxHeartbeats 8000000
namespace Mine
theorem reg_L6T_1 : True := by
  k_with_none
  k_with "mp" => (first | assumption | lia | decide | (simp; lia) | (simp_all; done) | (simp_all; lia))
  k_with "mN" => (first | k_asm | exact cb_drop (by assumption) (by first | kcj_in | kcj_all))
  k_with "mGW" => (first | assumption | exact Glb.keep (by assumption) (Fr.keep (by assumption)) | exact Glb.keep (by assumption) (Below.stays (by assumption)))
  k_with "mG" => (first | assumption | exact Glb.keep (by assumption) (Fr.keep (by assumption)))
  k_with "mo" => (first | lia | (dsimp only; lia))
  k_with "mr" => (first | exact rfl | assumption)
  k_with "subscriptTail" => ((k_here; (with_reducible show wpAny _ _ (subscriptTail _ _ (Value.str (mk _) _) (Value.int _ _)) _ _ _); (refine' r_item (by lia) (by lia) (by lia) ?_); intro _ _))
  k_with "subscriptTail" => ((k_here; (with_reducible rename Fr _ _ _ _ => F'); (with_reducible rename News _ _ _ _ => N'); (with_reducible show wpAny _ _ (subscriptTail _ (Expr.Slice (some _) (some _) none _) (Value.str (mk _) _) (Value.ref _)) _ _ _); (refine' r_slice_ss (s := ⟨_, _, _, _, _⟩) F' N' (by lia) (by lia) (by lia) (by lia) ?_); intro _ _ _ _ _))
  k_with "subscriptTail" => ((k_here; (with_reducible rename Fr _ _ _ _ => F'); (with_reducible rename News _ _ _ _ => N'); (with_reducible show wpAny _ _ (subscriptTail _ (Expr.Slice (some _) none none _) (Value.str (mk _) _) (Value.ref _)) _ _ _); (refine' r_slice_sn (s := ⟨_, _, _, _, _⟩) F' N' (by lia) (by lia) (by lia) ?_); intro _ _ _ _ _))
  k_with "subscriptTail" => ((k_here; (with_reducible rename Fr _ _ _ _ => F'); (with_reducible rename News _ _ _ _ => N'); (with_reducible show wpAny _ _ (subscriptTail _ (Expr.Slice none (some _) none _) (Value.str (mk _) _) (Value.ref _)) _ _ _); (refine' r_slice_ns (s := ⟨_, _, _, _, _⟩) F' N' (by lia) (by lia) (by lia) ?_); intro _ _ _ _ _))
  k_with "call builtin:len" => ((k_here; (with_reducible show wpAny _ _ (call (Value.builtin "len") [Value.str (mk _) _]) _ _ _); (refine' r_len (by lia) ?_); intro _ _))
  k_with "binaryOp Add" => ((k_here; (with_reducible show wpAny _ _ (binaryOp Operator.Add (Value.str (mk _) _) (Value.str (mk _) _)) _ _ _); (refine' r_add (by first | lia | (simp; lia)) (by first | lia | (simp; lia)) ?_); intro _ _))
  k_with "compareOp Eq" => ((k_here; (with_reducible show wpAny _ _ (compareOp CmpOp.Eq (Value.str (mk _) _) (Value.str (mk _) _)) _ _ _); refine r_eq ?_))
  k_with "call builtin:str.endswith" => ((k_here; (with_reducible show wpAny _ _ (call (Value.builtin "str.endswith") [Value.str (mk _) _, Value.str (mk _) _]) _ _ _); refine r_ends ?_))
  k_with "binaryOp Add ref ref" => ((k_here; (with_reducible show wpAny _ _ (binaryOp _ (Value.ref _) (Value.ref _)) _ _ _); k_dflt (apply r_addL; (case F => k_asm); (case N => k_asm); (case hl => first | exact News.isList (by assumption) (by k_mem) | exact Heap.IsList.at (by assumption) (fun o e => Fr.keep (by assumption) _ o e)); (case hb => first | exact News.isList (by assumption) (by k_mem) | exact Heap.IsList.at (by assumption) (fun o e => Fr.keep (by assumption) _ o e)); (case hsz => (simp only [List.length_append, List.length_map, sizeLine_eq] at *; lia))); intro D' h' F' N' l1; (try k_sweep)))
  k_with "eval ListComp" => ((k_here; (refine LCg.ListComp_U (F₀ := by k_asm) (by with_unfolding_all rfl) (by decide) (by rfl) (by decide) (by rfl) ?_)))
  k_with "CompSrc" => ((k_here; refine Stop.out ?_))
  k_with "CompEnd" => ((k_here; refine Stop.out ?_))
  trivial
theorem lit_i : Str.ofString "i" = mk [105] := by decide +kernel
/-- the endings that _law_both tells -/
noncomputable def bothF (a b : List (List Nat)) : List (List Nat) := a ++ b ++ b.map (105 :: ·)
theorem both_ok : ∀ {w : World} {dp un : Nat} {gd : Option (List Code)} {cn : Str} {cs : Scope} {a : Addr} {ccd : Value} {cl : List (Str × Addr)} {outer : List Env} {A₀ : Around} {base h₀ : Heap} {L : Addr} {m : Str → Option Value} {s : Shared} {Q E : Value → Shared → Prop} {mean : ExcName → Option Value} {mg mb : Str → Option Value} {rest : List (Addr × Obj)} {A1 A2 : Addr} {vs1 vs2 : List Value} {e1 e2 : List (List Nat)}
    (B : Below A₀ base outer h₀) (F : Fr h₀ L s.heap m) (X : (MineH.KK w.params).In h₀) (N : News h₀ L s.heap rest)
    (T : Top MineH.VW (looseW MineH.VW loose0) mean mg mb h₀) (hk : cs.kind = .function) (hdp : dp + 6 < recursionLimit) (hun : un + 34 < cLine) (hl1 : h₀.IsList A1 vs1.toArray) (hS1 : StrsAre vs1 (e1.map mk)) (hl2 : h₀.IsList A2 vs2.toArray) (hS2 : StrsAre vs2 (e2.map mk)) (hz1 : e1.length ≤ 200) (hz2 : e2.length ≤ 200) (hz3 : ∀ x ∈ e2, x.length ≤ 20)
    (hret : ∀ (R : Addr) (vs : List Value) (h' : Heap) (tk' : Nat), StrsAre vs ((bothF e1 e2).map mk) → Fr h₀ L h' m → News h₀ L h' ((R, listOf vs.toArray 0) :: rest) → Q (.ref R) { s with heap := h', toks := tk' }),
    wpAny (model PySem.Challenge.rw_iu0024_01.row.prog w) (ktrTop dp un gd cn cs L a ccd cl outer) (call (.ref 1150) [.ref A1, .ref A2]) Q E s := by
  k_fill
  intro w dp un gd cn cs a ccd cl outer A₀ base h₀ L m s Q E mean mg mb rest A1 A2 vs1 vs2 e1 e2 B F X N T hk hdp hun hl1 hS1 hl2 hS2 hz1 hz2 hz3 hret
  refine wpAny_call ?_
  k_dflt cell_enter
  have hv1 := strs_len hS1
  have hv2 := strs_len hS2
  rw [List.length_map] at hv1 hv2
  (with_reducible rename Fr h₀ _ _ _ => FG1)
  have hg1 := hl1.at fun o e => FG1.keep _ o e
  have hg2 := hl2.at fun o e => FG1.keep _ o e
  k_steps
  (with_reducible rename Fr _ _ _ _ => F3)
  (with_reducible rename News _ _ _ _ => N3)
  refine Stop.back ?_
  refine LCg.CompSrc.base (by rfl) F3 N3 hg2 (by rw [List.size_toArray, sizeLine_eq]; lia) ?_
  intro g3
  refine' lc_turns (fun _ : Unit => _) (fun i ys _ => StrsAre ys (((e2.take i).map (105 :: ·)).map mk)) () ?h0 ?turn ?fin
  case h0 => exact .nil
  case turn =>
    intro i c v I oI C oC D m₂ ys h tk E' hi hv hJ hC hx F4 N4 off ne
    obtain ⟨x, t, hx1, rfl⟩ := strs_at hS2 (by simpa using hv)
    have hxl := hz3 x (List.mem_of_getElem? hx1)
    dsimp only at N4 F4
    k_steps
    rw [lit_i]
    refine r_add (by simp) (by lia) ?_
    intro n1 t1
    refine LCg.CompEnd.intro F4 N4 _ (fun p hp => hp) off (Or.inl hg2) ⟨(), rfl, ?_⟩
    rw [List.take_add_one, hx1, List.map_append]
    exact strs_snoc' hJ
  case fin =>
    intro ys c hJ
    have hyl := strs_len hJ
    rw [List.size_toArray, hv2, List.take_length] at hJ
    simp only [List.length_map, List.length_take] at hyl
    have hJ2 := hJ
    dsimp only
    k_steps
    all_goals (refine' hret _ _ _ _ ?e0 ?kF ?kN; (case kN => first | assumption | exact cb_drop (by assumption) (by first | kcj_in | kcj_all)); (case kF => assumption); (case e0 => (unfold bothF; rw [List.map_append, List.map_append]; exact (hS1.append' hS2).append' hJ2)))
end Mine
end
section
open PySem PySem.W PyProof.Rows PySem.Calls PySem.Spec
set_option maxRecDepth 100000
set_option maxHeartbeats 8000000
namespace Mine
open MineH
/-- texts with tokens in a row -/
noncomputable def strsV : List (List Nat) → Tok → List Value
  | [], _ => []
  | x :: r, k => .str (mk x) k :: strsV r (k + 1)
theorem strsV_are : ∀ (xs : List (List Nat)) (k : Tok), StrsAre (strsV xs k) (xs.map mk)
  | [], _ => .nil
  | x :: r, k => .cons (mk x) k (strsV_are r (k + 1))
noncomputable def onceT : List (List Nat) := [[121, 115, 110, 97], [279, 115, 110, 97], [101, 110, 105, 101], [121, 106, 101], [101, 110, 121, 106, 101], [279, 106, 101], [115, 105, 109, 101], [111, 109, 101], [279, 109, 101], [116, 117, 109, 279, 109, 101], [121, 115, 101], [101, 110, 121, 115, 101], [279, 115, 101], [105, 116, 101], [107, 105, 116, 101], [115, 105, 116, 101], [111, 116, 101], [116, 117, 116, 101], [279, 116, 101], [116, 117, 109, 279, 116, 101], [105], [101, 105], [116, 117, 109, 101, 105], [107, 105], [105, 109, 105], [115, 105, 101, 115, 105], [97, 105, 115, 105], [101, 105, 115, 105], [116, 117, 109, 101, 105, 115, 105], [117, 105, 115, 105], [111, 115, 105], [279, 106, 111, 115, 105], [115, 105, 117, 111, 115, 105], [117, 115, 105], [97, 117, 115, 105], [269, 105, 97, 117, 115, 105], [261, 115, 105], [279, 115, 105], [371, 115, 105], [116, 371, 115, 105], [116, 105], [101, 110, 116, 105], [105, 110, 116, 105], [121, 116, 105], [279, 116, 105], [116, 101, 108, 279, 116, 105], [105, 110, 279, 116, 105], [116, 101, 114, 279, 116, 105], [101, 110, 105, 117, 105], [111, 106], [279, 106], [107], [105, 101, 109], [105, 109], [115, 105, 109], [111, 109], [116, 117, 109], [279, 109], [116, 117, 109, 279, 109], [97, 110], [279, 110], [101, 110, 105, 111], [279, 106, 111], [117, 111], [116, 117, 109, 101, 105, 115], [105, 109, 105, 115], [101, 110, 105, 109, 105, 115], [117, 109, 105, 115], [279, 109, 105, 115], [101, 110, 105, 115], [97, 115, 105, 115], [121, 115, 105, 115], [105, 101, 109, 115], [105, 109, 115], [101, 110, 105, 109, 115], [117, 109, 115], [279, 109, 115], [101, 110, 115], [121, 115], [101, 110, 121, 115], [279, 115], [105, 109, 279, 115], [107, 105, 109, 279, 115], [115, 105, 109, 279, 115], [111, 109, 279, 115], [279, 109, 279, 115], [116, 117, 109, 279, 109, 279, 115], [115, 105, 116, 279, 115], [111, 116, 279, 115], [279, 116, 279, 115], [116, 117, 109, 279, 116, 279, 115], [303, 115], [363, 115], [116, 371, 115], [105, 116], [115, 105, 116], [111, 116], [279, 116], [116, 117, 109, 279, 116], [269, 105, 97, 117], [101, 110, 105, 117], [115, 105, 117], [121], [279], [281], [303], [101, 110, 303]]
theorem bl_once {P : Params} {h : Heap} (X : (KK P).In h) : h.IsList 1142 (strsV onceT 4486).toArray := ⟨_, X 1142 (o_1142 P) (by kernel_rfl), rfl, 0, by kernel_rfl⟩
theorem bn_once : onceT.length ≤ 200 ∧ ∀ x ∈ onceT, x.length ≤ 20 := by decide +kernel
noncomputable def onceIT : List (List Nat) := [[97], [111, 115, 110, 97], [117, 111, 115, 110, 97], [101], [111, 106, 101], [117, 106, 101], [97, 109, 101], [111, 115, 101], [117, 111, 115, 101], [97, 116, 101], [97, 105], [117, 109, 105], [115, 105], [97, 115, 105], [101, 115, 105], [117, 111, 115, 105], [111, 116, 105], [117, 111, 116, 105], [97, 117, 116, 105], [117, 105], [97, 109], [111, 110], [117, 110], [111], [115], [97, 115], [101, 115], [97, 105, 115], [111, 109, 105, 115], [97, 109, 115], [111, 109, 115], [111, 115], [117, 111, 115], [117, 115], [97, 117, 115], [261, 115], [97, 109, 279, 115], [97, 116, 279, 115], [97, 116], [117], [97, 117], [261], [371]]
theorem bl_onceI {P : Params} {h : Heap} (X : (KK P).In h) : h.IsList 1143 (strsV onceIT 4594).toArray := ⟨_, X 1143 (o_1143 P) (by kernel_rfl), rfl, 0, by kernel_rfl⟩
theorem bn_onceI : onceIT.length ≤ 200 ∧ ∀ x ∈ onceIT, x.length ≤ 20 := by decide +kernel
noncomputable def oftenT : List (List Nat) := [[105, 110, 103], [105, 101, 106], [97, 117, 106], [279, 106], [105, 117, 107], [117, 108, 105, 117, 107], [117, 269, 105, 117, 107], [105, 353, 107], [105, 117, 108], [121, 108], [279, 108], [97, 109], [100, 97, 109], [106, 97, 109], [122, 103, 97, 110], [97, 105, 110], [101, 115, 110], [105, 97, 115], [105, 101, 115], [281, 115], [117, 116, 279, 97, 105, 116], [115, 105, 97, 110, 116], [105, 110, 116], [111, 116], [121, 116], [279, 116], [121, 107, 353, 116], [105, 97, 117], [100, 97, 118], [115, 118], [353, 118], [121, 107, 353, 269], [281], [279, 106, 281]]
theorem bl_often {P : Params} {h : Heap} (X : (KK P).In h) : h.IsList 1144 (strsV oftenT 4638).toArray := ⟨_, X 1144 (o_1144 P) (by kernel_rfl), rfl, 0, by kernel_rfl⟩
theorem bn_often : oftenT.length ≤ 200 ∧ ∀ x ∈ oftenT, x.length ≤ 20 := by decide +kernel
noncomputable def oftenIT : List (List Nat) := [[97, 106], [111, 106], [117, 111, 106], [261, 106], [371, 106], [111, 107], [111, 112], [97, 105, 115], [111, 115], [117, 111, 115], [97, 117, 115], [261, 115], [97, 110, 116], [117, 111, 116]]
theorem bl_oftenI {P : Params} {h : Heap} (X : (KK P).In h) : h.IsList 1145 (strsV oftenIT 4673).toArray := ⟨_, X 1145 (o_1145 P) (by kernel_rfl), rfl, 0, by kernel_rfl⟩
theorem bn_oftenI : oftenIT.length ≤ 200 ∧ ∀ x ∈ oftenIT, x.length ≤ 20 := by decide +kernel
end Mine
end
section
open PySem PySem.W PyProof.Rows PySem.Calls PySem.Spec
set_option maxRecDepth 100000
namespace Mine
section
variable {prog : Program} {w : World} {A : Around} {E : Value → Shared → Prop} {s : Shared} {h₀ : Heap} {L W : Addr} {m : Str → Option Value} {us : List Value} {cnt : Nat} {v v' : Value} {news rest : List (Addr × Obj)}
theorem r_appendW {Q : Value → Shared → Prop} (F : Fr h₀ L s.heap m) (N : News h₀ L s.heap ((W, listOf us.toArray cnt) :: rest)) (hW : ∀ p ∈ rest, p.1 ≠ W) (hsz : us.length ≤ sizeLine)
    (h : ∀ h', Fr h₀ L h' m → News h₀ L h' ((W, listOf (us ++ [v]).toArray (cnt + 1)) :: rest) → Q .none { s with heap := h' }) : wpAny (model prog w) A (call (.builtin "list.append") [.ref W, v]) Q E s := by
  have z := N _ List.mem_cons_self
  refine append_at (hsz := by rw [List.size_toArray]; exact hsz) z.1 fun h' hs hD => h h' (F.change hs z.2.1 z.2.2) (fun p hp => ?_)
  rcases List.mem_cons.mp hp with rfl | hp
  · exact ⟨hD.trans (congrArg some (by rw [List.push_toArray])), z.2⟩
  · have y := N p (List.mem_cons_of_mem _ hp)
    exact ⟨hs.extBut _ _ (hW p hp) y.1, y.2⟩
theorem r_last {value slice : PySem.Expr} {u : Tok} {Q : Value → Shared → Prop} (N : News h₀ L s.heap news) (hm : (W, listOf (us ++ [v]).toArray cnt) ∈ news) (hz : us.length ≤ 1000) (h : Q v s)
    (hs : subscripted slice false (.ref W) (.int (-1) u) = operate [.ref W, .int (-1) u] (getItem (.ref W) (.int (-1) u)) := by with_unfolding_all rfl) (hg : ∀ r, letTemporaryGo value (.ref W) r = pure () := by intro _; with_unfolding_all rfl) :
    wpAny (model prog w) A (subscriptTail value slice (.ref W) (.int (-1) u)) Q E s := by
  refine kim_back N hm rfl rfl (by decide) (by rw [List.length_append, List.length_singleton]; lia) (by decide) ?_ h hs hg
  have e : (-1 + ((us ++ [v]).length : Int)).toNat = us.length := by rw [List.length_append, List.length_singleton]; lia
  rw [e]; simp
theorem r_setLast {u : Tok} {Q : Unit → Shared → Prop} (F : Fr h₀ L s.heap m) (N : News h₀ L s.heap ((W, listOf (us ++ [v]).toArray cnt) :: rest)) (hW : ∀ p ∈ rest, p.1 ≠ W) (hz : us.length ≤ 1000)
    (h : ∀ h', Fr h₀ L h' m → News h₀ L h' ((W, listOf (us ++ [v']).toArray cnt) :: rest) → Q () { s with heap := h' }) : wpAny (model prog w) A (setItem (.ref W) (.int (-1) u) v') Q E s := by
  have z := N _ List.mem_cons_self
  have e : (-1 + (((us ++ [v]).toArray.size : Nat) : Int)).toNat = us.length := by rw [List.size_toArray, List.length_append, List.length_singleton]; lia
  refine ki_setBack z.1 (by decide) (by rw [List.size_toArray, List.length_append, List.length_singleton]; lia) (by decide) (h _ (F.change (Heap.SameBut.update ..) z.2.1 z.2.2) (ki_turn (pre := []) _ N (fun _ hp => nomatch hp) hW ?_ ?_))
  · rw [e]
    apply Array.toList_inj.mp
    simp
  · simp
theorem r_chr {i : Int} {t : Tok} {Q : Value → Shared → Prop} (h0 : 0 ≤ i) (h1 : i ≤ 1114111) (h : ∀ t' tk, Q (.str (mk [i.toNat]) t') { s with toks := tk }) : wpAny (model prog w) A (call (.builtin "chr") [.int i t]) Q E s :=
  chr_of_range h0 h1 (h _ _)
theorem r_lenL {a : Addr} {lo : Obj} {k : Nat} {Q : Value → Shared → Prop} (N : News h₀ L s.heap news) (hm : (a, lo) ∈ news) (hc : lo.cls = .type "list") (hd : lo.data = .seq us.toArray k) (hz : us.length ≤ 1000)
    (h : ∀ t' tk, Q (.int (us.length : Int) t') { s with toks := tk }) : wpAny (model prog w) A (call (.builtin "len") [.ref a]) Q E s := by
  refine len_list (items := us.toArray) ⟨lo, (N _ hm).1, hc, k, hd⟩ (by rw [List.size_toArray]; lia) ?_
  rw [List.size_toArray]; exact h _ _
theorem r_pick {value slice : PySem.Expr} {a : Addr} {lo : Obj} {j : Nat} {k : Int} {u : Tok} {xs : List (List Nat)} {Q : Value → Shared → Prop} (N : News h₀ L s.heap news) (hm : (a, lo) ∈ news) (hc : lo.cls = .type "list") (hd : lo.data = .seq us.toArray j) (hS : StrsAre us (xs.map mk)) (hz : us.length ≤ 1000) (h0 : 0 ≤ k) (h1 : k < us.length) (hb : ∀ x ∈ xs, x.length ≤ 10)
    (h : ∀ (e : List Nat) t, e.length ≤ 10 → Q (.str (mk e) t) s)
    (hs : subscripted slice false (.ref a) (.int k u) = operate [.ref a, .int k u] (getItem (.ref a) (.int k u)) := by with_unfolding_all rfl) (hg : ∀ r, letTemporaryGo value (.ref a) r = pure () := by intro _; with_unfolding_all rfl) :
    wpAny (model prog w) A (subscriptTail value slice (.ref a) (.int k u)) Q E s := by
  have hlt : k.toNat < us.length := by lia
  obtain ⟨v, hv⟩ : ∃ v, us[k.toNat]? = some v := ⟨_, List.getElem?_eq_getElem hlt⟩
  obtain ⟨x, t, hx, rfl⟩ := strs_at hS hv
  exact kim_list N hm hc hd h0 (by lia) hv (h x t (hb x (List.mem_of_getElem? hx))) hs hg
end
end Mine
end
section
open PySem PySem.W PyProof.Rows PySem.Calls PySem.Spec
set_option maxRecDepth 100000
set_option maxHeartbeats 8000000
namespace Mine
theorem reg_L9T_1 : True := by
  k_with_none
  k_with "mp" => (first | assumption | lia | decide | (simp; lia) | (simp_all; done) | (simp_all; lia))
  k_with "mN" => (first | k_asm | exact cb_drop (by assumption) (by first | kcj_in | kcj_all))
  k_with "mGW" => (first | assumption | exact Glb.keep (by assumption) (Fr.keep (by assumption)) | exact Glb.keep (by assumption) (Below.stays (by assumption)))
  k_with "mG" => (first | assumption | exact Glb.keep (by assumption) (Fr.keep (by assumption)))
  k_with "mo" => (first | lia | (dsimp only; lia))
  k_with "mr" => (first | exact rfl | assumption)
  k_with "subscriptTail" => ((k_here; (with_reducible show wpAny _ _ (subscriptTail _ _ (Value.str (mk _) _) (Value.int _ _)) _ _ _); (refine' r_item (by lia) (by lia) (by lia) ?_); intro _ _))
  k_with "subscriptTail" => ((k_here; (with_reducible rename Fr _ _ _ _ => F'); (with_reducible rename News _ _ _ _ => N'); (with_reducible show wpAny _ _ (subscriptTail _ (Expr.Slice (some _) (some _) none _) (Value.str (mk _) _) (Value.ref _)) _ _ _); (refine' r_slice_ss (s := ⟨_, _, _, _, _⟩) F' N' (by lia) (by lia) (by lia) (by lia) ?_); intro _ _ _ _ _))
  k_with "subscriptTail" => ((k_here; (with_reducible rename Fr _ _ _ _ => F'); (with_reducible rename News _ _ _ _ => N'); (with_reducible show wpAny _ _ (subscriptTail _ (Expr.Slice (some _) none none _) (Value.str (mk _) _) (Value.ref _)) _ _ _); (refine' r_slice_sn (s := ⟨_, _, _, _, _⟩) F' N' (by lia) (by lia) (by lia) ?_); intro _ _ _ _ _))
  k_with "subscriptTail" => ((k_here; (with_reducible rename Fr _ _ _ _ => F'); (with_reducible rename News _ _ _ _ => N'); (with_reducible show wpAny _ _ (subscriptTail _ (Expr.Slice none (some _) none _) (Value.str (mk _) _) (Value.ref _)) _ _ _); (refine' r_slice_ns (s := ⟨_, _, _, _, _⟩) F' N' (by lia) (by lia) (by lia) ?_); intro _ _ _ _ _))
  k_with "call builtin:len" => ((k_here; (with_reducible show wpAny _ _ (call (Value.builtin "len") [Value.str (mk _) _]) _ _ _); (refine' r_len (by lia) ?_); intro _ _))
  k_with "binaryOp Add" => ((k_here; (with_reducible show wpAny _ _ (binaryOp Operator.Add (Value.str (mk _) _) (Value.str (mk _) _)) _ _ _); (refine' r_add (by first | lia | (simp; lia)) (by first | lia | (simp; lia)) ?_); intro _ _))
  k_with "compareOp Eq" => ((k_here; (with_reducible show wpAny _ _ (compareOp CmpOp.Eq (Value.str (mk _) _) (Value.str (mk _) _)) _ _ _); refine r_eq ?_))
  k_with "call builtin:str.endswith" => ((k_here; (with_reducible show wpAny _ _ (call (Value.builtin "str.endswith") [Value.str (mk _) _, Value.str (mk _) _]) _ _ _); refine r_ends ?_))
  trivial
noncomputable def signsT : List Nat := [97, 261, 98, 99, 269, 100, 101, 281, 279, 102, 103, 104, 105, 303, 121, 106, 107, 108, 109, 110, 111, 112, 114, 115, 353, 116, 117, 371, 363, 118, 122, 382, 39, 113, 119, 120, 65, 278, 45]
theorem lit_signs : Str.ofString "aąbcčdeęėfghiįyjklmnoprsštuųūvzž'qwxAĖ-" = mk signsT := by decide +kernel
theorem signs_len : (signsT.length : Int) = 39 := by decide
theorem signs_le : signsT.length ≤ 1000 := by decide
noncomputable def forBody : List PySem.Stmt := match (MineH.fnBody (MineH.stTop 25)).getD 5 (.Pass default) with | .For _ _ b _ _ => b | _ => []
/-- the rows that law draws from -/
noncomputable abbrev rowsV (R1 R2 D : Addr) (k : Tok) : List Value := [.str (mk signsT) k, .ref R1, .str (mk signsT) k, .ref R2, .str (mk signsT) k, .ref D, .ref R2, .ref R1, .str (mk signsT) k, .ref R2, .str (mk signsT) k, .ref R1, .str (mk signsT) k, .ref R2]
noncomputable abbrev lawM (W Rw D l : Addr) : Str → Option Value := fun y => if y = Str.ofString "words" then some (Value.ref W) else if y = Str.ofString "rows" then some (Value.ref Rw) else if y = Str.ofString "rest" then some (Value.ref D) else (fun z => if z = Str.ofString "script" then some (Value.ref l) else none) y
theorem rows_at {R1 R2 D : Addr} {kk : Tok} {k : Int} (h0 : 0 ≤ k) (h1 : k < 14) : ∃ v, (rowsV R1 R2 D kk)[k.toNat]? = some v ∧ (v = .str (mk signsT) kk ∨ v = .ref R1 ∨ v = .ref R2 ∨ v = .ref D) := by
  obtain ⟨j, rfl⟩ := Int.eq_ofNat_of_zero_le h0
  have hj : j < 14 := by lia
  match j, hj with
  | 0, _ | 2, _ | 4, _ | 8, _ | 10, _ | 12, _ => exact ⟨_, rfl, .inl rfl⟩
  | 1, _ | 7, _ | 11, _ => exact ⟨_, rfl, .inr (.inl rfl)⟩
  | 3, _ | 6, _ | 9, _ | 13, _ => exact ⟨_, rfl, .inr (.inr (.inl rfl))⟩
  | 5, _ => exact ⟨_, rfl, .inr (.inr (.inr rfl))⟩
theorem reg_L9T_2 : True := by
  k_with "call builtin:list.append" => ((k_here; (with_reducible rename Fr _ _ _ _ => F'); (with_reducible rename News _ _ _ _ => N'); (refine' r_appendW F' (by first | exact N' | exact cb_drop N' (fun p hp => List.mem_cons_of_mem _ hp)) (by assumption) (by (simp only [List.length_append, List.length_singleton, sizeLine_eq]; lia)) ?_); (clear F' N'); intro h' F' N'))
  k_with "subscriptTail Name UnaryOp ref int" => ((k_here; (with_reducible rename News _ _ _ _ => N'); (refine' r_last N' (by k_mem) (by lia) ?_)))
  k_with "setItem ref int" => ((k_here; (with_reducible rename Fr _ _ _ _ => F'); (with_reducible rename News _ _ _ _ => N'); (refine' r_setLast F' (by first | exact N' | exact cb_drop N' (fun p hp => List.mem_cons_of_mem _ hp)) (by assumption) (by lia) ?_); (clear F' N'); intro h' F' N'))
  k_with "call builtin:chr" => ((k_here; (with_reducible show wpAny _ _ (call (Value.builtin "chr") [Value.int _ _]) _ _ _); (refine' r_chr (by lia) (by lia) ?_); intro t' _))
  k_with "binaryOp Add str str" => ((k_here; (with_reducible show wpAny _ _ (binaryOp Operator.Add (Value.str (mk _) _) (Value.str (mk _) _)) _ _ _); (refine' r_add (by first | lia | (simp only [List.length_cons, List.length_nil]; lia)) (by first | lia | (simp only [List.length_cons, List.length_nil]; lia)) ?_); intro _ _))
  k_with "call builtin:len" => ((k_here; (with_reducible show wpAny _ _ (call (Value.builtin "len") [Value.ref _]) _ _ _); (with_reducible rename News _ _ _ _ => N'); k_dflt (refine' r_lenL N' (by k_mem) (by exact rfl) (by exact rfl) (by lia) ?_); intro _ _))
  k_with "call builtin:len" => ((k_here; (with_reducible show wpAny _ _ (call (Value.builtin "len") [Value.str (mk _) _]) _ _ _); (refine' r_len (by lia) ?_); intro _ _))
  k_with "subscriptTail Name BinOp ref int" => ((k_here; (with_reducible rename News _ _ _ _ => N'); k_dflt (refine' r_pick N' (by k_mem) (by exact rfl) (by exact rfl) (by assumption) (by lia) (by lia) (by lia) (by assumption) ?_); intro _ _ _))
  k_with "subscriptTail Subscript BinOp str int" => ((k_here; (with_reducible show wpAny _ _ (subscriptTail _ _ (Value.str (mk _) _) (Value.int _ _)) _ _ _); (refine' r_item (by lia) (by lia) (by lia) ?_); intro _ _))
  k_with "binaryOp Mod int int" => ((k_here; (with_reducible show wpAny _ _ (binaryOp Operator.Mod (Value.int _ _) (Value.int _ _)) _ _ _); (refine' mod_int' (by lia) ?_)))
  k_with "subscriptTail Name Name ref int" => ((k_here; (with_reducible rename News _ _ _ _ => N'); k_dflt (refine' kim_list N' (by k_mem) (by exact rfl) (by exact rfl) (by lia) (by lia) (by assumption) ?_)))
  trivial
theorem law_turn : ∀ {w : World} {fa : Addr} {cdv : Value} {h₀ : Heap} {L : Addr} {s : Shared} {Q : Flow → Shared → Prop} {E : Value → Shared → Prop} {mean : ExcName → Option Value} {mg mb : Str → Option Value} {W Rw D R1 R2 l : Addr} {n : Int} {tn kk t : Tok} {u : Str → Option Value} {vs ys v1 v2 : List Value} {x : List Nat} {e1 e2 e3 : List (List Nat)} {cnt : Nat} {rest : List (Addr × Obj)}
    (F : Fr h₀ L s.heap (fun y => if y = Str.ofString "number" then some (.int n tn) else kstB (fun z => if [Str.ofString "which", Str.ofString "kind"].contains z then u z else lawM W Rw D l z) [] y))
    (N : News h₀ L s.heap ((W, listOf (vs ++ [Value.str (mk x) t]).toArray cnt) :: (Rw, listOf (rowsV R1 R2 D kk).toArray 0) :: (D, LCg.lst ys) :: (R2, listOf v2.toArray 0) :: (R1, listOf v1.toArray 0) :: rest))
    (X : (MineH.KK w.params).In h₀) (T : Top MineH.VW (looseW MineH.VW loose0) mean mg mb h₀)
    (hx : x.length ≤ 200) (hvs : vs.length ≤ 100) (hW : ∀ p ∈ (Rw, listOf (rowsV R1 R2 D kk).toArray 0) :: (D, LCg.lst ys) :: (R2, listOf v2.toArray 0) :: (R1, listOf v1.toArray 0) :: rest, p.1 ≠ W)
    (hS1 : StrsAre v1 (e1.map mk)) (hS2 : StrsAre v2 (e2.map mk)) (hS3 : StrsAre ys (e3.map mk)) (hn1 : 0 < v1.length ∧ v1.length ≤ 1000) (hn2 : 0 < v2.length ∧ v2.length ≤ 1000) (hn3 : 0 < ys.length ∧ ys.length ≤ 1000)
    (hb1 : ∀ x ∈ e1, x.length ≤ 10) (hb2 : ∀ x ∈ e2, x.length ≤ 10) (hb3 : ∀ x ∈ e3, x.length ≤ 10)
    (nextA : ∀ (t' : Tok) (c' : Nat) (h' : Heap) (tk' : Nat) (m' : Str → Option Value), (∀ z, z ≠ Str.ofString "number" → [Str.ofString "which", Str.ofString "kind"].contains z = false → m' z = lawM W Rw D l z) → Fr h₀ L h' m' → News h₀ L h' ((W, listOf (vs ++ [Value.str (mk x) t] ++ [Value.str (mk []) t']).toArray c') :: (Rw, listOf (rowsV R1 R2 D kk).toArray 0) :: (D, LCg.lst ys) :: (R2, listOf v2.toArray 0) :: (R1, listOf v1.toArray 0) :: rest) →
      Q .next { s with heap := h', toks := tk' })
    (nextS : ∀ (y : List Nat) (t' : Tok) (c' : Nat) (h' : Heap) (tk' : Nat) (m' : Str → Option Value), y.length ≤ x.length + 10 → (∀ z, z ≠ Str.ofString "number" → [Str.ofString "which", Str.ofString "kind"].contains z = false → m' z = lawM W Rw D l z) → Fr h₀ L h' m' → News h₀ L h' ((W, listOf (vs ++ [Value.str (mk y) t']).toArray c') :: (Rw, listOf (rowsV R1 R2 D kk).toArray 0) :: (D, LCg.lst ys) :: (R2, listOf v2.toArray 0) :: (R1, listOf v1.toArray 0) :: rest) →
      Q .next { s with heap := h', toks := tk' }),
    wpAny (model PySem.Challenge.rw_iu0024_01.row.prog w) (callerA.deeper (envOfC (Str.ofString "law") (MineH.fnScope (MineH.stTop 25)) L fa cdv)) (execs forBody (envOfC (Str.ofString "law") (MineH.fnScope (MineH.stTop 25)) L fa cdv)) Q E s := by
  k_fill
  intro w fa cdv h₀ L s Q E mean mg mb W Rw D R1 R2 l n tn kk t u vs ys v1 v2 x e1 e2 e3 cnt rest F N X T hx hvs hW hS1 hS2 hS3 hn1 hn2 hn3 hb1 hb2 hb3 nextA nextS
  have f1 := Int.fmod_nonneg_of_pos n (show (0 : Int) < 16 by decide)
  have f2 := Int.fmod_lt_of_pos n (show (0 : Int) < 16 by decide)
  have f3 := Int.fmod_nonneg_of_pos (97 + n.fdiv 16) (show (0 : Int) < 55296 by decide)
  have f4 := Int.fmod_lt_of_pos (97 + n.fdiv 16) (show (0 : Int) < 55296 by decide)
  k_steps
  · (first
    | (refine' nextS _ _ _ _ _ _ ?hl ?hm ?kF ?kN; (case kN => assumption); (case kF => assumption); (case hl => (simp only [List.length_append, List.length_cons, List.length_nil]; lia)); (case hm => (intro z q0 q2; simp only [List.contains_cons, List.contains_nil, Bool.or_false, Bool.or_eq_false_iff, beq_eq_false_iff_ne, ne_eq] at q0 q2; simp [kstB, q0, q2])))
    | (refine' nextA _ _ _ _ _ ?hm ?kF ?kN; (case kN => (rw [← lit_empty]; assumption)); (case kF => assumption); (case hm => (intro z q0 q2; simp only [List.contains_cons, List.contains_nil, Bool.or_false, Bool.or_eq_false_iff, beq_eq_false_iff_ne, ne_eq] at q0 q2; simp [kstB, q0, q2]))))
  · (first
    | (refine' nextS _ _ _ _ _ _ ?hl ?hm ?kF ?kN; (case kN => assumption); (case kF => assumption); (case hl => (simp only [List.length_append, List.length_cons, List.length_nil]; lia)); (case hm => (intro z q0 q2; simp only [List.contains_cons, List.contains_nil, Bool.or_false, Bool.or_eq_false_iff, beq_eq_false_iff_ne, ne_eq] at q0 q2; simp [kstB, q0, q2])))
    | (refine' nextA _ _ _ _ _ ?hm ?kF ?kN; (case kN => (rw [← lit_empty]; assumption)); (case kF => assumption); (case hm => (intro z q0 q2; simp only [List.contains_cons, List.contains_nil, Bool.or_false, Bool.or_eq_false_iff, beq_eq_false_iff_ne, ne_eq] at q0 q2; simp [kstB, q0, q2]))))
  · have g0 := signs_len
    have g1 := signs_le
    have g2 := Int.fmod_nonneg_of_pos (n.fdiv 16) (show (0 : Int) < (signsT.length : Int) by lia)
    have g3 := Int.fmod_lt_of_pos (n.fdiv 16) (show (0 : Int) < (signsT.length : Int) by lia)
    have g4 := Int.fmod_nonneg_of_pos (n.fdiv 16) (show (0 : Int) < (v1.length : Int) by lia)
    have g5 := Int.fmod_lt_of_pos (n.fdiv 16) (show (0 : Int) < (v1.length : Int) by lia)
    have g6 := Int.fmod_nonneg_of_pos (n.fdiv 16) (show (0 : Int) < (v2.length : Int) by lia)
    have g7 := Int.fmod_lt_of_pos (n.fdiv 16) (show (0 : Int) < (v2.length : Int) by lia)
    have g8 := Int.fmod_nonneg_of_pos (n.fdiv 16) (show (0 : Int) < (ys.length : Int) by lia)
    have g9 := Int.fmod_lt_of_pos (n.fdiv 16) (show (0 : Int) < (ys.length : Int) by lia)
    obtain ⟨v, hv, rfl | rfl | rfl | rfl⟩ := rows_at (R1 := R1) (R2 := R2) (D := D) (kk := kk) f1 (show n.fmod 16 < 14 by lia)
    all_goals k_steps
    all_goals (first
    | (refine' nextS _ _ _ _ _ _ ?hl ?hm ?kF ?kN; (case kN => assumption); (case kF => assumption); (case hl => (simp only [List.length_append, List.length_cons, List.length_nil]; lia)); (case hm => (intro z q0 q2; simp only [List.contains_cons, List.contains_nil, Bool.or_false, Bool.or_eq_false_iff, beq_eq_false_iff_ne, ne_eq] at q0 q2; simp [kstB, q0, q2])))
    | (refine' nextA _ _ _ _ _ ?hm ?kF ?kN; (case kN => (rw [← lit_empty]; assumption)); (case kF => assumption); (case hm => (intro z q0 q2; simp only [List.contains_cons, List.contains_nil, Bool.or_false, Bool.or_eq_false_iff, beq_eq_false_iff_ne, ne_eq] at q0 q2; simp [kstB, q0, q2]))))
end Mine
end
section
open PySem PySem.W PyProof.Rows PySem.Calls PySem.Spec
set_option maxRecDepth 100000
set_option maxHeartbeats 8000000
namespace Mine
/-- what the loop carries: the words that are done, the word at the end -/
structure LSt where
  ws : List (List Nat)
  vs : List Value
  x : List Nat
  t : Tok
  cnt : Nat
noncomputable def LOk (k : Nat) (c : LSt) : Prop := StrsAre c.vs (c.ws.map mk) ∧ c.vs.length ≤ k ∧ c.x.length ≤ 10 * k ∧ ∀ y ∈ c.ws, y.length ≤ 10 * k
theorem LOk.app {k : Nat} {c : LSt} {t' : Tok} {c' : Nat} (h : LOk k c) : LOk (k + 1) ⟨c.ws ++ [c.x], c.vs ++ [Value.str (mk c.x) c.t], [], t', c'⟩ := by
  obtain ⟨h1, h2, h3, h4⟩ := h
  refine ⟨strs_snoc' h1, by simp; lia, by simp, fun y hy => ?_⟩
  rcases List.mem_append.mp hy with hy | hy
  · have := h4 y hy; lia
  · rw [List.mem_singleton.mp hy]; lia
theorem LOk.set {k : Nat} {c : LSt} {y : List Nat} {t' : Tok} {c' : Nat} (h : LOk k c) (hy : y.length ≤ c.x.length + 10) : LOk (k + 1) ⟨c.ws, c.vs, y, t', c'⟩ := by
  obtain ⟨h1, h2, h3, h4⟩ := h
  refine ⟨h1, Nat.le_succ_of_le h2, by show y.length ≤ _; lia, fun z hz => ?_⟩
  have := h4 z hz; lia
theorem ne_cell {h₀ h : Heap} {L a b : Addr} {oa ob : Obj} {news : List (Addr × Obj)} {xs : Array Value} {n : Nat} {v : Option Value} (N : News h₀ L h news) (ha : (a, oa) ∈ news) (hb : (b, ob) ∈ news) (da : oa.data = .seq xs n) (db : ob.data = .cell v) : @Ne Nat a b := fun e => by
  have x := (N _ ha).1
  have y := (N _ hb).1
  have e2 : oa = ob := by
    have x' : h.get? b = some oa := e ▸ x
    have y' : h.get? b = some ob := y
    rw [x'] at y'; exact Option.some.inj y'
  rw [e2, db] at da
  cases da
theorem law_loop : ∀ {w : World} {fa : Addr} {cdv : Value} {h₀ : Heap} {L : Addr} {s : Shared} {Q : Flow → Shared → Prop} {E : Value → Shared → Prop} {mean : ExcName → Option Value} {mg mb : Str → Option Value} {S W Rw D D1 D2 D3 R1 R2 c1 c2 c3 l : Addr} {o1 o2 o3 q1 q2 q3 : Obj} {us : List Value} {k0 : Nat} {xs : List Int} {tk0 kk : Tok} {ys v1 v2 : List Value} {e1 e2 e3 : List (List Nat)}
    (F : Fr h₀ L s.heap (lawM W Rw D l))
    (N : News h₀ L s.heap [(S, listOf us.toArray k0), (W, listOf #[Value.str (Str.ofString "") tk0] 0), (Rw, listOf #[Value.str (Str.ofString "aąbcčdeęėfghiįyjklmnoprsštuųūvzž'qwxAĖ-") kk, Value.ref R1, Value.str (Str.ofString "aąbcčdeęėfghiįyjklmnoprsštuųūvzž'qwxAĖ-") kk, Value.ref R2, Value.str (Str.ofString "aąbcčdeęėfghiįyjklmnoprsštuųūvzž'qwxAĖ-") kk, Value.ref D, Value.ref R2, Value.ref R1, Value.str (Str.ofString "aąbcčdeęėfghiįyjklmnoprsštuųūvzž'qwxAĖ-") kk, Value.ref R2, Value.str (Str.ofString "aąbcčdeęėfghiįyjklmnoprsštuųūvzž'qwxAĖ-") kk, Value.ref R1, Value.str (Str.ofString "aąbcčdeęėfghiįyjklmnoprsštuųūvzž'qwxAĖ-") kk, Value.ref R2] 0), (D, LCg.lst ys), (D1, q1), (D2, q2), (D3, q3), (R2, listOf v2.toArray 0), (R1, listOf v1.toArray 0), (c3, o3), (c2, o2), (c1, o1)])
    (hW : (@Ne Nat Rw W) ∧ (@Ne Nat D W) ∧ (@Ne Nat R2 W) ∧ (@Ne Nat R1 W) ∧ (@Ne Nat S W) ∧ (@Ne Nat c3 W) ∧ (@Ne Nat c2 W) ∧ (@Ne Nat c1 W))
    (d3 : o3.data = .cell none) (X : (MineH.KK w.params).In h₀) (T : Top MineH.VW (looseW MineH.VW loose0) mean mg mb h₀) (hI : IntsAre us xs) (hxs : xs.length ≤ 20)
    (hS1 : StrsAre v1 (e1.map mk)) (hS2 : StrsAre v2 (e2.map mk)) (hS3 : StrsAre ys (e3.map mk)) (hn1 : 0 < v1.length ∧ v1.length ≤ 1000) (hn2 : 0 < v2.length ∧ v2.length ≤ 1000) (hn3 : 0 < ys.length ∧ ys.length ≤ 1000)
    (hb1 : ∀ x ∈ e1, x.length ≤ 10) (hb2 : ∀ x ∈ e2, x.length ≤ 10) (hb3 : ∀ x ∈ e3, x.length ≤ 10)
    (done : ∀ (ws : List (List Nat)) (vs : List Value) (cnt : Nat) (u : Str → Option Value) (h : Heap) (tk : Nat), StrsAre vs (ws.map mk) → vs.length ≤ 21 → (∀ y ∈ ws, y.length ≤ 200) → (@Ne Nat W c3) ∧ (@Ne Nat R2 c3) ∧ (@Ne Nat R1 c3) →
      Fr h₀ L h (fun y => if y = Str.ofString "number" then u y else kstB (fun z => if [Str.ofString "which", Str.ofString "kind"].contains z then u z else lawM W Rw D l z) [] y) →
      News h₀ L h [(W, listOf vs.toArray cnt), (R2, listOf v2.toArray 0), (R1, listOf v1.toArray 0), (c3, o3), (c2, o2), (c1, o1)] → Q .next { s with heap := h, toks := tk }),
    wpAny (model PySem.Challenge.rw_iu0024_01.row.prog w) (callerA.deeper (envOfC (Str.ofString "law") (MineH.fnScope (MineH.stTop 25)) L fa cdv)) (pyIter (.ref S)) (fun it s₂ => LoopAtV PySem.Challenge.rw_iu0024_01.row.prog w (callerA.deeper (envOfC (Str.ofString "law") (MineH.fnScope (MineH.stTop 25)) L fa cdv)) h₀ (envOfC (Str.ofString "law") (MineH.fnScope (MineH.stTop 25)) L fa cdv) (Str.ofString "number") forBody Q E it s₂) E s := by
  intro w fa cdv h₀ L s Q E mean mg mb S W Rw D D1 D2 D3 R1 R2 c1 c2 c3 l o1 o2 o3 q1 q2 q3 us k0 xs tk0 kk ys v1 v2 e1 e2 e3 F N hW d3 X T hI hxs hS1 hS2 hS3 hn1 hn2 hn3 hb1 hb2 hb3 done
  obtain ⟨w1, w2, w3, w4, w5, w6, w7, w8⟩ := hW
  rw [lit_empty, lit_signs] at N
  refine kst_listL (env := envOfC (Str.ofString "law") (MineH.fnScope (MineH.stTop 25)) L fa cdv) (σ := LSt) (nn := k0) (vs := us) (ns := xs) (fun c => (W, listOf (c.vs ++ [Value.str (mk c.x) c.t]).toArray c.cnt) :: (Rw, listOf (rowsV R1 R2 D kk).toArray 0) :: (D, LCg.lst ys) :: (R2, listOf v2.toArray 0) :: (R1, listOf v1.toArray 0) :: [(S, listOf us.toArray k0), (c3, o3), (c2, o2), (c1, o1)]) (fun _ => []) (fun _ => True) [Str.ofString "which", Str.ofString "kind"] (fun pre c => LOk pre.length c) ⟨[], [], [], tk0, 0⟩ rfl (fun c => by simp) hI F (cb_drop N ?sub) trivial (fun _ hp => nomatch hp) ⟨.nil, by simp, by simp, fun _ hy => nomatch hy⟩ ?turn ?done
  case sub =>
    intro p hp
    simp only [List.mem_cons, List.not_mem_nil, or_false] at hp ⊢
    rcases hp with h | h | h | h | h | h | h | h | h <;> subst h <;> simp
  case turn =>
    rintro c pre post n t u h tk own e1' hm hoff _ p1 F5 N5
    have hlen : pre.length + 1 ≤ 20 := by
      have := congrArg List.length e1'
      rw [List.length_append, List.length_cons] at this
      lia
    have hc := p1
    obtain ⟨h1, h2, h3, h4⟩ := p1
    refine law_turn (rest := [(S, listOf us.toArray k0), (c3, o3), (c2, o2), (c1, o1)] ++ own) F5 N5 X T (by lia) (by lia) ?hW hS1 hS2 hS3 hn1 hn2 hn3 hb1 hb2 hb3 ?nA ?nS
    case hW =>
      intro p hp
      rcases List.mem_append.mp (show p ∈ [(Rw, listOf (rowsV R1 R2 D kk).toArray 0), (D, LCg.lst ys), (R2, listOf v2.toArray 0), (R1, listOf v1.toArray 0), (S, listOf us.toArray k0), (c3, o3), (c2, o2), (c1, o1)] ++ own from hp) with hp | hp
      · simp only [List.mem_cons, List.not_mem_nil, or_false] at hp
        rcases hp with h | h | h | h | h | h | h | h <;> subst h <;> assumption
      · exact hoff p hp W (by simp)
    case nA =>
      intro t' c' h' tk' m' hm' F6 N6
      refine kst_end (⟨c.ws ++ [c.x], c.vs ++ [Value.str (mk c.x) c.t], [], t', c'⟩ : LSt) F6 N6 (fun p hp => List.mem_append_left own hp) (fun p hp => by simp only [List.mem_cons, List.mem_append]; exact .inr (.inr (.inr (.inr (.inr (.inr hp)))))) rfl trivial (fun _ hp => nomatch hp) (fun z z1 _ z3 => hm' z z1 z3) ?_
      rw [List.length_append]; exact hc.app
    case nS =>
      intro y t' c' h' tk' m' hy hm' F6 N6
      refine kst_end (⟨c.ws, c.vs, y, t', c'⟩ : LSt) F6 N6 (fun p hp => List.mem_append_left own hp) (fun p hp => by simp only [List.mem_cons, List.mem_append]; exact .inr (.inr (.inr (.inr (.inr (.inr hp)))))) rfl trivial (fun _ hp => nomatch hp) (fun z z1 _ z3 => hm' z z1 z3) ?_
      rw [List.length_append]; exact hc.set hy
  case done =>
    intro c u h tk _ p1 F5 N5
    obtain ⟨h1, h2, h3, h4⟩ := p1
    refine done (c.ws ++ [c.x]) (c.vs ++ [Value.str (mk c.x) c.t]) c.cnt u h tk (strs_snoc' h1) (by simp; lia) (fun y hy => ?_) ⟨ne_cell N5 (a := W) (b := c3) (oa := listOf (c.vs ++ [Value.str (mk c.x) c.t]).toArray c.cnt) (by simp) (ob := o3) (by simp) rfl d3, ne_cell N5 (a := R2) (b := c3) (oa := listOf v2.toArray 0) (by simp) (ob := o3) (by simp) rfl d3, ne_cell N5 (a := R1) (b := c3) (oa := listOf v1.toArray 0) (by simp) (ob := o3) (by simp) rfl d3⟩ F5 (cb_drop N5 ?sub2)
    · rcases List.mem_append.mp hy with hy | hy
      · have := h4 y hy; lia
      · rw [List.mem_singleton.mp hy]; lia
    · intro p hp
      simp only [List.mem_cons, List.not_mem_nil, or_false] at hp ⊢
      rcases hp with h | h | h | h | h | h <;> subst h <;> simp
end Mine
end
section
open PySem PySem.W PyProof.Rows PySem.Calls PySem.Spec
set_option maxRecDepth 100000
namespace Mine
inductive All2 (R : List Nat → List Nat → Prop) : List (List Nat) → List (List Nat) → Prop
  | nil : All2 R [] []
  | cons {a b : List Nat} {as bs : List (List Nat)} (h : R a b) (t : All2 R as bs) : All2 R (a :: as) (b :: bs)
theorem All2.snoc {R : List Nat → List Nat → Prop} : ∀ {as bs : List (List Nat)} {a b : List Nat}, All2 R as bs → R a b → All2 R (as ++ [a]) (bs ++ [b])
  | _, _, _, _, .nil, h => .cons h .nil
  | _, _, _, _, .cons g t, h => .cons g (t.snoc h)
theorem All2.same {R S : List Nat → List Nat → Prop} : ∀ {as bs cs : List (List Nat)}, (∀ a b c, a ∈ as → R a b → S a c → b = c) → All2 R as bs → All2 S as cs → bs = cs
  | _, _, _, _, .nil, .nil => rfl
  | _, _, _, k, .cons g t, .cons g' t' => by rw [k _ _ _ List.mem_cons_self g g', All2.same (fun a b c h => k a b c (List.mem_cons_of_mem _ h)) t t']
noncomputable def IsD6 (P : Params) (o : Obj) : Prop := ∃ (κ0 κ1 κ2 κ3 κ4 κ5 : Tok) (c cu li lb br ke : Value), o = D6 P κ0 κ1 κ2 κ3 κ4 κ5 c cu li lb br ke
noncomputable def IsD7 (P : Params) (o : Obj) : Prop := ∃ (κ0 κ1 κ2 κ3 κ4 κ5 κ6 : Tok) (c cu li lb br ke p1 : Value), o = D7 P κ0 κ1 κ2 κ3 κ4 κ5 κ6 c cu li lb br ke p1
section
variable {prog : Program} {w : World} {A : Around} {E : Value → Shared → Prop} {s : Shared} {h₀ : Heap} {L : Addr} {m : Str → Option Value} {env : Env} {elt : PySem.Expr} {x : Str} {scope : Scope} {cl : List (Str × Addr)} {Fin : Shared → List Value → List (Addr × Obj) → Prop}
/-- what one stemWord of the row leaves -/
noncomputable def StemEnd (P : Params) (h₀ : Heap) (L : Addr) (m : Str → Option Value) (s₁ : Shared) (S Dd : Addr) (l : List Nat) (led rest : List (Addr × Obj)) (y : Value) (s₂ : Shared) : Prop :=
  ∃ (l' : List Nat) (t8 : Tok) (o : Obj) (h' : Heap) (tk' : Nat), y = .str (mk l') t8 ∧ StemR l l' ∧ IsD7 P o ∧ s₂ = { s₁ with heap := h', toks := tk' } ∧ Fr h₀ L h' m ∧ News h₀ L h' (led ++ (S, instObj 1087 Dd) :: (Dd, o) :: rest)
theorem stems_src {S Dd W : Addr} {o₀ : Obj} {rest : List (Addr × Obj)} {vs : List Value} {cnt : Nat} {ws : List (List Nat)} (hh : A.handled = none) (F : Fr h₀ L s.heap m) (N : News h₀ L s.heap ((S, instObj 1087 Dd) :: (Dd, o₀) :: rest)) (hm : (W, listOf vs.toArray cnt) ∈ rest) (hS : StrsAre vs (ws.map mk)) (hv : vs.length ≤ 21) (hD : IsD6 w.params o₀)
    (turn6 : ∀ (l : List Nat) (t : Tok) (κ0 κ1 κ2 κ3 κ4 κ5 : Tok) (c cu li lb br ke : Value) (I : Addr) (oI : Obj) (C : Addr) (oC : Obj) (Dl : Addr) (m₂ : Str → Option Value) (ys : List Value) (h : Heap) (tk : Nat) (gh : Heap) (E' : Value → Shared → Prop), l ∈ ws → LCg.NsObj oC m₂ → m₂ x = some (.str (mk l) t) → Fr h₀ L h m → News h₀ L h ([(I, oI), (C, oC), (Dl, LCg.lst ys)] ++ (S, instObj 1087 Dd) :: (Dd, D6 w.params κ0 κ1 κ2 κ3 κ4 κ5 c cu li lb br ke) :: rest) → LCg.Off3 I C Dl ((S, instObj 1087 Dd) :: (Dd, D6 w.params κ0 κ1 κ2 κ3 κ4 κ5 c cu li lb br ke) :: rest) → ((@Ne Nat I C) ∧ (@Ne Nat I Dl) ∧ (@Ne Nat C Dl)) →
      wpAny (model prog w) A (eval elt (compEnvC scope cl C env)) (StemEnd w.params h₀ L m { s with heap := h, toks := tk } S Dd l [(I, oI), (C, oC), (Dl, LCg.lst ys)] rest) E' { s with heap := h, toks := tk })
    (turn7 : ∀ (l : List Nat) (t : Tok) (κ0 κ1 κ2 κ3 κ4 κ5 κ6 : Tok) (c cu li lb br ke p1 : Value) (I : Addr) (oI : Obj) (C : Addr) (oC : Obj) (Dl : Addr) (m₂ : Str → Option Value) (ys : List Value) (h : Heap) (tk : Nat) (gh : Heap) (E' : Value → Shared → Prop), l ∈ ws → LCg.NsObj oC m₂ → m₂ x = some (.str (mk l) t) → Fr h₀ L h m → News h₀ L h ([(I, oI), (C, oC), (Dl, LCg.lst ys)] ++ (S, instObj 1087 Dd) :: (Dd, D7 w.params κ0 κ1 κ2 κ3 κ4 κ5 κ6 c cu li lb br ke p1) :: rest) → LCg.Off3 I C Dl ((S, instObj 1087 Dd) :: (Dd, D7 w.params κ0 κ1 κ2 κ3 κ4 κ5 κ6 c cu li lb br ke p1) :: rest) → ((@Ne Nat I C) ∧ (@Ne Nat I Dl) ∧ (@Ne Nat C Dl)) →
      wpAny (model prog w) A (eval elt (compEnvC scope cl C env)) (StemEnd w.params h₀ L m { s with heap := h, toks := tk } S Dd l [(I, oI), (C, oC), (Dl, LCg.lst ys)] rest) E' { s with heap := h, toks := tk })
    (fin : ∀ (g : Heap) ys zs o, StrsAre ys (zs.map mk) → All2 StemR ws zs → Fin { s with heap := g } ys ((S, instObj 1087 Dd) :: (Dd, o) :: rest)) :
    LCg.CompSrc prog w A h₀ L m env elt x scope cl Fin (.ref W) s := by
  have hvl : vs.length = ws.length := by rw [strs_len hS, List.length_map]
  refine LCg.CompSrc.ledger (its := vs.toArray) (k := cnt) hh F N (List.mem_cons_of_mem _ (List.mem_cons_of_mem _ hm)) (by rw [List.size_toArray, sizeLine_eq]; lia) fun g => ?_
  refine lc_turns (σ := Obj) (fun o => (S, instObj 1087 Dd) :: (Dd, o) :: rest) (fun i ys o => (∃ zs, StrsAre ys (zs.map mk) ∧ All2 StemR (ws.take i) zs) ∧ (IsD6 w.params o ∨ IsD7 w.params o)) o₀ ⟨⟨[], .nil, .nil⟩, .inl hD⟩ ?turn ?fin
  case turn =>
    rintro i o v I oI C oC Dl m₂ ys h tk E' hi hv ⟨⟨zs, hz, ha⟩, hd⟩ hC hx F₁ N₁ off ne
    obtain ⟨l, t, hl, rfl⟩ := strs_at hS (by simpa using hv)
    have hlm := List.mem_of_getElem? hl
    have post : ∀ y s₂, StemEnd w.params h₀ L m { s with heap := h, toks := tk } S Dd l [(I, oI), (C, oC), (Dl, LCg.lst ys)] rest y s₂ →
        LCg.CompEnd h₀ L m { ({ s with heap := g } : Shared) with heap := h, toks := tk } I oI C oC Dl (LCg.lst ys) (LCg.SrcAt h₀ W vs.toArray) (fun y news' => ∃ c', news' = (S, instObj 1087 Dd) :: (Dd, c') :: rest ∧ (∃ zs, StrsAre (ys ++ [y]) (zs.map mk) ∧ All2 StemR (ws.take (i + 1)) zs) ∧ (IsD6 w.params c' ∨ IsD7 w.params c')) y s₂ := by
      rintro y s₂ ⟨l', t8, o', h', tk', rfl, hR, hD7, rfl, F', N'⟩
      refine LCg.CompEnd.intro F' N' ((S, instObj 1087 Dd) :: (Dd, o') :: rest) (fun p hp => hp) off (Or.inr ⟨_, List.mem_cons_of_mem _ (List.mem_cons_of_mem _ hm), rfl, _, rfl⟩) ⟨o', rfl, ⟨zs ++ [l'], strs_snoc' hz, ?_⟩, .inr hD7⟩
      rw [List.take_add_one, hl]
      exact ha.snoc hR
    rcases hd with ⟨κ0, κ1, κ2, κ3, κ4, κ5, c, cu, li, lb, br, ke, rfl⟩ | ⟨κ0, κ1, κ2, κ3, κ4, κ5, κ6, c, cu, li, lb, br, ke, p1, rfl⟩
    · exact wpAny_mono (turn6 l t κ0 κ1 κ2 κ3 κ4 κ5 c cu li lb br ke I oI C oC Dl m₂ ys h tk g E' hlm hC hx F₁ N₁ off ne) post fun _ _ e => e
    · exact wpAny_mono (turn7 l t κ0 κ1 κ2 κ3 κ4 κ5 κ6 c cu li lb br ke p1 I oI C oC Dl m₂ ys h tk g E' hlm hC hx F₁ N₁ off ne) post fun _ _ e => e
  case fin =>
    rintro ys o ⟨⟨zs, hz, ha⟩, _⟩
    refine fin g ys zs o hz ?_
    rwa [List.take_of_length_le (by rw [List.size_toArray, hvl]; exact Nat.le_refl _)] at ha
/-- the same for _law_stem, which leaves the ledger -/
theorem law_src {W : Addr} {rest : List (Addr × Obj)} {vs : List Value} {cnt : Nat} {ws : List (List Nat)} {R : List Nat → List Nat → Prop} (hh : A.handled = none) (F : Fr h₀ L s.heap m) (N : News h₀ L s.heap rest) (hm : (W, listOf vs.toArray cnt) ∈ rest) (hS : StrsAre vs (ws.map mk)) (hv : vs.length ≤ 21)
    (turn : ∀ (l : List Nat) (t : Tok) (I : Addr) (oI : Obj) (C : Addr) (oC : Obj) (Dl : Addr) (m₂ : Str → Option Value) (ys : List Value) (h : Heap) (tk : Nat) (E' : Value → Shared → Prop), l ∈ ws → LCg.NsObj oC m₂ → m₂ x = some (.str (mk l) t) → Fr h₀ L h m → News h₀ L h ([(I, oI), (C, oC), (Dl, LCg.lst ys)] ++ rest) →
      wpAny (model prog w) A (eval elt (compEnvC scope cl C env)) (fun y s₂ => ∃ (l' : List Nat) (t8 : Tok) (h' : Heap) (tk' : Nat), y = .str (mk l') t8 ∧ R l l' ∧ s₂ = { s with heap := h', toks := tk' } ∧ Fr h₀ L h' m ∧ News h₀ L h' ([(I, oI), (C, oC), (Dl, LCg.lst ys)] ++ rest)) E' { s with heap := h, toks := tk })
    (fin : ∀ (g : Heap) ys zs, StrsAre ys (zs.map mk) → All2 R ws zs → Fin { s with heap := g } ys rest) :
    LCg.CompSrc prog w A h₀ L m env elt x scope cl Fin (.ref W) s := by
  have hvl : vs.length = ws.length := by rw [strs_len hS, List.length_map]
  refine LCg.CompSrc.ledger (its := vs.toArray) (k := cnt) hh F N hm (by rw [List.size_toArray, sizeLine_eq]; lia) fun g => ?_
  refine lc_turns (σ := Unit) (fun _ => rest) (fun i ys _ => ∃ zs, StrsAre ys (zs.map mk) ∧ All2 R (ws.take i) zs) () ⟨[], .nil, .nil⟩ ?turn ?fin
  case turn =>
    rintro i o v I oI C oC Dl m₂ ys h tk E' hi hv ⟨zs, hz, ha⟩ hC hx F₁ N₁ off ne
    obtain ⟨l, t, hl, rfl⟩ := strs_at hS (by simpa using hv)
    refine wpAny_mono (turn l t I oI C oC Dl m₂ ys h tk E' (List.mem_of_getElem? hl) hC hx F₁ N₁) ?_ fun _ _ e => e
    rintro y s₂ ⟨l', t8, h', tk', rfl, hR, rfl, F', N'⟩
    refine LCg.CompEnd.intro (s₁ := { ({ s with heap := g } : Shared) with heap := h, toks := tk }) F' N' rest (fun p hp => hp) off (Or.inr ⟨_, hm, rfl, _, rfl⟩) ⟨(), rfl, zs ++ [l'], strs_snoc' hz, ?_⟩
    rw [List.take_add_one, hl]
    exact ha.snoc hR
  case fin =>
    rintro ys o ⟨zs, hz, ha⟩
    refine fin g ys zs hz ?_
    rwa [List.take_of_length_le (by rw [List.size_toArray, hvl]; exact Nat.le_refl _)] at ha
end
theorem kts_fr {g g' h : Heap} {L : Addr} {m : Str → Option Value} (T : KtsTurn [] g g') (F : Fr g' L h m) : Fr g L h m :=
  ⟨F.ns, fun b o e => F.keep b o (T.other b o e (fun q => nomatch q)), by rw [← T.size]; exact F.above⟩
theorem kts_news {g g' h : Heap} {L : Addr} {l : List (Addr × Obj)} (T : KtsTurn [] g g') (N : News g' L h l) : News g L h l := fun p hp =>
  ⟨(N p hp).1, (N p hp).2.1, by
    cases q : g.get? p.1 with
    | none => rfl
    | some o => have := T.other _ o q (fun q => nomatch q); rw [(N p hp).2.2] at this; cases this⟩
theorem stem_turn6 {w : World} {dp un : Nat} {gd : Option (List Code)} {cn : Str} {cs : Scope} {a : Addr} {ccd : Value} {cl : List (Str × Addr)} {A₀ : Around} {h₀ : Heap} {L : Addr} {m : Str → Option Value} {s : Shared} {E : Value → Shared → Prop} {mean : ExcName → Option Value} {mg mb : Str → Option Value} {S D I C Dl : Addr} {oI oC : Obj} {ys : List Value} {rest : List (Addr × Obj)} {κ0 κ1 κ2 κ3 κ4 κ5 : Tok} {l : List Nat} {t7 : Tok} {c cu li lb br ke : Value}
    (B : Below A₀ h₀ [] h₀) (F : Fr h₀ L s.heap m) (X : (MineH.KK w.params).In h₀) (N : News h₀ L s.heap ([(I, oI), (C, oC), (Dl, LCg.lst ys)] ++ (S, instObj 1087 D) :: (D, D6 w.params κ0 κ1 κ2 κ3 κ4 κ5 c cu li lb br ke) :: rest))
    (T : Top MineH.VW (looseW MineH.VW loose0) mean mg mb h₀) (hk : cs.kind = .function) (hDS : @LT.lt Nat _ D S) (off : LCg.Off3 I C Dl ((S, instObj 1087 D) :: (D, D6 w.params κ0 κ1 κ2 κ3 κ4 κ5 c cu li lb br ke) :: rest)) (hr : ∀ p ∈ rest, p.1 ≠ D) (G : Glb w h₀) (hdp : dp + 10 < recursionLimit) (hun : un + 50 < cLine) (hl : l.length ≤ 200) :
    wpAny (model PySem.Challenge.rw_iu0024_01.row.prog w) (ktrTop dp un gd cn cs L a ccd cl []) (call (.ref 189) [.ref S, .str (mk l) t7]) (StemEnd w.params h₀ L m s S D l [(I, oI), (C, oC), (Dl, LCg.lst ys)] rest) E s := by
  have offD := off.2.1
  refine word6_ok (κ0 := κ0) (κ1 := κ1) (κ2 := κ2) (κ3 := κ3) (κ4 := κ4) (κ5 := κ5) (c := c) (cu := cu) (li := li) (lb := lb) (br := br) (ke := ke) (κ6 := 0) (outer := []) (base := h₀) (g₀ := h₀) (rest := [(I, oI), (C, oC), (Dl, LCg.lst ys)] ++ rest) B F X (fun p hp => N p ?sub) T hk hDS ?hr G hdp hun X T G ktsDicts_nil KtsTurn.refl (by lia) ?ret
  case sub =>
    simp only [List.mem_cons, List.mem_append, List.not_mem_nil, or_false] at hp ⊢
    rcases hp with h | h | (h | h | h) | h <;> simp [h]
  case hr =>
    intro p hp
    rcases List.mem_append.mp hp with hp | hp
    · simp only [List.mem_cons, List.not_mem_nil, or_false] at hp
      rcases hp with h | h | h <;> subst h
      · exact Ne.symm offD.1
      · exact Ne.symm offD.2.1
      · exact Ne.symm offD.2.2
    · exact hr p hp
  case ret =>
    intro κ6 l' t8 c cu li lb br ke p1 hh h' tk' hR hT F7 N7 _ _ _ _
    refine ⟨l', t8, D7 w.params κ0 κ1 κ2 κ3 κ4 κ5 κ6 c cu li lb br ke p1, h', tk', rfl, hR, ⟨_, _, _, _, _, _, _, _, _, _, _, _, _, _, rfl⟩, rfl, kts_fr hT F7, fun p hp => kts_news hT N7 p ?_⟩
    simp only [List.mem_cons, List.mem_append, List.not_mem_nil, or_false] at hp ⊢
    rcases hp with (h | h | h) | h | h | h <;> simp [h]
theorem stem_turn7 {w : World} {dp un : Nat} {gd : Option (List Code)} {cn : Str} {cs : Scope} {a : Addr} {ccd : Value} {cl : List (Str × Addr)} {A₀ : Around} {h₀ : Heap} {L : Addr} {m : Str → Option Value} {s : Shared} {E : Value → Shared → Prop} {mean : ExcName → Option Value} {mg mb : Str → Option Value} {S D I C Dl : Addr} {oI oC : Obj} {ys : List Value} {rest : List (Addr × Obj)} {κ0 κ1 κ2 κ3 κ4 κ5 κ6 : Tok} {l : List Nat} {t7 : Tok} {c cu li lb br ke p1 : Value}
    (B : Below A₀ h₀ [] h₀) (F : Fr h₀ L s.heap m) (X : (MineH.KK w.params).In h₀) (N : News h₀ L s.heap ([(I, oI), (C, oC), (Dl, LCg.lst ys)] ++ (S, instObj 1087 D) :: (D, D7 w.params κ0 κ1 κ2 κ3 κ4 κ5 κ6 c cu li lb br ke p1) :: rest))
    (T : Top MineH.VW (looseW MineH.VW loose0) mean mg mb h₀) (hk : cs.kind = .function) (hDS : @LT.lt Nat _ D S) (off : LCg.Off3 I C Dl ((S, instObj 1087 D) :: (D, D7 w.params κ0 κ1 κ2 κ3 κ4 κ5 κ6 c cu li lb br ke p1) :: rest)) (hr : ∀ p ∈ rest, p.1 ≠ D) (G : Glb w h₀) (hdp : dp + 10 < recursionLimit) (hun : un + 50 < cLine) (hl : l.length ≤ 200) :
    wpAny (model PySem.Challenge.rw_iu0024_01.row.prog w) (ktrTop dp un gd cn cs L a ccd cl []) (call (.ref 189) [.ref S, .str (mk l) t7]) (StemEnd w.params h₀ L m s S D l [(I, oI), (C, oC), (Dl, LCg.lst ys)] rest) E s := by
  have offD := off.2.1
  refine word7_ok (κ0 := κ0) (κ1 := κ1) (κ2 := κ2) (κ3 := κ3) (κ4 := κ4) (κ5 := κ5) (κ6 := κ6) (c := c) (cu := cu) (li := li) (lb := lb) (br := br) (ke := ke) (p1 := p1) (outer := []) (base := h₀) (g₀ := h₀) (rest := [(I, oI), (C, oC), (Dl, LCg.lst ys)] ++ rest) B F X (fun p hp => N p ?sub) T hk hDS ?hr G hdp hun X T G ktsDicts_nil KtsTurn.refl (by lia) ?ret
  case sub =>
    simp only [List.mem_cons, List.mem_append, List.not_mem_nil, or_false] at hp ⊢
    rcases hp with h | h | (h | h | h) | h <;> simp [h]
  case hr =>
    intro p hp
    rcases List.mem_append.mp hp with hp | hp
    · simp only [List.mem_cons, List.not_mem_nil, or_false] at hp
      rcases hp with h | h | h <;> subst h
      · exact Ne.symm offD.1
      · exact Ne.symm offD.2.1
      · exact Ne.symm offD.2.2
    · exact hr p hp
  case ret =>
    intro κ6 l' t8 c cu li lb br ke p1 hh h' tk' hR hT F7 N7 _ _ _ _
    refine ⟨l', t8, D7 w.params κ0 κ1 κ2 κ3 κ4 κ5 κ6 c cu li lb br ke p1, h', tk', rfl, hR, ⟨_, _, _, _, _, _, _, _, _, _, _, _, _, _, rfl⟩, rfl, kts_fr hT F7, fun p hp => kts_news hT N7 p ?_⟩
    simp only [List.mem_cons, List.mem_append, List.not_mem_nil, or_false] at hp ⊢
    rcases hp with (h | h | h) | h | h | h <;> simp [h]
end Mine
namespace Mine
theorem eq_strsT {prog : Program} {w : World} {A : Around} {E : Value → Shared → Prop} {s : Shared} {a b : Addr} {us vs : List Value} {n k : Nat} {xs : List Str} {Q : Value → Shared → Prop} (ha : s.heap.get? a = some { cls := .type "list", data := .seq us.toArray n }) (hb : s.heap.get? b = some { cls := .type "list", data := .seq vs.toArray k }) (hS : StrsAre us xs) (hT : StrsAre vs xs) (hu : A.units < cLine) (h : Q (.bool true) s) :
    wpAny (model prog w) A (compareOp .Eq (.ref a) (.ref b)) Q E s := by
  have at_ : ∀ {us : List Value} {xs : List Str}, StrsAre us xs → ∀ (j : Nat) (hj : j < us.length), ∃ (x : Str) (t : Tok), xs[j]? = some x ∧ us[j] = .str x t := by
    intro us xs h
    induction h with
    | nil => intro j hj; exact absurd hj (Nat.not_lt_zero _)
    | cons y t h ih =>
      intro j hj
      cases j with
      | zero => exact ⟨y, t, rfl, rfl⟩
      | succ j =>
        obtain ⟨x, t', h1, h2⟩ := ih j (Nat.lt_of_succ_lt_succ hj)
        exact ⟨x, t', by simpa using h1, by simpa using h2⟩
  refine PySem.P.eq_list (items := us.toArray) (items2 := vs.toArray) (e := fun _ => true) ha hb (by rw [List.size_toArray, List.size_toArray, strs_len hS, strs_len hT]) (fun j h1 h2 => ?_) hu ?_
  · obtain ⟨x, t, e1, e2⟩ := at_ hS j (by simpa using h1)
    obtain ⟨y, u, e3, e4⟩ := at_ hT j (by simpa using h2)
    rw [e1] at e3
    cases e3
    have g := PyProof.Rows.eqGives_str x x t u
    rw [beq_self_eq_true] at g
    rw [List.getElem_toArray, List.getElem_toArray, e2, e4]
    exact g
  · rw [show ((List.range us.toArray.size).all fun _ => true) = true by simp]
    exact h
end Mine
end
section
open PySem PySem.W PyProof.Rows PySem.Calls PySem.Spec
set_option maxRecDepth 100000
set_option maxHeartbeats 8000000
namespace Mine
theorem reg_L11T_1 : True := by
  k_with_none
  k_with "mp" => (first | assumption | lia | decide | (simp; lia) | (simp_all; done) | (simp_all; lia))
  k_with "mN" => (first | k_asm | exact cb_drop (by assumption) (by first | kcj_in | kcj_all))
  k_with "mGW" => (first | assumption | exact Glb.keep (by assumption) (Fr.keep (by assumption)) | exact Glb.keep (by assumption) (Below.stays (by assumption)))
  k_with "mG" => (first | assumption | exact Glb.keep (by assumption) (Fr.keep (by assumption)))
  k_with "mo" => (first | lia | (dsimp only; lia))
  k_with "mr" => (first | exact rfl | assumption)
  k_with "subscriptTail" => ((k_here; (with_reducible show wpAny _ _ (subscriptTail _ _ (Value.str (mk _) _) (Value.int _ _)) _ _ _); (refine' r_item (by lia) (by lia) (by lia) ?_); intro _ _))
  k_with "subscriptTail" => ((k_here; (with_reducible rename Fr _ _ _ _ => F'); (with_reducible rename News _ _ _ _ => N'); (with_reducible show wpAny _ _ (subscriptTail _ (Expr.Slice (some _) (some _) none _) (Value.str (mk _) _) (Value.ref _)) _ _ _); (refine' r_slice_ss (s := ⟨_, _, _, _, _⟩) F' N' (by lia) (by lia) (by lia) (by lia) ?_); intro _ _ _ _ _))
  k_with "subscriptTail" => ((k_here; (with_reducible rename Fr _ _ _ _ => F'); (with_reducible rename News _ _ _ _ => N'); (with_reducible show wpAny _ _ (subscriptTail _ (Expr.Slice (some _) none none _) (Value.str (mk _) _) (Value.ref _)) _ _ _); (refine' r_slice_sn (s := ⟨_, _, _, _, _⟩) F' N' (by lia) (by lia) (by lia) ?_); intro _ _ _ _ _))
  k_with "subscriptTail" => ((k_here; (with_reducible rename Fr _ _ _ _ => F'); (with_reducible rename News _ _ _ _ => N'); (with_reducible show wpAny _ _ (subscriptTail _ (Expr.Slice none (some _) none _) (Value.str (mk _) _) (Value.ref _)) _ _ _); (refine' r_slice_ns (s := ⟨_, _, _, _, _⟩) F' N' (by lia) (by lia) (by lia) ?_); intro _ _ _ _ _))
  k_with "call builtin:len" => ((k_here; (with_reducible show wpAny _ _ (call (Value.builtin "len") [Value.str (mk _) _]) _ _ _); (refine' r_len (by lia) ?_); intro _ _))
  k_with "binaryOp Add" => ((k_here; (with_reducible show wpAny _ _ (binaryOp Operator.Add (Value.str (mk _) _) (Value.str (mk _) _)) _ _ _); (refine' r_add (by first | lia | (simp; lia)) (by first | lia | (simp; lia)) ?_); intro _ _))
  k_with "compareOp Eq" => ((k_here; (with_reducible show wpAny _ _ (compareOp CmpOp.Eq (Value.str (mk _) _) (Value.str (mk _) _)) _ _ _); refine r_eq ?_))
  k_with "call builtin:str.endswith" => ((k_here; (with_reducible show wpAny _ _ (call (Value.builtin "str.endswith") [Value.str (mk _) _, Value.str (mk _) _]) _ _ _); refine r_ends ?_))
  k_with "eval ListComp" => ((k_here; (refine LCg.ListComp_U (F₀ := by k_asm) (by with_unfolding_all rfl) (by decide) (by rfl) (by decide) (by rfl) ?_)))
  k_with "CompSrc" => ((k_here; refine Stop.out ?_))
  k_with "CompEnd" => ((k_here; refine Stop.out ?_))
  k_with "call ref" => ((k_here; (with_reducible show wpAny _ _ (call (Value.ref 189) _) _ _ _); refine Stop.out ?_))
  k_with "call ref" => ((k_here; (with_reducible show wpAny _ _ (call (Value.ref 1178) _) _ _ _); refine Stop.out ?_))
  k_with "compareOp Eq ref ref" => ((k_here; refine Stop.out ?_))
  trivial
noncomputable def tailBody : List PySem.Stmt := (MineH.fnBody (MineH.stTop 25)).drop 6
noncomputable def PlainLaw : Prop := ∀ l l' y : List Nat, l.length ≤ 200 → StemR l l' → LS l (bothF onceT onceIT) (bothF oftenT oftenIT) y → l' = y
theorem law_tail (plain : PlainLaw) : ∀ {w : World} {fa : Addr} {cdv : Value} {h₀ : Heap} {L : Addr} {s : Shared} {Q : Flow → Shared → Prop} {E : Value → Shared → Prop} {mean : ExcName → Option Value} {mg mb : Str → Option Value} {W Rw D R1 R2 l : Addr} {o1 o2 o3 : Obj} {u : Str → Option Value} {ws : List (List Nat)} {vs v1 v2 : List Value} {cnt : Nat}
    (F : Fr h₀ L s.heap (fun y => if y = Str.ofString "number" then u y else kstB (fun z => if [Str.ofString "which", Str.ofString "kind"].contains z then u z else lawM W Rw D l z) [] y))
    (N : News h₀ L s.heap [(W, listOf vs.toArray cnt), (R2, listOf v2.toArray 0), (R1, listOf v1.toArray 0), (L + 1 + 1 + 1, o3), (L + 1 + 1, o2), (L + 1, o1)])
    (d1 : o1.data = .cell (some (.ref R1))) (d2 : o2.data = .cell (some (.ref R2))) (d3 : o3.data = .cell none)
    (n1 : @Ne Nat W (L + 1 + 1 + 1)) (n2 : @Ne Nat R2 (L + 1 + 1 + 1)) (n3 : @Ne Nat R1 (L + 1 + 1 + 1))
    (X : (MineH.KK w.params).In h₀) (G : Glb w h₀) (T : Top MineH.VW (looseW MineH.VW loose0) mean mg mb h₀) (B : Below callerA h₀ [] h₀)
    (hS : StrsAre vs (ws.map mk)) (hv : vs.length ≤ 21) (hw : ∀ y ∈ ws, y.length ≤ 200) (hS1 : StrsAre v1 ((bothF onceT onceIT).map mk)) (hS2 : StrsAre v2 ((bothF oftenT oftenIT).map mk))
    (hret : ∀ (t : Tok) (h' : Heap) (tk' : Nat) (m' : Str → Option Value), Fr h₀ L h' m' → Q (.ret (.bool true)) { s with heap := h', toks := tk' }),
    wpAny (model PySem.Challenge.rw_iu0024_01.row.prog w) (callerA.deeper (envOfC (Str.ofString "law") (MineH.fnScope (MineH.stTop 25)) L fa cdv)) (execs tailBody (envOfC (Str.ofString "law") (MineH.fnScope (MineH.stTop 25)) L fa cdv)) Q E s := by
  k_fill
  intro w fa cdv h₀ L s Q E mean mg mb W Rw D R1 R2 l o1 o2 o3 u ws vs v1 v2 cnt F N d1 d2 d3 n1 n2 n3 X G T B hS hv hw hS1 hS2 hret
  k_steps
  (with_reducible rename Fr _ _ _ _ => F4)
  (with_reducible rename News _ _ _ _ => N4)
  refine Stop.back ?_
  refine' stems_src rfl F4 N4 ?hm hS hv ⟨_, _, _, _, _, _, _, _, _, _, _, _, rfl⟩ ?t6 ?t7 ?fin
  case hm => k_mem
  case t6 =>
    intro l1 t1 κ0 κ1 κ2 κ3 κ4 κ5 c cu li lb br ke I oI C oC Dl m₂ ys h tk gh E' hl1 hC hx F5 N5 off ne
    have hl2 := hw _ hl1
    have N5c := N5
    simp only [List.cons_append, List.nil_append] at N5
    k_steps
    refine Stop.back ?_
    refine stem_turn6 B F5 X N5c T rfl ?hDS off ?hr G ?hdp ?hun hl2
    case hDS => assumption
    case hdp => decide
    case hun => decide
    case hr => (repeat' (refine List.forall_mem_cons.mpr ⟨?_, ?_⟩)) <;> first | exact List.forall_mem_nil _ | (show @Ne Nat _ _; lia)
  case t7 =>
    intro l1 t1 κ0 κ1 κ2 κ3 κ4 κ5 κ6 c cu li lb br ke p1 I oI C oC Dl m₂ ys h tk gh E' hl1 hC hx F5 N5 off ne
    have hl2 := hw _ hl1
    have N5c := N5
    simp only [List.cons_append, List.nil_append] at N5
    k_steps
    refine Stop.back ?_
    refine stem_turn7 B F5 X N5c T rfl ?hDS off ?hr G ?hdp ?hun hl2
    case hDS => assumption
    case hdp => decide
    case hun => decide
    case hr => (repeat' (refine List.forall_mem_cons.mpr ⟨?_, ?_⟩)) <;> first | exact List.forall_mem_nil _ | (show @Ne Nat _ _; lia)
  case fin =>
    intro g ys zs o hz ha
    unfold LCg.FinE
    intro D' h' tk' F6 N6 off1
    k_steps
    (with_reducible rename Fr _ _ _ _ => F8)
    (with_reducible rename News _ _ _ _ => N8)
    refine Stop.back ?_
    refine law_src (cnt := cnt) (vs := vs) (R := fun l y => LS l (bothF onceT onceIT) (bothF oftenT oftenIT) y) rfl F8 N8 ?hm hS hv ?t ?fin
    case hm => k_mem
    case t =>
      intro l1 t1 I oI C oC Dl m₂ ys2 h tk E' hl1 hC hx F9 N9
      have hl2 := hw _ hl1
      have N9c := N9
      simp only [List.cons_append, List.nil_append] at N9
      k_steps
      refine Stop.back ?_
      refine stem_ok (rest := [(I, oI), (C, oC), (Dl, LCg.lst ys2)] ++ _) (once := bothF onceT onceIT) (often := bothF oftenT oftenIT) (ob1 := listOf v1.toArray 0) (ob2 := listOf v2.toArray 0) B F9 X N9c T rfl ?hdp ?hun hl2 ?hm1 (fun h e => ⟨_, e, rfl, _, rfl⟩) hS1 ?hm2 (fun h e => ⟨_, e, rfl, _, rfl⟩) hS2 ?ret
      case hdp => decide
      case hun => decide
      case hm1 => simp
      case hm2 => simp
      case ret =>
        intro x t' h' tk' hLS F' N'
        exact ⟨x, t', h', tk', rfl, hLS, rfl, F', N'⟩
    case fin =>
      intro g2 ys2 zs2 hz2 ha2
      unfold LCg.FinE
      intro D2 h2 tk2 F9 N9 off2
      k_steps
      (with_reducible rename Fr _ _ _ _ => F10)
      (with_reducible rename News _ _ _ _ => N10)
      have hzz : zs = zs2 := All2.same (fun a b c hm h1 h2 => plain a b c (hw a hm) h1 h2) ha ha2
      subst hzz
      refine Stop.back ?_
      refine eq_strsT (us := ys) (vs := ys2) (n := ys.length) (k := ys2.length) (N10 (D', LCg.lst ys) (by simp)).1 (N10 (D2, LCg.lst ys2) (by simp)).1 hz hz2 (by rw [units_deeper, units_caller]; decide) ?_
      k_steps
      exact hret 0 _ _ _ F10
end Mine
end
section
open PySem PySem.W PyProof.Rows PySem.Calls PySem.Spec
set_option maxRecDepth 100000
set_option maxHeartbeats 8000000
namespace Mine
theorem reg_L8T_1 : True := by
  k_with_none
  k_with "mp" => (first | assumption | lia | decide | (simp; lia) | (simp_all; done) | (simp_all; lia))
  k_with "mN" => (first | k_asm | exact cb_drop (by assumption) (by first | kcj_in | kcj_all))
  k_with "mGW" => (first | assumption | exact Glb.keep (by assumption) (Fr.keep (by assumption)) | exact Glb.keep (by assumption) (Below.stays (by assumption)))
  k_with "mG" => (first | assumption | exact Glb.keep (by assumption) (Fr.keep (by assumption)))
  k_with "mo" => (first | lia | (dsimp only; lia))
  k_with "mr" => (first | exact rfl | assumption)
  k_with "subscriptTail" => ((k_here; (with_reducible show wpAny _ _ (subscriptTail _ _ (Value.str (mk _) _) (Value.int _ _)) _ _ _); (refine' r_item (by lia) (by lia) (by lia) ?_); intro _ _))
  k_with "subscriptTail" => ((k_here; (with_reducible rename Fr _ _ _ _ => F'); (with_reducible rename News _ _ _ _ => N'); (with_reducible show wpAny _ _ (subscriptTail _ (Expr.Slice (some _) (some _) none _) (Value.str (mk _) _) (Value.ref _)) _ _ _); (refine' r_slice_ss (s := ⟨_, _, _, _, _⟩) F' N' (by lia) (by lia) (by lia) (by lia) ?_); intro _ _ _ _ _))
  k_with "subscriptTail" => ((k_here; (with_reducible rename Fr _ _ _ _ => F'); (with_reducible rename News _ _ _ _ => N'); (with_reducible show wpAny _ _ (subscriptTail _ (Expr.Slice (some _) none none _) (Value.str (mk _) _) (Value.ref _)) _ _ _); (refine' r_slice_sn (s := ⟨_, _, _, _, _⟩) F' N' (by lia) (by lia) (by lia) ?_); intro _ _ _ _ _))
  k_with "subscriptTail" => ((k_here; (with_reducible rename Fr _ _ _ _ => F'); (with_reducible rename News _ _ _ _ => N'); (with_reducible show wpAny _ _ (subscriptTail _ (Expr.Slice none (some _) none _) (Value.str (mk _) _) (Value.ref _)) _ _ _); (refine' r_slice_ns (s := ⟨_, _, _, _, _⟩) F' N' (by lia) (by lia) (by lia) ?_); intro _ _ _ _ _))
  k_with "call builtin:len" => ((k_here; (with_reducible show wpAny _ _ (call (Value.builtin "len") [Value.str (mk _) _]) _ _ _); (refine' r_len (by lia) ?_); intro _ _))
  k_with "binaryOp Add" => ((k_here; (with_reducible show wpAny _ _ (binaryOp Operator.Add (Value.str (mk _) _) (Value.str (mk _) _)) _ _ _); (refine' r_add (by first | lia | (simp; lia)) (by first | lia | (simp; lia)) ?_); intro _ _))
  k_with "compareOp Eq" => ((k_here; (with_reducible show wpAny _ _ (compareOp CmpOp.Eq (Value.str (mk _) _) (Value.str (mk _) _)) _ _ _); refine r_eq ?_))
  k_with "call builtin:str.endswith" => ((k_here; (with_reducible show wpAny _ _ (call (Value.builtin "str.endswith") [Value.str (mk _) _, Value.str (mk _) _]) _ _ _); refine r_ends ?_))
  k_with "call ref" => ((k_here; (with_reducible show wpAny _ _ (call (Value.ref 1150) _) _ _ _); k_dflt (apply both_ok; (case F => k_asm); (case N => k_asm); (case B => assumption); (case X => assumption); (case T => assumption); (case hk => walk_at "mr"); (case hdp => decide); (case hun => decide); (case hl1 => first | exact bl_once (by assumption) | exact bl_often (by assumption)); (case hS1 => exact strsV_are _ _); (case hl2 => first | exact bl_onceI (by assumption) | exact bl_oftenI (by assumption)); (case hS2 => exact strsV_are _ _); (case hz1 => first | exact bn_once.1 | exact bn_often.1); (case hz2 => first | exact bn_onceI.1 | exact bn_oftenI.1); (case hz3 => first | exact bn_onceI.2 | exact bn_oftenI.2); intros; (try k_sweep))))
  k_with "call ref" => ((k_here; (with_reducible show wpAny _ _ (call (Value.ref 35) _) _ _ _); k_dflt (apply init_ok; (case F => k_asm); (case N => k_asm); (case B => assumption); (case X => assumption); (case T => assumption); (case hk => exact rfl); (case hDS => assumption); (case hr => ((repeat' (refine List.forall_mem_cons.mpr ⟨?_, ?_⟩)) <;> first | exact List.forall_mem_nil _ | (dsimp only; lia) | k_ne)); (case G => assumption); (case hdp => decide); (case hun => decide); intros; (try k_sweep))))
  k_with "eval ListComp" => ((k_here; (refine LCg.ListComp_U (F₀ := by k_asm) (by with_unfolding_all rfl) (by decide) (by rfl) (by decide) (by rfl) ?_)))
  k_with "exec Assign cons ListComp" => ((k_here; k_dflt (refine LCg.Assign_ListComp_U (F₀ := by k_asm) (by rfl) (by with_unfolding_all rfl) (by with_unfolding_all rfl) (by decide) (by rfl) (by decide) (by rfl) (by rfl) (by rfl) ?_)))
  k_with "CompSrc" => ((k_here; refine Stop.out ?_))
  k_with "CompEnd" => ((k_here; refine Stop.out ?_))
  k_with "binaryOp Add ref ref" => ((k_here; (with_reducible show wpAny _ _ (binaryOp _ (Value.ref _) (Value.ref _)) _ _ _); k_dflt (apply r_addL; (case F => k_asm); (case N => k_asm); (case hl => first | exact News.isList (by assumption) (by k_mem) | exact Heap.IsList.at (by assumption) (fun o e => Fr.keep (by assumption) _ o e)); (case hb => first | exact News.isList (by assumption) (by k_mem) | exact Heap.IsList.at (by assumption) (fun o e => Fr.keep (by assumption) _ o e)); (case hsz => (simp only [List.length_append, sizeLine_eq] at *; lia))); intro D' h' F' N' l1; (try k_sweep)))
  k_with "exec For Name Subscript cons nil" => ((k_here; refine Stop.out ?_))
  k_with "pyIter ref" => ((k_here; refine Stop.out ?_))
  k_with "subscriptTail Name Constant ref int" => ((k_here; refine Stop.out ?_))
  trivial
noncomputable def allT : List (List Nat × List Nat) := clashT ++ hardT ++ gdT ++ markT
theorem tabs_at {h : Heap} {a b c d : List Value} {A B C D : List (List Nat × List Nat)}
    (na : a.length = A.length) (nb : b.length = B.length) (nc : c.length = C.length)
    (pa : ∀ (i : Nat) (x : Value), a[i]? = some x → ∃ (o n : List Nat) (T : Addr) (t1 t2 : Tok), A[i]? = some (o, n) ∧ x = Value.ref T ∧ IsTup h T #[.str (mk o) t1, .str (mk n) t2])
    (pb : ∀ (i : Nat) (x : Value), b[i]? = some x → ∃ (o n : List Nat) (T : Addr) (t1 t2 : Tok), B[i]? = some (o, n) ∧ x = Value.ref T ∧ IsTup h T #[.str (mk o) t1, .str (mk n) t2])
    (pc : ∀ (i : Nat) (x : Value), c[i]? = some x → ∃ (o n : List Nat) (T : Addr) (t1 t2 : Tok), C[i]? = some (o, n) ∧ x = Value.ref T ∧ IsTup h T #[.str (mk o) t1, .str (mk n) t2])
    (pd : ∀ (i : Nat) (x : Value), d[i]? = some x → ∃ (o n : List Nat) (T : Addr) (t1 t2 : Tok), D[i]? = some (o, n) ∧ x = Value.ref T ∧ IsTup h T #[.str (mk o) t1, .str (mk n) t2]) :
    ∀ (i : Nat) (x : Value), (a ++ b ++ c ++ d)[i]? = some x → ∃ (o n : List Nat) (T : Addr) (t1 t2 : Tok), (A ++ B ++ C ++ D)[i]? = some (o, n) ∧ x = Value.ref T ∧ IsTup h T #[.str (mk o) t1, .str (mk n) t2] := by
  have two : ∀ {a b : List Value} {A B : List (List Nat × List Nat)}, a.length = A.length →
      (∀ (i : Nat) (x : Value), a[i]? = some x → ∃ (o n : List Nat) (T : Addr) (t1 t2 : Tok), A[i]? = some (o, n) ∧ x = Value.ref T ∧ IsTup h T #[.str (mk o) t1, .str (mk n) t2]) →
      (∀ (i : Nat) (x : Value), b[i]? = some x → ∃ (o n : List Nat) (T : Addr) (t1 t2 : Tok), B[i]? = some (o, n) ∧ x = Value.ref T ∧ IsTup h T #[.str (mk o) t1, .str (mk n) t2]) →
      ∀ (i : Nat) (x : Value), (a ++ b)[i]? = some x → ∃ (o n : List Nat) (T : Addr) (t1 t2 : Tok), (A ++ B)[i]? = some (o, n) ∧ x = Value.ref T ∧ IsTup h T #[.str (mk o) t1, .str (mk n) t2] := by
    intro a b A B na pa pb i x hx
    rw [List.getElem?_append] at hx ⊢
    by_cases hi : i < a.length
    · rw [if_pos hi] at hx; rw [if_pos (na ▸ hi)]; exact pa i x hx
    · rw [if_neg hi] at hx; rw [if_neg (na ▸ hi), ← na]; exact pb _ x hx
  exact two (by simp [na, nb, nc]) (two (by simp [na, nb]) (two na pa pb) pc) pd
theorem law_walk (plain : PlainLaw) : ∀ {w : World} {fa : Addr} {cdv : Value} {h₀ : Heap} {L : Addr} {s : Shared} {Q : Flow → Shared → Prop} {E : Value → Shared → Prop} {mean : ExcName → Option Value} {mg mb : Str → Option Value} {l : Addr} {vs : List Value} {ns : List Int} {o1 o2 o3 : Obj}
    (F : Fr h₀ L s.heap (fun z => if z = Str.ofString "script" then some (.ref l) else none)) (N : News h₀ L s.heap [(L + 1 + 1 + 1, o3), (L + 1 + 1, o2), (L + 1, o1)]) (d1 : o1.data = .cell none) (d2 : o2.data = .cell none) (d3 : o3.data = .cell none)
    (X : (MineH.KK w.params).In h₀) (G : Glb w h₀) (T : Top MineH.VW (looseW MineH.VW loose0) mean mg mb h₀) (B : Below callerA h₀ [] h₀) (hl : h₀.IsList l vs.toArray) (hI : IntsAre vs ns) (hz : ns.length ≤ 63) (hPE : PassesOwn (model PySem.Challenge.rw_iu0024_01.row.prog w) (callerA.deeper (envOfC (Str.ofString "law") (MineH.fnScope (MineH.stTop 25)) L fa cdv)) (envOfC (Str.ofString "law") (MineH.fnScope (MineH.stTop 25)) L fa cdv) E)
    (hret : ∀ (t : Tok) (h' : Heap) (tk' : Nat) (m' : Str → Option Value), Fr h₀ L h' m' → Q (.ret (.bool true)) { s with heap := h', toks := tk' }),
    wpAny (model PySem.Challenge.rw_iu0024_01.row.prog w) (callerA.deeper (envOfC (Str.ofString "law") (MineH.fnScope (MineH.stTop 25)) L fa cdv)) (execs (MineH.fnBody (MineH.stTop 25)) (envOfC (Str.ofString "law") (MineH.fnScope (MineH.stTop 25)) L fa cdv)) Q E s := by
  k_fill
  intro w fa cdv h₀ L s Q E mean mg mb l vs ns o1 o2 o3 F N d1 d2 d3 X G T B hl hI hz hPE hret
  obtain ⟨vC, lC, nC, pC⟩ := pt_clash X
  obtain ⟨vH, lH, nH, pH⟩ := pt_hard X
  obtain ⟨vG, lG, nG, pG⟩ := pt_gd X
  obtain ⟨vM, lM, nM, pM⟩ := pt_mark X
  have pA := tabs_at nC nH nG pC pH pG pM
  have hC1 : vC.length = 11 := nC
  have hH1 : vH.length = 2 := nH
  have hG1 : vG.length = 1 := nG
  have hM1 : vM.length = 1 := nM
  clear pC pH pG pM nC nH nG nM
  k_steps
  (with_reducible rename Fr _ _ _ _ => F3)
  (with_reducible rename News _ _ _ _ => N3)
  refine Stop.back ?_
  have hA1 : (vC ++ vH ++ vG ++ vM).length = 15 := by simp [hC1, hH1, hG1, hM1]
  generalize (vC ++ vH ++ vG ++ vM) = vA at *
  refine LCg.CompSrc.ledger (by rfl) F3 N3 (by k_mem) (by rw [List.size_toArray, sizeLine_eq]; lia) ?_
  intro g3
  refine' lc_turns (fun _ : Unit => _) (fun i ys _ => StrsAre ys (((allT.take i).map (·.1)).map mk)) () ?h0 ?turn ?fin
  case h0 => exact .nil
  case turn =>
    intro i c v I oI C oC D m₂ ys h tk E' hi hv hJ hC hx F4 N4 off ne
    obtain ⟨o, n, T1, t1, t2, hx1, rfl, hT⟩ := pA i v (by simpa using hv)
    k_steps
    refine Stop.back ?_
    obtain ⟨ob, hob, hT⟩ := hT
    refine item_tuple ⟨ob, F4.keep _ _ hob, hT⟩ (by decide) (by decide) rfl rfl ?_
    refine LCg.CompEnd.intro F4 N4 _ (fun p hp => hp) off (Or.inr ⟨_, by k_mem, rfl, _, rfl⟩) ⟨(), rfl, ?_⟩
    unfold allT
    rw [List.take_add_one, hx1, List.map_append]
    exact strs_snoc' hJ
  case fin =>
    intro ys c hJ
    rw [List.size_toArray, hA1] at hJ
    have hRest : StrsAre ys ((allT.map (·.1)).map mk) := hJ
    dsimp only
    k_steps
    subst_vars
    (with_reducible rename Fr _ _ _ _ => F5)
    refine Stop.back ?_
    refine for_at (hE := hPE) F5 (by rfl) (by rfl) ?_
    k_steps
    (with_reducible rename Fr _ _ _ _ => F6)
    (with_reducible rename News _ _ _ _ => N6)
    have hRl := strs_len hRest
    refine Stop.back ?_
    refine' law_loop F6 N6 ?hW d3 X T ?hI ?hxs ?S1 ?S2 hRest ?n1 ?n2 ?n3 ?b1 ?b2 ?b3 ?done
    case hI => assumption
    case S1 => assumption
    case S2 => assumption
    case n1 => rw [strs_len (by assumption)]; decide
    case n2 => rw [strs_len (by assumption)]; decide
    case n3 => rw [hRl]; decide
    case b1 => decide
    case b2 => decide
    case b3 => decide
    case hxs => rw [List.length_take]; lia
    case hW => simp only [ne_eq]; lia
    case done =>
      intro ws1 vs1 cnt u7 h7 tk7 hSw hvl hyl hne F7 N7
      obtain ⟨hne1, hne2, hne3⟩ := hne
      refine law_tail plain F7 N7 ?d1 ?d2 d3 hne1 hne2 hne3 X G T B hSw hvl hyl ?S1 ?S2 hret
      case d1 => assumption
      case d2 => assumption
      case S1 => assumption
      case S2 => assumption
end Mine
end
section
set_option maxRecDepth 100000
namespace Mine
theorem le_uniq {l : List Nat} {f p q : Int} (h : LE l f p) (g : LE l f q) : p = q := by
  rcases h with ⟨k, h1, h2, h3, h4, rfl⟩ | ⟨h1, rfl⟩ <;> rcases g with ⟨j, g1, g2, g3, g4, rfl⟩ | ⟨g1, rfl⟩
  · have : k = j := by
      rcases Nat.lt_trichotomy k j with z | z | z
      · exact absurd h3 (g4 k h1 (by lia))
      · exact z
      · exact absurd g3 (h4 j g1 (by lia))
    rw [this]
  · exact absurd h3 (g1 k h1 h2)
  · exact absurd g3 (h1 j g1 g2)
  · rfl
theorem edge_le {l : List Nat} {p : Int} (h : Edge l p) : LE l (firstN l) p := by
  obtain ⟨c1, a1, a2, a3, a4⟩ := h
  rcases a4 with ⟨e, rfl⟩ | ⟨b1, b2, c2, b3, b4, b5, b6⟩
  · refine .inr ⟨fun j j1 j2 v => ?_, rfl⟩
    have := a3 j (by lia) (by lia)
    rw [v.1] at this; cases this
  · have no : ∀ j : Nat, (firstN l : Int) ≤ j → (j : Int) + 1 < c2 → ¬ VC l j := fun j j1 j2 v => by
      by_cases z : (j : Int) < c1
      · have := a3 j j1 z; rw [v.1] at this; cases this
      · have := b5 (j + 1) (by lia) (by lia); rw [v.2] at this; cases this
    rcases b6 with ⟨e, rfl⟩ | ⟨d1, d2, rfl⟩
    · exact .inr ⟨fun j j1 j2 => no j j1 (by lia), rfl⟩
    · obtain ⟨k, hk⟩ := Int.eq_ofNat_of_zero_le (show 0 ≤ c2 - 1 by lia)
      refine .inl ⟨k, by lia, by lia, ⟨?_, ?_⟩, fun j j1 j2 => no j j1 (by lia), by lia⟩
      · by_cases z : c2 - 1 = c1
        · have : c1.toNat = k := by lia
          rw [← this]; exact b2
        · exact b5 k (by lia) (by lia)
      · have : c2.toNat = k + 1 := by lia
        rw [← this]; exact d2
theorem rk_suf {tbl : Tbl} {l : List Nat} {i : Nat} : rk tbl i <+: l.reverse ↔ (tbl.getD i ([], 0, 0)).1 <:+ l := by
  unfold rk; exact List.reverse_prefix
theorem rk_rk {tbl : Tbl} {i j : Nat} : rk tbl i <+: rk tbl j ↔ (tbl.getD i ([], 0, 0)).1 <:+ (tbl.getD j ([], 0, 0)).1 := by
  unfold rk; exact List.reverse_prefix
theorem anew_none {l : List Nat} : ∀ {ps : List (List Nat × List Nat)}, (∀ p ∈ ps, ¬ p.1 <:+ l) → anewF l ps = l
  | [], _ => rfl
  | (o, n) :: r, h => by
    show (if o <:+ l then _ else anewF l r) = l
    rw [if_neg (h (o, n) List.mem_cons_self)]
    exact anew_none fun p hp => h p (List.mem_cons_of_mem _ hp)
theorem anew_one {l o n : List Nat} (hs : o <:+ l) : ∀ {ps : List (List Nat × List Nat)}, (o, n) ∈ ps → (∀ p ∈ ps, p.1 <:+ l → p = (o, n)) → anewF l ps = l.take (l.length - o.length) ++ n
  | [], h, _ => nomatch h
  | (o', n') :: r, h, k => by
    show (if o' <:+ l then _ else anewF l r) = _
    by_cases z : o' <:+ l
    · rw [if_pos z]
      have := k _ List.mem_cons_self z
      cases this; rfl
    · rw [if_neg z]
      refine anew_one hs ?_ fun p hp => k p (List.mem_cons_of_mem _ hp)
      rcases List.mem_cons.mp h with e | h
      · cases e; exact absurd hs z
      · exact h
/-- the tables that are told anew: what the two sides need to say the same -/
structure FixOk (tbl : Tbl) (tab : List (List Nat)) (ps : List (List Nat × List Nat)) : Prop where
  fwd : ∀ i, i < tbl.length → (tbl.getD i ([], 0, 0)).2.2 ≠ 0 ∧ ((tbl.getD i ([], 0, 0)).1, tab.getD ((tbl.getD i ([], 0, 0)).2.2 - 1).toNat []) ∈ ps
  bwd : ∀ p ∈ ps, ∃ i, i < tbl.length ∧ (tbl.getD i ([], 0, 0)).1 = p.1
  one : ∀ p ∈ ps, ∀ q ∈ ps, p.1 <:+ q.1 → p = q
theorem fix_eq {tbl : Tbl} {tab : List (List Nat)} {ps : List (List Nat × List Nat)} (K : FixOk tbl tab ps) {l l' : List Nat} (h : Fix tbl tab l l') : l' = anewF l ps := by
  obtain ⟨r, n, B, h⟩ := h
  rcases B with ⟨i, hi, hx, hall, rfl, rfl⟩ | ⟨hno, rfl, rfl⟩
  · obtain ⟨k1, k2⟩ := K.fwd i hi
    rcases h with ⟨e, _⟩ | ⟨_, rfl⟩
    · exact absurd e k1
    · have hs := rk_suf.mp hx
      rw [rk_len]
      refine (anew_one hs k2 fun p hp hsp => ?_).symm
      obtain ⟨t, ht, e⟩ := K.bwd p hp
      have := rk_rk.mp (hall t ht (rk_suf.mpr (e ▸ hsp)))
      rw [e] at this
      exact K.one _ hp _ k2 this
  · rcases h with ⟨_, rfl⟩ | ⟨e, _⟩
    · refine (anew_none fun p hp hsp => ?_).symm
      obtain ⟨t, ht, e⟩ := K.bwd p hp
      exact hno t ht (rk_suf.mpr (e ▸ hsp))
    · exact absurd rfl e
/-- the endings that are cut -/
structure CutOk (tbl : Tbl) (ends : List (List Nat)) : Prop where
  fwd : ∀ i, i < tbl.length → (tbl.getD i ([], 0, 0)).1 ∈ ends
  bwd : ∀ e ∈ ends, ∃ i, i < tbl.length ∧ (tbl.getD i ([], 0, 0)).1 = e
  len : ∀ e ∈ ends, 1 ≤ e.length ∧ e.length ≤ 7
theorem wo_uniq {l : List Nat} {e : Int} {ends : List (List Nat)} {x y : List Nat} (h : WO l e ends x) (g : WO l e ends y) : x = y := by
  rcases h with ⟨p, a1, a2, a3, a4, rfl⟩ | ⟨a1, rfl⟩ <;> rcases g with ⟨q, b1, b2, b3, b4, rfl⟩ | ⟨b1, rfl⟩
  · have : p = q := by
      rcases Nat.lt_trichotomy p q with z | z | z
      · exact absurd a3 (b4 p a1 z)
      · exact z
      · exact absurd b3 (a4 q b1 z)
    rw [this]
  · exact absurd a3 (b1 p a1 a2)
  · exact absurd b3 (a1 q b1 b2)
  · rfl
theorem wo_short {l : List Nat} {p : Int} {ends : List (List Nat)} (h : (l.length : Int) < p) : WO l p ends l := .inr ⟨fun q h1 h2 => by lia, rfl⟩
theorem drop_suf {l : List Nat} {p q : Nat} (h : p ≤ q) : l.drop q <:+ l.drop p := by
  have : l.drop q = (l.drop p).drop (q - p) := by rw [List.drop_drop]; congr 1; lia
  rw [this]; exact List.drop_suffix _ _
theorem best_wo {tbl : Tbl} {ends : List (List Nat)} (K : CutOk tbl ends) {l : List Nat} {p r : Int} {n : Nat} (h0 : 0 ≤ p) (hp : p ≤ l.length) (B : Best tbl (l.drop p.toNat).reverse r n) : WO l p ends (l.take (l.length - n)) := by
  rcases B with ⟨i, hi, hx, hall, rfl, rfl⟩ | ⟨hno, rfl, rfl⟩
  · have hs := rk_suf.mp hx
    have hm := K.fwd i hi
    obtain ⟨l1, l2⟩ := K.len _ hm
    have hle := hs.length_le
    rw [List.length_drop] at hle
    rw [rk_len]
    have hsl : (tbl.getD i ([], 0, 0)).1 <:+ l := hs.trans (List.drop_suffix _ _)
    have hd : l.drop (l.length - (tbl.getD i ([], 0, 0)).1.length) = (tbl.getD i ([], 0, 0)).1 := by
      rw [List.suffix_iff_eq_drop] at hsl; exact hsl.symm
    refine .inl ⟨l.length - (tbl.getD i ([], 0, 0)).1.length, by lia, by lia, by rw [hd]; exact hm, fun q q1 q2 hq => ?_, rfl⟩
    obtain ⟨t, ht, e⟩ := K.bwd _ hq
    have h1 := rk_rk.mp (hall t ht (rk_suf.mpr (e ▸ drop_suf (show p.toNat ≤ q by lia))))
    have h2 := h1.length_le
    rw [e, List.length_drop] at h2
    lia
  · refine .inr ⟨fun q q1 q2 hq => ?_, by rw [Nat.sub_zero, List.take_length]⟩
    obtain ⟨t, ht, e⟩ := K.bwd _ hq
    exact hno t ht (rk_suf.mpr (e ▸ drop_suf (show p.toNat ≤ q by lia)))
theorem cut_wo {tbl : Tbl} {ends : List (List Nat)} (K : CutOk tbl ends) {l l' : List Nat} {p : Int} (h0 : 0 ≤ p) (h : Cut tbl p l l') : WO l p ends l' := by
  rcases h with ⟨h, rfl⟩ | ⟨h, r, n, B, rfl⟩
  · exact wo_short h
  · exact best_wo K h0 h B
theorem cutsL_none {e : Int} {ends : List (List Nat)} {c d : List Nat} {n : Nat} (w : WO c e ends c) (h : CutsL e ends c d n) : d = c := by
  induction h with
  | zero => rfl
  | step h w' ne ih => subst ih; exact absurd (wo_uniq w' w) ne
theorem cutsL_first {e : Int} {ends : List (List Nat)} {c c' d : List Nat} {n : Nat} (w : WO c e ends c') (h : CutsL e ends c d n) : d = c ∨ ∃ m, CutsL e ends c' d m := by
  induction h with
  | zero => exact .inl rfl
  | step h w' ne ih =>
    rcases ih with rfl | ⟨m, g⟩
    · rw [wo_uniq w' w]; exact .inr ⟨0, .zero⟩
    · exact .inr ⟨m + 1, .step g w' ne⟩
theorem cuts_lw {tbl : Tbl} {ends : List (List Nat)} (K : CutOk tbl ends) {l l' : List Nat} {p : Int} (h0 : 0 ≤ p) (h : CutsTo tbl p l l') : ∀ d, LW l p ends d → l' = d := by
  induction h with
  | short h => exact fun d ⟨⟨n, c⟩, _⟩ => (cutsL_none (wo_short h) c).symm
  | none h B =>
    have w := best_wo K h0 h B
    rw [Nat.sub_zero, List.take_length] at w
    exact fun d ⟨⟨n, c⟩, _⟩ => (cutsL_none w c).symm
  | @cut l l' r n h B hn _ ih =>
    have w := best_wo K h0 h B
    intro d ⟨⟨m, c⟩, wd⟩
    rcases cutsL_first w c with rfl | ⟨k, g⟩
    · have := congrArg List.length (wo_uniq wd w)
      rw [List.length_take] at this
      have hz : d.length = 0 := by lia
      have hd : d = [] := List.length_eq_zero_iff.mp hz
      refine ih d ?_
      rw [hd]
      subst hd
      exact ⟨⟨0, by simpa using CutsL.zero⟩, wd⟩
    · exact ih d ⟨⟨k, g⟩, wd⟩
theorem gd_eq {l l' : List Nat} (h : Gd l l') : l' = anewF l gdT := by
  show l' = if [103, 100] <:+ l then l.take (l.length - 2) ++ [103] else l
  rcases h with ⟨h, rfl⟩ | ⟨h, rfl⟩
  · rw [if_pos h]
  · rw [if_neg h]
theorem mark_eq {l l' : List Nat} (h : Mark l l') : l' = anewF l markT := by
  show l' = if [39] <:+ l then l.take (l.length - 1) ++ [] else l
  rcases h with ⟨h, rfl⟩ | ⟨h, rfl⟩
  · rw [if_pos h, List.append_nil]
  · rw [if_neg h]
theorem fixok2 : FixOk tbl2 as2 clashT := ⟨by decide +kernel, by decide +kernel, by decide +kernel⟩
theorem fixok3 : FixOk tbl3 as3 hardT := ⟨by decide +kernel, by decide +kernel, by decide +kernel⟩
noncomputable def atB (tbl : Tbl) (e : List Nat) : Bool := (tbl.map (·.1)).contains e
theorem at_of {tbl : Tbl} {e : List Nat} (h : atB tbl e = true) : ∃ i, i < tbl.length ∧ (tbl.getD i ([], 0, 0)).1 = e := by
  unfold atB at h
  rw [List.contains_iff_mem] at h
  obtain ⟨x, hx, rfl⟩ := List.mem_map.mp h
  obtain ⟨i, hi, e⟩ := List.mem_iff_getElem.mp hx
  exact ⟨i, hi, by rw [List.getD_eq_getElem?_getD, List.getElem?_eq_getElem hi, e]; rfl⟩
theorem cutok_of {tbl : Tbl} {ends : List (List Nat)} (h1 : (tbl.all fun x => ends.contains x.1) = true) (h2 : (ends.all fun e => atB tbl e && (Nat.ble 1 e.length && Nat.ble e.length 7)) = true) : CutOk tbl ends := by
  rw [List.all_eq_true] at h1 h2
  refine ⟨fun i hi => ?_, fun e he => ?_, fun e he => ?_⟩
  · have := h1 _ (List.getElem_mem hi)
    rw [List.contains_iff_mem] at this
    rw [List.getD_eq_getElem?_getD, List.getElem?_eq_getElem hi]
    exact this
  · have := h2 e he
    rw [Bool.and_eq_true] at this
    exact at_of this.1
  · have := h2 e he
    simp only [Bool.and_eq_true] at this
    exact ⟨Nat.le_of_ble_eq_true this.2.1, Nat.le_of_ble_eq_true this.2.2⟩
theorem cutok0 : CutOk tbl0 (bothF onceT onceIT) := cutok_of (by decide +kernel) (by decide +kernel)
theorem cutok1 : CutOk tbl1 (bothF oftenT oftenIT) := cutok_of (by decide +kernel) (by decide +kernel)
theorem plain : ∀ l l' y : List Nat, l.length ≤ 200 → StemR l l' → LS l (bothF onceT onceIT) (bothF oftenT oftenIT) y → l' = y := by
  rintro l l' y _ ⟨p1, l1, l2, l3, l4, l5, l6, he, f1, c1, f2, c2, f3, g, m⟩ ⟨p, b, d, hl, wo, lw, rfl⟩
  have hp : p1 = p := le_uniq (edge_le he) hl
  subst hp
  have h0 := (le_nonneg hl).1
  have e1 := fix_eq fixok2 f1
  subst e1
  have e2 : l2 = b := wo_uniq (cut_wo cutok0 h0 c1) wo
  subst e2
  have e3 := fix_eq fixok3 f2
  subst e3
  have e4 : l4 = d := cuts_lw cutok1 h0 c2 d lw
  subst e4
  have e5 := fix_eq fixok3 f3
  subst e5
  rw [mark_eq m, gd_eq g]
end Mine
end
section
open PySem PySem.W PyProof.Rows PySem.Calls PySem.Spec
set_option maxRecDepth 100000
set_option maxHeartbeats 8000000
namespace Mine
theorem row_said : OpenRow.wellSaid PySem.Challenge.rw_iu0024_01.row = true := by kernel_rfl
theorem law_said : PySem.Challenge.rw_iu0024_01.wellSaid = true := by
  unfold OpenLaw.wellSaid
  rw [row_said]
  kernel_rfl
theorem law_holds : PySem.Challenge.rw_iu0024_01.Holds := by
  refine ⟨law_said, ?_⟩
  w_on
  have said := row_said
  refine holds0 (by rfl) (by rfl) (by rfl) (by first | assumption | decide +kernel) ⟨rfl, rfl, rfl, rfl, rfl, by decide +kernel⟩ ?hw ?hc
  case hw => w_witness2
  case hc =>
    k_fill
    intro w s₀ s₁ mg mb G Y fa o pm cd doc dV kV ho hd hcd hD hmg hg args vals as hpre hlay hrd hwl hlo
    obtain ⟨KX, GB⟩ := Y
    k_behind G ho hd hcd hD hmg hpre hlay hrd hwl hlo cd
    clear hcd hD
    (with_reducible rename Fr _ _ _ _ => F1)
    (with_reducible rename News _ _ _ _ => N1)
    refine' law_walk plain F1 N1 ?d1 ?d2 ?d3 KX GB ?T ?B ?hl ?hI ?hz ?hPE ?hret
    case d1 => assumption
    case d2 => assumption
    case d3 => assumption
    case T => assumption
    case B => assumption
    case hl => assumption
    case hI => assumption
    case hz => lia
    case hPE => passes_own
    case hret =>
      intro t h' tk' m' F'
      k_steps
end Mine
end
end
open PySem PySem.W PyProof.Rows
theorem PySem.Challenge.cw_iu0024_01_holds : PySem.Challenge.rw_iu0024_01.Holds :=
  Mine.law_holds
