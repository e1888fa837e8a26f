import PyProof.Rows.All
import Wide.All
import OpenK.AllK
import Wide.FinOn
import KE.KBits
import KE.BitLaws
import PyProof.ListIndex
import PyProof.RulesAssignMore
import PyProof.ListCopy
import PyProof.Rows.SumAny
import PyProof.WalkInts
import KE.KIntText
import PyProof.Conv_int
import PyProof.ReprStr
import KE.KTryMore
import KE.KLam
import KE.IntTextLaws
import KE.KNest
import PySem.Challenge.RW_op0036_02
section
open PySem PySem.W PySem.Spec PySem.Calls PyProof.Rows
set_option Elab.async false
set_option linter.unusedVariables false
namespace Mine
inductive D where
  | none
  | bool (b : Bool)
  | int (i : Int)
  | str (x : Str)
  | bytes (b : Array UInt8)
  | tup (l : List D)
  | lst (l : List D)
  | mls (l : List D)
  | rng (a b c : Int)
  | val (v : Value)
deriving Inhabited
mutual
noncomputable def Rel (mu : List Addr) (h : Heap) : D → Value → Prop
  | .none, v => v = .none
  | .bool b, v => v = .bool b
  | .int i, v => ∃ t, v = .int i t
  | .str x, v => ∃ t, v = .str x t
  | .bytes b, v => ∃ t, v = .bytes b t
  | .tup l, v => ∃ a vs, v = .ref a ∧ a ∉ mu ∧ IsTup h a vs.toArray ∧ RelL mu h l vs
  | .lst l, v => ∃ a vs, v = .ref a ∧ a ∉ mu ∧ h.IsList a vs.toArray ∧ RelL mu h l vs
  | .mls l, v => ∃ a vs, v = .ref a ∧ h.PlainList a vs.toArray ∧ RelL mu h l vs
  | .rng a b c, v => ∃ r t u w, v = .ref r ∧ r ∉ mu ∧ IsRange h r a b c t u w
  | .val x, v => v = x
noncomputable def RelL (mu : List Addr) (h : Heap) : List D → List Value → Prop
  | [], vs => vs = []
  | d :: ds, vs => ∃ v vs', vs = v :: vs' ∧ Rel mu h d v ∧ RelL mu h ds vs'
end

mutual
noncomputable def Froz : D → Prop
  | .mls _ => False
  | .tup l => FrozL l
  | .lst l => FrozL l
  | _ => True
noncomputable def FrozL : List D → Prop
  | [] => True
  | d :: ds => Froz d ∧ FrozL ds
end

noncomputable def KeptBut (mu : List Addr) (h h' : Heap) : Prop := ∀ b o, b ∉ mu → h.get? b = some o → h'.get? b = some o
mutual
theorem Rel.but {mu : List Addr} {h h' : Heap} (k : KeptBut mu h h') : ∀ {d : D} {v : Value}, Froz d → Rel mu h d v → Rel mu h' d v
  | .none, _, _, r => r
  | .bool _, _, _, r => r
  | .int _, _, _, r => r
  | .str _, _, _, r => r
  | .bytes _, _, _, r => r
  | .val _, _, _, r => r
  | .mls _, _, f, _ => by simp only [Froz] at f
  | .rng a b c, v, f, r => by
    simp only [Rel] at r ⊢
    obtain ⟨r, t, u, w, e, hm, hi⟩ := r
    exact ⟨r, t, u, w, e, hm, k r _ hm hi⟩
  | .tup l, v, f, r => by
    simp only [Rel] at r ⊢
    simp only [Froz] at f
    obtain ⟨a, vs, e, hm, hi, hr⟩ := r
    obtain ⟨o, ho, q⟩ := hi
    exact ⟨a, vs, e, hm, ⟨o, k a o hm ho, q⟩, RelL.but k f hr⟩
  | .lst l, v, f, r => by
    simp only [Rel] at r ⊢
    simp only [Froz] at f
    obtain ⟨a, vs, e, hm, hi, hr⟩ := r
    exact ⟨a, vs, e, hm, hi.at fun o ho => k a o hm ho, RelL.but k f hr⟩
theorem RelL.but {mu : List Addr} {h h' : Heap} (k : KeptBut mu h h') : ∀ {ds : List D} {vs : List Value}, FrozL ds → RelL mu h ds vs → RelL mu h' ds vs
  | [], _, _, r => r
  | d :: ds, vs, f, r => by
    simp only [RelL] at r ⊢
    simp only [FrozL] at f
    obtain ⟨v, vs', e, r1, r2⟩ := r
    exact ⟨v, vs', e, Rel.but k f.1 r1, RelL.but k f.2 r2⟩
end

noncomputable def Kept (h h' : Heap) : Prop := ∀ b o, h.get? b = some o → h'.get? b = some o
mutual
theorem Rel.kept {mu : List Addr} {h h' : Heap} (k : Kept h h') : ∀ {d : D} {v : Value}, Rel mu h d v → Rel mu h' d v
  | .none, _, r => r
  | .bool _, _, r => r
  | .int _, _, r => r
  | .str _, _, r => r
  | .bytes _, _, r => r
  | .val _, _, r => r
  | .mls l, v, r => by
    simp only [Rel] at r ⊢
    obtain ⟨a, vs, e, hi, hr⟩ := r
    exact ⟨a, vs, e, hi.at fun o ho => k a o ho, RelL.kept k hr⟩
  | .rng a b c, v, r => by
    simp only [Rel] at r ⊢
    obtain ⟨r, t, u, w, e, hm, hi⟩ := r
    exact ⟨r, t, u, w, e, hm, k r _ hi⟩
  | .tup l, v, r => by
    simp only [Rel] at r ⊢
    obtain ⟨a, vs, e, hm, hi, hr⟩ := r
    obtain ⟨o, ho, q⟩ := hi
    exact ⟨a, vs, e, hm, ⟨o, k a o ho, q⟩, RelL.kept k hr⟩
  | .lst l, v, r => by
    simp only [Rel] at r ⊢
    obtain ⟨a, vs, e, hm, hi, hr⟩ := r
    exact ⟨a, vs, e, hm, hi.at fun o ho => k a o ho, RelL.kept k hr⟩
theorem RelL.kept {mu : List Addr} {h h' : Heap} (k : Kept h h') : ∀ {ds : List D} {vs : List Value}, RelL mu h ds vs → RelL mu h' ds vs
  | [], _, r => r
  | d :: ds, vs, r => by
    simp only [RelL] at r ⊢
    obtain ⟨v, vs', e, r1, r2⟩ := r
    exact ⟨v, vs', e, Rel.kept k r1, RelL.kept k r2⟩
end

theorem Rel.sub {mu mu' : List Addr} {h : Heap} (k : ∀ a ∈ mu', a ∈ mu ∨ h.get? a = none) : ∀ {d : D} {v : Value}, Rel mu h d v → Rel mu' h d v := by
  have main : ∀ n : Nat, (∀ d v, sizeOf d < n → Rel mu h d v → Rel mu' h d v) ∧ (∀ ds vs, sizeOf ds < n → RelL mu h ds vs → RelL mu' h ds vs) := by
    intro n
    induction n with
    | zero => exact ⟨fun _ _ h => absurd h (Nat.not_lt_zero _), fun _ _ h => absurd h (Nat.not_lt_zero _)⟩
    | succ n ih =>
      have nm : ∀ a o, a ∉ mu → h.get? a = some o → a ∉ mu' := fun a o hm ho q => by
        rcases k a q with q | q
        · exact hm q
        · rw [q] at ho; cases ho
      refine ⟨fun d v hs r => ?_, fun ds vs hs r => ?_⟩
      · cases d with
        | tup l =>
          simp only [Rel] at r ⊢
          obtain ⟨a, vs, e, hm, hi, hr⟩ := r
          obtain ⟨o, ho, q⟩ := hi
          exact ⟨a, vs, e, nm a o hm ho, ⟨o, ho, q⟩, ih.2 l vs (by simp only [D.tup.sizeOf_spec] at hs; omega) hr⟩
        | lst l =>
          simp only [Rel] at r ⊢
          obtain ⟨a, vs, e, hm, hi, hr⟩ := r
          obtain ⟨o, ho, q⟩ := hi
          exact ⟨a, vs, e, nm a o hm ho, ⟨o, ho, q⟩, ih.2 l vs (by simp only [D.lst.sizeOf_spec] at hs; omega) hr⟩
        | rng a b c =>
          simp only [Rel] at r ⊢
          obtain ⟨r, t, u, w, e, hm, hi⟩ := r
          exact ⟨r, t, u, w, e, nm r _ hm hi, hi⟩
        | mls l =>
          simp only [Rel] at r ⊢
          obtain ⟨a, vs, e, hi, hr⟩ := r
          exact ⟨a, vs, e, hi, ih.2 l vs (by simp only [D.mls.sizeOf_spec] at hs; omega) hr⟩
        | _ => simpa only [Rel] using r
      · cases ds with
        | nil => simpa only [RelL] using r
        | cons d ds =>
          simp only [RelL] at r ⊢
          obtain ⟨v, vs', e, r1, r2⟩ := r
          simp only [List.cons.sizeOf_spec] at hs
          exact ⟨v, vs', e, ih.1 d v (by omega) r1, ih.2 ds vs' (by omega) r2⟩
  intro d v r
  exact (main _).1 d v (Nat.lt_succ_self _) r
theorem RelL.sub {mu mu' : List Addr} {h : Heap} (k : ∀ a ∈ mu', a ∈ mu ∨ h.get? a = none) : ∀ {ds : List D} {vs : List Value}, RelL mu h ds vs → RelL mu' h ds vs
  | [], _, r => r
  | d :: ds, vs, r => by
    simp only [RelL] at r ⊢
    obtain ⟨v, vs', e, r1, r2⟩ := r
    exact ⟨v, vs', e, Rel.sub k r1, RelL.sub k r2⟩
theorem RelL.length {mu : List Addr} {h : Heap} : ∀ {ds : List D} {vs : List Value}, RelL mu h ds vs → vs.length = ds.length
  | [], vs, r => by simp only [RelL] at r; subst r; rfl
  | d :: ds, vs, r => by
    simp only [RelL] at r
    obtain ⟨v, vs', e, _, r2⟩ := r
    subst e
    simp [RelL.length r2]
theorem RelL.get {mu : List Addr} {h : Heap} : ∀ {ds : List D} {vs : List Value}, RelL mu h ds vs → ∀ {i : Nat} {d : D}, ds[i]? = some d → ∃ v, vs[i]? = some v ∧ Rel mu h d v
  | [], _, _, i, d, e => by simp at e
  | d :: ds, vs, r, i, d', e => by
    simp only [RelL] at r
    obtain ⟨v, vs', rfl, r1, r2⟩ := r
    cases i with
    | zero => simp at e; subst e; exact ⟨v, rfl, r1⟩
    | succ i => simp at e; simpa using RelL.get r2 e
theorem RelL.append {mu : List Addr} {h : Heap} : ∀ {ds es : List D} {vs ws : List Value}, RelL mu h ds vs → RelL mu h es ws → RelL mu h (ds ++ es) (vs ++ ws)
  | [], _, vs, _, r, q => by simp only [RelL] at r; subst r; exact q
  | d :: ds, es, vs, ws, r, q => by
    simp only [RelL, List.cons_append] at r ⊢
    obtain ⟨v, vs', rfl, r1, r2⟩ := r
    exact ⟨v, vs' ++ ws, rfl, r1, RelL.append r2 q⟩
theorem FrozL.get : ∀ {ds : List D}, FrozL ds → ∀ {i : Nat} {d : D}, ds[i]? = some d → Froz d
  | [], _, i, d, e => by simp at e
  | d :: ds, f, i, d', e => by
    simp only [FrozL] at f
    cases i with
    | zero => simp at e; subst e; exact f.1
    | succ i => simp at e; exact FrozL.get f.2 e
theorem FrozL.append : ∀ {ds es : List D}, FrozL ds → FrozL es → FrozL (ds ++ es)
  | [], _, _, q => q
  | d :: ds, es, f, q => by simp only [FrozL, List.cons_append] at f ⊢; exact ⟨f.1, FrozL.append f.2 q⟩
theorem FrozL.of : ∀ {ds : List D}, (∀ d ∈ ds, Froz d) → FrozL ds
  | [], _ => by simp only [FrozL]
  | d :: ds, h => by simp only [FrozL]; exact ⟨h d (.head _), FrozL.of fun x hx => h x (.tail _ hx)⟩
mutual
theorem Rel.step {mu mu' own : List Addr} {h h' : Heap} (k : KeptBut own h h') (ho : ∀ a ∈ own, a ∈ mu ∨ h.get? a = none) (hm : ∀ a ∈ mu', a ∈ mu ∨ h.get? a = none) : ∀ {d : D} {v : Value}, Froz d → Rel mu h d v → Rel mu' h' d v
  | .none, _, _, r => r
  | .bool _, _, _, r => r
  | .int _, _, _, r => r
  | .str _, _, _, r => r
  | .bytes _, _, _, r => r
  | .val _, _, _, r => r
  | .mls _, _, f, _ => by simp only [Froz] at f
  | .rng a b c, v, f, r => by
    simp only [Rel] at r ⊢
    obtain ⟨r, t, u, w, e, hn, hob⟩ := r
    have hob : h.get? r = some _ := hob
    exact ⟨r, t, u, w, e, fun q' => (hm r q').elim hn (fun z => by rw [z] at hob; cases hob), k r _ (fun q' => (ho r q').elim hn (fun z => by rw [z] at hob; cases hob)) hob⟩
  | .tup l, v, f, r => by
    simp only [Rel] at r ⊢
    simp only [Froz] at f
    obtain ⟨a, vs, e, hn, hi, hr⟩ := r
    obtain ⟨o, hob, q⟩ := hi
    exact ⟨a, vs, e, fun q' => (hm a q').elim hn (fun z => by rw [z] at hob; cases hob), ⟨o, k a o (fun q' => (ho a q').elim hn (fun z => by rw [z] at hob; cases hob)) hob, q⟩, RelL.step k ho hm f hr⟩
  | .lst l, v, f, r => by
    simp only [Rel] at r ⊢
    simp only [Froz] at f
    obtain ⟨a, vs, e, hn, hi, hr⟩ := r
    obtain ⟨o, hob, q⟩ := hi
    exact ⟨a, vs, e, fun q' => (hm a q').elim hn (fun z => by rw [z] at hob; cases hob), ⟨o, k a o (fun q' => (ho a q').elim hn (fun z => by rw [z] at hob; cases hob)) hob, q⟩, RelL.step k ho hm f hr⟩
theorem RelL.step {mu mu' own : List Addr} {h h' : Heap} (k : KeptBut own h h') (ho : ∀ a ∈ own, a ∈ mu ∨ h.get? a = none) (hm : ∀ a ∈ mu', a ∈ mu ∨ h.get? a = none) : ∀ {ds : List D} {vs : List Value}, FrozL ds → RelL mu h ds vs → RelL mu' h' ds vs
  | [], _, _, r => r
  | d :: ds, vs, f, r => by
    simp only [RelL] at r ⊢
    simp only [FrozL] at f
    obtain ⟨v, vs', e, r1, r2⟩ := r
    exact ⟨v, vs', e, Rel.step k ho hm f.1 r1, RelL.step k ho hm f.2 r2⟩
end

noncomputable abbrev aTop (dp un : Nat) (gd : Option (List Code)) (outer : List Env) : Around := { handled := none, depth := dp, frames := some outer, guards := gd, units := un }
structure Cx where
  prog : Program
  w : World
  K : Frag
  p : Program
  loose : List Str
  mean : ExcName → Option Value
  mg : Str → Option Value
  mb : Str → Option Value
  dp : Nat
  un : Nat
  lv : Nat
  gd : Option (List Code)
  outer : List Env
  base : Heap
  h₀ : Heap
  L : Addr
  fenv : Env
  env : Env
noncomputable abbrev Cx.A (c : Cx) : Around := (aTop c.dp c.un c.gd c.outer).deeper c.fenv
noncomputable abbrev Cx.M (c : Cx) : Model := model c.prog c.w
structure Cx.Ok (c : Cx) : Prop where
  below : Below (aTop c.dp c.un c.gd c.outer) c.base c.outer c.h₀
  top : Top c.p c.loose c.mean c.mg c.mb c.h₀
  inK : c.K.In c.h₀
  kind : c.env.scope.kind = .function
  fkind : c.fenv.scope.kind = .function
  frame : c.fenv.frame = some c.L
  glob : c.env.globals = mainGlobals
  blt : c.env.builtins = builtinsNs
  roomD : c.dp + 1 + c.lv < recursionLimit
  roomU : c.un + 3 + 20 * c.lv + 60 < cLine
noncomputable def NameIs (env : Env) (h : Heap) (x : Str) (v : Value) : Prop :=
  (env.kindOf x = some .local ∧ ∃ m, h.Ns env.locals m ∧ m x = some v) ∨
  ((env.kindOf x = some .cell ∨ (env.kindOf x = some .free ∧ (x == ("__classdict__" : Str)) = false)) ∧ ∃ a, env.cells.lookup x = some a ∧ h.IsCell a (some v))
noncomputable abbrev Loc := List (Str × D)
noncomputable def get : Loc → Str → Option D
  | [], _ => none
  | (y, d) :: r, x => if x = y then some d else get r x
noncomputable def put : Loc → Str → D → Loc
  | [], x, d => [(x, d)]
  | (y, e) :: r, x, d => if x = y then (y, d) :: r else (y, e) :: put r x d
theorem get_put (l : Loc) (x : Str) (d : D) (y : Str) : get (put l x d) y = if y = x then some d else get l y := by
  induction l with
  | nil => simp only [put, get]
  | cons p r ih =>
    obtain ⟨z, e⟩ := p
    by_cases h : x = z
    · subst h
      simp only [put, if_true, get]
      by_cases q : y = x <;> simp [q]
    · simp only [put, if_neg h, get, ih]
      by_cases q : y = z
      · subst q; simp [Ne.symm h]
      · simp [q]
structure Inv (c : Cx) (av own : List Addr) (l : Loc) (s : Shared) : Prop where
  ok : c.Ok
  keep : ∀ a ∈ av, (s.heap.get? a).isSome = true ∧ c.K.lookup a = none ∧ a ∉ own
  fr : ∃ m, Fr c.h₀ c.L s.heap m
  mine : ∀ a ∈ own, c.h₀.get? a = none ∧ (s.heap.get? a).isSome = true
  loc : c.env.locals ∈ own ∧ ∃ m, s.heap.Ns c.env.locals m
  cell : ∀ x a, c.env.kindOf x = some .cell → c.env.cells.lookup x = some a → a ∈ own ∧ ∃ v, s.heap.IsCell a v
  inj : ∀ x y a, c.env.cells.lookup x = some a → c.env.cells.lookup y = some a → x = y
  cel : ∀ x a, c.env.cells.lookup x = some a → (s.heap.get? a).isSome = true ∧ a ∉ av
  off : c.L ∉ av
  val : ∀ x d, get l x = some d → ∃ v, NameIs c.env s.heap x v ∧ Rel (own ++ av) s.heap d v ∧
    match d with
    | .mls its => FrozL its ∧ ∃ a, v = .ref a ∧ a ∈ own
    | d => Froz d
  apart : ∀ x y dx dy a, get l x = some (.mls dx) → get l y = some (.mls dy) → NameIs c.env s.heap x (.ref a) → NameIs c.env s.heap y (.ref a) → x = y
noncomputable def EV (c : Cx) (l : Loc) (e : Expr) (d : D) : Prop :=
  ∀ av own s, Inv c av own l s → ∀ (Q E : Value → Shared → Prop), (∀ v s', Keeps s s' → Rel (own ++ av) s'.heap d v → Q v s') → wpAny c.M c.A (eval e c.env) Q E s
theorem kp_rfl {s : Shared} : Keeps s s := ⟨s.heap, s.toks, rfl, fun _ _ e => e⟩
theorem kp_tok {s : Shared} (n : Nat) : Keeps s { s with toks := n } := ⟨s.heap, n, rfl, fun _ _ e => e⟩
theorem kp_kept {s s' : Shared} (k : Keeps s s') : Kept s.heap s'.heap := by obtain ⟨h', tk, rfl, q⟩ := k; exact q
theorem kp_trans {s s' s'' : Shared} (k : Keeps s s') (k' : Keeps s' s'') : Keeps s s'' := by
  obtain ⟨h', tk, rfl, q⟩ := k
  obtain ⟨h'', tk', rfl, q'⟩ := k'
  exact ⟨h'', tk', rfl, fun b o e => q' b o (q b o e)⟩
theorem kp_push {s : Shared} (o : Obj) : Keeps s { s with heap := s.heap.push o } := ⟨_, s.toks, rfl, fun _ _ e => Heap.get?_push_of_some _ e⟩
theorem NameIs.kept {env : Env} {h h' : Heap} {x : Str} {v : Value} (k : Kept h h') (n : NameIs env h x v) : NameIs env h' x v := by
  rcases n with ⟨q, m, hn, e⟩ | ⟨q, a, ha, hc⟩
  · exact .inl ⟨q, m, hn.keeps k, e⟩
  · exact .inr ⟨q, a, ha, hc.keeps k⟩
theorem IsCell.agree {h : Heap} {a : Addr} {v w : Option Value} (x : h.IsCell a v) (y : h.IsCell a w) : v = w := by
  obtain ⟨o, e1, d1⟩ := x
  obtain ⟨o', e2, d2⟩ := y
  rw [e1] at e2
  cases e2
  rw [d1] at d2
  exact Data.cell.inj d2
theorem NameIs.agree {env : Env} {h : Heap} {x : Str} {v w : Value} (n : NameIs env h x v) (n' : NameIs env h x w) : v = w := by
  rcases n with ⟨q, m, hn, e⟩ | ⟨q, a, ha, hc⟩ <;> rcases n' with ⟨q', m', hn', e'⟩ | ⟨q', a', ha', hc'⟩
  · have := hn.agree hn' x
    rw [e, e'] at this
    exact Option.some.inj this
  · rcases q' with q' | q' <;> simp [q] at q'
  · rcases q with q | q <;> simp [q'] at q
  · rw [ha] at ha'
    cases ha'
    exact Option.some.inj (IsCell.agree hc hc')
theorem NameIs.back {env : Env} {h h' : Heap} {x : Str} {v w : Value} (k : Kept h h') (n : NameIs env h x v) (n' : NameIs env h' x w) : w = v := (n.kept k).agree n' ▸ rfl
theorem Inv.kept {c : Cx} {av own : List Addr} {l : Loc} {s s' : Shared} (i : Inv c av own l s) (k : Kept s.heap s'.heap) : Inv c av own l s' where
  ok := i.ok
  keep := fun a ha => ⟨by
    obtain ⟨o, ho⟩ := Option.isSome_iff_exists.mp (i.keep a ha).1
    rw [k a o ho]; rfl, (i.keep a ha).2⟩
  fr := let ⟨m, F⟩ := i.fr; ⟨m, F.ns.keeps k, fun b o e => k b o (F.keep b o e), F.above⟩
  mine := fun a ha => ⟨(i.mine a ha).1, by
    obtain ⟨o, ho⟩ := Option.isSome_iff_exists.mp (i.mine a ha).2
    rw [k a o ho]; rfl⟩
  loc := ⟨i.loc.1, let ⟨m, hm⟩ := i.loc.2; ⟨m, hm.keeps k⟩⟩
  cell := fun x a h1 h2 => let ⟨h3, v, h4⟩ := i.cell x a h1 h2; ⟨h3, v, h4.keeps k⟩
  inj := i.inj
  cel := fun x a h => ⟨by
    obtain ⟨o, ho⟩ := Option.isSome_iff_exists.mp (i.cel x a h).1
    rw [k a o ho]; rfl, (i.cel x a h).2⟩
  off := i.off
  val := fun x d h1 => let ⟨v, n, r, q⟩ := i.val x d h1; ⟨v, n.kept k, r.kept k, q⟩
  apart := fun x y dx dy a h1 h2 n1 n2 => by
    obtain ⟨v, m1, _, _⟩ := i.val x _ h1
    obtain ⟨w, m2, _, _⟩ := i.val y _ h2
    have e1 := NameIs.back k m1 n1
    have e2 := NameIs.back k m2 n2
    subst e1; subst e2
    exact i.apart x y dx dy a h1 h2 m1 m2
theorem Inv.keeps {c : Cx} {av own : List Addr} {l : Loc} {s s' : Shared} (i : Inv c av own l s) (k : Keeps s s') : Inv c av own l s' := i.kept (kp_kept k)
theorem Inv.notOwn {c : Cx} {av own : List Addr} {l : Loc} {s : Shared} (i : Inv c av own l s) : s.heap.objs.size ∉ own ++ av := fun q => by
  have live : ∃ o, s.heap.get? s.heap.objs.size = some o := by
    rcases List.mem_append.mp q with q | q
    · exact Option.isSome_iff_exists.mp (i.mine _ q).2
    · exact Option.isSome_iff_exists.mp (i.keep _ q).1
  obtain ⟨o, ho⟩ := live
  exact absurd (Heap.lt_size ho) (Nat.lt_irrefl _)
end Mine
end
section
open PySem PySem.W PySem.Spec PySem.Calls PyProof.Rows
set_option Elab.async false
set_option linter.unusedVariables false
namespace Mine
section
variable {c : Cx} {l : Loc}
theorem ev_name {x : Str} {pos : Pos} {d : D} (h : get l x = some d) (hd : (x == ("__debug__" : Str)) = false := by decide) : EV c l (.Name x pos) d := by
  intro av own s i Q E hQ
  obtain ⟨v, n, r, _⟩ := i.val x d h
  refine wpAny_Name ?_ hd
  rcases n with ⟨q, m, hn, e⟩ | ⟨q, a, ha, hc⟩
  · exact wpAny_loadName_local i.ok.kind q hn e (hQ v s kp_rfl r)
  · rcases q with q | q
    · exact wpAny_loadName_cell i.ok.kind q ha hc (hQ v s kp_rfl r)
    · exact wpAny_loadName_free i.ok.kind q.1 ha hc (hQ v s kp_rfl r) q.2
theorem notK {av own : List Addr} {s : Shared} (i : Inv c av own l s) : ∀ a ∈ own ++ av, c.K.lookup a = none := fun a ha => by
  rcases List.mem_append.mp ha with q | q
  · cases e : c.K.lookup a with
    | none => rfl
    | some o => have := i.ok.inK a o e; rw [(i.mine a q).1] at this; cases this
  · exact (i.keep a q).2.1
theorem Inv.keepK {av own : List Addr} {s : Shared} (i : Inv c av own l s) : c.K.In s.heap := let ⟨_, F⟩ := i.fr; i.ok.inK.keeps F.keep
theorem ev_glob {x : Str} {pos : Pos} {v : Value} {d : D} (hx : c.env.kindOf x = some .globalImplicit) (e : nsIn c.K mainGlobals x = some (some v))
    (hr : ∀ mu h, c.K.In h → (∀ a ∈ mu, c.K.lookup a = none) → Rel mu h d v) (hd : (x == ("__debug__" : Str)) = false := by decide) : EV c l (.Name x pos) d := by
  intro av own s i Q E hQ
  obtain ⟨m, F⟩ := i.fr
  refine Name_function_global i.ok.kind hx (loadGlobal_global (mg := c.mg) ?_ (mg_of i.ok.inK i.ok.top.g e) (hQ v s kp_rfl (hr _ _ i.keepK (notK i)))) hd
  rw [i.ok.glob]; exact i.ok.top.g.keeps F.keep
theorem ev_globV {x : Str} {pos : Pos} {v : Value} (hx : c.env.kindOf x = some .globalImplicit) (e : nsIn c.K mainGlobals x = some (some v)) (hd : (x == ("__debug__" : Str)) = false := by decide) : EV c l (.Name x pos) (.val v) :=
  ev_glob hx e (fun _ _ _ _ => by simp only [Rel]) hd
theorem ev_blt {x : Str} {pos : Pos} {v : Value} (hx : c.env.kindOf x = some .globalImplicit) (e : nsIn c.K mainGlobals x = some none) (hv : bootBuiltins x = some v) (hn : x ≠ "__name__")
    (hd : (x == ("__debug__" : Str)) = false := by decide) : EV c l (.Name x pos) (.val v) := by
  intro av own s i Q E hQ
  obtain ⟨m, F⟩ := i.fr
  refine Name_function_global i.ok.kind hx (loadGlobal_builtin (mg := c.mg) (mb := c.mb) ?_ (mg_none_of i.ok.inK i.ok.top.g e) ?_ ((i.ok.top.builtins x hn).trans hv) (hQ v s kp_rfl (by simp only [Rel]))) hd
  · rw [i.ok.glob]; exact i.ok.top.g.keeps F.keep
  · rw [i.ok.blt]; exact i.ok.top.b.keeps F.keep
theorem ev_int {i : Int} {k : Nat} {pos : Pos} : EV c l (.Constant (.int i) k pos) (.int i) := fun _ _ _ _ _ _ hQ => wpAny_Constant_int (hQ _ _ (kp_tok _) ⟨_, rfl⟩)
theorem ev_str {x : Str} {k : Nat} {pos : Pos} : EV c l (.Constant (.str x) k pos) (.str x) := fun _ _ _ _ _ _ hQ => wpAny_Constant_str (hQ _ _ (kp_tok _) ⟨_, rfl⟩)
theorem ev_none {k : Nat} {pos : Pos} : EV c l (.Constant .none k pos) .none := fun _ _ _ _ _ _ hQ => wpAny_Constant_none (hQ _ _ kp_rfl rfl)
theorem ev_bool {b : Bool} {k : Nat} {pos : Pos} : EV c l (.Constant (.bool b) k pos) (.bool b) := fun _ _ _ _ _ _ hQ => wpAny_Constant_bool (hQ _ _ kp_rfl rfl)
theorem ev_bytes {x : List UInt8} {k : Nat} {pos : Pos} : EV c l (.Constant (.bytes x) k pos) (.bytes x.toArray) := fun _ _ _ _ _ _ hQ => Constant_bytes (hQ _ _ (kp_tok _) ⟨_, rfl⟩)
noncomputable def BIN (c : Cx) (op : Operator) (d₁ d₂ d : D) : Prop :=
  ∀ mu s v₁ v₂ (Q E : Value → Shared → Prop), s.heap.objs.size ∉ mu → Rel mu s.heap d₁ v₁ → Rel mu s.heap d₂ v₂ → (∀ v s', Keeps s s' → Rel mu s'.heap d v → Q v s') → wpAny c.M c.A (binaryOp op v₁ v₂) Q E s
noncomputable def IBIN (c : Cx) (op : Operator) (d₁ d₂ d : D) : Prop :=
  ∀ mu s v₁ v₂ (Q E : Value → Shared → Prop), s.heap.objs.size ∉ mu → Rel mu s.heap d₁ v₁ → Rel mu s.heap d₂ v₂ → (∀ v s', Keeps s s' → Rel mu s'.heap d v → Q v s') → wpAny c.M c.A (inplaceOp op v₁ v₂) Q E s
theorem ev_bin {a b : Expr} {op : Operator} {pos : Pos} {d₁ d₂ d : D} (h₁ : EV c l a d₁) (h₂ : EV c l b d₂) (h : BIN c op d₁ d₂ d) : EV c l (.BinOp a op b pos) d := by
  intro av own s i Q E hQ
  refine wpAny_BinOp (h₁ av own s i _ _ fun v₁ s₁ k₁ r₁ => h₂ av own s₁ (i.keeps k₁) _ _ fun v₂ s₂ k₂ r₂ => ?_)
  exact h _ s₂ v₁ v₂ _ _ ((i.keeps k₁).keeps k₂).notOwn (r₁.kept (kp_kept k₂)) r₂ fun v s' k r => hQ v s' (kp_trans k₁ (kp_trans k₂ k)) r
theorem bin_int {op : Operator} {a b r : Int} (h : ∀ (s : Shared) (t u : Tok) (Q E : Value → Shared → Prop), (∀ t' tk, Q (.int r t') { s with toks := tk }) → wpAny c.M c.A (binaryOp op (.int a t) (.int b u)) Q E s) : BIN c op (.int a) (.int b) (.int r) := by
  intro mu s v₁ v₂ Q E _ r₁ r₂ hQ
  simp only [Rel] at r₁ r₂
  obtain ⟨t, rfl⟩ := r₁
  obtain ⟨u, rfl⟩ := r₂
  exact h s t u Q E fun t' tk => hQ _ _ (kp_tok _) (by simp only [Rel]; exact ⟨_, rfl⟩)
theorem ibin_int {op : Operator} {a b r : Int} (h : ∀ (s : Shared) (t u : Tok) (Q E : Value → Shared → Prop), (∀ t' tk, Q (.int r t') { s with toks := tk }) → wpAny c.M c.A (inplaceOp op (.int a t) (.int b u)) Q E s) : IBIN c op (.int a) (.int b) (.int r) := by
  intro mu s v₁ v₂ Q E _ r₁ r₂ hQ
  simp only [Rel] at r₁ r₂
  obtain ⟨t, rfl⟩ := r₁
  obtain ⟨u, rfl⟩ := r₂
  exact h s t u Q E fun t' tk => hQ _ _ (kp_tok _) (by simp only [Rel]; exact ⟨_, rfl⟩)
theorem b_add {a b : Int} : BIN c .Add (.int a) (.int b) (.int (a + b)) := bin_int fun _ _ _ _ _ h => PyProof.Rows.add_int (h _ _)
theorem b_sub {a b : Int} : BIN c .Sub (.int a) (.int b) (.int (a - b)) := bin_int fun _ _ _ _ _ h => PyProof.Rows.sub_int (h _ _)
theorem b_mul {a b : Int} (h1 : -(2 ^ 64) < a) (h2 : a < 2 ^ 64) : BIN c .Mult (.int a) (.int b) (.int (a * b)) := bin_int fun _ _ _ _ _ h => PyProof.Rows.mul_int (h _ _) (IntMulOk.of_left (intBits_le_64 h1 h2))
theorem b_div {a b : Int} (hb : 0 < b) (hl : b < 1000000000000000000000000000000) : BIN c .FloorDiv (.int a) (.int b) (.int (a / b)) := bin_int fun s t u Q E h => by
  have e : a.fdiv b = a / b := Int.fdiv_eq_ediv_of_nonneg _ (Int.le_of_lt hb)
  refine PyProof.Rows.floordiv_int (by omega) (e ▸ h _ _) (.inl (PyProof.noPylong_of_log2 ?_))
  have h2 : b.natAbs ≠ 0 := by omega
  refine (Nat.log2_lt h2).mpr (Nat.lt_of_lt_of_le (?_ : b.natAbs < 1000000000000000000000000000000) (by decide +kernel))
  omega
theorem b_mod {a b : Int} (hb : 0 < b) : BIN c .Mod (.int a) (.int b) (.int (a % b)) := bin_int fun s t u Q E h => by
  have e : a.fmod b = a % b := Int.fmod_eq_emod_of_nonneg _ (Int.le_of_lt hb)
  exact PyProof.Rows.mod_int' (by omega) (e ▸ h _ _)
theorem b_pow {a n v : Int} (h1 : 0 ≤ n) (h2 : n ≤ 64) (h3 : a = 2 ∨ a = 8 ∨ a = 10) (hv : a ^ n.toNat = v) : BIN c .Pow (.int a) (.int n) (.int v) := bin_int fun s t u Q E h => by
  refine PyProof.Rows.pow_int h1 ?_ (hv ▸ h _ _)
  have : (Builtin.Int.intBits a : Int) ≤ 4 := by rcases h3 with rfl | rfl | rfl <;> decide
  have := Int.mul_le_mul this h2 h1 (by omega)
  omega
theorem b_and {a b : Int} : BIN c .BitAnd (.int a) (.int b) (.int (Builtin.bitAnd a b)) := bin_int fun _ _ _ _ _ h => PyProof.Rows.and_int (h _ _)
theorem b_or {a b : Int} : BIN c .BitOr (.int a) (.int b) (.int (Builtin.bitOr a b)) := bin_int fun _ _ _ _ _ h => PyProof.Rows.or_int (h _ _)
theorem b_shl {a n : Int} (h1 : 0 ≤ n) (h2 : n ≤ 64) (h3 : -(2 ^ 64) < a) (h4 : a < 2 ^ 64) : BIN c .LShift (.int a) (.int n) (.int (a * 2 ^ n.toNat)) := bin_int fun s t u Q E h => by
  refine PyProof.Rows.lshift_int h1 ?_ (h _ _)
  have := intBits_le_64 h3 h4
  omega
theorem b_shr {a n : Int} (h1 : 0 ≤ n) : BIN c .RShift (.int a) (.int n) (.int (a / 2 ^ n.toNat)) := bin_int fun s t u Q E h => by
  have e : a.fdiv (2 ^ n.toNat) = a / 2 ^ n.toNat := Int.fdiv_eq_ediv_of_nonneg _ (Int.le_of_lt (Int.pow_pos (by omega)))
  exact PyProof.Rows.rshift_int h1 (e ▸ h _ _)
theorem ib_add {a b : Int} : IBIN c .Add (.int a) (.int b) (.int (a + b)) := ibin_int fun _ _ _ _ _ h => PyProof.Rows.iadd_int (h _ _)
theorem ib_sub {a b : Int} : IBIN c .Sub (.int a) (.int b) (.int (a - b)) := ibin_int fun _ _ _ _ _ h => PyProof.Rows.isub_int (h _ _)
theorem ib_div {a b : Int} (hb : 0 < b) (hl : b < 10 ^ 9) : IBIN c .FloorDiv (.int a) (.int b) (.int (a / b)) := ibin_int fun s t u Q E h => by
  have e : a.fdiv b = a / b := Int.fdiv_eq_ediv_of_nonneg _ (Int.le_of_lt hb)
  exact PyProof.Rows.ifloordiv_int (by omega) (e ▸ h _ _) (.inl (PyProof.noPylong_small (by omega)))
theorem b_cat {x y : Str} (h : x.length + y.length ≤ sizeLine) : BIN c .Add (.str x) (.str y) (.str (x ++ y)) := by
  intro mu s v₁ v₂ Q E _ r₁ r₂ hQ
  simp only [Rel] at r₁ r₂
  obtain ⟨t, rfl⟩ := r₁
  obtain ⟨u, rfl⟩ := r₂
  exact PyProof.Rows.add_str (fun t' tk => hQ _ _ (kp_tok _) (by simp only [Rel]; exact ⟨_, rfl⟩)) h
theorem ib_cat {x y : Str} (h : x.length + y.length ≤ sizeLine) : IBIN c .Add (.str x) (.str y) (.str (x ++ y)) := by
  intro mu s v₁ v₂ Q E _ r₁ r₂ hQ
  simp only [Rel] at r₁ r₂
  obtain ⟨t, rfl⟩ := r₁
  obtain ⟨u, rfl⟩ := r₂
  exact PyProof.Rows.iadd_str (fun t' tk => hQ _ _ (kp_tok _) (by simp only [Rel]; exact ⟨_, rfl⟩)) h
noncomputable def CMP (c : Cx) (op : CmpOp) (d₁ d₂ : D) (b : Bool) : Prop :=
  c.Ok → ∀ mu s v₁ v₂ (Q E : Value → Shared → Prop), Rel mu s.heap d₁ v₁ → Rel mu s.heap d₂ v₂ → (∀ s', Keeps s s' → Q (.bool b) s') → wpAny c.M c.A (compareOp op v₁ v₂) Q E s
noncomputable def TRUTH (c : Cx) (d : D) (b : Bool) : Prop :=
  ∀ mu s v (Q : Bool → Shared → Prop) (E : Value → Shared → Prop), Rel mu s.heap d v → (∀ s', Keeps s s' → Q b s') → wpAny c.M c.A (truthy v) Q E s
noncomputable def TR (c : Cx) (l : Loc) (e : Expr) (b : Bool) : Prop :=
  ∀ av own s, Inv c av own l s → ∀ (Q : Bool → Shared → Prop) (E : Value → Shared → Prop), (∀ s', Keeps s s' → Q b s') → wpAny c.M c.A (isTrue e c.env (eval e c.env)) Q E s
theorem ev_cmp {a b : Expr} {op : CmpOp} {pos : Pos} {d₁ d₂ : D} {r : Bool} (h₁ : EV c l a d₁) (h₂ : EV c l b d₂) (h : CMP c op d₁ d₂ r) (hm : behindInMarks op b = false := by with_unfolding_all rfl) : EV c l (.Compare a [op] [b] pos) (.bool r) := by
  intro av own s i Q E hQ
  refine wpAny_Compare1 (h₁ av own s i _ _ fun v₁ s₁ k₁ r₁ => h₂ av own s₁ (i.keeps k₁) _ _ fun v₂ s₂ k₂ r₂ => ?_) hm
  exact h i.ok _ s₂ v₁ v₂ _ _ (r₁.kept (kp_kept k₂)) r₂ fun s' k => hQ _ s' (kp_trans k₁ (kp_trans k₂ k)) (by simp only [Rel])
theorem tr_cmp {a b : Expr} {op : CmpOp} {pos : Pos} {d₁ d₂ : D} {r : Bool} (h₁ : EV c l a d₁) (h₂ : EV c l b d₂) (h : CMP c op d₁ d₂ r) (hm : behindInMarks op b = false := by with_unfolding_all rfl) : TR c l (.Compare a [op] [b] pos) r := by
  intro av own s i Q E hQ
  refine wpAny_isTrue_Compare1 (h₁ av own s i _ _ fun v₁ s₁ k₁ r₁ => h₂ av own s₁ (i.keeps k₁) _ _ fun v₂ s₂ k₂ r₂ => ?_) hm
  exact h i.ok _ s₂ v₁ v₂ _ _ (r₁.kept (kp_kept k₂)) r₂ fun s' k => wpAny_truthy_bool (hQ s' (kp_trans k₁ (kp_trans k₂ k)))
theorem tr_not {a : Expr} {pos : Pos} {b : Bool} (h : TR c l a b) : TR c l (.UnaryOp .Not a pos) (!b) := fun av own s i Q E hQ => wpAny_isTrue_Not (h av own s i _ _ fun s' k => hQ s' k)
theorem tr_val {e : Expr} {d : D} {b : Bool} (h₁ : EV c l e d) (h₂ : TRUTH c d b)
    (he : ∀ env, isTrue e env (eval e env) = (do let v ← eval e env; standAt e.pos; holding [v] (truthy v)) := by intro _; rfl) : TR c l e b := fun av own s i Q E hQ =>
  wpAny_isTrue_value (h₁ av own s i _ _ fun v s₁ k₁ r₁ => h₂ _ s₁ v _ _ r₁ fun s' k => hQ s' (kp_trans k₁ k)) (he _)
theorem tr_and2 {x y : Expr} {pos : Pos} {b₁ b₂ : Bool} (h₁ : TR c l x b₁) (h₂ : b₁ = true → TR c l y b₂) : TR c l (.BoolOp .And [x, y] pos) (b₁ && b₂) := by
  intro av own s i Q E hQ
  refine wpAny_isTrue_BoolOp (wpAny_allTrue_And_cons (h₁ av own s i _ _ fun s₁ k₁ => ?_))
  cases b₁ with
  | false => exact hQ s₁ k₁
  | true =>
    refine wpAny_allTrue_And_cons (h₂ rfl av own s₁ (i.keeps k₁) _ _ fun s₂ k₂ => ?_)
    cases b₂ with
    | false => exact hQ s₂ (kp_trans k₁ k₂)
    | true => exact wpAny_allTrue_And_nil (hQ s₂ (kp_trans k₁ k₂))
theorem ev_if {t a b : Expr} {pos : Pos} {p : Bool} {d₁ d₂ : D} (ht : TR c l t p) (h₁ : p = true → EV c l a d₁) (h₂ : p = false → EV c l b d₂) : EV c l (.IfExp t a b pos) (if p then d₁ else d₂) := by
  intro av own s i Q E hQ
  refine wpAny_IfExp (ht av own s i _ _ fun s₁ k₁ => ?_)
  cases p with
  | true => exact h₁ rfl av own s₁ (i.keeps k₁) _ _ fun v s' k r => hQ v s' (kp_trans k₁ k) r
  | false => exact h₂ rfl av own s₁ (i.keeps k₁) _ _ fun v s' k r => hQ v s' (kp_trans k₁ k) r
theorem ev_and {x y : Expr} {pos : Pos} {b₁ b₂ : Bool} (h₁ : EV c l x (.bool b₁)) (h₂ : b₁ = true → EV c l y (.bool b₂)) : EV c l (.BoolOp .And [x, y] pos) (.bool (b₁ && b₂)) := by
  intro av own s i Q E hQ
  refine wpAny_And2 (h₁ av own s i _ _ fun v s₁ k₁ r₁ => ?_)
  simp only [Rel] at r₁
  subst r₁
  refine wpAny_truthy_bool ?_
  cases b₁ with
  | false => exact hQ _ s₁ k₁ (by simp only [Rel, Bool.false_and])
  | true => exact h₂ rfl av own s₁ (i.keeps k₁) _ _ fun v s' k r => hQ v s' (kp_trans k₁ k) (by simpa only [Bool.true_and] using r)
theorem cmp_int {op : CmpOp} {a b : Int} {r : Bool} (h : ∀ (s : Shared) (t u : Tok) (Q E : Value → Shared → Prop), Q (.bool r) s → wpAny c.M c.A (compareOp op (.int a t) (.int b u)) Q E s) : CMP c op (.int a) (.int b) r := by
  intro _ mu s v₁ v₂ Q E r₁ r₂ hQ
  simp only [Rel] at r₁ r₂
  obtain ⟨t, rfl⟩ := r₁
  obtain ⟨u, rfl⟩ := r₂
  exact h s t u Q E (hQ s kp_rfl)
theorem c_eq {a b : Int} : CMP c .Eq (.int a) (.int b) (a == b) := cmp_int fun _ _ _ _ _ h => PyProof.Rows.eq_int h
theorem c_ne {a b : Int} : CMP c .NotEq (.int a) (.int b) (a != b) := cmp_int fun _ _ _ _ _ h => PyProof.Rows.ne_int h
theorem c_lt {a b : Int} : CMP c .Lt (.int a) (.int b) (decide (a < b)) := cmp_int fun _ _ _ _ _ h => PyProof.Rows.lt_int h
theorem c_le {a b : Int} : CMP c .LtE (.int a) (.int b) (decide (a ≤ b)) := cmp_int fun _ _ _ _ _ h => PyProof.Rows.le_int h
theorem c_gt {a b : Int} : CMP c .Gt (.int a) (.int b) (decide (b < a)) := cmp_int fun _ _ _ _ _ h => PyProof.Rows.gt_int h
theorem c_ge {a b : Int} : CMP c .GtE (.int a) (.int b) (decide (b ≤ a)) := cmp_int fun _ _ _ _ _ h => PyProof.Rows.ge_int h
theorem cmp_str {op : CmpOp} {a b : Str} {r : Bool} (h : ∀ (s : Shared) (t u : Tok) (Q E : Value → Shared → Prop), Q (.bool r) s → wpAny c.M c.A (compareOp op (.str a t) (.str b u)) Q E s) : CMP c op (.str a) (.str b) r := by
  intro _ mu s v₁ v₂ Q E r₁ r₂ hQ
  simp only [Rel] at r₁ r₂
  obtain ⟨t, rfl⟩ := r₁
  obtain ⟨u, rfl⟩ := r₂
  exact h s t u Q E (hQ s kp_rfl)
theorem c_seq {a b : Str} : CMP c .Eq (.str a) (.str b) (a == b) := cmp_str fun _ _ _ _ _ h => PyProof.Rows.eq_str h
theorem c_sne {a b : Str} : CMP c .NotEq (.str a) (.str b) (a != b) := cmp_str fun _ _ _ _ _ h => PyProof.Rows.ne_str h
theorem c_isNone {d : D} {b : Bool} (hb : ∀ mu h v, Rel mu h d v → (v == Value.none) = b) : CMP c .Is d .none b := by
  intro _ mu s v₁ v₂ Q E r₁ r₂ hQ
  have := hb _ _ _ r₁
  simp only [Rel] at r₂
  subst r₂
  exact is_none (this ▸ hQ s kp_rfl)
theorem c_isNotNone {d : D} {b : Bool} (hb : ∀ mu h v, Rel mu h d v → (v == Value.none) = b) : CMP c .IsNot d .none (!b) := by
  intro _ mu s v₁ v₂ Q E r₁ r₂ hQ
  have := hb _ _ _ r₁
  simp only [Rel] at r₂
  subst r₂
  exact isNot_none (this ▸ hQ s kp_rfl)
theorem t_bool {b : Bool} : TRUTH c (.bool b) b := by
  intro mu s v Q E r hQ
  simp only [Rel] at r; subst r
  exact wpAny_truthy_bool (hQ s kp_rfl)
theorem t_int {a : Int} : TRUTH c (.int a) (a != 0) := by
  intro mu s v Q E r hQ
  simp only [Rel] at r; obtain ⟨t, rfl⟩ := r
  exact PyProof.Rows.truthy_int (hQ s kp_rfl)
end
end Mine
end
section
open PySem PySem.W PySem.Spec PySem.Calls PyProof.Rows
set_option Elab.async false
set_option linter.unusedVariables false
namespace Mine
inductive Fl where
  | next
  | brk
  | cont
  | ret (d : D)
noncomputable def RelF (mu : List Addr) (h : Heap) : Fl → Flow → Prop
  | .next, f => f = .next
  | .brk, f => f = .brk
  | .cont, f => f = .cont
  | .ret d, f => ∃ v, f = .ret v ∧ Rel mu h d v ∧ Froz d
structure Step (own : List Addr) (s : Shared) (own' : List Addr) (s' : Shared) : Prop where
  same : ∃ h' tk, s' = { s with heap := h', toks := tk }
  kept : KeptBut own s.heap s'.heap
  new : ∀ a ∈ own', a ∈ own ∨ s.heap.get? a = none
theorem Step.of {own : List Addr} {s s' : Shared} (k : Keeps s s') : Step own s own s' := by
  obtain ⟨h', tk, rfl, q⟩ := k
  exact ⟨⟨h', tk, rfl⟩, fun b o _ e => q b o e, fun a h => .inl h⟩
theorem Step.trans {own own' own'' : List Addr} {s s' s'' : Shared} (a : Step own s own' s') (b : Step own' s' own'' s'') : Step own s own'' s'' := by
  obtain ⟨h', tk, rfl⟩ := a.same
  obtain ⟨h'', tk', rfl⟩ := b.same
  refine ⟨⟨h'', tk', rfl⟩, fun x o hx e => b.kept x o (fun q => ?_) (a.kept x o hx e), fun x hx => ?_⟩
  · rcases a.new x q with q | q
    · exact hx q
    · rw [q] at e; cases e
  · rcases b.new x hx with q | q
    · exact a.new x q
    · by_cases hm : x ∈ own
      · exact .inl hm
      · refine .inr ?_
        cases e : s.heap.get? x with
        | none => rfl
        | some o => have := a.kept x o hm e; rw [q] at this; cases this
noncomputable def ST (c : Cx) (l : Loc) (t : Sem Flow) (Q : Fl → Loc → Prop) : Prop :=
  ∀ av own s, Inv c av own l s → ∀ (R : Flow → Shared → Prop) (E : Value → Shared → Prop),
    (∀ fl f l' own' s', Q fl l' → RelF (own' ++ av) s'.heap fl f → Step own s own' s' → Inv c av own' l' s' → R f s') → wpAny c.M c.A t R E s
section
variable {c : Cx} {l : Loc} {Q : Fl → Loc → Prop}
theorem st_mono {t : Sem Flow} {Q' : Fl → Loc → Prop} (h : ST c l t Q') (k : ∀ fl l', Q' fl l' → Q fl l') : ST c l t Q := fun av own s i R E hR =>
  h av own s i R E fun fl f l' own' s' q => hR fl f l' own' s' (k fl l' q)
theorem st_nil (h : Q .next l) : ST c l (execs [] c.env) Q := fun av own s i R E hR => wpAny_execs_nil (hR .next .next l own s h (by simp only [RelF]) (Step.of kp_rfl) i)
theorem st_ret {e : Expr} {pos : Pos} {d : D} (h : EV c l e d) (f : Froz d) (q : Q (.ret d) l) : ST c l (exec (.Return (some e) pos) c.env) Q := fun av own s i R E hR =>
  wpAny_Return_some (h av own s i _ _ fun v s' k r => hR (.ret d) _ l own s' q (by simp only [RelF]; exact ⟨v, rfl, r, f⟩) (Step.of k) (i.keeps k))
theorem st_break {pos : Pos} (q : Q .brk l) : ST c l (exec (.Break pos) c.env) Q := fun av own s i R E hR => wpAny_Break (hR .brk _ l own s q (by simp only [RelF]) (Step.of kp_rfl) i)
theorem st_assert {t : Expr} {msg : Option Expr} {pos : Pos} (h : TR c l t true) (q : Q .next l) : ST c l (exec (.Assert t msg pos) c.env) Q := fun av own s i R E hR =>
  wpAny_Assert_holds (h av own s i _ _ fun s' k => ⟨rfl, hR .next _ l own s' q (by simp only [RelF]) (Step.of k) (i.keeps k)⟩)
theorem ns_ne_list {h : Heap} {a b : Addr} {m : Str → Option Value} {vs : Array Value} (n : h.Ns a m) (p : h.PlainList b vs) : b ≠ a := fun e => by
  subst e
  obtain ⟨o, es, ep, ho, hd, _⟩ := n
  obtain ⟨k, hk⟩ := p
  rw [hk] at ho; cases ho; cases hd
theorem ns_ne_cell {h : Heap} {a b : Addr} {m : Str → Option Value} {v : Option Value} (n : h.Ns a m) (p : h.IsCell b v) : b ≠ a := fun e => by
  subst e
  obtain ⟨o, es, ep, ho, hd, _⟩ := n
  obtain ⟨o', ho', hd'⟩ := p
  rw [ho'] at ho; cases ho; rw [hd'] at hd; cases hd
theorem list_ne_cell {h : Heap} {a b : Addr} {vs : Array Value} {v : Option Value} (n : h.PlainList a vs) (p : h.IsCell b v) : b ≠ a := fun e => by
  subst e
  obtain ⟨k, hk⟩ := n
  obtain ⟨o', ho', hd'⟩ := p
  rw [ho'] at hk; cases hk; cases hd'
theorem sameBut_alive {h h' : Heap} {b : Addr} (hs : Heap.SameBut b h h') (hb : (h'.get? b).isSome = true) : ∀ a, (h.get? a).isSome = true → (h'.get? a).isSome = true := fun a ha => by
  by_cases e : a = b
  · subst e; exact hb
  · rw [hs.2 a e]; exact ha
theorem sameBut_but {h h' : Heap} {b : Addr} {own : List Addr} (hs : Heap.SameBut b h h') (hb : b ∈ own) : KeptBut own h h' := fun x o hx e => (hs.2 x (fun q => hx (q ▸ hb))).trans e
theorem rel_same {mu : List Addr} {h h' : Heap} {b : Addr} (hs : Heap.SameBut b h h') (hb : b ∈ mu) {d : D} {v : Value} (r : Rel mu h d v)
    (q : match d with | .mls its => FrozL its ∧ v ≠ .ref b | d => Froz d) : Rel mu h' d v := by
  cases d with
  | mls its =>
    simp only [Rel] at r ⊢
    obtain ⟨a, vs, rfl, hp, hr⟩ := r
    have ha : a ≠ b := fun e => q.2 (by rw [e])
    exact ⟨a, vs, rfl, hp.at fun o e => (hs.2 a ha).trans e, RelL.but (sameBut_but hs hb) q.1 hr⟩
  | _ => exact Rel.but (sameBut_but hs hb) q r
theorem Inv.setLocal {av own : List Addr} {s : Shared} {x : Str} {d : D} {v : Value} {h' : Heap} {tk : Nat} {m : Str → Option Value} (i : Inv c av own l s) (hL : c.env.locals = c.L) (hx : c.env.kindOf x = some .local)
    (r : Rel (own ++ av) s.heap d v) (f : match d with | .mls its => FrozL its ∧ (∃ a, v = .ref a ∧ a ∈ own) ∧ ∀ y dy, get l y = some (.mls dy) → y ≠ x → ¬ NameIs c.env s.heap y v | d => Froz d)
    (hm : s.heap.Ns c.env.locals m) (hn : h'.Ns c.env.locals fun y => if y = x then some v else m y) (hs : Heap.SameBut c.env.locals s.heap h') : Inv c av own (put l x d) { s with heap := h', toks := tk } := by
  obtain ⟨hl1, m₀, hl2⟩ := i.loc
  have alive : (h'.get? c.env.locals).isSome = true := by obtain ⟨o, _, _, ho, _⟩ := hn; rw [ho]; rfl
  have nameOld : ∀ y w, y ≠ x → NameIs c.env s.heap y w → NameIs c.env h' y w := fun y w hy n => by
    rcases n with ⟨q, m₁, hn₁, e⟩ | ⟨q, a, ha, hc⟩
    · refine .inl ⟨q, _, hn, ?_⟩
      rw [if_neg hy, hm.agree hn₁ y]; exact e
    · exact .inr ⟨q, a, ha, hc.sameBut hs (ns_ne_cell hl2 hc)⟩
  have nameBack : ∀ y w, y ≠ x → NameIs c.env h' y w → NameIs c.env s.heap y w := fun y w hy n => by
    rcases n with ⟨q, m₁, hn₁, e⟩ | ⟨q, a, ha, hc⟩
    · refine .inl ⟨q, m, hm, ?_⟩
      have := hn.agree hn₁ y
      rw [if_neg hy] at this
      rw [this]; exact e
    · obtain ⟨o, ho, hd⟩ := hc
      have : a ≠ c.env.locals := fun e => by
        subst e
        obtain ⟨o', _, _, ho', hd', _⟩ := hn
        rw [ho] at ho'; cases ho'; rw [hd] at hd'; cases hd'
      exact .inr ⟨q, a, ha, o, (hs.2 a this).symm.trans ho, hd⟩
  refine ⟨i.ok, fun a ha => ⟨sameBut_alive hs alive a (i.keep a ha).1, (i.keep a ha).2⟩, ?_, fun a ha => ⟨(i.mine a ha).1, sameBut_alive hs alive a (i.mine a ha).2⟩, ⟨hl1, _, hn⟩, fun y a h1 h2 => ?_, i.inj, fun y a h => ⟨sameBut_alive hs alive a (i.cel y a h).1, (i.cel y a h).2⟩, i.off, fun y e he => ?_, fun y z dy dz a h1 h2 n1 n2 => ?_⟩
  · obtain ⟨mF, F⟩ := i.fr
    exact ⟨_, F.set (hL ▸ hn) (hL ▸ hs)⟩
  · obtain ⟨h3, w, h4⟩ := i.cell y a h1 h2
    exact ⟨h3, w, h4.sameBut hs (ns_ne_cell hl2 h4)⟩
  · rw [get_put] at he
    by_cases hy : y = x
    · subst hy
      rw [if_pos rfl] at he
      cases he
      refine ⟨v, .inl ⟨hx, _, hn, by rw [if_pos rfl]⟩, ?_, ?_⟩
      · refine rel_same hs (List.mem_append_left _ hl1) r ?_
        cases d with
        | mls its =>
          refine ⟨f.1, fun e => ?_⟩
          simp only [Rel] at r
          obtain ⟨a, vs, e', hp, _⟩ := r
          rw [e] at e'; cases e'
          exact ns_ne_list hl2 hp rfl
        | _ => exact f
      · cases d with
        | mls its => exact ⟨f.1, f.2.1⟩
        | _ => exact f
    · rw [if_neg hy] at he
      obtain ⟨w, n, rw', q⟩ := i.val y e he
      refine ⟨w, nameOld y w hy n, rel_same hs (List.mem_append_left _ hl1) rw' ?_, q⟩
      cases e with
      | mls its =>
        refine ⟨q.1, fun e => ?_⟩
        simp only [Rel] at rw'
        obtain ⟨a, vs, e', hp, _⟩ := rw'
        rw [e] at e'; cases e'
        exact ns_ne_list hl2 hp rfl
      | _ => exact q
  · rw [get_put] at h1 h2
    by_cases hy : y = x <;> by_cases hz : z = x
    · rw [hy, hz]
    · subst hy
      rw [if_pos rfl] at h1; cases h1
      rw [if_neg hz] at h2
      have : Value.ref a = v := n1.agree (.inl ⟨hx, _, hn, by rw [if_pos rfl]⟩)
      exact absurd (nameBack z _ hz n2) (this ▸ f.2.2 z dz h2 hz)
    · subst hz
      rw [if_pos rfl] at h2; cases h2
      rw [if_neg hy] at h1
      have : Value.ref a = v := n2.agree (.inl ⟨hx, _, hn, by rw [if_pos rfl]⟩)
      exact absurd (nameBack y _ hy n1) (this ▸ f.2.2 y dy h1 hy)
    · rw [if_neg hy] at h1
      rw [if_neg hz] at h2
      exact i.apart y z dy dz a h1 h2 (nameBack y _ hy n1) (nameBack z _ hz n2)
theorem storeL {av own : List Addr} {s : Shared} {x : Str} {d : D} {v : Value} {R : Unit → Shared → Prop} {E : Value → Shared → Prop} (i : Inv c av own l s) (hL : c.env.locals = c.L) (hx : c.env.kindOf x = some .local)
    (r : Rel (own ++ av) s.heap d v) (f : Froz d) (h : ∀ s', Step own s own s' → Inv c av own (put l x d) s' → R () s') : wpAny c.M c.A (storeName c.env x v) R E s := by
  obtain ⟨hl1, m, hm⟩ := i.loc
  refine wpAny_storeName_local hx hm (fun h' hn hs => h _ ⟨⟨h', _, rfl⟩, sameBut_but hs hl1, fun a q => .inl q⟩ (i.setLocal hL hx r ?_ hm hn hs)) ?_
  · cases d with
    | mls its => exact absurd f (by simp only [Froz, not_false_eq_true])
    | _ => exact f
  · rw [i.ok.kind]; rfl
theorem loadN {av own : List Addr} {s : Shared} {x : Str} {d : D} {R E : Value → Shared → Prop} (i : Inv c av own l s) (h : get l x = some d) (hR : ∀ v, Rel (own ++ av) s.heap d v → R v s) : wpAny c.M c.A (loadName c.env x) R E s := by
  obtain ⟨v, n, r, _⟩ := i.val x d h
  rcases n with ⟨q, m, hn, e⟩ | ⟨q, a, ha, hc⟩
  · exact wpAny_loadName_local i.ok.kind q hn e (hR v r)
  · rcases q with q | q
    · exact wpAny_loadName_cell i.ok.kind q ha hc (hR v r)
    · exact wpAny_loadName_free i.ok.kind q.1 ha hc (hR v r) q.2
end
end Mine
end
section
open PySem PySem.W PySem.Spec PySem.Calls PyProof.Rows
set_option Elab.async false
set_option linter.unusedVariables false
namespace Mine
section
variable {c : Cx} {l : Loc} {Q : Fl → Loc → Prop}
noncomputable def EVL (c : Cx) (l : Loc) (es : List Expr) (ds : List D) : Prop :=
  ∀ av own s, Inv c av own l s → ∀ (pos : Pos) (Q : List Value → Shared → Prop) (E : Value → Shared → Prop), (∀ vs s', Keeps s s' → RelL (own ++ av) s'.heap ds vs → Q vs s') → wpAny c.M c.A (spliced (backTo pos (starEach es c.env))) Q E s
theorem evl_nil : EVL c l [] [] := fun av own s i pos Q E hQ => spliced_none (hQ [] s kp_rfl (by simp only [RelL]))
theorem evl_cons {e : Expr} {es : List Expr} {d : D} {ds : List D} (h : EV c l e d) (h' : EVL c l es ds) (he : ∀ env, starEach (e :: es) env = (false, eval e env) :: starEach es env := by intro _; rfl) : EVL c l (e :: es) (d :: ds) := by
  intro av own s i pos Q E hQ
  refine spliced_more (h av own s i _ _ fun v s₁ k₁ r₁ => h' av own s₁ (i.keeps k₁) pos _ _ fun vs s₂ k₂ r₂ => ?_) (he _)
  exact hQ _ s₂ (kp_trans k₁ k₂) (by simp only [RelL]; exact ⟨v, vs, rfl, r₁.kept (kp_kept k₂), r₂⟩)
theorem ev_tuple {es : List Expr} {k : Nat} {pos : Pos} {ds : List D} (h : EVL c l es ds) (hs : ds.length ≤ 1000) : EV c l (.Tuple es k pos) (.tup ds) := by
  intro av own s i Q E hQ
  refine wpAny_Tuple (h av own s i _ _ _ fun vs s₁ k₁ r₁ => ?_)
  have i₁ := i.keeps k₁
  refine ⟨by rw [r₁.length]; exact Nat.le_trans hs (by decide), hQ _ _ (kp_trans k₁ (kp_push _)) ?_⟩
  simp only [Rel]
  exact ⟨_, vs, rfl, i₁.notOwn, ⟨_, Heap.get?_push_size _ rfl, rfl, _, rfl⟩, r₁.kept (kp_kept (kp_push _))⟩
theorem ev_list {es : List Expr} {pos : Pos} {ds : List D} (h : EVL c l es ds) (hs : ds.length ≤ 1000) : EV c l (.List es pos) (.lst ds) := by
  intro av own s i Q E hQ
  refine wpAny_List (h av own s i _ _ _ fun vs s₁ k₁ r₁ => ?_)
  have i₁ := i.keeps k₁
  refine ⟨by rw [r₁.length]; exact Nat.le_trans hs (by decide), hQ _ _ (kp_trans k₁ (kp_push _)) ?_⟩
  simp only [Rel]
  exact ⟨_, vs, rfl, i₁.notOwn, ⟨_, Heap.get?_push_size _ rfl, rfl, _, rfl⟩, r₁.kept (kp_kept (kp_push _))⟩
noncomputable def CALL (prog : Program) (w : World) (K : Frag) (lv : Nat) (f : Addr) (args : List D) (d : D) : Prop :=
  ∀ dp un gd outer base (s : Shared) p loose mean mg mb av vs (Q E : Value → Shared → Prop), dp + 1 + lv < recursionLimit → un + 3 + 20 * lv + 60 < cLine → Below (aTop dp un gd outer) base outer s.heap → K.In s.heap → Top p loose mean mg mb s.heap →
    (∀ a ∈ av, (s.heap.get? a).isSome = true ∧ K.lookup a = none) → RelL av s.heap args vs → (∀ v s', Keeps s s' → Rel av s'.heap d v → Q v s') → wpAny (model prog w) (aTop dp un gd outer) (call (.ref f) vs) Q E s
theorem Inv.call {av own : List Addr} {s : Shared} {lv : Nat} {f : Addr} {args : List D} {d : D} {vs : List Value} {Q E : Value → Shared → Prop} (i : Inv c av own l s) (C : CALL c.prog c.w c.K lv f args d) (hlv : lv + 1 ≤ c.lv)
    (r : RelL (own ++ av) s.heap args vs) (hQ : ∀ v s', Keeps s s' → Rel (own ++ av) s'.heap d v → Q v s') : wpAny c.M c.A (call (.ref f) vs) Q E s := by
  obtain ⟨m, F⟩ := i.fr
  have hD := i.ok.roomD
  have hU := i.ok.roomU
  refine C (c.dp + 1) (c.un + 3) c.gd (c.fenv :: c.outer) c.base s c.p c.loose c.mean c.mg c.mb (own ++ av) vs Q E (by omega) (by omega) (pushX i.ok.below F i.ok.frame i.ok.fkind) i.keepK (i.ok.top.keeps F.keep) (fun a ha => ⟨?_, notK i a ha⟩) r hQ
  rcases List.mem_append.mp ha with q | q
  · exact (i.mine a q).2
  · exact (i.keep a q).1
theorem ev_call {x : Str} {px pos : Pos} {e : Expr} {es : List Expr} {f : Addr} {lv : Nat} {args : List D} {d : D} {o : Obj} {fd : FuncData} (hf : EV c l (.Name x px) (.val (.ref f))) (ho : c.K.lookup f = some o) (hd : o.data = .func fd)
    (ha : EVL c l (e :: es) args) (C : CALL c.prog c.w c.K lv f args d) (hlv : lv + 1 ≤ c.lv) (he : ∀ env, starEach (e :: es) env = (false, eval e env) :: starEach es env := by intro _; rfl) : EV c l (.Call (.Name x px) (e :: es) [] pos) d := by
  intro av own s i Q E hQ
  refine Call_ (hf av own s i _ _ fun v s₁ k₁ r₁ => ?_)
  simp only [Rel] at r₁
  subst r₁
  have i₁ := i.keeps k₁
  refine callWith_function_kw (o := o) (fd := fd) ?_
  have hE : backTo pos (starEach (e :: es) c.env) = (false, eval e c.env) :: backTo pos (starEach es c.env) := by rw [he]; rfl
  rw [hE]
  refine evalArgs_plain ?_
  rw [← hE]
  refine ha av own s₁ i₁ pos _ _ fun vs s₂ k₂ r₂ => ⟨⟨(i₁.keeps k₂).keepK _ _ ho, hd⟩, ?_⟩
  exact (i₁.keeps k₂).call C hlv r₂ fun v s' k r => hQ v s' (kp_trans k₁ (kp_trans k₂ k)) r
theorem start {prog : Program} {w : World} {K : Frag} {p : Program} {loose : List Str} {mean : ExcName → Option Value} {mg mb : Str → Option Value} {dp un lv : Nat} {gd : Option (List Code)} {outer : List Env} {base : Heap} {s : Shared} {av : List Addr} {h₁ : Heap} {tk : Nat}
    {qual : Str} {scope : Scope} {f : Addr} {cdv : Value} {names : List Str} {args : List D} {vs : List Value}
    (hD : dp + 1 + lv < recursionLimit) (hU : un + 3 + 20 * lv + 60 < cLine) (B : Below (aTop dp un gd outer) base outer s.heap) (X : K.In s.heap) (T : Top p loose mean mg mb s.heap) (hav : ∀ a ∈ av, (s.heap.get? a).isSome = true ∧ K.lookup a = none)
    (r : RelL av s.heap args vs) (fz : FrozL args) (hk : scope.kind = .function) (hcell : ∀ x ∈ scope.names, x.2 ≠ .cell) (hloc : ∀ x ∈ names, scope.names.lookup x = some .local) (hlen : names.length = args.length) (hnd : names.Nodup)
    (hn : h₁.Ns s.heap.objs.size fun y => (names.zip vs).reverse.lookup y) (k : Kept s.heap h₁) :
    Inv ⟨prog, w, K, p, loose, mean, mg, mb, dp, un, lv, gd, outer, base, s.heap, s.heap.objs.size, envOf qual scope s.heap.objs.size f cdv, envOf qual scope s.heap.objs.size f cdv⟩ av [s.heap.objs.size] (names.zip args) { s with heap := h₁, toks := tk } := by
  have dead : s.heap.get? s.heap.objs.size = none := by
    cases e : s.heap.get? s.heap.objs.size with
    | none => rfl
    | some o => exact absurd (Heap.lt_size e) (Nat.lt_irrefl _)
  have notcell : ∀ x, (envOf qual scope s.heap.objs.size f cdv).kindOf x ≠ some .cell := fun x e => by
    have : (x, NameKind.cell) ∈ scope.names := by
      have e' : scope.names.lookup x = some .cell := e
      clear hcell hloc
      revert e'
      generalize scope.names = ns
      induction ns with
      | nil => intro e'; cases e'
      | cons q qs ih =>
        intro e'
        rw [List.lookup_cons] at e'
        by_cases hx : (x == q.1) = true
        · simp only [hx] at e'
          have e2 : q = (x, NameKind.cell) := by
            obtain ⟨n, kk⟩ := q
            have e3 : kk = NameKind.cell := Option.some.inj e'
            rw [e3, show x = n from eq_of_beq hx]
          rw [e2]; exact .head _
        · simp only [hx] at e'
          exact .tail _ (ih e')
    exact hcell _ this rfl
  have vals : ∀ (names : List Str) (args : List D) (vs : List Value), RelL av s.heap args vs → FrozL args → names.length = args.length → names.Nodup → ∀ x d, get (names.zip args) x = some d → x ∈ names ∧ ∃ v, (names.zip vs).reverse.lookup x = some v ∧ Rel av s.heap d v ∧ Froz d := by
    intro names
    induction names with
    | nil => intro args vs _ _ _ _ x d e; simp [get] at e
    | cons n ns ih =>
      intro args vs r fz hl hnd x d e
      cases args with
      | nil => simp at hl
      | cons a as =>
        simp only [RelL] at r
        obtain ⟨v, vs', rfl, r1, r2⟩ := r
        simp only [FrozL] at fz
        simp only [List.zip_cons_cons, get] at e
        by_cases hx : x = n
        · subst hx
          rw [if_pos rfl] at e
          cases e
          refine ⟨.head _, v, ?_, r1, fz.1⟩
          rw [List.zip_cons_cons, List.reverse_cons, List.lookup_append]
          have : (ns.zip vs').reverse.lookup x = none := by
            rw [List.lookup_eq_none_iff]
            intro q hq
            have h1 := List.of_mem_zip (List.mem_reverse.mp hq)
            have h2 : x ∉ ns := (List.nodup_cons.mp hnd).1
            simp only [bne_iff_ne, ne_eq]
            exact fun e => h2 (by rw [e]; exact h1.1)
          rw [this]
          simp
        · rw [if_neg hx] at e
          obtain ⟨h1, v', h2, h3, h4⟩ := ih as vs' r2 fz.2 (by simpa using hl) (List.nodup_cons.mp hnd).2 x d e
          refine ⟨.tail _ h1, v', ?_, h3, h4⟩
          rw [List.zip_cons_cons, List.reverse_cons, List.lookup_append, h2]
          rfl
  have live₁ : (h₁.get? s.heap.objs.size).isSome = true := by obtain ⟨o, _, _, ho, _⟩ := hn; rw [ho]; rfl
  refine ⟨⟨B, T, X, hk, hk, rfl, rfl, rfl, hD, hU⟩, fun a ha => ?_, ⟨_, ⟨hn, k, Nat.le_refl _⟩⟩, fun a ha => ?_, ⟨.head _, _, hn⟩, fun x a h1 _ => absurd h1 (notcell x), fun x y a h1 _ => (by cases h1), fun x a h1 => (by cases h1), fun q => ?_, fun x d e => ?_, fun x y dx dy a h1 _ _ _ => ?_⟩
  · obtain ⟨o, ho⟩ := Option.isSome_iff_exists.mp (hav a ha).1
    refine ⟨by rw [k a o ho]; rfl, (hav a ha).2, fun q => ?_⟩
    rw [List.mem_singleton.mp q, dead] at ho; cases ho
  · rw [List.mem_singleton.mp ha]
    exact ⟨dead, live₁⟩
  · have := (hav _ q).1
    rw [dead] at this; cases this
  · obtain ⟨h1, v, h2, h3, h4⟩ := vals names args vs r fz hlen hnd x d e
    refine ⟨v, .inl ⟨hloc x h1, _, hn, h2⟩, ?_, ?_⟩
    · have := Rel.kept k (Rel.sub (mu' := [s.heap.objs.size] ++ av) (fun a ha => ?_) h3)
      · exact this
      · rcases List.mem_append.mp ha with q | q
        · rw [List.mem_singleton.mp q]; exact .inr dead
        · exact .inl q
    · cases d <;> first | exact h4 | (simp only [Froz] at h4)
  · obtain ⟨_, v, _, _, h4⟩ := vals names args vs r fz hlen hnd x _ h1
    simp only [Froz] at h4
end
end Mine
end
section
open PySem PySem.W PySem.Spec PySem.Calls PyProof.Rows
set_option Elab.async false
set_option linter.unusedVariables false
namespace Mine
section
variable {c : Cx} {l : Loc} {Q : Fl → Loc → Prop}
theorem ofStr_inj {a b : String} : (Str.ofString a = Str.ofString b) ↔ a = b := by
  constructor
  · intro h
    unfold Str.ofString at h
    rw [cpsOfBytes_string, cpsOfBytes_string] at h
    have h2 : a.toList.map Char.toNat = b.toList.map Char.toNat := by
      have := congrArg (fun x : Str => x.cps.toList) h
      simpa using this
    have h3 : a.toList = b.toList := (List.map_inj_right (fun x y e => Char.toNat_inj.mp e)).mp h2
    exact String.toList_inj.mp h3
  · exact congrArg _
noncomputable def ITEM (c : Cx) (d₁ d₂ d : D) : Prop :=
  ∀ (value slice : Expr) mu s v₁ v₂ (Q E : Value → Shared → Prop), (∀ o i, subscripted slice false o i = operate [o, i] (getItem o i)) → Rel mu s.heap d₁ v₁ → Rel mu s.heap d₂ v₂ → (∀ v s', Keeps s s' → Rel mu s'.heap d v → Q v s') → wpAny c.M c.A (subscriptTail value slice v₁ v₂) Q E s
theorem ev_sub {a b : Expr} {pos : Pos} {d₁ d₂ d : D} (h₁ : EV c l a d₁) (h₂ : EV c l b d₂) (h : ITEM c d₁ d₂ d) (hs : ∀ o i, subscripted b false o i = operate [o, i] (getItem o i) := by intro _ _; rfl) : EV c l (.Subscript a b pos) d := by
  intro av own s i Q E hQ
  refine Subscript_ (h₁ av own s i _ _ fun v₁ s₁ k₁ r₁ => h₂ av own s₁ (i.keeps k₁) _ _ fun v₂ s₂ k₂ r₂ => ?_)
  exact h a b _ s₂ v₁ v₂ _ _ hs (r₁.kept (kp_kept k₂)) r₂ fun v s' k r => hQ v s' (kp_trans k₁ (kp_trans k₂ k)) r
theorem letGo_plain {value : Expr} {o : Value} (ho : ∀ a, o ≠ .ref a) (r : Value) : letTemporaryGo value o r = pure () := by
  cases o with
  | ref a => exact absurd rfl (ho a)
  | _ => cases value <;> rfl
theorem i_lst {ds : List D} {k : Int} {d : D} (h0 : 0 ≤ k) (h1 : k < 2 ^ 63) (hx : ds[k.toNat]? = some d) : ITEM c (.lst ds) (.int k) d := by
  intro value slice mu s v₁ v₂ Q E hs r₁ r₂ hQ
  simp only [Rel] at r₁ r₂
  obtain ⟨a, vs, rfl, _, hl, hr⟩ := r₁
  obtain ⟨u, rfl⟩ := r₂
  obtain ⟨v, hv, r⟩ := hr.get hx
  exact tail_any hl.typeIs slot_list_getitem.lookup (wpAny_getItem_list hl h0 h1 (by simpa using hv) (hQ v s kp_rfl r)) (hs _ _)
theorem i_mls {ds : List D} {k : Int} {d : D} (h0 : 0 ≤ k) (h1 : k < 2 ^ 63) (hx : ds[k.toNat]? = some d) : ITEM c (.mls ds) (.int k) d := by
  intro value slice mu s v₁ v₂ Q E hs r₁ r₂ hQ
  simp only [Rel] at r₁ r₂
  obtain ⟨a, vs, rfl, hl, hr⟩ := r₁
  obtain ⟨u, rfl⟩ := r₂
  obtain ⟨v, hv, r⟩ := hr.get hx
  exact tail_any hl.isList.typeIs slot_list_getitem.lookup (wpAny_getItem_list hl.isList h0 h1 (by simpa using hv) (hQ v s kp_rfl r)) (hs _ _)
theorem i_tup {ds : List D} {k : Int} {d : D} (h0 : 0 ≤ k) (h1 : k < 2 ^ 63) (hx : ds[k.toNat]? = some d) : ITEM c (.tup ds) (.int k) d := by
  intro value slice mu s v₁ v₂ Q E hs r₁ r₂ hQ
  simp only [Rel] at r₁ r₂
  obtain ⟨a, vs, rfl, _, hl, hr⟩ := r₁
  obtain ⟨u, rfl⟩ := r₂
  obtain ⟨v, hv, r⟩ := hr.get hx
  refine item_tupleT (l := vs) (j := k.toNat) hl (by omega) h1 ?_ hv (hQ v s kp_rfl r) (hs _ _)
  have : k.toNat < vs.length := (List.getElem?_eq_some_iff.mp hv).1
  exact StrLaws.seqIndex_nonneg h0 (by omega)
theorem i_str {x : Str} {k : Int} (h1 : -(x.length : Int) ≤ k) (h2 : k < x.length) (hf : x.length ≤ 2 ^ 60) : ITEM c (.str x) (.int k) (.str (Txt.item x k)) := by
  intro value slice mu s v₁ v₂ Q E hs r₁ r₂ hQ
  simp only [Rel] at r₁ r₂
  obtain ⟨t, rfl⟩ := r₁
  obtain ⟨u, rfl⟩ := r₂
  refine item_str ?_ h1 h2 (fun _ => hQ _ _ (kp_tok _) (by simp only [Rel]; exact ⟨_, rfl⟩)) (hs _ _) (letGo_plain (fun _ e => by cases e))
  simp only [fitsSsize, Bool.not_eq_true', Bool.or_eq_false_iff, decide_eq_false_iff_not]
  first
    | omega
    | (simp only [Bool.and_eq_true, decide_eq_true_eq]; omega)
theorem i_bytes {b : List UInt8} {k : Int} (h0 : 0 ≤ k) (h1 : k < b.length) (hf : b.length ≤ 2 ^ 30) : ITEM c (.bytes b.toArray) (.int k) (.int (b.getD k.toNat 0).toNat) := by
  intro value slice mu s v₁ v₂ Q E hs r₁ r₂ hQ
  simp only [Rel] at r₁ r₂
  obtain ⟨t, rfl⟩ := r₁
  obtain ⟨u, rfl⟩ := r₂
  exact tail_any (typeIs_bytes s _ t) FB.slot_bytes_getitem.lookup (getItem_bytes (Nat.le_trans hf (by decide)) h0 h1 (hQ _ _ (kp_tok _) (by simp only [Rel]; exact ⟨_, rfl⟩))) (hs _ _)
inductive Part (c : Cx) (l : Loc) : Option Expr → Option Int → Prop
  | none : Part c l none none
  | some {e : Expr} {i : Int} : EV c l e (.int i) → Part c l (some e) (some i)
theorem Part.wp {e : Option Expr} {i : Option Int} (p : Part c l e i) {av own : List Addr} {s : Shared} (v : Inv c av own l s) {R : Value → Shared → Prop} {E : Value → Shared → Prop} (h : ∀ v s', Keeps s s' → IsPart v i → R v s') :
    wpAny c.M c.A (evalPart e c.env) R E s := by
  cases p with
  | none => exact evalPart_none_step (h _ s kp_rfl .none)
  | some q =>
    refine evalPart_some_step (q av own s v _ _ fun w s' k r => ?_)
    simp only [Rel] at r
    obtain ⟨t, rfl⟩ := r
    exact h _ s' k (.int _ _)
noncomputable def CUT (c : Cx) (d : D) (lo hi : Option Int) (r : D) : Prop :=
  ∀ (value slice : Expr) mu s v vl vu (Q E : Value → Shared → Prop), s.heap.objs.size ∉ mu → (∀ a, a ∈ mu → (s.heap.get? a).isSome = true) → (∀ o i, subscripted slice false o i = operate [i, o] (getItem o i)) → Rel mu s.heap d v → IsPart vl lo → IsPart vu hi → (∀ v' s', Keeps s s' → Rel mu s'.heap r v' → Q v' s') →
    wpAny c.M c.A (subscriptTail value slice v (.ref s.heap.objs.size)) Q E { s with heap := s.heap.push { cls := .type "slice", data := .fields #[vl, vu, .none] } }
theorem ev_cut {a : Expr} {lo hi : Option Expr} {p pos : Pos} {d r : D} {i j : Option Int} (h : EV c l a d) (h₁ : Part c l lo i) (h₂ : Part c l hi j) (hc : CUT c d i j r) : EV c l (.Subscript a (.Slice lo hi none p) pos) r := by
  intro av own s inv Q E hQ
  refine Subscript_ (h av own s inv _ _ fun v s₁ k₁ r₁ => wpAny_Slice (h₁.wp (inv.keeps k₁) fun vl s₂ k₂ p₁ => h₂.wp ((inv.keeps k₁).keeps k₂) fun vu s₃ k₃ p₂ => evalPart_none_step ?_))
  have i₃ := ((inv.keeps k₁).keeps k₂).keeps k₃
  refine hc a _ (own ++ av) s₃ v vl vu _ _ i₃.notOwn (fun b hb => ?_) (fun _ _ => rfl) ((r₁.kept (kp_kept k₂)).kept (kp_kept k₃)) p₁ p₂ fun v' s' k r => hQ v' s' (kp_trans k₁ (kp_trans k₂ (kp_trans k₃ k))) r
  rcases List.mem_append.mp hb with q | q
  · exact (i₃.mine b q).2
  · exact (i₃.keep b q).1
theorem keptH (h₀ : Heap) : KeptH (fun h => Kept h₀ h) := fun h ob k b o e => Heap.get?_push_of_some _ (k b o e)
theorem cut_str {x : Str} {i j : Option Int} (hf : x.length ≤ sizeLine) : CUT c (.str x) i j (.str (Txt.slice x i j)) := by
  intro value slice mu s v vl vu Q E hn ha hs r p₁ p₂ hQ
  simp only [Rel] at r
  obtain ⟨t, rfl⟩ := r
  have fin : ∀ h' t' k, Kept s.heap h' → Q (.str (Txt.slice x i j) t') { s with heap := h', toks := k } := fun h' t' k kk => hQ _ _ ⟨h', k, rfl, kk⟩ (by simp only [Rel]; exact ⟨_, rfl⟩)
  cases p₁ <;> cases p₂
  · exact tail_of_ItemOn (SBH.sliceItem_nn (keptH s.heap) (fun _ _ e => e) fin hf) (hs _ _) (letGo_plain (fun _ e => by cases e))
  · exact tail_of_ItemOn (SBH.sliceItem_ns (keptH s.heap) (fun _ _ e => e) fin hf) (hs _ _) (letGo_plain (fun _ e => by cases e))
  · exact tail_of_ItemOn (SBH.sliceItem_sn (keptH s.heap) (fun _ _ e => e) fin hf) (hs _ _) (letGo_plain (fun _ e => by cases e))
  · exact tail_of_ItemOn (SBH.sliceItem_ss (keptH s.heap) (fun _ _ e => e) fin hf) (hs _ _) (letGo_plain (fun _ e => by cases e))
theorem RelL.drop {mu : List Addr} {h : Heap} : ∀ (k : Nat) {ds : List D} {vs : List Value}, RelL mu h ds vs → RelL mu h (ds.drop k) (vs.drop k)
  | 0, _, _, r => r
  | k + 1, [], vs, r => by simp only [RelL] at r; subst r; simp only [List.drop_nil, RelL]
  | k + 1, d :: ds, vs, r => by
    simp only [RelL] at r
    obtain ⟨v, vs', rfl, _, r2⟩ := r
    simpa only [List.drop_succ_cons] using RelL.drop k r2
theorem RelL.take {mu : List Addr} {h : Heap} : ∀ (k : Nat) {ds : List D} {vs : List Value}, RelL mu h ds vs → RelL mu h (ds.take k) (vs.take k)
  | 0, _, _, r => by simp only [List.take_zero, RelL]
  | k + 1, [], vs, r => by simp only [RelL] at r; subst r; simp only [List.take_nil, RelL]
  | k + 1, d :: ds, vs, r => by
    simp only [RelL] at r
    obtain ⟨v, vs', rfl, r1, r2⟩ := r
    simp only [List.take_succ_cons, RelL]
    exact ⟨v, _, rfl, r1, RelL.take k r2⟩
noncomputable def cutL (ds : List D) (lo hi : Option Int) : List D := match lo, hi with
  | none, none => ds
  | none, some b => ds.take b.toNat
  | some a, none => ds.drop a.toNat
  | some a, some b => (ds.drop a.toNat).take (b.toNat - a.toNat)
theorem slicePick_cut {mu : List Addr} {h : Heap} {ds : List D} {vs : List Value} {lo hi : Option Int} (r : RelL mu h ds vs) (h1 : ∀ a, lo = some a → 0 ≤ a ∧ a ≤ ds.length) (h2 : ∀ b, hi = some b → 0 ≤ b) (h3 : ∀ a b, lo = some a → hi = some b → a ≤ b ∧ b ≤ ds.length) :
    ∃ ws, slicePick vs.toArray lo hi none = ws.toArray ∧ RelL mu h (cutL ds lo hi) ws := by
  have hl := r.length
  cases lo with
  | none =>
    cases hi with
    | none => exact ⟨vs, slicePick_all _, r⟩
    | some b =>
      have hb := h2 b rfl
      by_cases hle : b ≤ vs.length
      · refine ⟨vs.take b.toNat, ?_, r.take _⟩
        have := slicePick_upto vs.toArray b.toNat (by simp; omega)
        rw [Int.toNat_of_nonneg hb] at this
        simpa using this
      · refine ⟨vs.take b.toNat, ?_, r.take _⟩
        rw [List.take_of_length_le (by omega)]
        have e : slicePick vs.toArray none (some b) none = slicePick vs.toArray none none none := by
          unfold slicePick sliceBounds
          have : ¬ b < 0 := by omega
          simp [this]
          have e2 : max 0 (min b (vs.length : Int)) = (vs.length : Int) := by omega
          rw [e2]
        rw [e, slicePick_all]
  | some a =>
    have ha := h1 a rfl
    cases hi with
    | none =>
      refine ⟨vs.drop a.toNat, ?_, r.drop _⟩
      have := slicePick_from vs.toArray a.toNat (by simp; omega)
      rw [Int.toNat_of_nonneg ha.1] at this
      simpa using this
    | some b =>
      have hb := h3 a b rfl rfl
      refine ⟨(vs.drop a.toNat).take (b.toNat - a.toNat), ?_, (r.drop _).take _⟩
      have := slicePick_run vs.toArray a.toNat b.toNat (by simp; omega) (by omega)
      rw [Int.toNat_of_nonneg ha.1, Int.toNat_of_nonneg (h2 b rfl)] at this
      simpa using this
theorem cut_lst {ds : List D} {lo hi : Option Int} (hf : ds.length ≤ 1000) (h1 : ∀ a, lo = some a → 0 ≤ a ∧ a ≤ ds.length) (h2 : ∀ b, hi = some b → 0 ≤ b) (h3 : ∀ a b, lo = some a → hi = some b → a ≤ b ∧ b ≤ ds.length) : CUT c (.lst ds) lo hi (.lst (cutL ds lo hi)) := by
  intro value slice mu s v vl vu Q E hn hal hs r p₁ p₂ hQ
  simp only [Rel] at r
  obtain ⟨a, vs, rfl, hm, hl, hr⟩ := r
  obtain ⟨ws, e, rw'⟩ := slicePick_cut hr h1 h2 h3
  refine tail_any (Heap.IsList.typeIs (s := { s with heap := s.heap.push { cls := .type "slice", data := .fields #[vl, vu, .none] } }) (hl.push _)) slot_list_getitem.lookup
    (wpAny_getItem_list_slice (hl.push _) (Heap.IsSliceOf.new ..) p₁ p₂ .none (by simp) ?_ (by have := hr.length; rw [List.size_toArray, this]; exact Nat.le_trans hf (by decide))) (hs _ _)
  have kp : Keeps s { s with heap := (s.heap.push { cls := .type "slice", data := .fields #[vl, vu, .none] }).push { cls := .type "list", data := .seq (slicePick vs.toArray lo hi none) } } := kp_trans (kp_push _) (kp_push _)
  refine hQ _ _ kp ?_
  rw [e]
  simp only [Rel]
  refine ⟨_, ws, rfl, fun q => ?_, ⟨_, Heap.get?_push_size _ rfl, rfl, _, rfl⟩, rw'.kept (e ▸ kp_kept kp)⟩
  have := hal _ q
  rw [Heap.size_push] at this
  obtain ⟨o, ho⟩ := Option.isSome_iff_exists.mp this
  exact Nat.lt_irrefl _ (Nat.lt_of_succ_lt (Heap.lt_size ho))
end
end Mine
end
section
open PySem PySem.W PySem.Spec PySem.Calls PyProof.Rows
set_option Elab.async false
set_option linter.unusedVariables false
set_option maxRecDepth 100000
namespace Mine
section
variable {c : Cx} {l : Loc} {Q : Fl → Loc → Prop}
noncomputable def BCALL (c : Cx) (f : Value) (args : List D) (d : D) : Prop :=
  ∀ mu s vs (Q E : Value → Shared → Prop), s.heap.objs.size ∉ mu → (∀ a, a ∈ mu → (s.heap.get? a).isSome = true) → RelL mu s.heap args vs → (∀ v s', Keeps s s' → Rel mu s'.heap d v → Q v s') → wpAny c.M c.A (call f vs) Q E s
theorem Inv.alive {av own : List Addr} {s : Shared} (i : Inv c av own l s) : ∀ a, a ∈ own ++ av → (s.heap.get? a).isSome = true := fun a h => by
  rcases List.mem_append.mp h with q | q
  · exact (i.mine a q).2
  · exact (i.keep a q).1
theorem ev_bcall {x : Str} {px pos : Pos} {e : Expr} {es : List Expr} {id : String} {args : List D} {d : D} (hf : EV c l (.Name x px) (.val (.builtin id))) (ha : EVL c l (e :: es) args) (h : BCALL c (.builtin id) args d)
    (he : ∀ env, starEach (e :: es) env = (false, eval e env) :: starEach es env := by intro _; rfl) (hp : ∀ env, (backTo pos (starEach es env)).any (·.1) = false := by intro _; rfl) : EV c l (.Call (.Name x px) (e :: es) [] pos) d := by
  intro av own s i Q E hQ
  refine Call_ (hf av own s i _ _ fun v s₁ k₁ r₁ => ?_)
  simp only [Rel] at r₁
  subst r₁
  have i₁ := i.keeps k₁
  refine callWith_builtin1 (ha av own s₁ i₁ pos _ _ fun vs s₂ k₂ r₂ => ?_) (he _) (hp _)
  exact h _ s₂ vs _ _ (i₁.keeps k₂).notOwn (i₁.keeps k₂).alive r₂ fun v s' k r => hQ v s' (kp_trans k₁ (kp_trans k₂ k)) r
theorem ev_tcall {x : Str} {px pos : Pos} {e : Expr} {es : List Expr} {T : String} {args : List D} {d : D} (hf : EV c l (.Name x px) (.val (.type T))) (ha : EVL c l (e :: es) args) (h : BCALL c (.type T) args d)
    (he : ∀ env, starEach (e :: es) env = (false, eval e env) :: starEach es env := by intro _; rfl) (hp : ∀ env, (backTo pos (starEach es env)).any (·.1) = false := by intro _; rfl) : EV c l (.Call (.Name x px) (e :: es) [] pos) d := by
  intro av own s i Q E hQ
  refine Call_ (hf av own s i _ _ fun v s₁ k₁ r₁ => ?_)
  simp only [Rel] at r₁
  subst r₁
  have i₁ := i.keeps k₁
  refine PyProof.Rows.callWith_type1 (ha av own s₁ i₁ pos _ _ fun vs s₂ k₂ r₂ => ?_) (he _) (hp _)
  exact h _ s₂ vs _ _ (i₁.keeps k₂).notOwn (i₁.keeps k₂).alive r₂ fun v s' k r => hQ v s' (kp_trans k₁ (kp_trans k₂ k)) r
noncomputable def METH (c : Cx) (d : D) (name : Str) (id : String) : Prop :=
  ∀ mu s v (pl : Sem Bool) (Q : Value × List Value → Shared → Prop) (E : Value → Shared → Prop), Rel mu s.heap d v → Q (.builtin id, [v]) s → wpAny c.M c.A (getMethod v name pl) Q E s
theorem ev_meth {o : Expr} {name : Str} {apos pos : Pos} {e : Expr} {es : List Expr} {id : String} {d₀ d : D} {args : List D} (h₀ : EV c l o d₀) (hm : METH c d₀ name id) (ha : EVL c l (e :: es) args) (h : BCALL c (.builtin id) (d₀ :: args) d)
    (hE : ∀ env, ∃ pl : Sem Bool, eval (.Call (.Attribute o name apos) (e :: es) [] pos) env = (do
      let ov ← eval o env
      standAt apos.atName
      let (f, first) ← holding [ov] (getMethod ov name pl)
      callWith pos f first (backTo pos (starEach (e :: es) env)) []) := by intro _; exact ⟨_, rfl⟩)
    (he : ∀ env, starEach (e :: es) env = (false, eval e env) :: starEach es env := by intro _; rfl) (hp : ∀ env, (backTo pos (starEach es env)).any (·.1) = false := by intro _; rfl) : EV c l (.Call (.Attribute o name apos) (e :: es) [] pos) d := by
  intro av own s i Q E hQ
  obtain ⟨pl, hE⟩ := hE c.env
  refine MethodCall_ (pl := pl) (h₀ av own s i _ _ fun v s₁ k₁ r₁ => hm _ s₁ v pl _ _ r₁ ?_) hE
  have i₁ := i.keeps k₁
  refine callWith_method1 (ha av own s₁ i₁ pos _ _ fun vs s₂ k₂ r₂ => ?_) (he _) (hp _)
  refine h _ s₂ (v :: vs) _ _ (i₁.keeps k₂).notOwn (i₁.keeps k₂).alive (by simp only [RelL]; exact ⟨v, vs, rfl, r₁.kept (kp_kept k₂), r₂⟩) fun v s' k r => hQ v s' (kp_trans k₁ (kp_trans k₂ k)) r
theorem meth_str {x name : Str} {id : String} (h : ∀ (s : Shared) (t : Tok) (pl : Sem Bool) (Q : Value × List Value → Shared → Prop) (E : Value → Shared → Prop), Q (.builtin id, [.str x t]) s → wpAny c.M c.A (getMethod (.str x t) name pl) Q E s) : METH c (.str x) name id := by
  intro mu s v pl Q E r q
  simp only [Rel] at r
  obtain ⟨t, rfl⟩ := r
  exact h s t pl Q E q
theorem m_find {x : Str} : METH c (.str x) "find" "str.find" := meth_str fun _ _ _ _ _ q => GM.find q
theorem m_strip {x : Str} : METH c (.str x) "strip" "str.strip" := meth_str fun _ _ _ _ _ q => GM.strip q
theorem m_split {x : Str} : METH c (.str x) "split" "str.split" := meth_str fun _ _ _ _ _ q => GM.split q
theorem m_join {x : Str} : METH c (.str x) "join" "str.join" := meth_str fun _ _ _ _ _ q => GM.join q
theorem m_partition {x : Str} : METH c (.str x) "partition" "str.partition" := meth_str fun _ _ _ _ _ q => GM.partition q
theorem k_find {x y : Str} : BCALL c (.builtin "str.find") [.str x, .str y] (.int (Txt.find x y)) := by
  intro mu s vs Q E _ _ r hQ
  simp only [RelL, Rel] at r
  obtain ⟨_, _, rfl, ⟨t, rfl⟩, _, _, rfl, ⟨u, rfl⟩, rfl⟩ := r
  exact SC.find (hQ _ _ (kp_tok _) (by simp only [Rel]; exact ⟨_, rfl⟩))
theorem k_find3 {x y : Str} {i : Int} : BCALL c (.builtin "str.find") [.str x, .str y, .int i] (.int (Txt.find3 x y i)) := by
  intro mu s vs Q E _ _ r hQ
  simp only [RelL, Rel] at r
  obtain ⟨_, _, rfl, ⟨t, rfl⟩, _, _, rfl, ⟨u, rfl⟩, _, _, rfl, ⟨w, rfl⟩, rfl⟩ := r
  exact SC.find3 (hQ _ _ (kp_tok _) (by simp only [Rel]; exact ⟨_, rfl⟩))
theorem k_strip {x y : Str} (hf : x.length ≤ sizeLine) : BCALL c (.builtin "str.strip") [.str x, .str y] (.str (Txt.stripChars x y)) := by
  intro mu s vs Q E _ _ r hQ
  simp only [RelL, Rel] at r
  obtain ⟨_, _, rfl, ⟨t, rfl⟩, _, _, rfl, ⟨u, rfl⟩, rfl⟩ := r
  exact SC.stripChars (fun t' k => hQ _ _ (kp_tok _) (by simp only [Rel]; exact ⟨_, rfl⟩)) hf
theorem relL_strs {mu : List Addr} {h : Heap} : ∀ (l : List (Str × Tok)), RelL mu h (l.map fun p => D.str p.1) (strValues l)
  | [] => by simp only [List.map_nil, RelL]; rfl
  | p :: r => by
    simp only [List.map_cons, RelL, Rel]
    exact ⟨.str p.1 p.2, strValues r, rfl, ⟨_, rfl⟩, relL_strs r⟩
theorem k_split {x y : Str} (hy : (y.length == 0) = false) (hf : x.length ≤ sizeLine) (hf2 : (Builtin.Str.partsBetween x (Builtin.Str.occurrences x y 0 x.length (x.length + 1)) y.length).length ≤ sizeLine) : BCALL c (.builtin "str.split") [.str x, .str y] (.lst ((Txt.split x y).map .str)) := by
  intro mu s vs Q E hn hal r hQ
  simp only [RelL, Rel] at r
  obtain ⟨_, _, rfl, ⟨t, rfl⟩, _, _, rfl, ⟨u, rfl⟩, rfl⟩ := r
  have fin : ∀ (l : List (Str × Tok)) (tk : Nat), l.map (·.1) = Txt.split x y → Q (.ref s.heap.objs.size) { s with toks := tk, heap := s.heap.push { cls := .type "list", data := .seq (strValues l).toArray } } := fun l tk e => by
    refine hQ _ _ ⟨_, _, rfl, fun _ _ e => Heap.get?_push_of_some _ e⟩ ?_
    simp only [Rel]
    exact ⟨_, strValues l, rfl, hn, ⟨_, Heap.get?_push_size _ rfl, rfl, _, rfl⟩, by rw [← e, List.map_map]; exact relL_strs l⟩
  cases h1 : (decide (x.length < y.length) || decide (Builtin.Str.strKind x < Builtin.Str.strKind y))
  · cases hf' : (Builtin.Str.occurrences x y 0 x.length (x.length + 1)).isEmpty
    · refine call_meets F.slot_str_split (typeIs_str _ _ _) F.entry_str_split (F.args_str_split_2 _ _) (meets_str_split_sep x y t u h1 hy hf' hf hf2) ?_
      show Q _ { s with toks := _, heap := s.heap.push { cls := .type "list", data := .seq (strsFrom s.toks (Builtin.Str.partsBetween x (Builtin.Str.occurrences x y 0 x.length (x.length + 1)) y.length)).toArray } }
      rw [strsFrom_eq]
      exact fin (numbered s.toks _) _ ((numbered_texts _ _).trans ((if_neg (ne_true_of_eq_false h1)).trans (if_neg (ne_true_of_eq_false hf'))).symm)
    · exact call_meets F.slot_str_split (typeIs_str _ _ _) F.entry_str_split (F.args_str_split_2 _ _) (meets_str_split_not_found x y t u h1 hy hf')
        (fin [(x, t)] _ ((if_neg (ne_true_of_eq_false h1)).trans (if_pos hf')).symm)
  · exact call_meets F.slot_str_split (typeIs_str _ _ _) F.entry_str_split (F.args_str_split_2 _ _) (meets_str_split_cannot_occur x y t u h1)
      (fin [(x, t)] _ (if_pos h1).symm)
theorem k_join {x : Str} {ys : List Str} (hok : JoinOk x ys = true) : BCALL c (.builtin "str.join") [.str x, .lst (ys.map .str)] (.str (Txt.join x ys)) := by
  intro mu s vs Q E _ _ r hQ
  simp only [RelL, Rel] at r
  obtain ⟨_, _, rfl, ⟨t, rfl⟩, _, _, rfl, ⟨a, ws, rfl, _, hL, hr⟩, rfl⟩ := r
  have hstrs : ∀ (ys : List Str) (ws : List Value), RelL mu s.heap (ys.map .str) ws → ∃ l : List (Str × Tok), ws = strValues l ∧ l.map (·.1) = ys := by
    intro ys
    induction ys with
    | nil => intro ws r; simp only [List.map_nil, RelL] at r; exact ⟨[], r, rfl⟩
    | cons y ys ih =>
      intro ws r
      simp only [List.map_cons, RelL, Rel] at r
      obtain ⟨_, ws', rfl, ⟨t', rfl⟩, r2⟩ := r
      obtain ⟨l, rfl, e⟩ := ih ws' r2
      exact ⟨(y, t') :: l, rfl, by simp [e]⟩
  obtain ⟨l, rfl, e⟩ := hstrs ys ws hr
  exact SC.join hL e hok fun t' k => hQ _ _ (kp_tok _) (by simp only [Rel]; exact ⟨_, rfl⟩)
theorem k_partition {x y : Str} (hy : (y.length == 0) = false) (hf : x.length ≤ sizeLine) : BCALL c (.builtin "str.partition") [.str x, .str y] (.tup [.str (Txt.partition x y).1, .str (Txt.partition x y).2.1, .str (Txt.partition x y).2.2]) := by
  intro mu s vs Q E hn hal r hQ
  simp only [RelL, Rel] at r
  obtain ⟨_, _, rfl, ⟨t, rfl⟩, _, _, rfl, ⟨u, rfl⟩, rfl⟩ := r
  refine call_meets F.slot_str_partition (typeIs_str _ _ _) F.entry_str_partition (F.args_str_partition_2 _ _) (meets_str_partition x y t u hy hf) ?_
  show Q _ _
  unfold Txt.partition at hQ
  revert hQ
  cases Builtin.Str.occurrences x y 0 x.length 1 with
  | nil =>
    intro hQ
    refine hQ _ _ ⟨_, _, rfl, fun _ _ e => Heap.get?_push_of_some _ e⟩ ?_
    simp only [Rel, RelL]
    exact ⟨_, _, rfl, hn, ⟨_, Heap.get?_push_size _ rfl, rfl, _, rfl⟩, _, _, rfl, ⟨_, rfl⟩, _, _, rfl, ⟨_, rfl⟩, _, _, rfl, ⟨_, rfl⟩, rfl⟩
  | cons i is =>
    intro hQ
    refine hQ _ _ ⟨_, _, rfl, fun _ _ e => Heap.get?_push_of_some _ e⟩ ?_
    simp only [Rel, RelL]
    exact ⟨_, _, rfl, hn, ⟨_, Heap.get?_push_size _ rfl, rfl, _, rfl⟩, _, _, rfl, ⟨_, rfl⟩, _, _, rfl, ⟨_, rfl⟩, _, _, rfl, ⟨_, rfl⟩, rfl⟩
theorem k_lenS {x : Str} (hf : x.length ≤ 2 ^ 60) : BCALL c (.builtin "len") [.str x] (.int x.length) := by
  intro mu s vs Q E _ _ r hQ
  simp only [RelL, Rel] at r
  obtain ⟨_, _, rfl, ⟨t, rfl⟩, rfl⟩ := r
  exact SBL.len (by omega) (hQ _ _ (kp_tok _) (by simp only [Rel]; exact ⟨_, rfl⟩))
theorem k_lenL {ds : List D} (hf : ds.length ≤ 2 ^ 60) : BCALL c (.builtin "len") [.lst ds] (.int ds.length) := by
  intro mu s vs Q E _ _ r hQ
  simp only [RelL, Rel] at r
  obtain ⟨_, _, rfl, ⟨a, ws, rfl, _, hL, hr⟩, rfl⟩ := r
  have e := hr.length
  refine PyProof.Rows.len_list hL (by simp only [List.size_toArray]; omega) (hQ _ _ (kp_tok _) ?_)
  simp only [Rel, List.size_toArray, e]; exact ⟨_, rfl⟩
theorem k_lenB {b : Array UInt8} (hf : b.size ≤ 2 ^ 30) : BCALL c (.builtin "len") [.bytes b] (.int b.size) := by
  intro mu s vs Q E _ _ r hQ
  simp only [RelL, Rel] at r
  obtain ⟨_, _, rfl, ⟨t, rfl⟩, rfl⟩ := r
  exact len_bytes (Nat.le_trans hf (by decide)) (hQ _ _ (kp_tok _) (by simp only [Rel]; exact ⟨_, rfl⟩))
theorem k_ord {n : Nat} : BCALL c (.builtin "ord") [.str ⟨#[n]⟩] (.int n) := by
  intro mu s vs Q E _ _ r hQ
  simp only [RelL, Rel] at r
  obtain ⟨_, _, rfl, ⟨t, rfl⟩, rfl⟩ := r
  exact P.ord_of_char (hQ _ _ (kp_tok _) (by simp only [Rel]; exact ⟨_, rfl⟩))
theorem k_chr {i : Int} (h0 : 0 ≤ i) (h1 : i ≤ 1114111) : BCALL c (.builtin "chr") [.int i] (.str ⟨#[i.toNat]⟩) := by
  intro mu s vs Q E _ _ r hQ
  simp only [RelL, Rel] at r
  obtain ⟨_, _, rfl, ⟨t, rfl⟩, rfl⟩ := r
  exact P.chr_of_int (by simp; omega) (hQ _ _ (kp_tok _) (by simp only [Rel]; exact ⟨_, rfl⟩))
end
end Mine
end
section
open PySem PySem.W PySem.Spec PySem.Calls PyProof.Rows
set_option Elab.async false
set_option linter.unusedVariables false
set_option maxRecDepth 100000
namespace Mine
section
variable {c : Cx} {l : Loc} {Q : Fl → Loc → Prop}
theorem Inv.setCell {av own : List Addr} {s : Shared} {x : Str} {d : D} {v : Value} {h' : Heap} {tk : Nat} {a : Addr} (i : Inv c av own l s) (hx : c.env.kindOf x = some .cell) (ha : c.env.cells.lookup x = some a)
    (r : Rel (own ++ av) s.heap d v) (f : Froz d) (hc : h'.IsCell a (some v)) (hs : Heap.SameBut a s.heap h') : Inv c av own (put l x d) { s with heap := h', toks := tk } := by
  obtain ⟨ho, v₀, hc₀⟩ := i.cell x a hx ha
  have alive : (h'.get? a).isSome = true := by obtain ⟨o, ho, _⟩ := hc; rw [ho]; rfl
  obtain ⟨hl1, m₀, hl2⟩ := i.loc
  have hla : c.env.locals ≠ a := fun e => ns_ne_cell hl2 hc₀ e.symm
  have nameOld : ∀ y w, y ≠ x → NameIs c.env s.heap y w → NameIs c.env h' y w := fun y w hy n => by
    rcases n with ⟨q, m₁, hn₁, e⟩ | ⟨q, b, hb, hcb⟩
    · exact .inl ⟨q, m₁, hn₁.sameBut hs hla, e⟩
    · exact .inr ⟨q, b, hb, hcb.sameBut hs fun e => hy (i.inj y x b hb (e ▸ ha))⟩
  have nameBack : ∀ y w, y ≠ x → NameIs c.env h' y w → NameIs c.env s.heap y w := fun y w hy n => by
    rcases n with ⟨q, m₁, hn₁, e⟩ | ⟨q, b, hb, hcb⟩
    · obtain ⟨o, es, ep, hob, rest⟩ := hn₁
      exact .inl ⟨q, m₁, ⟨o, es, ep, (hs.2 _ hla).symm.trans hob, rest⟩, e⟩
    · have hba : b ≠ a := fun e => hy (i.inj y x b hb (e ▸ ha))
      obtain ⟨o, hob, hd⟩ := hcb
      exact .inr ⟨q, b, hb, o, (hs.2 _ hba).symm.trans hob, hd⟩
  have nm : d ≠ .mls [] ∨ True := .inr trivial
  refine ⟨i.ok, fun b hb => ⟨sameBut_alive hs alive b (i.keep b hb).1, (i.keep b hb).2⟩, ?_, fun b hb => ⟨(i.mine b hb).1, sameBut_alive hs alive b (i.mine b hb).2⟩, ⟨hl1, _, hl2.sameBut hs hla⟩, fun y b h1 h2 => ?_, i.inj, fun y b h => ⟨sameBut_alive hs alive b (i.cel y b h).1, (i.cel y b h).2⟩, i.off, fun y e he => ?_, fun y z dy dz b h1 h2 n1 n2 => ?_⟩
  · obtain ⟨mF, F⟩ := i.fr
    have hLa : c.L ≠ a := fun e => ns_ne_cell F.ns hc₀ e.symm
    exact ⟨mF, F.ns.sameBut hs hLa, fun b o e => (hs.2 b fun q => by rw [q, (i.mine a ho).1] at e; cases e).trans (F.keep b o e), F.above⟩
  · obtain ⟨h3, w, h4⟩ := i.cell y b h1 h2
    by_cases e : b = a
    · exact ⟨h3, some v, e ▸ hc⟩
    · exact ⟨h3, w, h4.sameBut hs e⟩
  · rw [get_put] at he
    by_cases hy : y = x
    · subst hy
      rw [if_pos rfl] at he
      cases he
      refine ⟨v, .inr ⟨.inl hx, a, ha, hc⟩, Rel.but (sameBut_but hs (List.mem_append_left _ ho)) f r, ?_⟩
      cases d <;> first | exact f | (simp only [Froz] at f)
    · rw [if_neg hy] at he
      obtain ⟨w, n, rw', q⟩ := i.val y e he
      refine ⟨w, nameOld y w hy n, rel_same hs (List.mem_append_left _ ho) rw' ?_, q⟩
      cases e with
      | mls its =>
        refine ⟨q.1, fun e => ?_⟩
        simp only [Rel] at rw'
        obtain ⟨b, vs, e', hp, _⟩ := rw'
        rw [e] at e'; cases e'
        exact list_ne_cell hp hc₀ rfl
      | _ => exact q
  · rw [get_put] at h1 h2
    by_cases hy : y = x
    · rw [hy, if_pos rfl] at h1; cases h1; simp only [Froz] at f
    · by_cases hz : z = x
      · rw [hz, if_pos rfl] at h2; cases h2; simp only [Froz] at f
      · rw [if_neg hy] at h1
        rw [if_neg hz] at h2
        exact i.apart y z dy dz b h1 h2 (nameBack y _ hy n1) (nameBack z _ hz n2)
inductive Slot (c : Cx) (x : Str) : Prop
  | loc : c.env.locals = c.L → c.env.kindOf x = some .local → Slot c x
  | cell {a : Addr} : c.env.kindOf x = some .cell → c.env.cells.lookup x = some a → Slot c x
theorem storeN {av own : List Addr} {s : Shared} {x : Str} {d : D} {v : Value} {R : Unit → Shared → Prop} {E : Value → Shared → Prop} (i : Inv c av own l s) (hx : Slot c x)
    (r : Rel (own ++ av) s.heap d v) (f : Froz d) (h : ∀ s', Step own s own s' → Inv c av own (put l x d) s' → R () s') : wpAny c.M c.A (storeName c.env x v) R E s := by
  cases hx with
  | loc hL hk => exact storeL i hL hk r f h
  | cell hk ha =>
    obtain ⟨ho, v₀, hc₀⟩ := i.cell x _ hk ha
    exact wpAny_storeName_cell i.ok.kind hk ha hc₀ fun h' hc hs => h _ ⟨⟨h', s.toks, rfl⟩, sameBut_but hs ho, fun a q => .inl q⟩ (i.setCell hk ha r f hc hs)
theorem st_augS {x : Str} {px pos : Pos} {op : Operator} {e : Expr} {d₀ d₁ d : D} {l' : Loc} (hx : Slot c x) (h₀ : get l x = some d₀) (h₁ : EV c l e d₁) (h : IBIN c op d₀ d₁ d) (f : Froz d) (hl : put l x d = l') (q : Q .next l') :
    ST c l (exec (.AugAssign (.Name x px) op e pos) c.env) Q := by
  intro av own s i R E hR
  refine wpAny_AugAssign_Name (loadN i h₀ fun v₀ r₀ => h₁ av own s i _ _ fun v₁ s₁ k₁ r₁ => ?_)
  refine h _ s₁ v₀ v₁ _ _ (i.keeps k₁).notOwn (r₀.kept (kp_kept k₁)) r₁ fun v s₂ k₂ r => storeN ((i.keeps k₁).keeps k₂) hx r f fun s' k i' => ?_
  exact hR .next _ _ own s' (hl ▸ q) (by simp only [RelF]) ((Step.of (kp_trans k₁ k₂)).trans k) i'
noncomputable def ItemAt (mu : List Addr) (h₂ h : Heap) (d : D) (v : Value) : Prop := Rel mu h₂ d v ∨ ∃ T vs ds, v = .ref T ∧ d = .tup ds ∧ IsTup h T vs.toArray ∧ RelL mu h₂ ds vs
noncomputable def ASG (c : Cx) (target : Expr) (l : Loc) (d : D) (l' : Loc) : Prop :=
  ∀ av own s v (R : Unit → Shared → Prop) (E : Value → Shared → Prop), Inv c av own l s → ItemAt (own ++ av) s.heap s.heap d v → Froz d → (∀ s', Step own s own s' → Inv c av own l' s' → R () s') → wpAny c.M c.A (assign target c.env v) R E s
theorem asg_name {x : Str} {px : Pos} {d : D} {l' : Loc} (hx : Slot c x) (hd : ∀ ds, d ≠ .tup ds) (hl : put l x d = l') : ASG c (.Name x px) l d l' := by
  intro av own s v R E i r f h
  rcases r with r | ⟨_, _, ds, _, e, _⟩
  · exact wpAny_assign_Name (storeN i hx r f (hl ▸ h))
  · exact absurd e (hd ds)
noncomputable def putAll : Loc → List Str → List D → Loc
  | l, x :: xs, d :: ds => putAll (put l x d) xs ds
  | l, _, _ => l
theorem assignNames {elts : List Expr} : ∀ {xs : List (Str × Pos)} {ds : List D} {vs : List Value} {l : Loc} {av own : List Addr} {s : Shared} {R : Unit → Shared → Prop} {E : Value → Shared → Prop}, Inv c av own l s → (∀ x ∈ xs, Slot c x.1) → xs.length = ds.length → RelL (own ++ av) s.heap ds vs → FrozL ds →
    (∀ s', Step own s own s' → Inv c av own (putAll l (xs.map (·.1)) ds) s' → R () s') → wpAny c.M c.A (assignInOrder ((assignEach (xs.map fun x => .Name x.1 x.2) c.env).map (·.2)) vs) R E s
  | [], ds, vs, l, av, own, s, R, E, i, _, hl, r, _, h => by
    cases ds with
    | cons d ds => simp at hl
    | nil => exact assignInOrder_nil (h s (Step.of kp_rfl) i)
  | x :: xs, ds, vs, l, av, own, s, R, E, i, hx, hl, r, f, h => by
    cases ds with
    | nil => simp at hl
    | cons d ds =>
      simp only [RelL] at r
      obtain ⟨v, vs', rfl, r1, r2⟩ := r
      simp only [FrozL] at f
      refine assignInOrder_cons (t := assign (.Name x.1 x.2) c.env) (ts := (assignEach (xs.map fun x => .Name x.1 x.2) c.env).map (·.2)) ?_
      refine wpAny_assign_Name (storeN i (hx x (.head _)) r1 f.1 fun s' k i' => ?_)
      exact assignNames (elts := elts) i' (fun y hy => hx y (.tail _ hy)) (by simpa using hl) (RelL.step k.kept (fun a q => .inl (List.mem_append_left _ q)) (fun a q => .inl q) f.2 r2) f.2 fun s'' k' i'' => h s'' (k.trans k') i''
theorem asg_tup {elts : List Expr} {xs : List (Str × Pos)} {k : Nat} {pos : Pos} {ds : List D} {l' : Loc} (he : elts = xs.map fun x => .Name x.1 x.2) (hx : ∀ x ∈ xs, Slot c x.1) (hn : xs.length = ds.length) (hl : putAll l (xs.map (·.1)) ds = l') : ASG c (.Tuple elts k pos) l (.tup ds) l' := by
  intro av own s v R E i r f h
  subst he
  have : ∃ T vs, v = .ref T ∧ IsTup s.heap T vs.toArray ∧ RelL (own ++ av) s.heap ds vs := by
    rcases r with r | ⟨T, vs, _, e1, e2, h1, h2⟩
    · simp only [Rel] at r
      obtain ⟨a, vs, e, _, h1, h2⟩ := r
      exact ⟨a, vs, e, h1, h2⟩
    · cases e2; exact ⟨T, vs, e1, h1, h2⟩
  obtain ⟨T, vs, rfl, hT, hr⟩ := this
  have hlen : ∀ ys : List (Str × Pos), (assignEach (ys.map fun x => .Name x.1 x.2) c.env).length = ys.length := fun ys => by
    induction ys with
    | nil => rfl
    | cons y ys ih => exact congrArg (· + 1) ih
  have hst : ∀ ys : List (Str × Pos), (assignEach (ys.map fun x => .Name x.1 x.2) c.env).findIdx? (·.1) = none := fun ys => by
    induction ys with
    | nil => rfl
    | cons y ys ih =>
      show List.findIdx? _ ((false, _) :: _) = none
      rw [List.findIdx?_cons, ih]; rfl
  refine assign_Tuple_tuple rfl hT (by rw [hlen, List.size_toArray, hr.length, hn]) (hst _) fun h' he => ?_
  have kp : Keeps s { s with heap := h' } := ⟨h', s.toks, rfl, fun b o e => he b o (Nat.ne_of_lt (Heap.lt_size e)) e⟩
  refine assignNames (elts := []) (i.keeps kp) hx hn (hr.kept (kp_kept kp)) (by simpa only [Froz] using f) fun s' k i' => h s' ((Step.of kp).trans k) (hl ▸ i')
noncomputable def SRC (c : Cx) (target : Expr) (d : D) (items : List D) : Prop :=
  ∀ mu s v (Q E : Value → Shared → Prop), s.heap.objs.size ∉ mu → (∀ a, a ∈ mu → (s.heap.get? a).isSome = true) → Rel mu s.heap d v →
    (∀ I fp wr P Md St s₂, Keeps s s₂ → KTurns c.prog c.w c.A target I fp wr items.length P Md St → St 0 s₂.heap → (∀ b ∈ fp, b ∉ mu ∧ (s₂.heap.get? b).isSome = true) → (∀ b ∈ wr, s.heap.get? b = none) → (∀ j h, St j h → ∀ b ∈ fp, (h.get? b).isSome = true) →
      (∀ i v h d, P i v h → items[i]? = some d → ItemAt mu s.heap h d v) → Q (.ref I) s₂) → wpAny c.M c.A (pyIter v) Q E s
noncomputable def ITER (c : Cx) (l : Loc) (target iter : Expr) (items : List D) : Prop :=
  ∀ av own s, Inv c av own l s → ∀ (Q E : Value → Shared → Prop),
    (∀ s₁ I fp wr P Md St s₂, Keeps s s₁ → Keeps s₁ s₂ → KTurns c.prog c.w c.A target I fp wr items.length P Md St → St 0 s₂.heap → (∀ b ∈ fp, b ∉ own ++ av ∧ (s₂.heap.get? b).isSome = true) → (∀ b ∈ wr, s₁.heap.get? b = none) → (∀ j h, St j h → ∀ b ∈ fp, (h.get? b).isSome = true) →
      (∀ i v h d, P i v h → items[i]? = some d → ItemAt (own ++ av) s₁.heap h d v) → Q (.ref I) s₂) → wpAny c.M c.A (eval iter c.env) (fun v s₁ => wpAny c.M c.A (pyIter v) Q E s₁) E s
theorem it_ev {target iter : Expr} {d : D} {items : List D} (h : EV c l iter d) (hsrc : SRC c target d items) : ITER c l target iter items := by
  intro av own s i Q E hQ
  refine h av own s i _ _ fun v s₁ k₁ r₁ => ?_
  have i₁ := i.keeps k₁
  exact hsrc (own ++ av) s₁ v _ _ i₁.notOwn i₁.alive r₁ fun I fp wr P Md St s₂ k₂ W hst hfp hwr hlive hP => hQ s₁ I fp wr P Md St s₂ k₁ k₂ W hst hfp hwr hlive hP
noncomputable def LOOP (c : Cx) (target : Expr) (body orelse : List Stmt) (Q : Fl → Loc → Prop) : List D → Loc → Prop
  | [], l => ST c l (execs orelse c.env) Q
  | d :: ds, l => ∃ l', ASG c target l d l' ∧ ST c l' (execs body c.env) (fun fl l'' => match fl with | .next => LOOP c target body orelse Q ds l'' | .cont => LOOP c target body orelse Q ds l'' | .brk => Q .next l'' | .ret v => Q (.ret v) l'')
theorem Inv.av {av av' own : List Addr} {s : Shared} (i : Inv c av own l s) (h : ∀ a ∈ av', a ∈ av) : Inv c av' own l s :=
  { i with
    keep := fun a ha => i.keep a (h a ha)
    cel := fun x a q => ⟨(i.cel x a q).1, fun z => (i.cel x a q).2 (h a z)⟩
    off := fun z => i.off (h _ z)
    val := fun x d e => by
      obtain ⟨v, n, r, q⟩ := i.val x d e
      refine ⟨v, n, Rel.sub (fun a ha => .inl ?_) r, q⟩
      rcases List.mem_append.mp ha with z | z
      · exact List.mem_append_left _ z
      · exact List.mem_append_right _ (h a z) }
theorem Inv.more {av wr own : List Addr} {s s₂ : Shared} (i : Inv c av own l s) (k : Kept s.heap s₂.heap) (h : ∀ b ∈ wr, s.heap.get? b = none ∧ (s₂.heap.get? b).isSome = true) : Inv c (wr ++ av) own l s₂ := by
  have i₂ := i.kept k
  have hK : ∀ b ∈ wr, c.K.lookup b = none := fun b hb => by
    cases e : c.K.lookup b with
    | none => rfl
    | some o => have := i.keepK b o e; rw [(h b hb).1] at this; cases this
  refine { i₂ with keep := fun a ha => ?_, cel := fun x a q => ⟨(i₂.cel x a q).1, fun z => ?_⟩, off := fun z => ?_, val := fun x d e => ?_ }
  · rcases List.mem_append.mp ha with q | q
    · refine ⟨(h a q).2, hK a q, fun z => ?_⟩
      have := (i.mine a z).2
      rw [(h a q).1] at this; cases this
    · exact i₂.keep a q
  · rcases List.mem_append.mp z with z | z
    · have := (i.cel x a q).1
      rw [(h a z).1] at this; cases this
    · exact (i.cel x a q).2 z
  · rcases List.mem_append.mp z with z | z
    · obtain ⟨m, F⟩ := i.fr
      obtain ⟨o, _, _, ho, _⟩ := F.ns
      rw [(h _ z).1] at ho; cases ho
    · exact i.off z
  · obtain ⟨v, n, r, q⟩ := i.val x d e
    refine ⟨v, n.kept k, Rel.kept k (Rel.sub (fun a ha => ?_) r), q⟩
    rcases List.mem_append.mp ha with z | z
    · exact .inl (List.mem_append_left _ z)
    · rcases List.mem_append.mp z with z | z
      · exact .inr (h a z).1
      · exact .inl (List.mem_append_right _ z)
theorem Inv.butAv {av av' wr own : List Addr} {s : Shared} {h' : Heap} {tk : Nat} (i : Inv c av own l s) (hw : ∀ b ∈ wr, b ∈ av) (hn : ∀ b ∈ wr, c.h₀.get? b = none) (k : KeptBut wr s.heap h') (ha : ∀ b ∈ av', b ∈ av ∧ (h'.get? b).isSome = true) : Inv c av' own l { s with heap := h', toks := tk } := by
  have alive : ∀ a, a ∉ wr → (s.heap.get? a).isSome = true → (h'.get? a).isSome = true := fun a q h => by
    obtain ⟨o, ho⟩ := Option.isSome_iff_exists.mp h
    rw [k a o q ho]; rfl
  have nw : ∀ a ∈ own, a ∉ wr := fun a h q => (i.keep a (hw a q)).2.2 h
  have nC : ∀ x a, c.env.cells.lookup x = some a → a ∉ wr := fun x a e q => (i.cel x a e).2 (hw a q)
  have nL : c.L ∉ wr := fun q => i.off (hw _ q)
  obtain ⟨hl1, m₀, hl2⟩ := i.loc
  have cellAt : ∀ x a v, c.env.cells.lookup x = some a → s.heap.IsCell a v → h'.IsCell a v := fun x a v e hc => let ⟨o, ho, hd⟩ := hc; ⟨o, k a o (nC x a e) ho, hd⟩
  have ns : h'.Ns c.env.locals m₀ := hl2.at' fun o e => k _ o (nw _ hl1) e
  have name : ∀ x v, NameIs c.env s.heap x v → NameIs c.env h' x v := fun x v n => by
    rcases n with ⟨q, m₁, hn₁, e⟩ | ⟨q, a, hb, hc⟩
    · exact .inl ⟨q, m₁, hn₁.at' fun o e => k _ o (nw _ hl1) e, e⟩
    · exact .inr ⟨q, a, hb, cellAt x a _ hb hc⟩
  have back : ∀ x v, NameIs c.env h' x v → ∀ d, get l x = some d → NameIs c.env s.heap x v := fun x v n d e => by
    obtain ⟨w, n', _, _⟩ := i.val x d e
    have := (name x w n').agree n
    exact this ▸ n'
  refine ⟨i.ok, fun a q => ⟨(ha a q).2, (i.keep a (ha a q).1).2⟩, ?_, fun a q => ⟨(i.mine a q).1, alive a (nw a q) (i.mine a q).2⟩, ⟨hl1, m₀, ns⟩, fun x a h1 h2 => ?_, i.inj, fun x a q => ⟨alive a (nC x a q) (i.cel x a q).1, fun z => (i.cel x a q).2 (ha a z).1⟩, fun z => i.off (ha _ z).1, fun x d e => ?_, fun x y dx dy a h1 h2 n1 n2 => i.apart x y dx dy a h1 h2 (back x _ n1 _ h1) (back y _ n2 _ h2)⟩
  · obtain ⟨m, F⟩ := i.fr
    exact ⟨m, F.ns.at' fun o e => k _ o nL e, fun b o e => k b o (fun q => by rw [hn b q] at e; cases e) (F.keep b o e), F.above⟩
  · obtain ⟨h3, v, h4⟩ := i.cell x a h1 h2
    exact ⟨h3, v, cellAt x a v h2 h4⟩
  · obtain ⟨v, n, r, q⟩ := i.val x d e
    refine ⟨v, name x v n, ?_, q⟩
    refine Rel.sub (mu := own ++ av) (fun a z => .inl ?_) ?_
    · rcases List.mem_append.mp z with z | z
      · exact List.mem_append_left _ z
      · exact List.mem_append_right _ (ha a z).1
    have kb : KeptBut (own ++ av) s.heap h' := fun b o hb z => k b o (fun y => hb (List.mem_append_right _ (hw b y))) z
    cases d with
    | mls its =>
      obtain ⟨f, a, rfl, ha'⟩ := q
      simp only [Rel] at r ⊢
      obtain ⟨a', vs, e', hp, hr⟩ := r
      cases e'
      exact ⟨a, vs, rfl, hp.at fun o z => k a o (nw a ha') z, RelL.but kb f hr⟩
    | _ => exact Rel.but kb q r
theorem ItemAt.step {mu mu' own : List Addr} {h₂ h' : Heap} {d : D} {v : Value} (f : Froz d) (k : KeptBut own h₂ h') (ho : ∀ a ∈ own, a ∈ mu ∨ h₂.get? a = none) (hm : ∀ a ∈ mu', a ∈ mu ∨ h₂.get? a = none) (r : ItemAt mu h₂ h' d v) : ItemAt mu' h' h' d v := by
  rcases r with r | ⟨T, vs, ds, e1, e2, h1, h2⟩
  · exact .inl (Rel.step k ho hm f r)
  · subst e2
    exact .inr ⟨T, vs, ds, e1, rfl, h1, RelL.step k ho hm (by simpa only [Froz] using f) h2⟩
theorem st_for {target iter : Expr} {body orelse : List Stmt} {pos : Pos} {items : List D} (h : ITER c l target iter items) (fz : FrozL items) (hL : LOOP c target body orelse Q items l)
    (hs : ∀ env x, foldedSetIterable iter env x = pure x := by intro _ _; rfl) : ST c l (exec (.For target iter body orelse pos) c.env) Q := by
  intro av own s i R E hR
  refine wpAny_For (h av own s i _ _ fun s₁ I fp wr P Md St s₂ k₁ k₂ W hst hfp hwr hlive hP => ?_) (hs _)
  have i₁ := i.keeps k₁
  have wrLive : ∀ b ∈ wr, (s₂.heap.get? b).isSome = true := fun b hb => (hfp b (W.sub b hb)).2
  have i₂ : Inv c (wr ++ av) own l s₂ := i₁.more (kp_kept k₂) fun b hb => ⟨hwr b hb, wrLive b hb⟩
  have wr₀ : ∀ b ∈ wr, c.h₀.get? b = none := fun b hb => by
    obtain ⟨m, F⟩ := i₁.fr
    cases e : c.h₀.get? b with
    | none => rfl
    | some o => have := F.keep b o e; rw [hwr b hb] at this; cases this
  refine codeAny_forLoop_any
    (fun k s' => ∃ j own' l' tk h', j ≤ items.length ∧ k = items.length + 1 - j ∧ s' = { s₂ with heap := h', toks := tk } ∧ St j h' ∧ KeptBut (wr ++ own) s₂.heap h' ∧ (∀ b ∈ wr, (h'.get? b).isSome = true) ∧ (∀ a ∈ own', a ∈ own ∨ s₂.heap.get? a = none) ∧ Inv c (wr ++ av) own' l' s' ∧ LOOP c target body orelse Q (items.drop j) l') ?_ (items.length + 1)
    ⟨0, own, l, s₂.toks, s₂.heap, Nat.zero_le _, rfl, rfl, hst, fun _ _ _ e => e, wrLive, fun a q => .inl q, i₂, by simpa using hL⟩
  rintro k s' ⟨j, own', l', tk, h', hj, rfl, rfl, hst', hk', hwl', hnew, i', hL'⟩
  have finish : ∀ fl f l'' own'' (s₃ : Shared), Q fl l'' → RelF (own'' ++ (wr ++ av)) s₃.heap fl f → (∃ h₃ tk₃, s₃ = { s₂ with heap := h₃, toks := tk₃ }) → KeptBut (wr ++ own) s₂.heap s₃.heap → (∀ a ∈ own'', a ∈ own ∨ s₂.heap.get? a = none) → Inv c (wr ++ av) own'' l'' s₃ → R f s₃ := by
    rintro fl f l'' own'' s₃ q rf ⟨h₃, tk₃, rfl⟩ hk hn i₃
    have st : Step own s₁ own'' { s₂ with heap := h₃, toks := tk₃ } := by
      obtain ⟨hh, tt, rfl, kk⟩ := k₂
      refine ⟨⟨h₃, tk₃, rfl⟩, fun b o hb e => hk b o (fun z => ?_) (kk b o e), fun a ha => ?_⟩
      · rcases List.mem_append.mp z with z | z
        · rw [hwr b z] at e; cases e
        · exact hb z
      · rcases hn a ha with z | z
        · exact .inl z
        · refine .inr ?_
          cases e : s₁.heap.get? a with
          | none => rfl
          | some o => have := kk a o e; rw [z] at this; cases this
    refine hR fl f l'' own'' _ q ?_ ((Step.of k₁).trans st) (i₃.av fun a z => List.mem_append_right _ z)
    cases fl with
    | ret d' =>
      simp only [RelF] at rf ⊢
      obtain ⟨v', e, r', f'⟩ := rf
      refine ⟨v', e, Rel.sub (fun a ha => .inl ?_) r', f'⟩
      rcases List.mem_append.mp ha with z | z
      · exact List.mem_append_left _ z
      · exact List.mem_append_right _ (List.mem_append_right _ z)
    | _ => exact rf
  by_cases hlt : j < items.length
  · refine W.item j _ _ _ hlt hst' fun v' h₁ tk₁ hMd hk₁ => ?_
    refine W.go j v' _ _ _ hMd fun h₂ hPv hst₂ hk₂ => ?_
    have hd : items[j]? = some items[j] := List.getElem?_eq_getElem hlt
    have hdrop : items.drop j = items[j] :: items.drop (j + 1) := List.drop_eq_getElem_cons hlt
    rw [hdrop] at hL'
    obtain ⟨l₁, hasg, hbody⟩ := hL'
    have kb : KeptBut wr h' h₂ := fun b o hb e => hk₂ b o hb (hk₁ b o hb e)
    have wl₂ : ∀ b ∈ wr, (h₂.get? b).isSome = true := fun b hb => hlive (j + 1) h₂ hst₂ b (W.sub b hb)
    have dead₁ : ∀ a, s₂.heap.get? a = none → s₁.heap.get? a = none := fun a z => by
      cases e : s₁.heap.get? a with
      | none => rfl
      | some o => have := kp_kept k₂ a o e; rw [z] at this; cases this
    have avLive : ∀ b ∈ av, (h₂.get? b).isSome = true := fun b hb => by
      obtain ⟨o, ho⟩ := Option.isSome_iff_exists.mp (i'.keep b (List.mem_append_right _ hb)).1
      have nb : b ∉ wr := fun z => by
        have := (i₁.keep b hb).1
        rw [hwr b z] at this; cases this
      rw [kb b o nb ho]; rfl
    have i₃ : Inv c (wr ++ av) own' l' { s₂ with heap := h₂, toks := tk₁ } := Inv.butAv (wr := wr) (s := { s₂ with heap := h', toks := tk }) i' (fun b hb => List.mem_append_left _ hb) wr₀ kb (fun b hb => ⟨hb, by
      rcases List.mem_append.mp hb with z | z
      · exact wl₂ b z
      · exact avLive b z⟩)
    have fd : Froz items[j] := fz.get hd
    have hk₂' : KeptBut (wr ++ own) s₂.heap h₂ := fun b o hb e => kb b o (fun z => hb (List.mem_append_left _ z)) (hk' b o hb e)
    have it : ItemAt (own' ++ (wr ++ av)) h₂ h₂ items[j] v' := by
      refine ItemAt.step (mu := own ++ av) (own := wr ++ own) (h₂ := s₁.heap) fd (fun b o hb e => hk₂' b o hb (kp_kept k₂ b o e)) (fun a z => ?_) (fun a z => ?_) (hP j v' h₂ _ hPv hd)
      · rcases List.mem_append.mp z with z | z
        · exact .inr (hwr a z)
        · exact .inl (List.mem_append_left _ z)
      · rcases List.mem_append.mp z with z | z
        · rcases hnew a z with z | z
          · exact .inl (List.mem_append_left _ z)
          · exact .inr (dead₁ a z)
        · rcases List.mem_append.mp z with z | z
          · exact .inr (hwr a z)
          · exact .inl (List.mem_append_right _ z)
    refine hasg (wr ++ av) own' _ v' _ _ i₃ it fd fun s₄ st₄ i₄ => ?_
    refine hbody (wr ++ av) own' s₄ i₄ _ _ fun fl f l₅ own₅ s₅ q rf st₅ i₅ => ?_
    have st := st₄.trans st₅
    obtain ⟨h₅, tk₅, e₅⟩ := st.same
    have hk₅ : KeptBut (wr ++ own) s₂.heap s₅.heap := fun b o hb e => st.kept b o (fun z => by
      rcases hnew b z with z | z
      · exact hb (List.mem_append_right _ z)
      · rw [z] at e; cases e) (hk₂' b o hb e)
    have hn₅ : ∀ a ∈ own₅, a ∈ own ∨ s₂.heap.get? a = none := fun a ha => by
      rcases st.new a ha with z | z
      · exact hnew a z
      · by_cases ho : a ∈ own
        · exact .inl ho
        · refine .inr ?_
          cases e : s₂.heap.get? a with
          | none => rfl
          | some o =>
            by_cases hw' : a ∈ wr
            · have := wl₂ a hw'
              rw [z] at this; cases this
            · have := hk₂' a o (fun y => (List.mem_append.mp y).elim hw' ho) e
              rw [z] at this; cases this
    have again : LOOP c target body orelse Q (items.drop (j + 1)) l₅ → ∃ m, m < items.length + 1 - j ∧ ∃ j own' l' tk h', j ≤ items.length ∧ m = items.length + 1 - j ∧ s₅ = { s₂ with heap := h', toks := tk } ∧ St j h' ∧ KeptBut (wr ++ own) s₂.heap h' ∧ (∀ b ∈ wr, (h'.get? b).isSome = true) ∧ (∀ a ∈ own', a ∈ own ∨ s₂.heap.get? a = none) ∧ Inv c (wr ++ av) own' l' s₅ ∧ LOOP c target body orelse Q (items.drop j) l' := fun hl => by
      refine ⟨items.length + 1 - (j + 1), by omega, j + 1, own₅, l₅, tk₅, h₅, hlt, rfl, e₅, ?_, by rw [e₅] at hk₅; exact hk₅, fun b hb => ?_, hn₅, i₅, hl⟩
      · refine W.frame (j + 1) h₂ h₅ hst₂ fun b hb o e => ?_
        have nb : b ∉ own' := fun z => by
          rcases hnew b z with z | z
          · exact (hfp b hb).1 (List.mem_append_left _ z)
          · have := (hfp b hb).2
            rw [z] at this; cases this
        have := st.kept b o nb e
        rw [e₅] at this; exact this
      · have := (i₅.keep b (List.mem_append_left _ hb)).1
        rw [e₅] at this; exact this
    cases fl with
    | next => simp only [RelF] at rf; subst rf; exact again q
    | cont => simp only [RelF] at rf; subst rf; exact again q
    | brk => simp only [RelF] at rf; subst rf; exact finish .next _ l₅ own₅ s₅ q (by simp only [RelF]) ⟨h₅, tk₅, e₅⟩ hk₅ hn₅ i₅
    | ret dd =>
      have rf' := rf
      simp only [RelF] at rf
      obtain ⟨vv, rfl, _, _⟩ := rf
      exact finish (.ret dd) _ l₅ own₅ s₅ q rf' ⟨h₅, tk₅, e₅⟩ hk₅ hn₅ i₅
  · have hje : j = items.length := by omega
    subst hje
    refine W.done _ _ _ hst' fun h₁ tk₁ hk₁ => ?_
    have i₃ : Inv c av own' l' { s₂ with heap := h₁, toks := tk₁ } := Inv.butAv (wr := wr) (s := { s₂ with heap := h', toks := tk }) i' (fun b hb => List.mem_append_left _ hb) wr₀ hk₁ (fun b hb => ⟨List.mem_append_right _ hb, by
      obtain ⟨o, ho⟩ := Option.isSome_iff_exists.mp (i'.keep b (List.mem_append_right _ hb)).1
      have nb : b ∉ wr := fun z => by
        have := (i₁.keep b hb).1
        rw [hwr b z] at this; cases this
      rw [hk₁ b o nb ho]; rfl⟩)
    rw [List.drop_length] at hL'
    refine hL' av own' _ i₃ _ _ fun fl f l₅ own₅ s₅ q rf st₅ i₅ => ?_
    have st : Step own s₁ own' { s₂ with heap := h₁, toks := tk₁ } := by
      obtain ⟨hh, tt, rfl, kk⟩ := k₂
      refine ⟨⟨h₁, tk₁, rfl⟩, fun b o hb e => ?_, fun a ha => ?_⟩
      · have nb : b ∉ wr := fun z => by rw [hwr b z] at e; cases e
        exact hk₁ b o nb (hk' b o (fun z => (List.mem_append.mp z).elim nb hb) (kk b o e))
      · rcases hnew a ha with z | z
        · exact .inl z
        · refine .inr ?_
          cases e : s₁.heap.get? a with
          | none => rfl
          | some o => have := kk a o e; rw [z] at this; cases this
    exact hR fl f l₅ own₅ s₅ q rf ((Step.of k₁).trans (st.trans st₅)) i₅
end
end Mine
end
section
open PySem PySem.W PySem.Spec PySem.Calls PyProof.Rows
set_option Elab.async false
set_option linter.unusedVariables false
set_option maxRecDepth 100000
namespace Mine
section
variable {c : Cx} {l : Loc} {Q : Fl → Loc → Prop}
theorem letGo_other {prog : Program} {w : World} {A : Around} {E : Value → Shared → Prop} {s : Shared} {target : Expr} {I : Addr} {v : Value} {o : Obj} {n : String} {Q : Unit → Shared → Prop} (ho : s.heap.get? I = some o) (hc : o.cls = .type n)
    (hn : ["enumerate", "zip", "dict_itemiterator", "dict_reverseitemiterator", "odict_iterator", "itertools.zip_longest", "itertools.pairwise"].contains n = false) (h : Q () s) : wpAny (model prog w) A (letOwnedTupleGo target (.ref I) v) Q E s := by
  have main : wpAny (model prog w) A (do
    let (.ref r, .ref a) := (Value.ref I, v) | return
    let o ← load r
    match o.cls, o.data with
    | .type n, .fields vs =>
      if ["enumerate", "zip", "dict_itemiterator", "dict_reverseitemiterator", "odict_iterator", "itertools.zip_longest", "itertools.pairwise"].contains n && vs[0]? == some (rawInt a) then
        rule "for.unpacks-the-owned-tuple"
        updateField r 0 .none
    | _, _ => pure ()) Q E s := by
    cases v with
    | ref a =>
      refine wpAny_bind (wpAny_load ho ?_)
      rw [hc]
      cases hd : o.data with
      | fields vs =>
        show wpAny _ A (if (_ && _) = true then _ else _) Q E s
        rw [if_neg (by rw [hn, Bool.false_and]; exact Bool.false_ne_true)]
        exact wpAny_pure h
      | _ => exact wpAny_pure h
    | _ => exact wpAny_pure h
  cases target <;> first | exact main | exact wpAny_pure h
noncomputable def SRCW (c : Cx) (d : D) (items : List D) : Prop :=
  ∀ mu s v (Q E : Value → Shared → Prop), s.heap.objs.size ∉ mu → (∀ a, a ∈ mu → (s.heap.get? a).isSome = true) → Rel mu s.heap d v →
    (∀ I fp wr P St s₂, Keeps s s₂ → Walks c.prog c.w c.A I fp wr items.length P St → St 0 s₂.heap → (∀ b ∈ fp, b ∉ mu ∧ (s₂.heap.get? b).isSome = true) → (∀ b ∈ wr, s.heap.get? b = none) → (∀ j h, St j h → ∀ b ∈ fp, (h.get? b).isSome = true) →
      (∀ i v d, P i v → items[i]? = some d → Rel mu s.heap d v) → (∀ j h, St j h → ∃ o n, h.get? I = some o ∧ o.cls = .type n ∧ ["enumerate", "zip", "dict_itemiterator", "dict_reverseitemiterator", "odict_iterator", "itertools.zip_longest", "itertools.pairwise"].contains n = false) → Q (.ref I) s₂) →
    wpAny c.M c.A (pyIter v) Q E s
theorem src_w {target : Expr} {d : D} {items : List D} (h : SRCW c d items) : SRC c target d items := by
  intro mu s v Q E hn ha r hQ
  refine h mu s v Q E hn ha r fun I fp wr P St s₂ k W hst hfp hwr hlive hP hgo => ?_
  refine hQ I fp wr _ _ St s₂ k (KTurns.ofWalks (target := target) W fun j v s Q E st q => ?_) hst hfp hwr hlive fun i v h d p e => .inl (hP i v d p e)
  obtain ⟨o, n, ho, hc, hn⟩ := hgo j s.heap st
  exact letGo_other ho hc hn q
theorem dead_size (h : Heap) : h.get? h.objs.size = none := by
  cases e : h.get? h.objs.size with
  | none => rfl
  | some o => exact absurd (Heap.lt_size e) (Nat.lt_irrefl _)
theorem sw_lst {ds : List D} : SRCW c (.lst ds) ds := by
  intro mu s v Q E hn ha r hQ
  simp only [Rel] at r
  obtain ⟨a, vs, rfl, hm, hl, hr⟩ := r
  have hlt : a < s.heap.objs.size := by obtain ⟨o, ho, _⟩ := hl; exact Heap.lt_size ho
  refine wpAny_pyIter_list hl ?_
  have W := Walks.list (prog := c.prog) (w := c.w) (A := c.A) rfl s.heap.objs.size a (Nat.ne_of_lt hlt) vs.toArray
  rw [show vs.toArray.size = ds.length from (List.size_toArray ..).trans hr.length] at W
  refine hQ _ _ _ _ _ _ (kp_push _) W ⟨⟨_, Heap.get?_push_size _ rfl, rfl, rfl⟩, hl.push _⟩ (fun b hb => ?_) (fun b hb => ?_) (fun j h st b hb => ?_) (fun i v d p e => ?_) (fun j h st => ?_)
  · rcases List.mem_cons.mp hb with rfl | hb
    · exact ⟨hn, by rw [Heap.get?_push_size _ rfl]; rfl⟩
    · rw [List.mem_singleton.mp hb]
      obtain ⟨o, ho, _⟩ := hl
      exact ⟨hm, by rw [Heap.get?_push_of_some _ ho]; rfl⟩
  · rw [List.mem_singleton.mp hb]; exact dead_size _
  · obtain ⟨⟨o, ho, _⟩, ⟨o', ho', _⟩⟩ := st
    rcases List.mem_cons.mp hb with rfl | hb
    · rw [ho]; rfl
    · rw [List.mem_singleton.mp hb, ho']; rfl
  · obtain ⟨w, hw, r⟩ := hr.get e
    have : some w = some v := by rw [← hw]; simpa using p
    cases this; exact r
  · obtain ⟨⟨o, ho, hc, _⟩, _⟩ := st
    exact ⟨o, _, ho, hc, by decide⟩
theorem sw_tup {ds : List D} : SRCW c (.tup ds) ds := by
  intro mu s v Q E hn ha r hQ
  simp only [Rel] at r
  obtain ⟨a, vs, rfl, hm, hl, hr⟩ := r
  have hlt : a < s.heap.objs.size := by obtain ⟨o, ho, _⟩ := hl; exact Heap.lt_size ho
  have hl' : s.heap.IsTuple a vs.toArray := hl
  refine wpAny_pyIter_tuple hl' ?_
  have W := Walks.tuple (prog := c.prog) (w := c.w) (A := c.A) rfl s.heap.objs.size a (Nat.ne_of_lt hlt) vs.toArray
  rw [show vs.toArray.size = ds.length from (List.size_toArray ..).trans hr.length] at W
  refine hQ _ _ _ _ _ _ (kp_push _) W ⟨⟨_, Heap.get?_push_size _ rfl, rfl, rfl⟩, hl'.push _⟩ (fun b hb => ?_) (fun b hb => ?_) (fun j h st b hb => ?_) (fun i v d p e => ?_) (fun j h st => ?_)
  · rcases List.mem_cons.mp hb with rfl | hb
    · exact ⟨hn, by rw [Heap.get?_push_size _ rfl]; rfl⟩
    · rw [List.mem_singleton.mp hb]
      obtain ⟨o, ho, _⟩ := hl
      exact ⟨hm, by rw [Heap.get?_push_of_some _ ho]; rfl⟩
  · rw [List.mem_singleton.mp hb]; exact dead_size _
  · obtain ⟨⟨o, ho, _⟩, ⟨o', ho', _⟩⟩ := st
    rcases List.mem_cons.mp hb with rfl | hb
    · rw [ho]; rfl
    · rw [List.mem_singleton.mp hb, ho']; rfl
  · obtain ⟨w, hw, r⟩ := hr.get e
    have : some w = some v := by rw [← hw]; simpa using p
    cases this; exact r
  · obtain ⟨⟨o, ho, hc, _⟩, _⟩ := st
    exact ⟨o, _, ho, hc, by decide⟩
noncomputable def signsOf (x : Str) : List D := x.cps.toList.map fun n => D.str ⟨#[n]⟩
theorem sw_str {x : Str} : SRCW c (.str x) (signsOf x) := by
  intro mu s v Q E hn ha r hQ
  simp only [Rel] at r
  obtain ⟨t, rfl⟩ := r
  have hlen : x.cps.size = (signsOf x).length := by simp [signsOf]
  have items : ∀ i v d, SignAt x i v → (signsOf x)[i]? = some d → Rel mu s.heap d v := fun i v d p e => by
    obtain ⟨n, u, h1, rfl⟩ := p
    have e' : (signsOf x)[i]? = some (.str ⟨#[n]⟩) := by
      unfold signsOf
      rw [List.getElem?_map, Array.getElem?_toList, h1]; rfl
    rw [e'] at e; cases e
    simp only [Rel]; exact ⟨_, rfl⟩
  have fin : ∀ (T : String), ["enumerate", "zip", "dict_itemiterator", "dict_reverseitemiterator", "odict_iterator", "itertools.zip_longest", "itertools.pairwise"].contains T = false →
      Walks c.prog c.w c.A s.heap.objs.size [s.heap.objs.size] [s.heap.objs.size] x.cps.size (SignAt x) (fun i h => h.IsStrIter s.heap.objs.size T x t i) →
      Q (.ref s.heap.objs.size) { s with heap := s.heap.push { cls := .type T, data := .fields #[.str x t, .int 0 0] } } := fun T hT W => by
    rw [hlen] at W
    refine hQ _ _ _ _ _ _ (kp_push _) W ⟨_, Heap.get?_push_size _ rfl, rfl, rfl⟩ (fun b hb => ?_) (fun b hb => ?_) (fun j h st b hb => ?_) items (fun j h st => ?_)
    · rw [List.mem_singleton.mp hb]
      exact ⟨hn, by rw [Heap.get?_push_size _ rfl]; rfl⟩
    · rw [List.mem_singleton.mp hb]; exact dead_size _
    · obtain ⟨o, ho, _⟩ := st
      rw [List.mem_singleton.mp hb, ho]; rfl
    · obtain ⟨o, ho, hc, _⟩ := st
      exact ⟨o, _, ho, hc, hT⟩
  cases ha : x.cps.all (· < 128)
  · exact wpAny_pyIter_wide ha (fin _ (by decide) (Walks.strWide rfl _ x t))
  · exact wpAny_pyIter_ascii ha (fin _ (by decide) (Walks.strAscii rfl _ x t))
noncomputable def bytesOf (b : Array UInt8) : List D := b.toList.map fun n => D.int (n.toNat : Int)
theorem sw_bytes {b : Array UInt8} : SRCW c (.bytes b) (bytesOf b) := by
  intro mu s v Q E hn ha r hQ
  simp only [Rel] at r
  obtain ⟨t, rfl⟩ := r
  have hlen : b.size = (bytesOf b).length := by simp [bytesOf]
  refine KBw.pyIter_bytes ?_
  have W := KBw.walks (prog := c.prog) (w := c.w) (A := c.A) rfl s.heap.objs.size b t
  rw [hlen] at W
  refine hQ _ _ _ _ _ _ (kp_push _) W ⟨_, Heap.get?_push_size _ rfl, rfl, rfl⟩ (fun b hb => ?_) (fun b hb => ?_) (fun j h st b hb => ?_) (fun i v d p e => ?_) (fun j h st => ?_)
  · rw [List.mem_singleton.mp hb]
    exact ⟨hn, by rw [Heap.get?_push_size _ rfl]; rfl⟩
  · rw [List.mem_singleton.mp hb]; exact dead_size _
  · obtain ⟨o, ho, _⟩ := st
    rw [List.mem_singleton.mp hb, ho]; rfl
  · obtain ⟨n, u, h1, rfl⟩ := p
    have e' : (bytesOf b)[i]? = some (.int (n.toNat : Int)) := by
      unfold bytesOf
      rw [List.getElem?_map, Array.getElem?_toList, h1]; rfl
    rw [e'] at e; cases e
    simp only [Rel]; exact ⟨_, rfl⟩
  · obtain ⟨o, ho, hc, _⟩ := st
    exact ⟨o, _, ho, hc, by decide⟩
noncomputable def rngOf (a k : Int) (n : Nat) : List D := (List.range n).map fun (i : Nat) => D.int (a + (i : Int) * k)
theorem sw_rng {a b k : Int} {n : Nat} (hs : Builtin.Range.small a b k = true) (hz : Builtin.Range.rangeSize a b k = n) : SRCW c (.rng a b k) (rngOf a k n) := by
  intro mu s v Q E hn ha r hQ
  simp only [Rel] at r
  obtain ⟨r, t, u, w, rfl, hm, hi⟩ := r
  have hlen : (rngOf a k n).length = n := by simp only [rngOf, List.length_map, List.length_range]
  refine wpAny_pyIter_range hi hs ?_
  have W := Walks.range (prog := c.prog) (w := c.w) (A := c.A) rfl s.heap.objs.size a k (rngOf a k n).length
  refine hQ _ _ _ _ _ _ (kp_push _) W ?_ (fun b hb => ?_) (fun b hb => ?_) (fun j h st b hb => ?_) (fun i v d p e => ?_) (fun j h st => ?_)
  · show Heap.get? _ _ = _
    rw [hz, Heap.get?_push_size _ rfl, hlen]
    simp
  · rw [List.mem_singleton.mp hb]
    exact ⟨hn, by rw [Heap.get?_push_size _ rfl]; rfl⟩
  · rw [List.mem_singleton.mp hb]; exact dead_size _
  · rw [List.mem_singleton.mp hb, show h.get? s.heap.objs.size = some _ from st]; rfl
  · obtain ⟨t', rfl⟩ := p
    unfold rngOf at e
    rw [List.getElem?_map] at e
    cases h1 : (List.range n)[i]? with
    | none => rw [h1] at e; cases e
    | some j =>
      rw [h1] at e
      have hj : j = i := by
        have := List.getElem?_eq_some_iff.mp h1
        obtain ⟨h2, h3⟩ := this
        simpa using h3.symm
      subst hj
      cases e
      simp only [Rel]; exact ⟨_, rfl⟩
  · exact ⟨_, _, st, rfl, by decide⟩
theorem k_range1 {n : Int} : BCALL c (.type "range") [.int n] (.rng 0 n 1) := by
  intro mu s vs Q E hn ha r hQ
  simp only [RelL, Rel] at r
  obtain ⟨_, _, rfl, ⟨t, rfl⟩, rfl⟩ := r
  refine call_range_1 (hQ _ _ ⟨_, _, rfl, fun _ _ e => Heap.get?_push_of_some _ e⟩ ?_)
  simp only [Rel]
  exact ⟨_, _, _, _, rfl, hn, Heap.get?_push_size _ rfl⟩
theorem k_range3 {a b k : Int} (hk : k ≠ 0) (hl : k.natAbs < 1073741824) : BCALL c (.type "range") [.int a, .int b, .int k] (.rng a b k) := by
  intro mu s vs Q E hn ha r hQ
  simp only [RelL, Rel] at r
  obtain ⟨_, _, rfl, ⟨t, rfl⟩, _, _, rfl, ⟨u, rfl⟩, _, _, rfl, ⟨w, rfl⟩, rfl⟩ := r
  refine call_range_3 hk (hQ _ _ ⟨_, _, rfl, fun _ _ e => Heap.get?_push_of_some _ e⟩ ?_) (.inl (PyProof.noPylong_small hl))
  simp only [Rel]
  exact ⟨_, _, _, _, rfl, hn, Heap.get?_push_size _ rfl⟩
end
end Mine
end
section
open PySem PySem.W PySem.Spec PySem.Calls PyProof.Rows
set_option Elab.async false
set_option linter.unusedVariables false
namespace Mine
theorem call_at {c : Cx} {prog : Program} {w : World} {K : Frag} {lv : Nat} {f : Addr} {args : List D} {d : D} (h1 : c.prog = prog) (h2 : c.w = w) (h3 : c.K = K) (C : CALL prog w K lv f args d) : CALL c.prog c.w c.K lv f args d := by rw [h1, h2, h3]; exact C
end Mine
end
section
open PySem PySem.W PySem.Spec PySem.Calls PyProof.Rows
set_option Elab.async false
set_option linter.unusedVariables false
set_option maxRecDepth 100000
namespace Mine
section
variable {c : Cx} {l : Loc} {Q : Fl → Loc → Prop}
theorem Inv.setList {av own : List Addr} {s : Shared} {x : Str} {its its' : List D} {a : Addr} {vs' : List Value} {h' : Heap} {tk : Nat} (i : Inv c av own l s) (hx : get l x = some (.mls its)) (hn : NameIs c.env s.heap x (.ref a)) (ho : a ∈ own) (vs : List Value) (hp : s.heap.PlainList a vs.toArray)
    (hp' : h'.PlainList a vs'.toArray) (hr : RelL (own ++ av) s.heap its' vs') (f : FrozL its') (hs : Heap.SameBut a s.heap h') : Inv c av own (put l x (.mls its')) { s with heap := h', toks := tk } := by
  have alive : (h'.get? a).isSome = true := by obtain ⟨n, e⟩ := hp'; rw [e]; rfl
  obtain ⟨hl1, m₀, hl2⟩ := i.loc
  have hla : c.env.locals ≠ a := fun e => ns_ne_list hl2 hp e.symm
  have cellNe : ∀ b v, s.heap.IsCell b v → b ≠ a := fun b v hc => list_ne_cell hp hc
  have nameOld : ∀ y w, NameIs c.env s.heap y w → NameIs c.env h' y w := fun y w n => by
    rcases n with ⟨q, m₁, hn₁, e⟩ | ⟨q, b, hb, hcb⟩
    · exact .inl ⟨q, m₁, hn₁.sameBut hs hla, e⟩
    · exact .inr ⟨q, b, hb, hcb.sameBut hs (cellNe b _ hcb)⟩
  have back : ∀ y w d, get l y = some d → NameIs c.env h' y w → NameIs c.env s.heap y w := fun y w d e n => by
    obtain ⟨w', n', _, _⟩ := i.val y d e
    have := (nameOld y w' n').agree n
    exact this ▸ n'
  have getx : ∀ y dy, get (put l x (.mls its')) y = some (.mls dy) → ∃ dy', get l y = some (.mls dy') := fun y dy e => by
    rw [get_put] at e
    by_cases hy : y = x
    · exact ⟨its, hy ▸ hx⟩
    · rw [if_neg hy] at e; exact ⟨dy, e⟩
  refine ⟨i.ok, fun b hb => ⟨sameBut_alive hs alive b (i.keep b hb).1, (i.keep b hb).2⟩, ?_, fun b hb => ⟨(i.mine b hb).1, sameBut_alive hs alive b (i.mine b hb).2⟩, ⟨hl1, _, hl2.sameBut hs hla⟩, fun y b h1 h2 => ?_, i.inj, fun y b h => ⟨sameBut_alive hs alive b (i.cel y b h).1, (i.cel y b h).2⟩, i.off, fun y e he => ?_, fun y z dy dz b h1 h2 n1 n2 => ?_⟩
  · obtain ⟨mF, F⟩ := i.fr
    have hLa : c.L ≠ a := fun e => ns_ne_list F.ns hp e.symm
    exact ⟨mF, F.ns.sameBut hs hLa, fun b o e => (hs.2 b fun q => by rw [q, (i.mine a ho).1] at e; cases e).trans (F.keep b o e), F.above⟩
  · obtain ⟨h3, w, h4⟩ := i.cell y b h1 h2
    exact ⟨h3, w, h4.sameBut hs (cellNe b _ h4)⟩
  · rw [get_put] at he
    by_cases hy : y = x
    · subst hy
      rw [if_pos rfl] at he
      cases he
      refine ⟨.ref a, nameOld _ _ hn, ?_, f, a, rfl, ho⟩
      simp only [Rel]
      exact ⟨a, vs', rfl, hp', RelL.but (sameBut_but hs (List.mem_append_left _ ho)) f hr⟩
    · rw [if_neg hy] at he
      obtain ⟨w, n, rw', q⟩ := i.val y e he
      refine ⟨w, nameOld y w n, rel_same hs (List.mem_append_left _ ho) rw' ?_, q⟩
      cases e with
      | mls its₂ =>
        refine ⟨q.1, fun e => ?_⟩
        subst e
        exact hy (i.apart y x its₂ its a he hx n hn)
      | _ => exact q
  · obtain ⟨dy', e1⟩ := getx y dy h1
    obtain ⟨dz', e2⟩ := getx z dz h2
    exact i.apart y z dy' dz' b e1 e2 (back y _ _ e1 n1) (back z _ _ e2 n2)
theorem Inv.theList {av own : List Addr} {s : Shared} {x : Str} {its : List D} (i : Inv c av own l s) (hx : get l x = some (.mls its)) : ∃ a vs, NameIs c.env s.heap x (.ref a) ∧ a ∈ own ∧ s.heap.PlainList a vs.toArray ∧ RelL (own ++ av) s.heap its vs ∧ FrozL its := by
  obtain ⟨v, n, r, f, a, rfl, ho⟩ := i.val x _ hx
  simp only [Rel] at r
  obtain ⟨b, vs, e, hp, hr⟩ := r
  cases e
  exact ⟨a, vs, n, ho, hp, hr, f⟩
theorem evalName {av own : List Addr} {s : Shared} {x : Str} {pos : Pos} {d : D} {R E : Value → Shared → Prop} (i : Inv c av own l s) (h : get l x = some d) (hR : ∀ v, NameIs c.env s.heap x v → Rel (own ++ av) s.heap d v → R v s) (hd : (x == ("__debug__" : Str)) = false := by decide) :
    wpAny c.M c.A (eval (.Name x pos) c.env) R E s := by
  obtain ⟨v, n, r, _⟩ := i.val x d h
  refine wpAny_Name ?_ hd
  have n' := n
  rcases n with ⟨q, m, hn, e⟩ | ⟨q, a, ha, hc⟩
  · exact wpAny_loadName_local i.ok.kind q hn e (hR v n' r)
  · rcases q with q | q
    · exact wpAny_loadName_cell i.ok.kind q ha hc (hR v n' r)
    · exact wpAny_loadName_free i.ok.kind q.1 ha hc (hR v n' r) q.2
theorem st_append {x : Str} {px apos pos ep : Pos} {e : Expr} {its : List D} {d : D} {l' : Loc} (hx : get l x = some (.mls its)) (h : EV c l e d) (f : Froz d) (hlen : its.length ≤ 100000) (hl : put l x (.mls (its ++ [d])) = l') (q : Q .next l')
    (hE : ∀ env, ∃ pl : Sem Bool, eval (.Call (.Attribute (.Name x px) "append" apos) [e] [] pos) env = (do
      let ov ← eval (.Name x px) env
      standAt apos.atName
      let (f, first) ← holding [ov] (getMethod ov "append" pl)
      callWith pos f first (backTo pos (starEach [e] env)) []) := by intro _; exact ⟨_, rfl⟩)
    (he : ∀ env, starEach [e] env = (false, eval e env) :: starEach [] env := by intro _; rfl) (hd : (x == ("__debug__" : Str)) = false := by decide) :
    ST c l (exec (.Expr (.Call (.Attribute (.Name x px) "append" apos) [e] [] pos) ep) c.env) Q := by
  intro av own s i R E hR
  obtain ⟨pl, hE⟩ := hE c.env
  have hint : interactive c.env = false := by unfold interactive; rw [i.ok.kind]; rfl
  refine wpAny_Expr (MethodCall_ (pl := pl) (evalName i hx (fun v n r => ?_) hd) hE) hint
  obtain ⟨a, vs, n', ho, hp, hr, fi⟩ := i.theList hx
  have := n.agree n'
  subst this
  obtain ⟨k, hk⟩ := hp
  refine getMethod_list_append hk rfl rfl ?_
  refine callWith_method1 (spliced_more (h av own s i _ _ fun v s₁ k₁ r₁ => spliced_none ?_) (he _)) (he _) rfl
  have i₁ := i.keeps k₁
  have hp₁ : s₁.heap.PlainList a vs.toArray := ⟨k, kp_kept k₁ _ _ hk⟩
  refine wpAny_list_append_plain hp₁ (fun h' hp' hs => ?_) (by rw [List.size_toArray, hr.length]; exact Nat.le_trans hlen (by decide))
  show R .next _
  have i' := i₁.setList (its' := its ++ [d]) (vs' := vs ++ [v]) (tk := s₁.toks) hx (n'.kept (kp_kept k₁)) ho vs hp₁ (by simpa using hp') (RelL.append (es := [d]) (ws := [v]) (hr.kept (kp_kept k₁)) (by simp only [RelL]; exact ⟨v, [], rfl, r₁, rfl⟩)) (FrozL.append (es := [d]) fi (by simp only [FrozL]; exact ⟨f, trivial⟩)) hs
  refine hR .next _ _ own _ (hl ▸ q) (by simp only [RelF]) ((Step.of k₁).trans ⟨⟨h', s₁.toks, rfl⟩, sameBut_but hs ho, fun a q => .inl q⟩) (hl ▸ i')
theorem st_newlist {x : Str} {px p pos : Pos} {es : List Expr} {ds : List D} {l' : Loc} (hL : c.env.locals = c.L) (hk : c.env.kindOf x = some .local) (h : EVL c l es ds) (hb : ds.length ≤ 1000) (f : FrozL ds) (hl : put l x (.mls ds) = l') (q : Q .next l') :
    ST c l (exec (.Assign [.Name x px] (.List es p) pos) c.env) Q := by
  intro av own s i R E hR
  refine wpAny_Assign_Name (wpAny_List (h av own s i _ _ _ fun vs s₁ k₁ r₁ => ⟨by rw [r₁.length]; exact Nat.le_trans hb (by decide), ?_⟩)) rfl
  have i₁ := i.keeps k₁
  have kp := kp_push (s := s₁) { cls := .type "list", data := .seq vs.toArray }
  have dead := dead_size s₁.heap
  have new := i₁.notOwn
  -- the frame with one address more
  have i₂ : Inv c av (s₁.heap.objs.size :: own) l { s₁ with heap := s₁.heap.push { cls := .type "list", data := .seq vs.toArray } } := by
    have j := i₁.keeps kp
    have hn : c.h₀.get? s₁.heap.objs.size = none := by
      obtain ⟨m, F⟩ := i₁.fr
      cases e : c.h₀.get? s₁.heap.objs.size with
      | none => rfl
      | some o => have := F.keep _ o e; rw [dead] at this; cases this
    refine { j with keep := fun a ha => ⟨(j.keep a ha).1, (j.keep a ha).2.1, fun z => ?_⟩, mine := fun a ha => ?_, loc := ⟨.tail _ j.loc.1, j.loc.2⟩, cell := fun y a h1 h2 => ⟨.tail _ (j.cell y a h1 h2).1, (j.cell y a h1 h2).2⟩, val := fun y d e => ?_ }
    · rcases List.mem_cons.mp z with z | z
      · exact new (z ▸ List.mem_append_right _ ha)
      · exact (j.keep a ha).2.2 z
    · rcases List.mem_cons.mp ha with z | z
      · subst z; exact ⟨hn, by rw [Heap.get?_push_size _ rfl]; rfl⟩
      · exact j.mine a z
    · obtain ⟨v, n, r, q⟩ := i₁.val y d e
      refine ⟨v, n.kept (kp_kept kp), Rel.kept (kp_kept kp) (Rel.sub (fun a ha => ?_) r), ?_⟩
      · rcases List.mem_cons.mp ha with z | z
        · exact .inr (z ▸ dead)
        · exact .inl z
      · cases d with
        | mls its => exact ⟨q.1, let ⟨a, e, h⟩ := q.2; ⟨a, e, .tail _ h⟩⟩
        | _ => exact q
  obtain ⟨hl1, m, hm⟩ := i₂.loc
  refine wpAny_storeName_local hk hm (fun h' hn hs => ?_) (by rw [i.ok.kind]; rfl)
  have r₂ : RelL ((s₁.heap.objs.size :: own) ++ av) (s₁.heap.push { cls := .type "list", data := .seq vs.toArray }) ds vs := RelL.kept (kp_kept kp) (RelL.sub (fun a ha => by
    rcases List.mem_cons.mp ha with z | z
    · exact .inr (z ▸ dead)
    · exact .inl z) r₁)
  have i₃ := i₂.setLocal (x := x) (d := .mls ds) (v := .ref s₁.heap.objs.size) (tk := s₁.toks + 1) hL hk (by simp only [Rel]; exact ⟨_, vs, rfl, ⟨_, Heap.get?_push_size _ rfl⟩, r₂⟩) ⟨f, ⟨_, rfl, .head _⟩, fun y dy e hy n => by
    obtain ⟨v, n', r', _⟩ := i₁.val y _ e
    have := (n'.kept (kp_kept kp)).agree n
    subst this
    simp only [Rel] at r'
    obtain ⟨a, _, e', ⟨k, hp⟩, _⟩ := r'
    cases e'
    rw [dead] at hp; cases hp⟩ hm hn hs
  refine hR .next _ _ (s₁.heap.objs.size :: own) _ (hl ▸ q) (by simp only [RelF]) ((Step.of k₁).trans ?_) (hl ▸ i₃)
  have loc₁ : c.env.locals ∈ own := i₁.loc.1
  exact ⟨⟨h', s₁.toks + 1, rfl⟩, fun b o hb e => (hs.2 b (fun z => hb (z ▸ loc₁))).trans (Heap.get?_push_of_some _ e), fun a ha => by
    rcases List.mem_cons.mp ha with z | z
    · exact .inr (z ▸ dead)
    · exact .inl z⟩
theorem Inv.freeze {av own : List Addr} {s : Shared} {x : Str} {its : List D} (i : Inv c av own l s) (hx : get l x = some (.mls its)) : ∃ own', (∀ a ∈ own', a ∈ own) ∧ Inv c av own' (put l x (.lst its)) s := by
  obtain ⟨a, vs, n, ho, hp, hr, f⟩ := i.theList hx
  have sub : ∀ b ∈ own.filter (fun b => b != a), b ∈ own := fun b hb => (List.mem_filter.mp hb).1
  have subA : ∀ b ∈ own.filter (fun b => b != a) ++ av, b ∈ own ++ av ∨ s.heap.get? b = none := fun b hb => .inl (by
    rcases List.mem_append.mp hb with z | z
    · exact List.mem_append_left _ (sub b z)
    · exact List.mem_append_right _ z)
  have inn : ∀ b ∈ own, b ≠ a → b ∈ own.filter (fun b => b != a) := fun b hb e => List.mem_filter.mpr ⟨hb, by simpa using e⟩
  obtain ⟨hl1, m₀, hl2⟩ := i.loc
  refine ⟨own.filter (fun b => b != a), sub, i.ok, fun b hb => ⟨(i.keep b hb).1, (i.keep b hb).2.1, fun z => (i.keep b hb).2.2 (sub b z)⟩, i.fr, fun b hb => i.mine b (sub b hb), ⟨inn _ hl1 (fun e => ns_ne_list hl2 hp e.symm), m₀, hl2⟩, fun y b h1 h2 => ?_, i.inj, i.cel, i.off, fun y d e => ?_, fun y z dy dz b h1 h2 n1 n2 => ?_⟩
  · obtain ⟨h3, w, h4⟩ := i.cell y b h1 h2
    exact ⟨inn b h3 (list_ne_cell hp h4), w, h4⟩
  · rw [get_put] at e
    by_cases hy : y = x
    · subst hy
      rw [if_pos rfl] at e; cases e
      refine ⟨.ref a, n, ?_, by simp only [Froz]; exact f⟩
      simp only [Rel]
      refine ⟨a, vs, rfl, fun z => ?_, hp.isList, RelL.sub subA hr⟩
      rcases List.mem_append.mp z with z | z
      · have := (List.mem_filter.mp z).2
        simp at this
      · exact (i.keep a z).2.2 ho
    · rw [if_neg hy] at e
      obtain ⟨v, n', r, q⟩ := i.val y d e
      refine ⟨v, n', Rel.sub subA r, ?_⟩
      cases d with
      | mls its₂ =>
        obtain ⟨f₂, b, rfl, hb⟩ := q
        refine ⟨f₂, b, rfl, inn b hb fun z => ?_⟩
        subst z
        exact hy (i.apart y x its₂ its b e hx n' n)
      | _ => exact q
  · rw [get_put] at h1 h2
    by_cases hy : y = x
    · rw [hy, if_pos rfl] at h1; cases h1
    · by_cases hz : z = x
      · rw [hz, if_pos rfl] at h2; cases h2
      · rw [if_neg hy] at h1; rw [if_neg hz] at h2
        exact i.apart y z dy dz b h1 h2 n1 n2
end
end Mine
end
section
open PySem PySem.W PySem.Spec PySem.Calls PyProof.Rows
set_option Elab.async false
set_option linter.unusedVariables false
set_option maxRecDepth 100000
namespace Mine
section
variable {c : Cx} {l : Loc} {Q : Fl → Loc → Prop}
noncomputable def cx (c : Cx) (sc : Scope) (cl : List (Str × Addr)) (C : Addr) : Cx := { c with env := compEnvC sc cl C c.env }
structure CompOk (c : Cx) (sc : Scope) (cl : List (Str × Addr)) (x : Str) : Prop where
  clos : closureFor sc c.env = pure cl
  nocell : ∀ y ∈ sc.names, y.2 ≠ .cell
  kind : sc.kind = .function
  names : ∀ y ∈ sc.names, y.2 = .local → sc.names.lookup y.1 = some .local
  var : sc.names.lookup x = some .local
  sub : ∀ y a, cl.lookup y = some a → c.env.cells.lookup y = some a
structure Sees (c : Cx) (l : Loc) (sc : Scope) (cl : List (Str × Addr)) (lc : Loc) : Prop where
  has : ∀ y d, get lc y = some d → get l y = some d ∧ Froz d ∧ sc.names.lookup y = some .free ∧ (y == ("__classdict__" : Str)) = false ∧ (∃ a, cl.lookup y = some a) ∧ (c.env.kindOf y = some .cell ∨ c.env.kindOf y = some .free)
theorem relabel_lookup {sc : Scope} {env : Env} {y : Str} : ∀ {names : List (Str × NameKind)}, names.lookup y = some .free →
    (names.map fun (n, k) => if (k == NameKind.free && env.scope.kind == .function && env.kindOf n == some .cell) then (n, NameKind.cell) else (n, k)).lookup y = some .free ∨
    (names.map fun (n, k) => if (k == NameKind.free && env.scope.kind == .function && env.kindOf n == some .cell) then (n, NameKind.cell) else (n, k)).lookup y = some .cell
  | [], h => by cases h
  | (n, k) :: r, h => by
    rw [List.lookup_cons] at h
    by_cases hy : (y == n) = true
    · simp only [hy] at h
      cases h
      simp only [List.map_cons]
      by_cases hc : (NameKind.free == NameKind.free && env.scope.kind == .function && env.kindOf n == some .cell) = true
      · rw [if_pos hc, List.lookup_cons, hy]; exact .inr rfl
      · rw [if_neg hc, List.lookup_cons, hy]; exact .inl rfl
    · simp only [hy] at h
      have ih := relabel_lookup (sc := sc) (env := env) (names := r) h
      simp only [List.map_cons]
      by_cases hc : (k == NameKind.free && env.scope.kind == .function && env.kindOf n == some .cell) = true
      · rw [if_pos hc, List.lookup_cons, show (y == n) = false from by simpa using hy]; exact ih
      · rw [if_neg hc, List.lookup_cons, show (y == n) = false from by simpa using hy]; exact ih
end
end Mine
end
section
open PySem PySem.W PySem.Spec PySem.Calls PyProof.Rows
set_option Elab.async false
set_option linter.unusedVariables false
set_option maxRecDepth 100000
namespace Mine
section
variable {c : Cx} {l : Loc} {Q : Fl → Loc → Prop}
inductive Tests (c : Cx) (l : Loc) : List Expr → Bool → Prop
  | nil : Tests c l [] true
  | one {e : Expr} {b : Bool} : TR c l e b → Tests c l [e] b
theorem Tests.wp {ifs : List Expr} {b : Bool} (t : Tests c l ifs b) {av own : List Addr} {s : Shared} (i : Inv c av own l s) {R : Bool → Shared → Prop} {E : Value → Shared → Prop} (h : ∀ s', Keeps s s' → R b s') :
    wpAny c.M c.A (forIn ifs true fun e r => if r = true then do let ok ← isTrue e c.env (eval e c.env); pure (ForInStep.yield ok) else pure (ForInStep.yield r)) R E s := by
  cases t with
  | nil => exact wpAny_tests_nil (h s kp_rfl)
  | one q => exact wpAny_tests_one (q av own s i _ _ h)
end
end Mine
end
section
open PySem PySem.W PySem.Spec PySem.Calls PyProof.Rows
set_option Elab.async false
set_option linter.unusedVariables false
set_option maxRecDepth 100000
namespace Mine
section
variable {c : Cx} {l : Loc} {Q : Fl → Loc → Prop}
noncomputable def ITERW (c : Cx) (l : Loc) (iter : Expr) (items : List D) : Prop :=
  ∀ av own s, Inv c av own l s → ∀ (Q E : Value → Shared → Prop),
    (∀ s₁ I fp wr P St s₂, Keeps s s₁ → Keeps s₁ s₂ → Walks c.prog c.w c.A I fp wr items.length P St → St 0 s₂.heap → (∀ b ∈ fp, b ∉ own ++ av ∧ (s₂.heap.get? b).isSome = true) → (∀ b ∈ wr, s₁.heap.get? b = none) → (∀ j h, St j h → ∀ b ∈ fp, (h.get? b).isSome = true) →
      (∀ i v d, P i v → items[i]? = some d → Rel (own ++ av) s₁.heap d v) → Q (.ref I) s₂) → wpAny c.M c.A (eval iter c.env) (fun v s₁ => wpAny c.M c.A (pyIter v) Q E s₁) E s
theorem itw_ev {iter : Expr} {d : D} {items : List D} (h : EV c l iter d) (hsrc : SRCW c d items) : ITERW c l iter items := by
  intro av own s i Q E hQ
  refine h av own s i _ _ fun v s₁ k₁ r₁ => ?_
  have i₁ := i.keeps k₁
  exact hsrc (own ++ av) s₁ v _ _ i₁.notOwn i₁.alive r₁ fun I fp wr P St s₂ k₂ W hst hfp hwr hlive hP _ => hQ s₁ I fp wr P St s₂ k₁ k₂ W hst hfp hwr hlive hP
end
end Mine
end
section
open PySem PySem.W PySem.Spec PySem.Calls PyProof.Rows
set_option Elab.async false
set_option linter.unusedVariables false
set_option maxRecDepth 100000
namespace Mine
section
variable {c : Cx} {l : Loc} {Q : Fl → Loc → Prop}
theorem st_while {t : Expr} {body orelse : List Stmt} {pos : Pos} (I : Nat → Loc → Prop) (n : Nat) (h0 : I n l)
    (step : ∀ n l, I n l → ∃ b, TR c l t b ∧ (b = false → ST c l (execs orelse c.env) Q) ∧
      (b = true → ST c l (execs body c.env) (fun fl l' => match fl with | .next => ∃ m, m < n ∧ I m l' | .cont => ∃ m, m < n ∧ I m l' | .brk => Q .next l' | .ret v => Q (.ret v) l'))) :
    ST c l (exec (.While t body orelse pos) c.env) Q := by
  intro av own s i R E hR
  refine wpAny_While ?_
  refine codeAny_whileLoop (fun k s' => ∃ l' own', I k l' ∧ Step own s own' s' ∧ Inv c av own' l' s') (fun k s' hI => ?_) n ⟨l, own, h0, Step.of kp_rfl, i⟩
  obtain ⟨l', own', hI, st, i'⟩ := hI
  obtain ⟨b, ht, hf, hb⟩ := step k l' hI
  refine ht av own' s' i' _ _ fun s₁ k₁ => ?_
  have i₁ := i'.keeps k₁
  have st₁ := st.trans (Step.of k₁)
  cases b with
  | false => exact hf rfl av own' s₁ i₁ _ _ fun fl f l'' own'' s'' q r st₂ i₂ => hR fl f l'' own'' s'' q r (st₁.trans st₂) i₂
  | true =>
    refine hb rfl av own' s₁ i₁ _ _ fun fl f l'' own'' s'' q r st₂ i₂ => ?_
    cases fl with
    | next => simp only [RelF] at r; subst r; obtain ⟨m, hm, hI⟩ := q; exact ⟨m, hm, l'', own'', hI, st₁.trans st₂, i₂⟩
    | cont => simp only [RelF] at r; subst r; obtain ⟨m, hm, hI⟩ := q; exact ⟨m, hm, l'', own'', hI, st₁.trans st₂, i₂⟩
    | brk => simp only [RelF] at r; subst r; exact hR .next _ l'' own'' s'' q (by simp only [RelF]) (st₁.trans st₂) i₂
    | ret d =>
      have r' := r
      simp only [RelF] at r
      obtain ⟨v, rfl, _, _⟩ := r
      exact hR (.ret d) _ l'' own'' s'' q r' (st₁.trans st₂) i₂
theorem ints_of {mu : List Addr} {h : Heap} : ∀ {ns : List Int} {vs : List Value}, RelL mu h (ns.map .int) vs → IntsAre vs ns
  | [], vs, r => by simp only [List.map_nil, RelL] at r; subst r; exact .nil
  | n :: ns, vs, r => by
    simp only [List.map_cons, RelL, Rel] at r
    obtain ⟨_, vs', rfl, ⟨t, rfl⟩, r2⟩ := r
    exact .cons _ _ (ints_of r2)
theorem k_bytes {ns : List Int} (hr : ∀ n ∈ ns, 0 ≤ n ∧ n < 256) (hz : ns.length ≤ 100000) : BCALL c (.type "bytes") [.lst (ns.map .int)] (.bytes (byteArr ns)) := by
  intro mu s vs Q E hn ha r hQ
  simp only [RelL, Rel] at r
  obtain ⟨_, _, rfl, ⟨a, ws, rfl, _, hL, hr'⟩, rfl⟩ := r
  refine call_bytes_ints hL (ints_of hr') hr (by rw [hr'.length, List.length_map]; exact Nat.le_trans hz (by decide)) rfl fun h' t k kk => hQ _ _ ⟨h', k, rfl, kk⟩ (by simp only [Rel]; exact ⟨_, rfl⟩)
noncomputable def tyOf : D → Option String
  | .bytes _ => some "bytes"
  | .bool _ => some "bool"
  | .int _ => some "int"
  | .str _ => some "str"
  | _ => none
theorem typeIs_of {mu : List Addr} {s : Shared} {d : D} {v : Value} {T : String} (h : tyOf d = some T) (r : Rel mu s.heap d v) : s.TypeIs v T := by
  cases d <;> simp only [tyOf, Option.some.injEq, reduceCtorEq] at h <;> subst h <;> simp only [Rel] at r
  · subst r; exact PySem.typeIs_bool s _
  · obtain ⟨t, rfl⟩ := r; exact typeIs_int s _ t
  · obtain ⟨t, rfl⟩ := r; exact typeIs_str s _ t
  · obtain ⟨t, rfl⟩ := r; exact typeIs_bytes s _ t
theorem k_type {d : D} {T : String} (h : tyOf d = some T) (hb : (Value.type T == Value.type "builtin_function_or_method") = false) : BCALL c (.type "type") [d] (.val (.type T)) := by
  intro mu s vs Q E hn ha r hQ
  simp only [RelL] at r
  obtain ⟨v, _, rfl, r1, rfl⟩ := r
  exact call_type_of (typeIs_of h r1) hb (hQ _ _ kp_rfl (by simp only [Rel]))
theorem c_is {a b : Value} {r : Bool} (hp : plainIs a b = true) (h : (a == b) = r) : CMP c .Is (.val a) (.val b) r := by
  intro _ mu s v₁ v₂ Q E r₁ r₂ hQ
  simp only [Rel] at r₁ r₂
  subst r₁; subst r₂
  exact wpAny_is_plain hp (h ▸ hQ s kp_rfl)
theorem k_isBytes {b : Array UInt8} : BCALL c (.builtin "isinstance") [.bytes b, .val (.type "bytes")] (.bool true) := by
  intro mu s vs Q E hn ha r hQ
  simp only [RelL, Rel] at r
  obtain ⟨_, _, rfl, ⟨t, rfl⟩, _, _, rfl, rfl, rfl⟩ := r
  exact call_isinstance (isinstance_true (kitMeta_of (by decide +kernel)) F.sub_bytes_bytes) ⟨typeIs_bytes _ _ _, hQ _ _ kp_rfl (by simp only [Rel])⟩
theorem c_bne {a b : Array UInt8} : CMP c .NotEq (.bytes a) (.bytes b) (a.toList != b.toList) := by
  intro _ mu s v₁ v₂ Q E r₁ r₂ hQ
  simp only [Rel] at r₁ r₂
  obtain ⟨t, rfl⟩ := r₁
  obtain ⟨u, rfl⟩ := r₂
  exact ne_bytes (hQ s kp_rfl)
theorem c_inS {x y : Str} : CMP c .In (.str y) (.str x) (Txt.contains x y) := by
  intro _ mu s v₁ v₂ Q E r₁ r₂ hQ
  simp only [Rel] at r₁ r₂
  obtain ⟨t, rfl⟩ := r₁
  obtain ⟨u, rfl⟩ := r₂
  exact SB.contains (hQ s kp_rfl)
mutual
noncomputable def toPy : D → PyData
  | .none => .none
  | .bool b => .bool b
  | .int i => .int i
  | .str x => .str x
  | .tup l => .tuple (toPys l)
  | .lst l => .list (toPys l)
  | .mls l => .list (toPys l)
  | _ => .none
noncomputable def toPys : List D → List PyData
  | [] => []
  | d :: ds => toPy d :: toPys ds
end
mutual
noncomputable def Plain : D → Bool
  | .none => true
  | .bool _ => true
  | .int _ => true
  | .str _ => true
  | .tup l => Plains l
  | .lst l => Plains l
  | .mls l => Plains l
  | _ => false
noncomputable def Plains : List D → Bool
  | [] => true
  | d :: ds => Plain d && Plains ds
end
mutual
theorem reads_of {mu : List Addr} {h : Heap} : ∀ {d : D} {v : Value}, Plain d = true → Rel mu h d v → ∃ as, Reads h v (toPy d) as
  | .none, _, _, r => by simp only [Rel] at r; subst r; exact ⟨_, .none⟩
  | .bool _, _, _, r => by simp only [Rel] at r; subst r; exact ⟨_, .bool _⟩
  | .int _, _, _, r => by simp only [Rel] at r; obtain ⟨t, rfl⟩ := r; exact ⟨_, .int _ _⟩
  | .str _, _, _, r => by simp only [Rel] at r; obtain ⟨t, rfl⟩ := r; exact ⟨_, .str _ _⟩
  | .bytes _, _, p, _ => by simp only [Plain] at p; cases p
  | .rng _ _ _, _, p, _ => by simp only [Plain] at p; cases p
  | .val _, _, p, _ => by simp only [Plain] at p; cases p
  | .tup l, _, p, r => by
    simp only [Plain] at p
    simp only [Rel] at r
    obtain ⟨a, vs, rfl, _, ⟨o, ho, hc, n, hd⟩, hr⟩ := r
    obtain ⟨as, q⟩ := readsAll_of p hr
    exact ⟨_, .tuple ho hc hd q⟩
  | .lst l, _, p, r => by
    simp only [Plain] at p
    simp only [Rel] at r
    obtain ⟨a, vs, rfl, _, ⟨o, ho, hc, n, hd⟩, hr⟩ := r
    obtain ⟨as, q⟩ := readsAll_of p hr
    exact ⟨_, .list ho hc hd q⟩
  | .mls l, _, p, r => by
    simp only [Plain] at p
    simp only [Rel] at r
    obtain ⟨a, vs, rfl, ⟨n, ho⟩, hr⟩ := r
    obtain ⟨as, q⟩ := readsAll_of p hr
    exact ⟨_, .list ho rfl rfl q⟩
theorem readsAll_of {mu : List Addr} {h : Heap} : ∀ {ds : List D} {vs : List Value}, Plains ds = true → RelL mu h ds vs → ∃ as, ReadsAll h vs (toPys ds) as
  | [], vs, _, r => by simp only [RelL] at r; subst r; exact ⟨_, .nil⟩
  | d :: ds, vs, p, r => by
    simp only [Plains, Bool.and_eq_true] at p
    simp only [RelL] at r
    obtain ⟨v, vs', rfl, r1, r2⟩ := r
    obtain ⟨as, q⟩ := reads_of p.1 r1
    obtain ⟨bs, q'⟩ := readsAll_of p.2 r2
    exact ⟨_, .cons q q'⟩
end
theorem c_deq {d₁ d₂ : D} (p₁ : Plain d₁ = true) (p₂ : Plain d₂ = true) (h₁ : (toPy d₁).canLay0 = true) (h₂ : (toPy d₂).canLay0 = true) (hd : (toPy d₁).depth ≤ 50) : CMP c .Eq d₁ d₂ (PyData.eqv (toPy d₁) (toPy d₂)) := by
  intro ok mu s v₁ v₂ Q E r₁ r₂ hQ
  obtain ⟨as, q₁⟩ := reads_of p₁ r₁
  obtain ⟨bs, q₂⟩ := reads_of p₂ r₂
  refine PySem.SeqAt.compareEq_reads q₁ q₂ h₁ h₂ ?_ (hQ s kp_rfl)
  have := ok.roomU
  have e : c.A.units = c.un + 3 := rfl
  have := Nat.min_le_left (toPy d₁).depth (toPy d₂).depth
  omega
theorem c_dne {d₁ d₂ : D} (p₁ : Plain d₁ = true) (p₂ : Plain d₂ = true) (h₁ : (toPy d₁).canLay0 = true) (h₂ : (toPy d₂).canLay0 = true) (hd : (toPy d₁).depth ≤ 50) : CMP c .NotEq d₁ d₂ (!PyData.eqv (toPy d₁) (toPy d₂)) := by
  intro ok mu s v₁ v₂ Q E r₁ r₂ hQ
  obtain ⟨as, q₁⟩ := reads_of p₁ r₁
  obtain ⟨bs, q₂⟩ := reads_of p₂ r₂
  refine PySem.SeqAt.compareNe_reads q₁ q₂ h₁ h₂ ?_ (hQ s kp_rfl)
  have := ok.roomU
  have e : c.A.units = c.un + 3 := rfl
  have := Nat.min_le_left (toPy d₁).depth (toPy d₂).depth
  omega
theorem c_inL {d : D} {ds : List D} (p₁ : Plain d = true) (p₂ : Plains ds = true) (h₁ : (toPy d).canLay0 = true) (h₂ : PyData.canLayAll0 (toPys ds) = true) (hd : (toPy d).depth ≤ 50) : CMP c .In d (.lst ds) ((toPys ds).any fun y => PyData.eqv y (toPy d)) := by
  intro ok mu s v₁ v₂ Q E r₁ r₂ hQ
  obtain ⟨as, q₁⟩ := reads_of p₁ r₁
  obtain ⟨bs, q₂⟩ := reads_of (d := .lst ds) (by simpa only [Plain] using p₂) r₂
  simp only [toPy] at q₂
  refine PySem.SeqAt.in_list_reads q₂ q₁ h₂ h₁ ?_ (hQ s kp_rfl)
  have := ok.roomU
  have e : c.A.units = c.un + 3 := rfl
  have := Nat.min_le_right (PyData.depthAll (toPys ds)) (toPy d).depth
  omega
theorem c_notInM {d : D} {ds : List D} (p₁ : Plain d = true) (p₂ : Plains ds = true) (h₁ : (toPy d).canLay0 = true) (h₂ : PyData.canLayAll0 (toPys ds) = true) (hd : (toPy d).depth ≤ 50) : CMP c .NotIn d (.mls ds) (!(toPys ds).any fun y => PyData.eqv y (toPy d)) := by
  intro ok mu s v₁ v₂ Q E r₁ r₂ hQ
  obtain ⟨as, q₁⟩ := reads_of p₁ r₁
  obtain ⟨bs, q₂⟩ := reads_of (d := .mls ds) (by simpa only [Plain] using p₂) r₂
  simp only [toPy] at q₂
  refine PySem.SeqAt.notIn_list_reads q₂ q₁ h₂ h₁ ?_ (hQ s kp_rfl)
  have := ok.roomU
  have e : c.A.units = c.un + 3 := rfl
  have := Nat.min_le_right (PyData.depthAll (toPys ds)) (toPy d).depth
  omega
end
end Mine
end
section
open PySem PySem.W PySem.Spec PySem.Calls PyProof.Rows
set_option Elab.async false
set_option linter.unusedVariables false
set_option maxRecDepth 100000
namespace Mine
section
variable {c : Cx} {l : Loc} {Q : Fl → Loc → Prop}
end
end Mine
end
section
open PySem PySem.W PySem.Spec PySem.Calls PyProof.Rows
set_option Elab.async false
set_option linter.unusedVariables false
set_option maxRecDepth 100000
namespace Mine
section
variable {c : Cx} {l : Loc} {Q : Fl → Loc → Prop}
end
end Mine
end
section
open PySem PySem.W PySem.Spec PySem.Calls PyProof.Rows
set_option Elab.async false
set_option linter.unusedVariables false
set_option maxRecDepth 100000
namespace Mine
theorem len_app (x y : Str) : (x ++ y).length = x.length + y.length := by
  show (x.cps ++ y.cps).size = _
  rw [Array.size_append]; rfl
theorem szl : sizeLine = 16777216 := by decide
end Mine
end
section
open PySem PySem.W PySem.Spec PySem.Calls PyProof.Rows
set_option Elab.async false
set_option linter.unusedVariables false
set_option maxRecDepth 100000
namespace Mine
open Sem (wp)
open AutoSeq1 (wpAny_loadPart')
theorem meets_enumerate_newT (l : Addr) (items : Array Value) (n : Nat) (dct : Option Addr) (sl : Array (Option Value)) :
    Meets (Builtin.«enumerate.__new__» ⟨[.type "enumerate", .ref l], []⟩) (fun _ R s => s.heap.get? l = some { cls := .type "tuple", dict := dct, data := .seq items n, slots := sl } ∧
      R (.ok (.ret (.ref (s.heap.push { cls := .type "tuple_iterator", data := .fields #[.ref l, .int 0 0] }).objs.size)))
        { s with heap := (s.heap.push { cls := .type "tuple_iterator", data := .fields #[.ref l, .int 0 0] }).push { cls := .type "enumerate", data := .fields #[.none, .bool false, .ref s.heap.objs.size, rawInt 0, .none, .none] } }) :=
  .of_wp fun prog w A R s h => by
    obtain ⟨hp, g, d, tk, os⟩ := s; obtain ⟨hl, h⟩ := h
    have hsub := sub_enumerate
    have hL : Heap.IsTuple (Shared.heap ⟨hp, g, d, tk, os⟩) l items := ⟨_, hl, rfl, n, rfl⟩
    wp_walk using wpAny_loadPart' hl
    refine wpAny_stack_any fun st => wpAny_pure ?_
    split
    · rename_i c _ _ _ _ _
      cases (c == Value.type "enumerate")
      · wp_walk using wpAny_loadPart' hl, wpAny_pyIter_tuple hL
        exact ⟨_, rfl, h⟩
      · wp_walk using wpAny_loadPart' hl, wpAny_pyIter_tuple hL
        exact ⟨_, rfl, h⟩
    · wp_walk using wpAny_loadPart' hl, wpAny_pyIter_tuple hL
      exact ⟨_, rfl, h⟩
section
variable {prog : Program} {w : World} {A : Around} {E : Value → Shared → Prop} {s : Shared}
theorem call_enumerate_tuple {l : Addr} {items : Array Value} {Q : Value → Shared → Prop} (hL : s.heap.IsTuple l items)
    (h : ∀ h', IsEnum h' (s.heap.objs.size + 1) s.heap.objs.size 0 .none → h'.IsTupleIter s.heap.objs.size l 0 → h'.objs.size = s.heap.objs.size + 2 →
      (∀ b o, s.heap.get? b = some o → h'.get? b = some o) → Q (.ref (s.heap.objs.size + 1)) { s with heap := h' }) :
    wpAny (model prog w) A (call (.type "enumerate") [.ref l]) Q E s := by
  obtain ⟨⟨c, dct, dt, sl⟩, hl, hc, n, hd⟩ := hL
  replace hc : c = .type "tuple" := hc
  replace hd : dt = .seq items n := hd
  subst hc hd
  refine callType_new F.called_enumerate (by decide) (F.typeCall_enumerate_1 _) (F.newCall_enumerate_1 _) (fun obj => F.args_object_init_2 obj _) F.entry_enumerate_new
    (meets_enumerate_newT l items n dct sl) ⟨hl, ?_⟩
  have hz : (s.heap.push { cls := .type "tuple_iterator", data := .fields #[.ref l, .int 0 0] }).objs.size = s.heap.objs.size + 1 := Heap.size_push ..
  show _ ∧ _
  rw [hz]
  have he : IsEnum ((s.heap.push { cls := .type "tuple_iterator", data := .fields #[.ref l, .int 0 0] }).push
      { cls := .type "enumerate", data := .fields #[.none, .bool false, .ref s.heap.objs.size, rawInt 0, .none, .none] }) (s.heap.objs.size + 1) s.heap.objs.size 0 .none := by
    have := Heap.get?_push_size (s.heap.push { cls := .type "tuple_iterator", data := .fields #[.ref l, .int 0 0] })
      (o := { cls := .type "enumerate", data := .fields #[.none, .bool false, .ref s.heap.objs.size, rawInt 0, .none, .none] }) rfl
    rw [hz] at this; exact this
  refine ⟨⟨_, he, rfl⟩, h _ he ⟨_, Heap.get?_push_of_some _ (Heap.get?_push_size _ rfl), rfl, rfl⟩ (by rw [Heap.size_push, hz]) fun b o x => Heap.get?_push_of_some _ (Heap.get?_push_of_some _ x)⟩
theorem nextOf_tuple_item {it t : Addr} {i : Nat} {items} {x : Value} {Q : Value → Shared → Prop} (hit : s.heap.IsTupleIter it t i)
    (ht : s.heap.IsTuple t items) (hx : items[i]? = some x)
    (hQ : ∀ h', h'.IsTupleIter it t (i + 1) → Heap.SameBut it s.heap h' → Q x { s with heap := h' }) :
    wpAny (model prog w) A (Builtin.SmallTypes.nextOf (.ref it)) Q E s := by
  obtain ⟨o, ho, hc, hd⟩ := id hit
  obtain ⟨ol, hol, _, nl, hdl⟩ := ht
  unfold Builtin.SmallTypes.nextOf
  refine wpAny_bind (wpAny_callSpecial?_slot (name := Str.ofString "__next__") hit.typeIs F.slot_tuple_iterator_next
    (wpAny_call_entry F.slot_tuple_iterator_next hit.typeIs F.entry_tuple_iterator_next ?_ (F.args_tuple_iterator_next_1 _)))
  show wpAny _ _ (field (.ref it) 0 >>= _) _ _ s
  refine wpAny_bind (wpAny_field ho hd (x := .ref t) rfl ?_)
  show wpAny _ _ (if (Value.ref t == Value.none) = true then _ else _) _ _ s
  rw [if_neg (show ¬ ((Value.ref t == Value.none) = true) from Bool.false_ne_true)]
  show wpAny _ _ (field (.ref it) 1 >>= _) _ _ s
  refine wpAny_bind (wpAny_field ho hd (x := .int i 0) rfl ?_)
  show wpAny _ _ (seqItems? (.ref t) >>= _) _ _ s
  refine wpAny_bind (wpAny_seqItems hol hdl ?_)
  simp only [Int.toNat_natCast, hx]
  refine wpAny_bind (wpAny_setField ho hd (by simp) (wpAny_pure ⟨x, rfl, wpAny_pure (hQ _ ?_ (Heap.SameBut.update ..))⟩))
  exact ⟨_, Heap.get?_update_self _ ho (Obj.isFreed_of_fields (Obj.data_mapFields hd _)), (Obj.cls_mapFields ..).trans hc, by
    rw [Obj.data_mapFields hd]; simp [rawInt]⟩
theorem nextOf_tuple_end {it t : Addr} {i : Nat} {items} {Q : Value → Shared → Prop} (hh : A.handled = none)
    (hit : s.heap.IsTupleIter it t i) (ht : s.heap.IsTuple t items) (hx : items[i]? = none)
    (hE : ∀ h' e, Heap.ExtBut it s.heap h' → (∃ o, h'.get? e = some o ∧ o.cls = .type "StopIteration") → E (.ref e) { s with heap := h' }) :
    wpAny (model prog w) A (Builtin.SmallTypes.nextOf (.ref it)) Q E s := by
  obtain ⟨o, ho, hc, hd⟩ := id hit
  obtain ⟨ol, hol, _, nl, hdl⟩ := ht
  unfold Builtin.SmallTypes.nextOf
  refine wpAny_bind (wpAny_callSpecial?_slot (name := Str.ofString "__next__") hit.typeIs F.slot_tuple_iterator_next
    (wpAny_call_entry F.slot_tuple_iterator_next hit.typeIs F.entry_tuple_iterator_next ?_ (F.args_tuple_iterator_next_1 _)))
  show wpAny _ _ (field (.ref it) 0 >>= _) _ _ s
  refine wpAny_bind (wpAny_field ho hd (x := .ref t) rfl ?_)
  show wpAny _ _ (if (Value.ref t == Value.none) = true then _ else _) _ _ s
  rw [if_neg (show ¬ ((Value.ref t == Value.none) = true) from Bool.false_ne_true)]
  show wpAny _ _ (field (.ref it) 1 >>= _) _ _ s
  refine wpAny_bind (wpAny_field ho hd (x := .int i 0) rfl ?_)
  show wpAny _ _ (seqItems? (.ref t) >>= _) _ _ s
  refine wpAny_bind (wpAny_seqItems hol hdl ?_)
  simp only [Int.toNat_natCast, hx]
  refine wpAny_bind (wpAny_rule (wpAny_bind (wpAny_setField ho hd (by simp) ?_)))
  show wpAny _ _ (newExc (.type "StopIteration") [] >>= _) _ _ _
  refine wpAny_bind ?_
  simp only [newExc, newTuple]
  refine wpAny_bind (wpAny_newObj_type ?_ (by size_fits))
  refine wpAny_bind (m := firstArgMember _ _) (wpAny_of_eq (a := Value.none) (by first | rfl | (simp only [firstArgMember]; rfl)) ?_)
  refine wpAny_newObj_type ?_ (by size_fits)
  simp only [raiseNew]
  refine wpAny_bind (wpAny_handled ?_)
  first | rw [show A.in1.handled = none from hh] | rw [hh]
  refine wpAny_bind (wpAny_pure (wpAny_throw ?_))
  exact hE _ _ (((Heap.SameBut.update ..).extBut.push _).push _) ⟨_, Heap.get?_push_size _ rfl, rfl⟩
end
theorem draws_tuple {prog : Program} {w : World} {A : Around} (hh : A.handled = none) (it l : Addr) (hne : l ≠ it) (items : Array Value) :
    Draws prog w A it [it, l] items.size (fun i v => items[i]? = some v) (fun i h => h.IsTupleIter it l i ∧ h.IsTuple l items) where
  live := fun _ _ st => let ⟨o, ho, _⟩ := st.1; ⟨o, ho⟩
  frame := fun _ _ _ st hk => ⟨st.1.at fun o e => hk it (by simp) o e, st.2.at fun o e => hk l (by simp) o e⟩
  item := fun i s Q E hi st hQ => by
    refine nextOf_tuple_item st.1 st.2 (x := items[i]) (by simp [hi]) fun h' hit' hs' => ?_
    exact hQ _ h' s.toks (by simp [hi]) ⟨hit', st.2.extBut hs'.extBut hne⟩ hs'
  done := fun s Q E st hE => nextOf_tuple_end hh st.1 st.2 (by simp) hE
section
variable {c : Cx} {l : Loc} {Q : Fl → Loc → Prop}
noncomputable def enumFrom : Nat → List D → List D
  | _, [] => []
  | n, d :: ds => .tup [.int n, d] :: enumFrom (n + 1) ds
theorem enumFrom_len : ∀ (n : Nat) (ds : List D), (enumFrom n ds).length = ds.length
  | _, [] => rfl
  | n, _ :: ds => by simp only [enumFrom, List.length_cons, enumFrom_len (n + 1) ds]
theorem enumFrom_get : ∀ (n : Nat) (ds : List D) (i : Nat) (d : D), (enumFrom n ds)[i]? = some d → ∃ e, ds[i]? = some e ∧ d = .tup [.int ((n + i : Nat) : Int), e]
  | _, [], i, d, h => by simp [enumFrom] at h
  | n, e :: ds, 0, d, h => by
    simp only [enumFrom, List.getElem?_cons_zero, Option.some.injEq] at h
    exact ⟨e, rfl, h.symm⟩
  | n, e :: ds, i + 1, d, h => by
    simp only [enumFrom, List.getElem?_cons_succ] at h
    obtain ⟨e', h1, h2⟩ := enumFrom_get (n + 1) ds i d h
    exact ⟨e', by simpa using h1, by rw [h2]; congr 4; omega⟩
theorem it_enum {x : Str} {px pos tpos : Pos} {e : Expr} {ds : List D} {elts : List Expr} {k : Nat} (hf : EV c l (.Name x px) (.val (.type "enumerate"))) (h : EV c l e (.tup ds))
    (he : ∀ env, starEach [e] env = (false, eval e env) :: starEach [] env := by intro _; rfl) (hp : ∀ env, (backTo pos (starEach [] env)).any (·.1) = false := by intro _; rfl) :
    ITER c l (.Tuple elts k tpos) (.Call (.Name x px) [e] [] pos) (enumFrom 0 ds) := by
  intro av own s i Q E hQ
  refine Call_ (hf av own s i _ _ fun v s₁ k₁ r₁ => ?_)
  simp only [Rel] at r₁
  subst r₁
  have i₁ := i.keeps k₁
  refine PyProof.Rows.callWith_type1 (spliced_more (h av own s₁ i₁ _ _ fun v s₂ k₂ r₂ => spliced_none ?_) (he _)) (he _) (hp _)
  have i₂ := i₁.keeps k₂
  have hn := i₂.notOwn
  simp only [Rel] at r₂
  obtain ⟨a, vs, rfl, hm, hl, hr⟩ := r₂
  have hl' : s₂.heap.IsTuple a vs.toArray := hl
  have hlt : a < s₂.heap.objs.size := by obtain ⟨o, ho, _⟩ := hl; exact Heap.lt_size ho
  refine call_enumerate_tuple hl' fun h' he' hit hsz hk => wpAny_pyIter_enum he' ?_
  have W := (WalksT.enumerateD (draws_tuple (prog := c.prog) (w := c.w) (A := c.A.in1) rfl s₂.heap.objs.size a (Nat.ne_of_lt hlt) vs.toArray) (s₂.heap.objs.size + 1) (Nat.succ_ne_self _)
    (fun q => (List.mem_cons.mp q).elim (Nat.succ_ne_self _) fun q => absurd hlt (by rw [← List.mem_singleton.mp q]; exact Nat.not_lt.mpr (Nat.le_succ _))) (List.mem_cons_self ..)).toU
  rw [show vs.toArray.size = (enumFrom 0 ds).length from (List.size_toArray ..).trans (hr.length.trans (enumFrom_len ..).symm)] at W
  have dead1 : s₂.heap.get? (s₂.heap.objs.size + 1) = none := by
    cases e : s₂.heap.get? (s₂.heap.objs.size + 1) with
    | none => rfl
    | some o => exact absurd (Heap.lt_size e) (Nat.not_lt.mpr (Nat.le_succ _))
  refine hQ s₂ _ _ _ _ _ _ _ (kp_trans k₁ k₂) ⟨h', s₂.toks, rfl, hk⟩ (KTurns.ofWalksU (elts := elts) (k := k) (pos := tpos) W) ⟨⟨_, he'⟩, hit, hl'.at fun o e => hk _ o e⟩ (fun b hb => ?_) (fun b hb => ?_) (fun j h st b hb => ?_) (fun j v h d p e => ?_)
  · rcases List.mem_cons.mp hb with rfl | hb
    · refine ⟨fun q => ?_, by rw [show ({ s₂ with heap := h' } : Shared).heap.get? (s₂.heap.objs.size + 1) = some _ from he']; rfl⟩
      have := i₂.alive _ q
      rw [dead1] at this; cases this
    · rcases List.mem_cons.mp hb with rfl | hb
      · obtain ⟨o, ho, _⟩ := hit
        exact ⟨hn, by rw [show ({ s₂ with heap := h' } : Shared).heap.get? _ = some o from ho]; rfl⟩
      · rw [List.mem_singleton.mp hb]
        obtain ⟨o, ho, _⟩ := hl
        exact ⟨hm, by rw [show ({ s₂ with heap := h' } : Shared).heap.get? _ = some o from hk _ _ ho]; rfl⟩
  · rcases List.mem_cons.mp hb with rfl | hb
    · exact dead1
    · rw [List.mem_singleton.mp hb]; exact dead_size _
  · obtain ⟨⟨old, h1⟩, ⟨o, h2, _⟩, ⟨o', h3, _⟩⟩ := st
    rcases List.mem_cons.mp hb with rfl | hb
    · rw [show h.get? _ = some _ from h1]; rfl
    · rcases List.mem_cons.mp hb with rfl | hb
      · rw [h2]; rfl
      · rw [List.mem_singleton.mp hb, h3]; rfl
  · obtain ⟨T, vals, rfl, ⟨t, x, hx, rfl⟩, hT⟩ := p
    obtain ⟨e', h1, rfl⟩ := enumFrom_get 0 ds j d e
    obtain ⟨w, hw, r⟩ := hr.get h1
    have : some w = some x := by rw [← hw]; simpa using hx
    cases this
    refine .inr ⟨T, [.int j t, x], [.int ((0 + j : Nat) : Int), e'], rfl, rfl, hT, ?_⟩
    simp only [RelL, Rel, Nat.zero_add]
    exact ⟨_, _, rfl, ⟨t, rfl⟩, _, _, rfl, r, rfl⟩
end
end Mine
end
section
open PySem PySem.W PySem.Spec PySem.Calls PyProof.Rows
set_option Elab.async false
set_option linter.unusedVariables false
set_option maxRecDepth 100000
namespace Mine
section
variable {c : Cx} {l : Loc} {Q : Fl → Loc → Prop}
end
end Mine
end
section
open PySem PySem.W PySem.Spec PySem.Calls PyProof.Rows
set_option Elab.async false
set_option linter.unusedVariables false
set_option maxRecDepth 100000
namespace Mine
theorem bindL_other {k : Str → Option NameKind} {x : Str} : ∀ {b : List (Str × Value)} {m : Str → Option Value}, (∀ q ∈ b, q.1 ≠ x) → bindL k b m x = m x
  | [], _, _ => rfl
  | (n, v) :: r, m, h => by
    unfold bindL
    rw [bindL_other fun q hq => h q (.tail _ hq)]
    split
    · exact if_neg fun e => h (n, v) (.head _) e.symm
    · rfl
theorem bindC_other {k : Str → Option NameKind} {x : Str} : ∀ {b : List (Str × Value)} {m : Str → Option Value}, (∀ q ∈ b, q.1 ≠ x) → bindC k b m x = m x
  | [], _, _ => rfl
  | (n, v) :: r, m, h => by
    unfold bindC
    rw [bindC_other fun q hq => h q (.tail _ hq)]
    split
    · rfl
    · exact if_neg fun e => h (n, v) (.head _) e.symm
theorem zip_vals {k : Str → Option NameKind} {mu : List Addr} {h : Heap} : ∀ {names : List Str} {args : List D} {vs : List Value} {m cm : Str → Option Value}, RelL mu h args vs → FrozL args → names.length = args.length → names.Nodup → ∀ x d, get (names.zip args) x = some d →
    x ∈ names ∧ ∃ v, Rel mu h d v ∧ Froz d ∧ (k x = some .local → bindL k (names.zip vs) m x = some v) ∧ (k x ≠ some .local → bindC k (names.zip vs) cm x = some v)
  | [], args, vs, m, cm, _, _, _, _, x, d, e => by simp [get] at e
  | n :: ns, args, vs, m, cm, r, fz, hl, hnd, x, d, e => by
    cases args with
    | nil => simp at hl
    | cons a as =>
      simp only [RelL] at r
      obtain ⟨v, vs', rfl, r1, r2⟩ := r
      simp only [FrozL] at fz
      simp only [List.zip_cons_cons, get] at e
      have nd := List.nodup_cons.mp hnd
      by_cases hx : x = n
      · subst hx
        rw [if_pos rfl] at e
        cases e
        have off : ∀ q ∈ ns.zip vs', q.1 ≠ x := fun q hq z => nd.1 (z ▸ (List.of_mem_zip hq).1)
        refine ⟨.head _, v, r1, fz.1, fun hk => ?_, fun hk => ?_⟩
        · rw [List.zip_cons_cons]; unfold bindL
          rw [bindL_other off, if_pos hk]; exact if_pos rfl
        · rw [List.zip_cons_cons]; unfold bindC
          rw [bindC_other off, if_neg hk]; exact if_pos rfl
      · rw [if_neg hx] at e
        obtain ⟨h1, v', h2, h3, h4, h5⟩ := zip_vals (k := k) (m := if k n = some .local then fun y => if y = n then some v else m y else m) (cm := if k n = some .local then cm else fun y => if y = n then some v else cm y) r2 fz.2 (by simpa using hl) nd.2 x d e
        exact ⟨.tail _ h1, v', h2, h3, h4, h5⟩
theorem startC {prog : Program} {w : World} {K : Frag} {p : Program} {loose : List Str} {mean : ExcName → Option Value} {mg mb : Str → Option Value} {dp un lv : Nat} {gd : Option (List Code)} {outer : List Env} {base g : Heap} {s s₁ : Shared} {av : List Addr}
    {qual : Str} {scope : Scope} {f : Addr} {cdv : Value} {names : List Str} {args : List D} {vs : List Value}
    (hD : dp + 1 + lv < recursionLimit) (hU : un + 3 + 20 * lv + 60 < cLine) (hgs : ∀ b o, g.get? b = some o → s.heap.get? b = some o) (hsz : g.objs.size = s.heap.objs.size) (B : Below (aTop dp un gd outer) base outer g) (X : K.In g) (T : Top p loose mean mg mb g) (hav : ∀ a ∈ av, (s.heap.get? a).isSome = true ∧ K.lookup a = none)
    (r : RelL av s.heap args vs) (fz : FrozL args) (hk : scope.kind = .function) (hloc : ∀ x ∈ names, scope.names.lookup x = some .local ∨ (scope.names.lookup x = some .cell ∧ ((cellsFrom (s.heap.objs.size + 1) scope.names []).lookup x).isSome = true)) (hlen : names.length = args.length) (hnd : names.Nodup)
    (hcn : ((cellsFrom 0 scope.names []).map (·.1)).Nodup)
    (hx : InCallC s s.heap.objs.size (bindL (envOfC qual scope s.heap.objs.size f cdv).kindOf (names.zip vs) fun _ => none) (cellsFrom (s.heap.objs.size + 1) scope.names []) (bindC (envOfC qual scope s.heap.objs.size f cdv).kindOf (names.zip vs) fun _ => none) s₁) :
    Inv ⟨prog, w, K, p, loose, mean, mg, mb, dp, un, lv, gd, outer, base, g, s.heap.objs.size, envOfC qual scope s.heap.objs.size f cdv, envOfC qual scope s.heap.objs.size f cdv⟩ av (s.heap.objs.size :: (cellsFrom (s.heap.objs.size + 1) scope.names []).map (·.2)) (names.zip args) s₁ := by
  have dead : s.heap.get? s.heap.objs.size = none := dead_size _
  have dead' : ∀ a, s.heap.objs.size < a → s.heap.get? a = none := fun a h => Heap.get?_none_of_le (Nat.le_of_lt h)
  have gone : ∀ a, s.heap.get? a = none → g.get? a = none := fun a h => by
    cases e : g.get? a with
    | none => rfl
    | some o => rw [hgs a o e] at h; cases h
  have k := hx.toInCall.keep
  have hn := hx.toInCall.ns
  have nd : ((cellsFrom (s.heap.objs.size + 1) scope.names []).map (·.1)).Nodup := by
    rw [cellsFrom_names scope.names (s.heap.objs.size + 1) 0 [] [] rfl]; exact hcn
  have cellMem : ∀ a ∈ (cellsFrom (s.heap.objs.size + 1) scope.names []).map (·.2), s.heap.objs.size < a ∧ (s₁.heap.get? a).isSome = true := fun a ha => by
    obtain ⟨⟨n, c⟩, hq, rfl⟩ := List.mem_map.mp ha
    obtain ⟨o, ho, _⟩ := hx.cell n c (lookup_of_mem_nodup nd hq)
    exact ⟨hx.above n c hq, by show (s₁.heap.get? c).isSome = true; rw [ho]; rfl⟩
  have live₁ : (s₁.heap.get? s.heap.objs.size).isSome = true := by obtain ⟨o, _, _, ho, _⟩ := hn; rw [ho]; rfl
  refine ⟨⟨B, T, X, hk, hk, rfl, rfl, rfl, hD, hU⟩, fun a ha => ?_, ⟨_, ⟨hn, fun b o e => k b o (hgs b o e), Nat.le_of_eq hsz⟩⟩, fun a ha => ?_, ⟨.head _, _, hn⟩, fun x a h1 h2 => ?_, fun x y a h1 h2 => ?_, fun x a h1 => ?_, fun q => ?_, fun x d e => ?_, fun x y dx dy a h1 _ _ _ => ?_⟩
  · obtain ⟨o, ho⟩ := Option.isSome_iff_exists.mp (hav a ha).1
    refine ⟨by rw [k a o ho]; rfl, (hav a ha).2, fun q => ?_⟩
    rcases List.mem_cons.mp q with q | q
    · rw [q, dead] at ho; cases ho
    · rw [dead' a (cellMem a q).1] at ho; cases ho
  · rcases List.mem_cons.mp ha with q | q
    · subst q; exact ⟨gone _ dead, live₁⟩
    · exact ⟨gone _ (dead' a (cellMem a q).1), (cellMem a q).2⟩
  · have hm := mem_of_lookup h2
    exact ⟨.tail _ (List.mem_map.mpr ⟨_, hm, rfl⟩), _, hx.cell x a h2⟩
  · exact name_of_addr hx.apart (mem_of_lookup h1) (mem_of_lookup h2)
  · have hm : a ∈ (cellsFrom (s.heap.objs.size + 1) scope.names []).map (·.2) := List.mem_map.mpr ⟨(x, a), mem_of_lookup h1, rfl⟩
    refine ⟨(cellMem a hm).2, fun z => ?_⟩
    have := (hav a z).1
    rw [dead' a (cellMem a hm).1] at this; cases this
  · have := (hav _ q).1
    rw [dead] at this; cases this
  · obtain ⟨h1, v, h2, h3, h4, h5⟩ := zip_vals (k := (envOfC qual scope s.heap.objs.size f cdv).kindOf) (m := fun _ => none) (cm := fun _ => none) r fz hlen hnd x d e
    have hr : Rel (s.heap.objs.size :: (cellsFrom (s.heap.objs.size + 1) scope.names []).map (·.2) ++ av) s₁.heap d v := by
      refine Rel.kept k (Rel.sub (fun a ha => ?_) h2)
      rcases List.mem_append.mp ha with q | q
      · rcases List.mem_cons.mp q with q | q
        · exact .inr (q ▸ dead)
        · exact .inr (dead' a (cellMem a q).1)
      · exact .inl q
    refine ⟨v, ?_, hr, by cases d <;> first | exact h3 | (simp only [Froz] at h3)⟩
    rcases hloc x h1 with q | ⟨q, hc⟩
    · exact .inl ⟨q, _, hn, h4 q⟩
    · obtain ⟨a, ha⟩ := Option.isSome_iff_exists.mp hc
      refine .inr ⟨.inl q, a, ha, ?_⟩
      rw [← h5 (fun z => by rw [show (envOfC qual scope s.heap.objs.size f cdv).kindOf x = some .cell from q] at z; cases z)]
      exact hx.cell x a ha
  · obtain ⟨_, v, _, h3, _⟩ := zip_vals (k := (envOfC qual scope s.heap.objs.size f cdv).kindOf) (m := fun _ => none) (cm := fun _ => none) r fz hlen hnd x _ h1
    simp only [Froz] at h3
noncomputable def CALLK (prog : Program) (w : World) (K : Frag) (lv : Nat) (f : Addr) (args : List D) (kn : List Str) (kd : List D) (d : D) : Prop :=
  ∀ dp un gd outer base (s : Shared) p loose mean mg mb av vs ks (Q E : Value → Shared → Prop), dp + 1 + lv < recursionLimit → un + 3 + 20 * lv + 60 < cLine → Below (aTop dp un gd outer) base outer s.heap → K.In s.heap → Top p loose mean mg mb s.heap →
    (∀ a ∈ av, (s.heap.get? a).isSome = true ∧ K.lookup a = none) → RelL av s.heap args vs → RelL av s.heap kd ks → (∀ v s', Keeps s s' → Rel av s'.heap d v → Q v s') → wpAny (model prog w) (aTop dp un gd outer) (call (.ref f) vs (kn.zip ks)) Q E s
theorem call_ofK {prog : Program} {w : World} {K : Frag} {lv : Nat} {f : Addr} {args : List D} {kn : List Str} {kd : List D} {d : D} {names : List Str} {name qual : Str} {params : Arguments} {body : List Stmt} {scope : Scope} {dV kV doc pm cdv ct oc : Value} {an od : Option Addr} {osl : Array (Option Value)}
    (ho : K.lookup f = some ⟨oc, od, .func (fnOf name qual params body scope dV kV doc pm an cdv ct), osl⟩) (hcd : codeIn K cdv qual = true)
    (hbind : ∀ (s : Shared) (vs ks : List Value), s.heap.NoLimit → K.In s.heap → vs.length = args.length → ks.length = kd.length → BindsTo s (fnOf name qual params body scope dV kV doc pm an cdv ct) ⟨vs, kn.zip ks⟩ (names.zip (vs ++ ks)))
    (hloc : ∀ x ∈ names, scope.names.lookup x = some .local ∨ scope.names.lookup x = some .cell) (hlen : names.length = args.length + kd.length) (hnd : names.Nodup) (fz : FrozL args) (fk : FrozL kd)
    (hco : scope.isCoroutine = false) (hgen : scope.isGenerator = false) (hk : scope.kind = .function) (hcn : ((cellsFrom 0 scope.names []).map (·.1)).Nodup)
    (h : ∀ c : Cx, c.prog = prog → c.w = w → c.K = K → c.lv = lv → c.env.scope = scope → c.env.locals = c.L → c.env.cells = cellsFrom (c.L + 1) scope.names [] → ST c (names.zip (args ++ kd)) (execs body c.env) (fun fl _ => match fl with | .ret r => r = d | .next => d = .none | _ => False)) :
    CALLK prog w K lv f args kn kd d := by
  intro dp un gd outer base s p loose mean mg mb av vs ks Q E hD hU B X T hav r rk hQ
  refine wpAny_call ?_
  refine codeAny_call_function (Nat.lt_of_le_of_lt (by show dp ≤ dp + 1 + lv; omega) hD) (X _ _ ho) rfl hco hgen rfl (codeRec_of X hcd) (hbind s vs ks T.nolimit X r.length rk.length _ _ _ _ ?_)
  have hkind : ∀ x ∈ names, scope.names.lookup x = some .local ∨ (scope.names.lookup x = some .cell ∧ ((cellsFrom (s.heap.objs.size + 1) scope.names []).lookup x).isSome = true) := fun x hx => (hloc x hx).imp id fun q => ⟨q, cellsFrom_some scope.names _ [] (.inl q)⟩
  refine wpAny_newFunctionEnv_cells hk (fun x hx => hkind x.1 (List.of_mem_zip (show (x.1, x.2) ∈ names.zip (vs ++ ks) from hx)).1) fun env' he s' x => ?_
  subst he
  refine ⟨T.nolimit.keeps x.toInCall.keep, codeAny_func ?_⟩
  have i := startC (prog := prog) (w := w) (lv := lv) (qual := qual) (f := f) (cdv := cdv) hD hU (fun _ _ e => e) rfl B X T hav (RelL.append r rk) (FrozL.append fz fk) hk hkind (by rw [hlen, List.length_append]) hnd hcn x
  refine h _ rfl rfl rfl rfl rfl rfl rfl av _ _ i _ _ fun fl fw l' own' s'' q rf st i' => ?_
  obtain ⟨h', tk', e'⟩ := st.same
  obtain ⟨h₁, tk₁, e₁⟩ := x.toInCall.same
  have es : s'' = { s with heap := s''.heap, toks := s''.toks } := by rw [e', e₁]
  have kp : Keeps s s'' := ⟨s''.heap, s''.toks, es, fun b o e => by obtain ⟨m, F⟩ := i'.fr; exact F.keep b o e⟩
  cases fl with
  | next =>
    simp only [RelF] at rf
    subst rf
    subst q
    exact hQ _ _ kp (by simp only [Rel])
  | brk => exact q.elim
  | cont => exact q.elim
  | ret e =>
    simp only [RelF] at rf
    obtain ⟨v, rfl, rv, _⟩ := rf
    subst q
    exact hQ _ _ kp (Rel.sub (fun a ha => .inl (List.mem_append_right _ ha)) rv)
section
variable {c : Cx} {l : Loc} {Q : Fl → Loc → Prop}
end
end Mine
end
section
open PySem PySem.W PySem.Spec PySem.Calls PyProof.Rows
set_option Elab.async false
set_option linter.unusedVariables false
set_option maxRecDepth 100000
namespace Mine
section
variable {c : Cx} {l : Loc} {Q : Fl → Loc → Prop}
noncomputable def ORL (c : Cx) (l : Loc) (es : List Expr) (b : Bool) : Prop :=
  ∀ av own s, Inv c av own l s → ∀ (Q : Bool → Shared → Prop) (E : Value → Shared → Prop), (∀ s', Keeps s s' → Q b s') → wpAny c.M c.A (allTrue .Or es c.env) Q E s
theorem orl_true {e : Expr} {es : List Expr} {b : Bool} (h : TR c l e b) (hb : b = true) : ORL c l (e :: es) true := by
  subst hb
  intro av own s i Q E hQ
  exact wpAny_allTrue_Or_cons (h av own s i _ _ fun s' k => hQ s' k)
theorem orl_false {e : Expr} {es : List Expr} {b r : Bool} (h : TR c l e b) (hb : b = false) (hr : ORL c l es r) : ORL c l (e :: es) r := by
  subst hb
  intro av own s i Q E hQ
  refine wpAny_allTrue_Or_cons (h av own s i _ _ fun s₁ k₁ => ?_)
  exact hr av own s₁ (i.keeps k₁) _ _ fun s' k => hQ s' (kp_trans k₁ k)
theorem tr_orl {es : List Expr} {pos : Pos} {b : Bool} (h : ORL c l es b) : TR c l (.BoolOp .Or es pos) b := fun av own s i Q E hQ => wpAny_isTrue_BoolOp (h av own s i _ _ hQ)
theorem ev_smeth {o : Expr} {name : Str} {apos pos : Pos} {e : Expr} {es : List Expr} {id T : String} {d : D} {args : List D} {K : Frag} (e3 : c.K = K) (h₀ : EV c l o (.val (.type T))) (ht : typeOf (.type T) = pure (.type "type")) (hs : Manifest.isStub T = false)
    (hf : findCls K (.type T) (.type "type") name = some (.val (.builtin id))) (hh : handedIn (.builtin id) = true) (ha : EVL c l (e :: es) args) (h : BCALL c (.builtin id) args d)
    (hE : ∀ env, ∃ pl : Sem Bool, eval (.Call (.Attribute o name apos) (e :: es) [] pos) env = (do
      let ov ← eval o env
      standAt apos.atName
      let (f, first) ← holding [ov] (getMethod ov name pl)
      callWith pos f first (backTo pos (starEach (e :: es) env)) []) := by intro _; exact ⟨_, rfl⟩)
    (he : ∀ env, starEach (e :: es) env = (false, eval e env) :: starEach es env := by intro _; rfl) (hp : ∀ env, (backTo pos (starEach es env)).any (·.1) = false := by intro _; rfl) : EV c l (.Call (.Attribute o name apos) (e :: es) [] pos) d := by
  subst e3
  intro av own s i Q E hQ
  obtain ⟨pl, hE⟩ := hE c.env
  refine MethodCall_ (pl := pl) (h₀ av own s i _ _ fun v s₁ k₁ r₁ => ?_) hE
  simp only [Rel] at r₁
  subst r₁
  have i₁ := i.keeps k₁
  obtain ⟨m, F⟩ := i₁.fr
  refine method_type F i₁.ok.inK ht hs hf hh ?_
  have kt : Keeps s₁ { s₁ with toks := s₁.toks + 1 } := kp_tok _
  have i₂ := i₁.keeps kt
  refine callWith_builtin1 (ha av own _ i₂ pos _ _ fun vs s₂ k₂ r₂ => ?_) (he _) (hp _)
  exact h _ s₂ vs _ _ (i₂.keeps k₂).notOwn (i₂.keeps k₂).alive r₂ fun v s' k r => hQ v s' (kp_trans k₁ (kp_trans kt (kp_trans k₂ k))) r
noncomputable def transOf (frm to : List UInt8) : Array UInt8 := (frm.zip to).foldl (fun t (f, x) => t.setIfInBounds f.toNat x) ((Array.range 256).map (·.toUInt8))
noncomputable def transBy (t b : Array UInt8) : Array UInt8 := b.map fun x => t.getD x.toNat x
theorem foldl_set_size : ∀ (l : List (UInt8 × UInt8)) (t : Array UInt8), (l.foldl (fun t (f, x) => t.setIfInBounds f.toNat x) t).size = t.size
  | [], _ => rfl
  | (f, x) :: r, t => by
    rw [List.foldl_cons, foldl_set_size r]
    exact Array.size_setIfInBounds
theorem transOf_size (frm to : List UInt8) : (transOf frm to).size = 256 := by
  unfold transOf
  rw [foldl_set_size, Array.size_map, Array.size_range]
end
section
variable {prog : Program} {w : World} {A : Around} {E : Value → Shared → Prop} {s : Shared}
theorem entry_maketrans : entryFor table "bytes.maketrans" = some Builtin.«bytes.maketrans» := entryFor_of_tree (by kernel_rfl)
theorem plain_maketrans : plainId "bytes.maketrans" = true := by decide +kernel
theorem check_maketrans {a b : Array UInt8} {t u : Tok} : checkBuiltinCall "bytes.maketrans" ⟨[.bytes a t, .bytes b u], []⟩ = pure () := by first | kernel_rfl | rfl
theorem bytesLike_of {id : String} {b : Array UInt8} {t : Tok} : Builtin.Bytes.bytesLike id (.bytes b t) = pure b := by first | rfl | kernel_rfl
theorem call_static {id : String} {b : Builtin} {args : List Value} {Q : Value → Shared → Prop} (hp : plainId id = true) (hb : entryFor table id = some b) (hk : checkBuiltinCall id ⟨args, []⟩ = pure ())
    (hc : wpAny (model prog w) A.in1 (b ⟨args, []⟩) (fun fin s' => ∃ v, fin = .done (.ret v) ∧ Q v s') E s) : wpAny (model prog w) A (call (.builtin id) args) Q E s := by
  refine wpAny_call (codeAny_call_builtin hp hb ?_)
  have hfin := wpAny_mono hc (Q' := fun fin s' => match fin with
      | .done f => (match (Except.ok f : Result) with | .ok (.ret v) => Q v s' | .ok _ => False | .error e => E e s')
      | .again c' => c'.quiet = true ∧ codeAny (model prog w) A c' (fun r s' => match r with | .ok (.ret v) => Q v s' | .ok _ => False | .error e => E e s') s')
    (fun fin s' h' => by obtain ⟨v, rfl, hv⟩ := h'; exact hv) fun _ _ h' => h'
  rw [hk]
  exact wpAny_pure hfin
end
section
variable {c : Cx} {l : Loc} {Q : Fl → Loc → Prop}
theorem k_maketrans {a b : Array UInt8} (hs : a.size = b.size) : BCALL c (.builtin "bytes.maketrans") [.bytes a, .bytes b] (.bytes (transOf a.toList b.toList)) := by
  intro mu s vs Q E hn ha r hQ
  simp only [RelL, Rel] at r
  obtain ⟨_, _, rfl, ⟨t, rfl⟩, _, _, rfl, ⟨u, rfl⟩, rfl⟩ := r
  refine call_static plain_maketrans entry_maketrans check_maketrans ?_
  unfold Builtin.«bytes.maketrans» Builtin.Bytes.maketransM
  refine wpAny_bind (wpAny_of_eq (a := ()) (by first | rfl | kernel_rfl) ?_)
  refine wpAny_bind (wpAny_of_eq (a := ()) (by first | rfl | kernel_rfl) ?_)
  refine wpAny_bind (wpAny_of_eq (a := a) bytesLike_of ?_)
  refine wpAny_bind (wpAny_of_eq (a := b) bytesLike_of ?_)
  dsimp only
  rw [if_neg (by simp [hs])]
  refine wpAny_bind (wpAny_mkBytes (wpAny_pure ⟨_, rfl, hQ _ _ (kp_tok _) ?_⟩) ?_)
  · simp only [Rel]; exact ⟨_, rfl⟩
  · show (transOf a.toList b.toList).size ≤ sizeLine
    rw [transOf_size]; decide
end
theorem slot_bytes_translate : PySem.Slot "bytes" "translate" "bytes.translate" :=
  .of (owner := "bytes") (n := "translate") (by rw [typeLookup_type, builtinLookup_eq_fast]; kernel_rfl) (by decide +kernel) (by decide +kernel) (by decide +kernel)
    (by first | exact .inl (by decide +kernel) | exact .inr (by decide +kernel)) (by rw [isSubtype_type]; kernel_rfl)
theorem type_bytes_translate : typeOf (.builtin "bytes.translate") = pure (.type "method_descriptor") := by show builtinType _ = _; rw [builtinType_eq_fast]; kernel_rfl
theorem entry_bytes_translate : entryFor table "bytes.translate" = some Builtin.«bytes.translate» := entryFor_of_tree (by kernel_rfl)
theorem args_bytes_translate_2 (a b : Value) : argsOk "bytes.translate" ⟨[a, b], []⟩ := by
  unfold argsOk; rw [signature?_of (id := "bytes.translate") (n := ['e', 't', 'a', 'l', 's', 'n', 'a', 'r', 't']) (o := ['s', 'e', 't', 'y', 'b']) (by kernel_rfl) FB.owner_bytes]; kernel_rfl
section
variable {c : Cx} {l : Loc} {Q : Fl → Loc → Prop}
theorem m_translate {b : Array UInt8} : METH c (.bytes b) "translate" "bytes.translate" := by
  intro mu s v pl Q E r q
  simp only [Rel] at r
  obtain ⟨t, rfl⟩ := r
  with_reducible exact KBd.method_of (.bytes b t) (typeIs_bytes _ _ _) slot_bytes_translate type_bytes_translate KBd.noRef q
theorem k_translate {t b : Array UInt8} (ht : t.size = 256) (hb : b.size ≤ 100000) : BCALL c (.builtin "bytes.translate") [.bytes b, .bytes t] (.bytes (transBy t b)) := by
  intro mu s vs Q E hn ha r hQ
  simp only [RelL, Rel] at r
  obtain ⟨_, _, rfl, ⟨tb, rfl⟩, _, _, rfl, ⟨tt, rfl⟩, rfl⟩ := r
  refine wpAny_call (codeAny_call_builtin slot_bytes_translate.plain entry_bytes_translate (slot_bytes_translate.check _ _ _ _ _ _ _ _ (typeIs_bytes _ _ _) (args_bytes_translate_2 _ _) ?_))
  unfold Builtin.«bytes.translate» Builtin.Bytes.translateM
  dsimp only
  rw [if_neg (by simp), if_neg (by simp), if_neg (by simp)]
  refine wpAny_bind (wpAny_of_eq (a := t) bytesLike_of ?_)
  rw [if_neg (by simp [ht])]
  refine wpAny_bind (wpAny_pure ?_)
  show wpAny _ _ (pure #[] >>= fun delete => Builtin.Bytes.payload (Value.bytes b tb) >>= fun b₁ => _) _ _ _
  refine wpAny_bind (wpAny_pure ?_)
  refine wpAny_bind (wpAny_of_eq (a := b) (by first | rfl | kernel_rfl) ?_)
  have e : (Array.map (fun c => match some t with | some t => t.getD c.toNat c | none => c) (Array.filter (fun x => !(#[] : Array UInt8).contains x) b)) = transBy t b := by
    unfold transBy
    rw [show Array.filter (fun x => !(#[] : Array UInt8).contains x) b = b from by simp]
  rw [e]
  by_cases hq : (transBy t b == b) = true
  · rw [if_pos hq]
    refine wpAny_bind (wpAny_rule ?_)
    refine wpAny_bind (wpAny_of_eq (a := .bytes b tb) (by first | rfl | kernel_rfl) (wpAny_pure ?_))
    have q : transBy t b = b := eq_of_beq hq
    exact hQ _ _ kp_rfl (by rw [q]; simp only [Rel]; exact ⟨_, rfl⟩)
  · rw [if_neg hq]
    refine wpAny_bind ?_
    show wpAny _ _ (mkBytes (transBy t b)) _ _ _
    refine wpAny_mkBytes (wpAny_pure (hQ _ _ (kp_tok _) ?_)) ?_
    · simp only [Rel]; exact ⟨_, rfl⟩
    · unfold transBy
      rw [Array.size_map]
      exact Nat.le_trans hb (by decide)
theorem st_assertB {t : Expr} {msg : Option Expr} {pos : Pos} {b : Bool} (h : TR c l t b) (e : b = true) (q : Q .next l) : ST c l (exec (.Assert t msg pos) c.env) Q := st_assert (e ▸ h) q
end
theorem boot_type : bootBuiltins (Str.ofString "type") = some (.type "type") := by decide +kernel
theorem boot_bytes : bootBuiltins (Str.ofString "bytes") = some (.type "bytes") := by decide +kernel
theorem boot_bytearray : bootBuiltins (Str.ofString "bytearray") = some (.type "bytearray") := by decide +kernel
theorem boot_bool : bootBuiltins (Str.ofString "bool") = some (.type "bool") := by decide +kernel
theorem boot_int : bootBuiltins (Str.ofString "int") = some (.type "int") := by decide +kernel
theorem boot_float : bootBuiltins (Str.ofString "float") = some (.type "float") := by decide +kernel
theorem boot_complex : bootBuiltins (Str.ofString "complex") = some (.type "complex") := by decide +kernel
theorem boot_str : bootBuiltins (Str.ofString "str") = some (.type "str") := by decide +kernel
theorem boot_list : bootBuiltins (Str.ofString "list") = some (.type "list") := by decide +kernel
theorem boot_tuple : bootBuiltins (Str.ofString "tuple") = some (.type "tuple") := by decide +kernel
theorem boot_dict : bootBuiltins (Str.ofString "dict") = some (.type "dict") := by decide +kernel
theorem boot_set : bootBuiltins (Str.ofString "set") = some (.type "set") := by decide +kernel
theorem boot_frozenset : bootBuiltins (Str.ofString "frozenset") = some (.type "frozenset") := by decide +kernel
theorem boot_range : bootBuiltins (Str.ofString "range") = some (.type "range") := by decide +kernel
theorem boot_enumerate : bootBuiltins (Str.ofString "enumerate") = some (.type "enumerate") := by decide +kernel
theorem boot_len : bootBuiltins (Str.ofString "len") = some (.builtin "len") := by decide +kernel
theorem boot_isinstance : bootBuiltins (Str.ofString "isinstance") = some (.builtin "isinstance") := by decide +kernel
theorem boot_ord : bootBuiltins (Str.ofString "ord") = some (.builtin "ord") := by decide +kernel
theorem boot_chr : bootBuiltins (Str.ofString "chr") = some (.builtin "chr") := by decide +kernel
theorem boot_sum : bootBuiltins (Str.ofString "sum") = some (.builtin "sum") := by decide +kernel
theorem boot_min : bootBuiltins (Str.ofString "min") = some (.builtin "min") := by decide +kernel
end Mine
end
section
open PySem PySem.W PySem.Spec PySem.Calls PyProof.Rows
set_option Elab.async false
set_option linter.unusedVariables false
set_option maxRecDepth 100000
namespace Mine
section
variable {c : Cx} {l : Loc} {Q : Fl → Loc → Prop}
noncomputable def WB (c : Cx) (t : Expr) (body orelse : List Stmt) (Q : Fl → Loc → Prop) : Nat → Loc → Prop
  | 0, l => ∃ b, TR c l t b ∧ b = false ∧ ST c l (execs orelse c.env) Q
  | n + 1, l => ∃ b, TR c l t b ∧ (b = false → ST c l (execs orelse c.env) Q) ∧ (b = true → ST c l (execs body c.env) (fun fl l' => match fl with | .next => WB c t body orelse Q n l' | .cont => WB c t body orelse Q n l' | .brk => Q .next l' | .ret v => Q (.ret v) l'))
theorem st_whileB {t : Expr} {body orelse : List Stmt} {pos : Pos} (n : Nat) (h : WB c t body orelse Q n l) : ST c l (exec (.While t body orelse pos) c.env) Q := by
  refine st_while (fun n l => WB c t body orelse Q n l) n h fun n l h => ?_
  cases n with
  | zero =>
    obtain ⟨b, h1, rfl, h2⟩ := h
    exact ⟨false, h1, fun _ => h2, fun e => by cases e⟩
  | succ n =>
    obtain ⟨b, h1, h2, h3⟩ := h
    refine ⟨b, h1, h2, fun e => st_mono (h3 e) fun fl l' q => ?_⟩
    cases fl with
    | next => exact ⟨n, Nat.lt_succ_self n, q⟩
    | cont => exact ⟨n, Nat.lt_succ_self n, q⟩
    | brk => exact q
    | ret v => exact q
end
theorem bitOr_eq (x y : Int) : Builtin.bitOr x y = x + y - Builtin.bitAnd x y := by
  have h1 := bitXor_and x y
  have h2 : Builtin.bitXor x y = Builtin.bitOr x y - Builtin.bitAnd x y := rfl
  omega
theorem band_shift (k : Nat) : ∀ x y : Int, Builtin.bitAnd x (2 ^ k * y) = 2 ^ k * Builtin.bitAnd (x / 2 ^ k) y := by
  induction k with
  | zero => intro x y; simp
  | succ k ih =>
    intro x y
    have ec : (2 ^ (k + 1) * y : Int) = 2 * (2 ^ k * y) := by rw [Int.pow_succ, Int.mul_comm ((2 : Int) ^ k) 2, Int.mul_assoc]
    rw [ec, PySem.W.kbt_halves, Int.mul_ediv_cancel_left _ (by decide), if_neg (fun h => by rw [Int.mul_emod_right] at h; exact absurd h.2 (by decide)), ih, Int.add_zero]
    rw [Int.pow_succ, Int.mul_comm ((2 : Int) ^ k) 2, ← Int.ediv_ediv_of_nonneg (by decide), Int.mul_assoc]
theorem and_shift (x y : Int) (h0 : 0 ≤ y) (h1 : y < 256) : Builtin.bitAnd (x * 256) y = 0 := by
  rw [bitAnd_comm, Int.mul_comm, show (256 : Int) = 2 ^ 8 from rfl, band_shift, show y / 2 ^ 8 = 0 from by rw [show (2 : Int) ^ 8 = 256 from rfl]; omega, bitAnd_comm]
  have := bitAnd_range x (y := 0) (Int.le_refl _)
  omega
theorem step_lc {lc a : Int} (h0 : 0 ≤ a) (h1 : a < 256) : Builtin.bitAnd (Builtin.bitOr (lc * 2 ^ (8 : Int).toNat) a) 65535 = (lc * 256 + a) % 65536 := by
  have e : (2 : Int) ^ (8 : Int).toNat = 256 := by decide
  rw [e, bitOr_eq, and_shift _ _ h0 h1, bitAnd_m16]
  omega
theorem m6_lo (x : Int) : 0 ≤ Builtin.bitAnd x 63 := (bitAnd_range x (y := 63) (by decide)).1
theorem m6_hi (x : Int) : Builtin.bitAnd x 63 < 64 := by have := bitAnd_range x (y := 63) (by decide); omega
noncomputable def b64tab : List UInt8 := [65, 66, 67, 68, 69, 70, 71, 72, 73, 74, 75, 76, 77, 78, 79, 80, 81, 82, 83, 84, 85, 86, 87, 88, 89, 90, 97, 98, 99, 100, 101, 102, 103, 104, 105, 106, 107, 108, 109, 110, 111, 112, 113, 114, 115, 116, 117, 118, 119, 120, 121, 122, 48, 49, 50, 51, 52, 53, 54, 55, 56, 57, 43, 47]
noncomputable def b64 (k : Int) : Int := ((b64tab.getD k.toNat 0).toNat : Int)
theorem bytesOf_arr : ∀ {ns : List Int}, (∀ n ∈ ns, 0 ≤ n ∧ n < 256) → bytesOf (byteArr ns) = ns.map .int := fun {ns} h => by
  unfold bytesOf byteArr
  simp only [List.map_map]
  refine List.map_congr_left fun n hn => ?_
  have := h n hn
  simp only [Function.comp]
  congr 1
  have e : n.toNat.toUInt8.toNat = n.toNat % 256 := by simp [Nat.toUInt8]
  rw [e]
  omega
theorem call_K0 {prog : Program} {w : World} {K : Frag} {lv : Nat} {f : Addr} {args : List D} {d : D} (C : CALLK prog w K lv f args [] [] d) : CALL prog w K lv f args d := by
  intro dp un gd outer base s p loose mean mg mb av vs Q E hD hU B X T hav r hQ
  exact C dp un gd outer base s p loose mean mg mb av vs [] Q E hD hU B X T hav r (by simp only [RelL]) hQ
noncomputable def unI : D → Int
  | .int i => i
  | _ => 0
theorem k_bytesE {c : Cx} {ds : List D} (e : (ds.map unI).map .int = ds) (hr : ∀ n ∈ ds.map unI, 0 ≤ n ∧ n < 256) (hz : (ds.map unI).length ≤ 100000) : BCALL c (.type "bytes") [.lst ds] (.bytes (byteArr (ds.map unI))) := by
  have := k_bytes (c := c) hr hz
  rw [e] at this
  exact this
end Mine
end
section
open PySem PySem.W PySem.Spec PySem.Calls PyProof.Rows
set_option Elab.async false
set_option linter.unusedVariables false
set_option maxRecDepth 100000
namespace Mine
section
variable {c : Cx} {l : Loc} {Q : Fl → Loc → Prop}
theorem str_ne {a b : String} (h : a ≠ b) : Str.ofString a ≠ Str.ofString b := fun e => h (ofStr_inj.mp e)
theorem filter_true {ds : List D} : ds.filter (fun _ => true) = ds := List.filter_eq_self.mpr fun _ _ => rfl
end
end Mine
end
section
open PySem PySem.W PySem.Spec PySem.Calls PyProof.Rows
set_option Elab.async false
set_option linter.unusedVariables false
set_option maxRecDepth 100000
namespace Mine
section
variable {c : Cx} {l : Loc} {Q : Fl → Loc → Prop}
theorem ev_neg {a : Expr} {pos : Pos} {i : Int} (h : EV c l a (.int i)) : EV c l (.UnaryOp .USub a pos) (.int (-i)) := fun av own s inv Q E hQ =>
  wpAny_UnaryOp (h av own s inv _ _ fun v s₁ k₁ r₁ => by
    simp only [Rel] at r₁
    obtain ⟨t, rfl⟩ := r₁
    exact PyProof.Rows.neg_int (hQ _ _ (kp_trans k₁ (kp_tok _)) (by simp only [Rel]; exact ⟨_, rfl⟩)))
end
end Mine
end
section
open PySem PySem.W PySem.Spec PySem.Calls PyProof.Rows
set_option Elab.async false
set_option linter.unusedVariables false
set_option maxRecDepth 100000
namespace Mine
theorem fin_all {n : Nat} {P : Int → Prop} (h : ∀ j : Fin n, P (j.1 : Int)) {k : Int} (h0 : 0 ≤ k) (h1 : k < n) : P k := by
  have := h ⟨k.toNat, by omega⟩
  rwa [Int.toNat_of_nonneg h0] at this
theorem fa0 {α : Type} {P : α → Prop} : ∀ d ∈ ([] : List α), P d := fun _ h => nomatch h
theorem fa1 {α : Type} {P : α → Prop} {a : α} {l : List α} (h : P a) (t : ∀ d ∈ l, P d) : ∀ d ∈ a :: l, P d := List.forall_mem_cons.mpr ⟨h, t⟩
section
variable {c : Cx} {l : Loc} {Q : Fl → Loc → Prop}
end
end Mine
end
section
open PySem PySem.W PySem.Spec PySem.Calls PyProof.Rows
set_option Elab.async false
set_option linter.unusedVariables false
set_option maxRecDepth 100000
namespace Mine
theorem setItem_plain {prog : Program} {w : World} {A : Around} {E : Value → Shared → Prop} {s : Shared} {l : Addr} {items : Array Value} {k : Int} {t : Tok} {v : Value} {Q : Unit → Shared → Prop} (hl : s.heap.PlainList l items)
    (h0 : 0 ≤ k) (hfit : k < 2 ^ 63) (hn : k < items.size)
    (hQ : ∀ h', h'.PlainList l (items.setIfInBounds k.toNat v) → Heap.SameBut l s.heap h' → Q () { s with heap := h' }) :
    wpAny (model prog w) A (setItem (.ref l) (.int k t) v) Q E s := by
  obtain ⟨n, ho⟩ := hl
  have hT : s.TypeIs (.ref l) "list" := ⟨_, ho, rfl⟩
  unfold setItem
  refine wpAny_holding ?_
  refine wpAny_bind (wpAny_sequenceKey hT (by decide) ?_)
  refine wpAny_bind (wpAny_callSpecial?_slot (name := Str.ofString "__setitem__") hT slot_list_setitem
    (wpAny_call_entry slot_list_setitem hT entry_list_setitem ?_ (args_list_setitem _ _ _)))
  show wpAny _ _ (Builtin.List.listSubscript? (.int k t) >>= _) _ _ s
  refine wpAny_bind (wpAny_listSubscript_int (fitsIndex_of h0 hfit) ?_)
  clear hfit
  obtain ⟨j, rfl⟩ := Int.eq_ofNat_of_zero_le h0
  have hj : j < items.size := by omega
  have hx' : items[j]? = some items[j] := Array.getElem?_eq_getElem hj
  show wpAny _ _ ((seqItemAt l j >>= fun r => pure (r.map (j, ·))) >>= _) _ _ s
  refine wpAny_bind (wpAny_bind (wpAny_seqItemAt ho rfl (wpAny_pure ?_)))
  rw [hx']
  show wpAny _ _ (setSeqItemAt l j v >>= _) _ _ s
  refine wpAny_bind (wpAny_setSeqItemAt ho rfl ?_)
  refine wpAny_bind (wpAny_pure (wpAny_pure ⟨.none, rfl, wpAny_pure (hQ _ ?_ (Heap.SameBut.update ..))⟩))
  have e := Heap.get?_update_self (Obj.mapSeq (·.setIfInBounds j v)) ho rfl
  exact ⟨_, e.trans (by simp [Obj.mapSeq]; rfl)⟩
section
variable {c : Cx} {l : Loc} {Q : Fl → Loc → Prop}
theorem relL_set {mu : List Addr} {h : Heap} : ∀ {ds : List D} {vs : List Value} {j : Nat} {d : D} {v : Value}, RelL mu h ds vs → Rel mu h d v → RelL mu h (ds.set j d) (vs.set j v)
  | [], vs, j, d, v, r, _ => by simp only [RelL] at r; subst r; simp only [List.set_nil, RelL]
  | e :: ds, vs, j, d, v, r, q => by
    simp only [RelL] at r
    obtain ⟨w, ws, rfl, r1, r2⟩ := r
    cases j with
    | zero => simp only [List.set_cons_zero, RelL]; exact ⟨v, ws, rfl, q, r2⟩
    | succ j => simp only [List.set_cons_succ, RelL]; exact ⟨w, _, rfl, r1, relL_set r2 q⟩
theorem frozL_set : ∀ {ds : List D} {j : Nat} {d : D}, FrozL ds → Froz d → FrozL (ds.set j d)
  | [], _, _, h, _ => h
  | e :: ds, 0, d, h, q => by simp only [FrozL] at h; simp only [List.set_cons_zero, FrozL]; exact ⟨q, h.2⟩
  | e :: ds, j + 1, d, h, q => by simp only [FrozL] at h; simp only [List.set_cons_succ, FrozL]; exact ⟨h.1, frozL_set h.2 q⟩
theorem setOwn {av own : List Addr} {s : Shared} {x : Str} {its : List D} {a : Addr} {vs : List Value} {k : Int} {t : Tok} {d : D} {v : Value} {R : Unit → Shared → Prop} {E : Value → Shared → Prop} (i : Inv c av own l s) (hx : get l x = some (.mls its)) (hn : NameIs c.env s.heap x (.ref a)) (ho : a ∈ own) (hp : s.heap.PlainList a vs.toArray)
    (hr : RelL (own ++ av) s.heap its vs) (fi : FrozL its) (h0 : 0 ≤ k) (hk : k < its.length) (hlen : its.length ≤ 100000) (r : Rel (own ++ av) s.heap d v) (f : Froz d)
    (hR : ∀ s', Step own s own s' → Inv c av own (put l x (.mls (its.set k.toNat d))) s' → R () s') : wpAny c.M c.A (setItem (.ref a) (.int k t) v) R E s := by
  have e := hr.length
  refine setItem_plain hp h0 (by omega) (by rw [List.size_toArray, e]; exact hk) fun h' hp' hs => ?_
  rw [List.setIfInBounds_toArray] at hp'
  exact hR _ ⟨⟨h', s.toks, rfl⟩, sameBut_but hs ho, fun a q => .inl q⟩ (i.setList (tk := s.toks) hx hn ho vs hp hp' (relL_set hr r) (frozL_set fi f) hs)
theorem st_setitem {x : Str} {px tp pos : Pos} {i e : Expr} {its : List D} {k : Int} {d : D} {l' : Loc} (hx : get l x = some (.mls its)) (hv : EV c l e d) (hi : EV c l i (.int k)) (f : Froz d) (h0 : 0 ≤ k) (hk : k < its.length) (hlen : its.length ≤ 100000)
    (hl : put l x (.mls (its.set k.toNat d)) = l') (q : Q .next l') (hs : ∀ env, swapsWith e (some (.Subscript (.Name x px) i tp)) pos.line env = pure false) (hd : (x == ("__debug__" : Str)) = false) :
    ST c l (exec (.Assign [.Subscript (.Name x px) i tp] e pos) c.env) Q := by
  intro av own s ii R E hR
  rw [exec_Assign_Subscript _ _ _ _ _ (hs _)]
  refine wpAny_bind (wpAny_standAt (wpAny_bind (hv av own s ii _ _ fun v s₁ k₁ r₁ => ?_)))
  have i₁ := ii.keeps k₁
  rw [assign_Subscript]
  refine wpAny_bind (wpAny_bind (wpAny_holding (evalName i₁ hx (fun ov n r => ?_) hd)))
  refine wpAny_bind (wpAny_holding (hi av own s₁ i₁ _ _ fun iv s₂ k₂ r₂ => ?_))
  have i₂ := i₁.keeps k₂
  obtain ⟨a, vs, n', ho, hp, hr, fi⟩ := i₂.theList hx
  have := (n.kept (kp_kept k₂)).agree n'
  subst this
  simp only [Rel] at r₂
  obtain ⟨t, rfl⟩ := r₂
  refine wpAny_bind (wpAny_standAt (wpAny_bind (wpAny_holding (setOwn i₂ hx n' ho hp hr fi h0 hk hlen (r₁.kept (kp_kept k₂)) f fun s₃ st i₃ => ?_))))
  refine wpAny_release (wpAny_pure ?_)
  exact hR .next _ _ own _ (hl ▸ q) (by simp only [RelF]) (((Step.of k₁).trans (Step.of k₂)).trans st) (hl ▸ i₃)
theorem st_augitem {x : Str} {px tp pos : Pos} {i e : Expr} {op : Operator} {its : List D} {k : Int} {d₀ d₁ d : D} {l' : Loc} (hx : get l x = some (.mls its)) (hi : EV c l i (.int k)) (hv : EV c l e d₁) (h0 : 0 ≤ k) (hk : k < its.length) (hlen : its.length ≤ 100000) (hg : its[k.toNat]? = some d₀) (hb : IBIN c op d₀ d₁ d) (f : Froz d)
    (hl : put l x (.mls (its.set k.toNat d)) = l') (q : Q .next l') (ha : ∀ ov iv new, augStore i ov iv new = (do holding [new, ov, iv] (setItem ov iv new); release [new, ov, iv] []; pure .next)) (hd : (x == ("__debug__" : Str)) = false) :
    ST c l (exec (.AugAssign (.Subscript (.Name x px) i tp) op e pos) c.env) Q := by
  intro av own s ii R E hR
  refine wpAny_AugAssign_SubscriptAny (evalName ii hx (fun ov n r => hi av own s ii _ _ fun iv s₁ k₁ r₁ => ?_) hd) ha
  have i₁ := ii.keeps k₁
  have g : ∀ (Q : Value → Shared → Prop), (∀ v s', Keeps s₁ s' → Rel (own ++ av) s'.heap d₀ v → Q v s') → wpAny c.M c.A (getItem ov iv) Q E s₁ := fun Q hQ => by
    have r' := r.kept (kp_kept k₁)
    simp only [Rel] at r' r₁
    obtain ⟨a, vs, rfl, hl, hr⟩ := r'
    obtain ⟨t, rfl⟩ := r₁
    obtain ⟨v, hv, rv⟩ := hr.get hg
    exact wpAny_getItem_list hl.isList h0 (by omega) (by simpa using hv) (hQ v s₁ kp_rfl rv)
  refine g _ fun old s₂ k₂ r₂ => ?_
  have i₂ := i₁.keeps k₂
  refine hv av own s₂ i₂ _ _ fun v s₃ k₃ r₃ => ?_
  have i₃ := i₂.keeps k₃
  refine hb (own ++ av) s₃ old v _ _ i₃.notOwn (r₂.kept (kp_kept k₃)) r₃ fun nv s₄ k₄ r₄ => ?_
  have i₄ := i₃.keeps k₄
  obtain ⟨a, vs, n', ho, hp, hr, fi⟩ := i₄.theList hx
  have := ((((n.kept (kp_kept k₁)).kept (kp_kept k₂)).kept (kp_kept k₃)).kept (kp_kept k₄)).agree n'
  subst this
  simp only [Rel] at r₁
  obtain ⟨t, rfl⟩ := r₁
  refine setOwn i₄ hx n' ho hp hr fi h0 hk hlen r₄ f fun s₅ st i₅ => ?_
  exact hR .next _ _ own _ (hl ▸ q) (by simp only [RelF]) (((((Step.of k₁).trans (Step.of k₂)).trans (Step.of k₃)).trans (Step.of k₄)).trans st) (hl ▸ i₅)
theorem seq_list_iadd : seqSlot? (.type "list") (dunderI "add") = pure (some (.builtin "list.__iadd__")) := PySem.seqSlot_of PySem.F.slot_list_iadd.lookup (by decide +kernel)
theorem fillsI_list : fillsInplaceSlot (.type "list") "add" (Operator.Add == .Add) = pure false := by
  unfold fillsInplaceSlot
  show (typeLookup (.type "list") (dunderI "add") >>= fun fi => pure (fi.isSome && !isSeqSlot fi)) = pure false
  rw [PySem.F.slot_list_iadd.lookup, pure_bind, show isSeqSlot (some (.builtin "list.__iadd__")) = true from by decide +kernel]; rfl
theorem iadd_plain {prog : Program} {w : World} {A : Around} {E : Value → Shared → Prop} {s : Shared} {a b : Addr} {xs ys : Array Value} {Q : Value → Shared → Prop} (ha : s.heap.PlainList a xs) (hb : s.heap.IsList b ys) (hsz : xs.size + ys.size ≤ 200000)
    (hQ : ∀ h', h'.PlainList a (xs ++ ys) → Heap.SameBut a s.heap h' → Q (.ref a) { s with heap := h' }) : wpAny (model prog w) A (inplaceOp .Add (.ref a) (.ref b)) Q E s := by
  obtain ⟨n, ho⟩ := ha
  obtain ⟨o, hb1, hb2, n2, hb3⟩ := hb
  have ta : s.TypeIs (.ref a) "list" := ⟨_, ho, rfl⟩
  have tb : s.TypeIs (.ref b) "list" := ⟨_, hb1, hb2⟩
  unfold inplaceOp
  refine wpAny_holding ?_
  refine wpAny_bind (wpAny_typeOf ta (wpAny_bind (wpAny_of_eq fillsI_list ?_)))
  show wpAny _ A (if false = true then _ else _) Q E s
  rw [if_neg Bool.false_ne_true]
  refine wpAny_bind (wpAny_binaryOp1_none (nm := "add") ta tb noFill_list_add ?_)
  refine wpAny_bind (wpAny_of_eq seq_list_iadd ?_)
  refine wpAny_bind (wpAny_rule ?_)
  refine wpAny_call_entry PySem.F.slot_list_iadd ta PySem.F.entry_list_iadd ?_ (PySem.F.args_list_iadd_2 _ _)
  show wpAny _ A.in1 (Builtin.List.listExtendWith (.ref a) (.ref b) (.ref a)) _ _ s
  unfold Builtin.List.listExtendWith
  refine wpAny_bind (wpAny_typeOf tb ?_)
  have h1 : (Builtin.List.listSameRef (.ref a) (.ref b) || Value.type "list" == Value.type "list" || Value.type "list" == Value.type "tuple") = true := by simp
  simp only [h1, if_true]
  refine wpAny_bind ?_
  unfold Builtin.List.listItems
  refine wpAny_bind (wpAny_seqItems hb1 hb3 (wpAny_pure ?_))
  refine wpAny_bind ?_
  refine wpAny_bind (wpAny_seqItems ho rfl (wpAny_pure ?_))
  have h2 : (!xs.isEmpty && Builtin.List.listTooLong (xs.size + ys.size)) = false := by
    rw [show Builtin.List.listTooLong (xs.size + ys.size) = false from by unfold Builtin.List.listTooLong; have : sizeLine = 16777216 := rfl; simp; omega, Bool.and_false]
  show wpAny _ A.in1 (if (!xs.isEmpty && Builtin.List.listTooLong (xs.size + ys.size)) = true then _ else _) _ _ s
  rw [h2, if_neg Bool.false_ne_true]
  show wpAny _ A.in1 (updateSeq a (· ++ ys) >>= fun _ => ret (.ref a)) _ _ s
  refine wpAny_bind (wpAny_updateSeq ho rfl (wpAny_pure ⟨.ref a, rfl, hQ _ ?_ (Heap.SameBut.update ..)⟩))
  have e := Heap.get?_update_self (Obj.mapSeq (· ++ ys)) ho rfl
  exact ⟨_, e.trans (by simp [Obj.mapSeq]; rfl)⟩
theorem storeM {av own : List Addr} {s : Shared} {x : Str} {its : List D} {a : Addr} {vs : List Value} {R : Unit → Shared → Prop} {E : Value → Shared → Prop} (i : Inv c av own l s) (hL : c.env.locals = c.L) (hx : c.env.kindOf x = some .local) (ho : a ∈ own) (hp : s.heap.PlainList a vs.toArray) (hr : RelL (own ++ av) s.heap its vs) (fi : FrozL its)
    (hn : ∀ y dy, get l y = some (.mls dy) → y ≠ x → ¬ NameIs c.env s.heap y (.ref a)) (h : ∀ s', Step own s own s' → Inv c av own (put l x (.mls its)) s' → R () s') : wpAny c.M c.A (storeName c.env x (.ref a)) R E s := by
  obtain ⟨hl1, m, hm⟩ := i.loc
  refine wpAny_storeName_local hx hm (fun h' hn' hs => h _ ⟨⟨h', _, rfl⟩, sameBut_but hs hl1, fun a q => .inl q⟩ (i.setLocal hL hx (d := .mls its) (v := .ref a) (by simp only [Rel]; exact ⟨a, vs, rfl, hp, hr⟩) ⟨fi, ⟨a, rfl, ho⟩, hn⟩ hm hn' hs)) ?_
  rw [i.ok.kind]; rfl
theorem put_put {l : Loc} {x : Str} {d e : D} : put (put l x d) x e = put l x e := by
  induction l with
  | nil => simp only [put]; rfl
  | cons p r ih =>
    obtain ⟨y, z⟩ := p
    by_cases h : x = y
    · simp only [put]; rw [if_pos h]; simp only [put]; rw [if_pos h, if_pos h]
    · simp only [put]; rw [if_neg h]; simp only [put]; rw [if_neg h, if_neg h, ih]
theorem st_extend {x : Str} {px pe pos : Pos} {es : List Expr} {its ds : List D} {l' : Loc} (hL : c.env.locals = c.L) (hk : c.env.kindOf x = some .local) (hx : get l x = some (.mls its)) (h : EVL c l es ds) (hb : ds.length ≤ 1000) (hi : its.length ≤ 100000) (f : FrozL ds) (hl : put l x (.mls (its ++ ds)) = l') (q : Q .next l') :
    ST c l (exec (.AugAssign (.Name x px) .Add (.List es pe) pos) c.env) Q := by
  intro av own s i R E hR
  obtain ⟨a, vs, n, ho, hp, hr, fi⟩ := i.theList hx
  refine wpAny_AugAssign_Name ?_
  have ld : ∀ (R : Value → Shared → Prop), R (.ref a) s → wpAny c.M c.A (loadName c.env x) R E s := fun R hR => by
    rcases n with ⟨q, m, hn, e⟩ | ⟨q, b, hb, hc⟩
    · exact wpAny_loadName_local i.ok.kind q hn e hR
    · rcases q with q | q
      · rw [hk] at q; cases q
      · rw [hk] at q; cases q.1
  refine ld _ (ev_list h hb av own s i _ _ fun v₁ s₁ k₁ r₁ => ?_)
  have i₁ := i.keeps k₁
  simp only [Rel] at r₁
  obtain ⟨b, ws, rfl, _, hb', rw'⟩ := r₁
  have hp₁ := hp.at fun o e => kp_kept k₁ _ o e
  have hr₁ := hr.kept (kp_kept k₁)
  have n₁ := n.kept (kp_kept k₁)
  refine iadd_plain hp₁ hb' (by rw [List.size_toArray, List.size_toArray, hr.length, rw'.length]; omega) fun h' hp' hs => ?_
  rw [List.append_toArray] at hp'
  have i₂ := i₁.setList (tk := s₁.toks) hx n₁ ho vs hp₁ hp' (RelL.append hr₁ rw') (FrozL.append fi f) hs
  have st₂ : Step own s₁ own { s₁ with heap := h', toks := s₁.toks } := ⟨⟨h', s₁.toks, rfl⟩, sameBut_but hs ho, fun a q => .inl q⟩
  obtain ⟨a', vs', n', ho', hp'', hr'', fi'⟩ := i₂.theList (x := x) (its := its ++ ds) (by rw [get_put, if_pos rfl])
  have n₂ : NameIs c.env h' x (.ref a) := by
    rcases n₁ with ⟨q, m, hn, e⟩ | ⟨q, b, hb, hc⟩
    · exact .inl ⟨q, m, hn.sameBut hs (fun e => ns_ne_list hn hp₁ e.symm), e⟩
    · rcases q with q | q
      · rw [hk] at q; cases q
      · rw [hk] at q; cases q.1
  have := n₂.agree n'
  cases this
  refine storeM i₂ hL hk ho' hp'' hr'' fi' (fun y dy e hy z => ?_) fun s₃ st i₃ => ?_
  · exact hy (i₂.apart y x dy (its ++ ds) a e (by rw [get_put, if_pos rfl]) z n')
  · refine hR .next _ _ own _ (hl ▸ q) (by simp only [RelF]) (((Step.of k₁).trans st₂).trans st) ?_
    have e : put (put l x (.mls (its ++ ds))) x (.mls (its ++ ds)) = put l x (.mls (its ++ ds)) := put_put
    rw [e] at i₃
    exact hl ▸ i₃
end
end Mine
end
section
open PySem PySem.W PySem.Spec PySem.Calls PyProof.Rows
set_option Elab.async false
set_option linter.unusedVariables false
set_option maxRecDepth 100000
namespace Mine
section
variable {c : Cx} {l : Loc} {Q : Fl → Loc → Prop}
theorem Inv.fresh {av own : List Addr} {s : Shared} {vs : Array Value} (i : Inv c av own l s) : Inv c av (s.heap.objs.size :: own) l { s with heap := s.heap.push { cls := .type "list", data := .seq vs } } := by
  have kp := kp_push (s := s) { cls := .type "list", data := .seq vs }
  have dead := dead_size s.heap
  have new := i.notOwn
  have j := i.keeps kp
  have hn : c.h₀.get? s.heap.objs.size = none := by
    obtain ⟨m, F⟩ := i.fr
    cases e : c.h₀.get? s.heap.objs.size with
    | none => rfl
    | some o => have := F.keep _ o e; rw [dead] at this; cases this
  refine { j with keep := fun a ha => ⟨(j.keep a ha).1, (j.keep a ha).2.1, fun z => ?_⟩, mine := fun a ha => ?_, loc := ⟨.tail _ j.loc.1, j.loc.2⟩, cell := fun y a h1 h2 => ⟨.tail _ (j.cell y a h1 h2).1, (j.cell y a h1 h2).2⟩, val := fun y d e => ?_ }
  · rcases List.mem_cons.mp z with z | z
    · exact new (z ▸ List.mem_append_right _ ha)
    · exact (j.keep a ha).2.2 z
  · rcases List.mem_cons.mp ha with z | z
    · subst z; exact ⟨hn, by rw [Heap.get?_push_size _ rfl]; rfl⟩
    · exact j.mine a z
  · obtain ⟨v, n, r, q⟩ := i.val y d e
    refine ⟨v, n.kept (kp_kept kp), Rel.kept (kp_kept kp) (Rel.sub (fun a ha => ?_) r), ?_⟩
    · rcases List.mem_cons.mp ha with z | z
      · exact .inr (z ▸ dead)
      · exact .inl z
    · cases d with
      | mls its => exact ⟨q.1, let ⟨a, e, h⟩ := q.2; ⟨a, e, .tail _ h⟩⟩
      | _ => exact q
theorem fresh_sub {own av : List Addr} {h : Heap} : ∀ a ∈ (h.objs.size :: own) ++ av, a ∈ own ++ av ∨ h.get? a = none := fun a ha => by
  rcases List.mem_cons.mp ha with z | z
  · exact .inr (z ▸ dead_size h)
  · exact .inl z
theorem fresh_step {own : List Addr} {s : Shared} {vs : Array Value} : Step own s (s.heap.objs.size :: own) { s with heap := s.heap.push { cls := .type "list", data := .seq vs } } :=
  ⟨⟨_, s.toks, rfl⟩, fun b o _ e => Heap.get?_push_of_some _ e, fun a ha => (List.mem_cons.mp ha).elim (fun z => .inr (z ▸ dead_size s.heap)) .inl⟩
theorem fresh_free {av own : List Addr} {s : Shared} {vs : Array Value} (i : Inv c av own l s) {s' : Shared} (k : Kept s.heap s'.heap) (y : Str) (dy : List D) (e : get l y = some (.mls dy)) : ¬ NameIs c.env s'.heap y (.ref s.heap.objs.size) := fun n => by
  obtain ⟨v, n', r', _⟩ := i.val y _ e
  have := (n'.kept k).agree n
  subst this
  simp only [Rel] at r'
  obtain ⟨a, _, e', ⟨m, hp⟩, _⟩ := r'
  cases e'
  rw [dead_size] at hp; cases hp
theorem st_un2 {x y : Str} {elts es : List Expr} {e : Expr} {k k' : Nat} {p p' pl pos : Pos} {d : D} {ds : List D} {l' : Loc} (hS : swappedStores [.Tuple elts k p] (.Tuple [e, .List es pl] k' p') c.env = pure (some [x, y])) (h₁ : EV c l e d) (he : ∀ env, starEach [e, .List es pl] env = (false, eval e env) :: starEach [.List es pl] env) (h₂ : EVL c l es ds) (hb : ds.length ≤ 1000) (f₁ : Froz d) (f₂ : FrozL ds)
    (hL : c.env.locals = c.L) (hy : c.env.kindOf y = some .local) (hx : Slot c x) (hl : put (put l y (.mls ds)) x d = l') (q : Q .next l')
    (hs : ∀ env, swapsWithSole [.Tuple elts k p] (.Tuple [e, .List es pl] k' p') pos.line env = pure false := by intro _; rfl) : ST c l (exec (.Assign [.Tuple elts k p] (.Tuple [e, .List es pl] k' p') pos) c.env) Q := by
  intro av own s i R E hR
  refine Assign_Tuple_swapped (names := [x, y]) (wpAny_Tuple (spliced_more (h₁ av own s i _ _ fun v s₁ k₁ r₁ => spliced_more (wpAny_List (h₂ av own s₁ (i.keeps k₁) _ _ _ fun vs s₂ k₂ r₂ => ⟨by rw [r₂.length]; exact Nat.le_trans hb (by decide), spliced_none ?_⟩)) (by rfl)) (he _))) (hs _) hS
  have i₁ := i.keeps k₁
  have i₂ := i₁.keeps k₂
  have i₃ := i₂.fresh (vs := vs.toArray)
  generalize hA : s₂.heap.objs.size = a at *
  generalize hH : s₂.heap.push { cls := .type "list", data := .seq vs.toArray } = H at *
  have hp : H.PlainList a vs.toArray := by rw [← hH, ← hA]; exact ⟨_, Heap.get?_push_size _ rfl⟩
  have kH : Kept s₂.heap H := hH ▸ fun b o e => Heap.get?_push_of_some _ e
  have sub : ∀ b ∈ (a :: own) ++ av, b ∈ own ++ av ∨ s₂.heap.get? b = none := hA ▸ fresh_sub
  have rv : Rel ((a :: own) ++ av) H d v := Rel.kept kH (Rel.sub sub (r₁.kept (kp_kept k₂)))
  have rl : RelL ((a :: own) ++ av) H ds vs := RelL.kept kH (RelL.sub sub r₂)
  refine ⟨by show 2 ≤ sizeLine; decide, ?_⟩
  refine unpackItems_tuple (items := #[v, .ref a]) rfl ⟨_, Heap.get?_push_size _ rfl, rfl, _, rfl⟩ fun h' hh => ?_
  have kp : Keeps { s₂ with heap := H } { s₂ with heap := h' } := ⟨h', s₂.toks, rfl, fun b o e => hh b o (Nat.ne_of_lt (Nat.lt_succ_of_lt (Heap.lt_size e) |> fun z => by rw [Heap.size_push]; exact z)) (Heap.get?_push_of_some _ e)⟩
  have i₄ := i₃.keeps kp
  have hf := fresh_free (vs := vs.toArray) i₂ (s' := { s₂ with heap := h' }) fun b o e => kp_kept kp b o (kH b o e)
  rw [hA] at hf
  refine assignInOrder_cons (t := bindName c.env y) (wpAny_bindName (storeM i₄ hL hy (.head _) (hp.at fun o e => kp_kept kp _ o e) (rl.kept (kp_kept kp)) f₂ (fun y' dy e _ => hf y' dy e) fun s₅ st i₅ => ?_))
  have rv₅ : Rel ((a :: own) ++ av) s₅.heap d v := Rel.step st.kept (fun b z => .inl (List.mem_append_left _ z)) (fun b z => .inl z) f₁ (rv.kept (kp_kept kp))
  refine assignInOrder_cons (t := bindName c.env x) (wpAny_bindName (storeN i₅ hx rv₅ f₁ fun s₆ st' i₆ => assignInOrder_nil ?_))
  refine hR .next _ _ (a :: own) _ (hl ▸ q) (by simp only [RelF]) ?_ (hl ▸ i₆)
  have s₀ := (Step.of k₁).trans (Step.of k₂) (own := own)
  have fs := fresh_step (own := own) (s := s₂) (vs := vs.toArray)
  rw [hA, hH] at fs
  exact (((s₀.trans fs).trans (Step.of kp)).trans st).trans st'
theorem storeLB {av own : List Addr} {s : Shared} {x : Str} {d : D} {v : Value} {R : Unit → Shared → Prop} {E : Value → Shared → Prop} (i : Inv c av own l s) (hL : c.env.locals = c.L) (hx : c.env.kindOf x = some .local)
    (r : Rel (own ++ av) s.heap d v) (f : Froz d) (h : ∀ s', Step own s own s' → Inv c av own (put l x d) s' → (∀ y w, y ≠ x → NameIs c.env s'.heap y w → NameIs c.env s.heap y w) → Heap.SameBut c.env.locals s.heap s'.heap → R () s') : wpAny c.M c.A (storeName c.env x v) R E s := by
  obtain ⟨hl1, m, hm⟩ := i.loc
  refine wpAny_storeName_local hx hm (fun h' hn hs => h _ ⟨⟨h', _, rfl⟩, sameBut_but hs hl1, fun a q => .inl q⟩ (i.setLocal hL hx r ?_ hm hn hs) (fun y w hy n => ?_) hs) ?_
  · cases d with
    | mls its => exact absurd f (by simp only [Froz, not_false_eq_true])
    | _ => exact f
  · rcases n with ⟨q, m₁, hn₁, e⟩ | ⟨q, a, ha, hc⟩
    · refine .inl ⟨q, m, hm, ?_⟩
      have := hn.agree hn₁ y
      rw [if_neg hy] at this
      rw [this]; exact e
    · obtain ⟨o, ho, hd⟩ := hc
      have : a ≠ c.env.locals := fun e => by
        subst e
        obtain ⟨o', _, _, ho', hd', _⟩ := hn
        rw [ho] at ho'; cases ho'; rw [hd] at hd'; cases hd'
      exact .inr ⟨q, a, ha, o, (hs.2 a this).symm.trans ho, hd⟩
  · rw [i.ok.kind]; rfl
theorem mls_put {x y : Str} {d : D} {dy : List D} (f : Froz d) (e : get (put l x d) y = some (.mls dy)) : y ≠ x ∧ get l y = some (.mls dy) := by
  rw [get_put] at e
  by_cases h : y = x
  · rw [if_pos h] at e; cases e; simp only [Froz] at f
  · rw [if_neg h] at e; exact ⟨h, e⟩
theorem st_un3 {x y z : Str} {elts es : List Expr} {e₁ e₂ : Expr} {k k' : Nat} {p p' pl pos : Pos} {d₁ d₂ : D} {ds : List D} {l' : Loc} (hS : swappedStores [.Tuple elts k p] (.Tuple [.List es pl, e₁, e₂] k' p') c.env = pure (some [x, y, z])) (h₁ : EV c l e₁ d₁) (he₁ : ∀ env, starEach [e₁, e₂] env = (false, eval e₁ env) :: starEach [e₂] env) (h₂ : EV c l e₂ d₂) (he₂ : ∀ env, starEach [e₂] env = (false, eval e₂ env) :: starEach [] env)
    (h₀ : EVL c l es ds) (hb : ds.length ≤ 1000) (f₁ : Froz d₁) (f₂ : Froz d₂) (f₀ : FrozL ds)
    (hL : c.env.locals = c.L) (hx : c.env.kindOf x = some .local) (hy : c.env.kindOf y = some .local) (hz : c.env.kindOf z = some .local) (hl : put (put (put l z d₂) y d₁) x (.mls ds) = l') (q : Q .next l')
    (hs : ∀ env, swapsWithSole [.Tuple elts k p] (.Tuple [.List es pl, e₁, e₂] k' p') pos.line env = pure false := by intro _; rfl) : ST c l (exec (.Assign [.Tuple elts k p] (.Tuple [.List es pl, e₁, e₂] k' p') pos) c.env) Q := by
  intro av own s i R E hR
  refine Assign_Tuple_swapped (names := [x, y, z]) (wpAny_Tuple (spliced_more (wpAny_List (h₀ av own s i _ _ _ fun vs s₁ k₁ r₁ => ⟨by rw [r₁.length]; exact Nat.le_trans hb (by decide), ?_⟩)) (by rfl))) (hs _) hS
  have i₁ := i.keeps k₁
  have i₂ := i₁.fresh (vs := vs.toArray)
  have hf : ∀ {s' : Shared}, Kept s₁.heap s'.heap → ∀ (y : Str) (dy : List D), get l y = some (.mls dy) → ¬ NameIs c.env s'.heap y (.ref s₁.heap.objs.size) := fun k => fresh_free (vs := vs.toArray) i₁ k
  have fs := fresh_step (own := own) (s := s₁) (vs := vs.toArray)
  generalize hA : s₁.heap.objs.size = a at *
  generalize hH : s₁.heap.push { cls := .type "list", data := .seq vs.toArray } = H at *
  have hp : H.PlainList a vs.toArray := by rw [← hH, ← hA]; exact ⟨_, Heap.get?_push_size _ rfl⟩
  have kH : Kept s₁.heap H := hH ▸ fun b o e => Heap.get?_push_of_some _ e
  have rl : RelL ((a :: own) ++ av) H ds vs := RelL.kept kH (RelL.sub (hA ▸ fresh_sub) r₁)
  refine spliced_more (h₁ av (a :: own) _ i₂ _ _ fun v₁ s₃ k₃ r₃ => spliced_more (h₂ av (a :: own) s₃ (i₂.keeps k₃) _ _ fun v₂ s₄ k₄ r₄ => spliced_none ?_) (he₂ _)) (he₁ _)
  have i₄ := (i₂.keeps k₃).keeps k₄
  have kk : Kept H s₄.heap := fun b o e => kp_kept k₄ b o (kp_kept k₃ b o e)
  refine ⟨by show 3 ≤ sizeLine; decide, ?_⟩
  refine unpackItems_tuple (items := #[.ref a, v₁, v₂]) rfl ⟨_, Heap.get?_push_size _ rfl, rfl, _, rfl⟩ fun h' hh => ?_
  have kp : Keeps s₄ { s₄ with heap := h' } := ⟨h', s₄.toks, rfl, fun b o e => hh b o (Nat.ne_of_lt (Nat.lt_succ_of_lt (Heap.lt_size e) |> fun z => by rw [Heap.size_push]; exact z)) (Heap.get?_push_of_some _ e)⟩
  have i₅ := i₄.keeps kp
  refine assignInOrder_cons (t := bindName c.env z) (wpAny_bindName (storeLB i₅ hL hz (r₄.kept (kp_kept kp)) f₂ fun s₆ st₆ i₆ nb₆ sb₆ => ?_))
  have r₆ : Rel ((a :: own) ++ av) s₆.heap d₁ v₁ := Rel.step st₆.kept (fun b z => .inl (List.mem_append_left _ z)) (fun b z => .inl z) f₁ ((r₃.kept (kp_kept k₄)).kept (kp_kept kp))
  refine assignInOrder_cons (t := bindName c.env y) (wpAny_bindName (storeLB i₆ hL hy r₆ f₁ fun s₇ st₇ i₇ nb₇ sb₇ => ?_))
  have hao : a ≠ c.env.locals := fun e => by
    obtain ⟨hl1, m, hm⟩ := i.loc
    obtain ⟨o, _, _, ho, _⟩ := hm
    have := kp_kept k₁ _ _ ho
    rw [← e, ← hA, dead_size] at this; cases this
  have hp₇ : s₇.heap.PlainList a vs.toArray := hp.at fun o e => (sb₇.2 a hao).trans ((sb₆.2 a hao).trans (kp_kept kp _ o (kk _ o e)))
  have rl₇ : RelL ((a :: own) ++ av) s₇.heap ds vs := RelL.step st₇.kept (fun b z => .inl (List.mem_append_left _ z)) (fun b z => .inl z) f₀ (RelL.step st₆.kept (fun b z => .inl (List.mem_append_left _ z)) (fun b z => .inl z) f₀ ((rl.kept kk).kept (kp_kept kp)))
  refine assignInOrder_cons (t := bindName c.env x) (wpAny_bindName (storeM i₇ hL hx (.head _) hp₇ rl₇ f₀ (fun y' dy e _ n => ?_) fun s₈ st₈ i₈ => assignInOrder_nil ?_))
  · obtain ⟨n1, e⟩ := mls_put f₁ e
    obtain ⟨n2, e⟩ := mls_put f₂ e
    exact hf (s' := { s₄ with heap := h' }) (fun b o e => kp_kept kp b o (kk b o (kH b o e))) y' dy e (nb₆ _ _ n2 (nb₇ _ _ n1 n))
  · refine hR .next _ _ (a :: own) _ (hl ▸ q) (by simp only [RelF]) ?_ (hl ▸ i₈)
    exact (((((((Step.of k₁).trans fs).trans (Step.of k₃)).trans (Step.of k₄)).trans (Step.of kp)).trans st₆).trans st₇).trans st₈
theorem k_sum {ns : List Int} : BCALL c (.builtin "sum") [.lst (ns.map .int)] (.int ns.sum) := by
  intro mu s vs Q E hn ha r hQ
  simp only [RelL, Rel] at r
  obtain ⟨_, _, rfl, ⟨a, ws, rfl, _, hL, hr⟩, rfl⟩ := r
  have hi := ints_of hr
  obtain ⟨xs, hx⟩ := hi.allInts.items
  have hl' : s.heap.IsList a (intItems xs) := hx ▸ hL
  refine sum_intListG rfl hl' fun h' tk t' hk => ?_
  have e1 : ns = xs.toList.map (·.1) := by
    rw [← nums_intItems, ← hx]
    exact (show numsOf ws.toArray.toList = ns from hi.numsOf).symm
  have e2 : preSum (numAt xs) xs.size = ns.sum := by
    rw [preSum_eq, List.take_of_length_le (by simp), e1]
  rw [e2]
  exact hQ _ _ ⟨h', tk, rfl, hk⟩ (by simp only [Rel]; exact ⟨_, rfl⟩)
noncomputable def least : List Int → Int
  | [] => 0
  | [n] => n
  | n :: m :: r => if n ≤ least (m :: r) then n else least (m :: r)
theorem least_spec : ∀ (ns : List Int), ns ≠ [] → least ns ∈ ns ∧ ∀ n ∈ ns, least ns ≤ n
  | [], h => absurd rfl h
  | [n], _ => ⟨.head _, fun m hm => by rw [List.mem_singleton.mp hm]; exact Int.le_refl _⟩
  | n :: m :: r, _ => by
    obtain ⟨h1, h2⟩ := least_spec (m :: r) (List.cons_ne_nil _ _)
    show (if n ≤ least (m :: r) then n else least (m :: r)) ∈ _ ∧ ∀ k ∈ _, (if n ≤ least (m :: r) then n else least (m :: r)) ≤ k
    split
    · next h => exact ⟨.head _, fun k hk => (List.mem_cons.mp hk).elim (fun e => e ▸ Int.le_refl _) fun q => Int.le_trans h (h2 k q)⟩
    · next h => exact ⟨.tail _ h1, fun k hk => (List.mem_cons.mp hk).elim (fun e => by rw [e]; omega) fun q => h2 k q⟩
theorem k_min {ns : List Int} (hne : ns ≠ []) : BCALL c (.builtin "min") [.lst (ns.map .int)] (.int (least ns)) := by
  intro mu s vs Q E hn ha r hQ
  simp only [RelL, Rel] at r
  obtain ⟨_, _, rfl, ⟨a, ws, rfl, _, hL, hr⟩, rfl⟩ := r
  have hi := ints_of hr
  obtain ⟨xs, e⟩ := hi.allInts.items
  have hns : ns = xs.toList.map (·.1) := by
    rw [← hi.numsOf, ← nums_intItems, ← e]
  have hlen : 0 < ns.length := List.length_pos_iff.mpr hne
  have hsz : 0 < xs.size := by
    have h3 := hlen; rw [hns, List.length_map, Array.length_toList] at h3; exact h3
  rw [e] at hL
  refine min_intList rfl hL hsz fun v h' tk hv hk => ?_
  obtain ⟨t, rfl⟩ := intItems_at hv
  obtain ⟨h1, h2⟩ := argBest_lt (numAt xs) (xs.size - 1)
  have m1 : numAt xs (argBest (fun i j => decide (numAt xs i < numAt xs j)) (xs.size - 1)) ∈ ns := by
    rw [hns, numAt_eq]; exact getD_mem (by rw [List.length_map, Array.length_toList]; omega)
  have m2 : ∀ a ∈ ns, numAt xs (argBest (fun i j => decide (numAt xs i < numAt xs j)) (xs.size - 1)) ≤ a := fun a ha => by
    rw [hns] at ha
    obtain ⟨j, hj, rfl⟩ := mem_getD ha
    rw [List.length_map, Array.length_toList] at hj
    rw [← numAt_eq]; exact h2 j (by omega)
  obtain ⟨l1, l2⟩ := least_spec ns hne
  have := Int.le_antisymm (m2 _ l1) (l2 _ m1)
  refine hQ _ _ ⟨h', tk, rfl, hk⟩ ?_
  simp only [Rel]
  exact ⟨t, by rw [this]⟩
theorem t_lst {ds : List D} (hb : ds.length ≤ 100000) : TRUTH c (.lst ds) (!ds.isEmpty) := by
  intro mu s v Q E r hQ
  simp only [Rel] at r
  obtain ⟨a, ws, rfl, _, hL, hr⟩ := r
  have e := hr.length
  refine wpAny_truthy_list hL (by rw [List.size_toArray]; omega) ?_
  rw [show ws.toArray.isEmpty = ds.isEmpty from by
    cases ds with
    | nil => cases ws with
      | nil => rfl
      | cons _ _ => cases e
    | cons _ _ => cases ws with
      | nil => cases e
      | cons _ _ => rfl]
  exact hQ _ (kp_tok _)
end
end Mine
end
section
open PySem PySem.W PySem.Spec PySem.Calls PyProof.Rows
set_option Elab.async false
set_option linter.unusedVariables false
set_option maxRecDepth 100000
namespace Mine
section
variable {M : Model} {A : Around} {E : Value → Shared → Prop} {s : Shared}
theorem newEnvC {sc : Scope} {globals : Addr} {cl : List (Str × Addr)} {qual : Str} {env : PySem.Env} {Q : PySem.Env → Shared → Prop}
    (hQ : Q (newEnv sc s.heap.objs.size globals (cellsFrom (s.heap.objs.size + 1) sc.names cl) qual none .none (some env) builtinsNs) { s with heap := pushCells (s.heap.push { cls := .type "dict", data := .dict #[] }) sc.names }) :
    wpAny M A (newFunctionEnv sc globals cl [] qual none .none (some env)) Q E s := by
  simp only [newFunctionEnv, Option.isSome_some, if_true]
  refine wpAny_bind (wpAny_alloc ?_)
  refine wpAny_bind (wpAny_layCells _ (fun name kind cells => by cases hkc : kind == NameKind.cell <;> simp [hkc]) _ _ _ _ ?_)
  rw [show ({ s with heap := s.heap.push { cls := .type "dict", data := .dict #[] } } : Shared).heap.objs.size = s.heap.objs.size + 1 from Heap.size_push ..]
  refine wpAny_bind ?_
  rw [List.forIn_nil]
  exact wpAny_pure (wpAny_pure hQ)
end
theorem cells_none : ∀ {names : List (Str × NameKind)} {n : Nat} {acc : List (Str × Addr)} {h : Heap}, (∀ y ∈ names, y.2 ≠ .cell) → cellsFrom n names acc = acc ∧ pushCells h names = h
  | [], _, _, _, _ => ⟨rfl, rfl⟩
  | (y, k) :: r, n, acc, h, hn => by
    have hk : (k == NameKind.cell) = false := by simpa using hn (y, k) (.head _)
    have ih := cells_none (names := r) (n := n) (acc := acc) (h := h) fun z hz => hn z (.tail _ hz)
    unfold cellsFrom pushCells
    rw [if_neg (by rw [hk]; exact Bool.false_ne_true), if_neg (by rw [hk]; exact Bool.false_ne_true)]
    exact ih
noncomputable def oneCell (x : Str) : List (Str × NameKind) → Bool
  | [] => false
  | (y, k) :: r => if k == .cell then y == x && r.all fun z => !(z.2 == .cell) && !(z.1 == x) else !(y == x) && oneCell x r
theorem cells_one {x : Str} : ∀ {names : List (Str × NameKind)} {n : Nat} {acc : List (Str × Addr)} {h : Heap}, oneCell x names = true → (cellsFrom n names acc = (x, n) :: acc ∧ pushCells h names = h.push { cls := .type "cell", data := .cell none }) ∧ names.lookup x = some .cell ∧ ∀ y ∈ names, y.2 = .cell → y.1 = x
  | [], _, _, _, hn => by cases hn
  | (y, k) :: r, n, acc, h, hn => by
    unfold oneCell at hn
    unfold cellsFrom pushCells
    by_cases hk : (k == NameKind.cell) = true
    · rw [if_pos hk] at hn
      rw [if_pos hk, if_pos hk]
      obtain ⟨h1, h2⟩ := Bool.and_eq_true_iff.mp hn
      have ey : y = x := eq_of_beq h1
      subst ey
      have h3 : ∀ z ∈ r, z.2 ≠ .cell := fun z hz => by
        have := (Bool.and_eq_true_iff.mp (List.all_eq_true.mp h2 z hz)).1
        simpa using this
      obtain ⟨e1, e2⟩ := cells_none (n := n + 1) (acc := (y, n) :: acc) (h := h.push { cls := .type "cell", data := .cell none }) h3
      refine ⟨⟨e1, e2⟩, ?_, fun z hz e => ?_⟩
      · rw [List.lookup_cons, beq_self_eq_true, eq_of_beq hk]
      · rcases List.mem_cons.mp hz with q | q
        · rw [q]
        · exact absurd e (h3 z q)
    · rw [if_neg hk] at hn
      rw [if_neg hk, if_neg hk]
      obtain ⟨h1, h2⟩ := Bool.and_eq_true_iff.mp hn
      obtain ⟨e, e3, e4⟩ := cells_one (n := n) (acc := acc) (h := h) h2
      refine ⟨e, ?_, fun z hz ez => ?_⟩
      · rw [List.lookup_cons, show (x == y) = false from by simp at h1 ⊢; exact fun q => h1 q.symm]; exact e3
      · rcases List.mem_cons.mp hz with q | q
        · rw [q] at ez; exact absurd (by rw [show k = .cell from ez]; rfl) hk
        · exact e4 z q ez
theorem relabel_cell' {env : PySem.Env} {x y : Str} (hy : y ≠ x) : ∀ {names : List (Str × NameKind)}, (∀ q ∈ names, q.2 = .cell → q.1 = x) →
    (names.map fun (n, k) => if (k == NameKind.free && env.scope.kind == .function && env.kindOf n == some .cell) then (n, NameKind.cell) else (n, k)).lookup y = some .cell → env.kindOf y = some .cell
  | [], _, h => by cases h
  | (n, k) :: r, hn, h => by
    simp only [List.map_cons] at h
    by_cases hc : (k == NameKind.free && env.scope.kind == .function && env.kindOf n == some .cell) = true
    · rw [if_pos hc, List.lookup_cons] at h
      by_cases hq : (y == n) = true
      · rw [show y = n from eq_of_beq hq]
        exact eq_of_beq (Bool.and_eq_true_iff.mp hc).2
      · rw [show (y == n) = false from by simpa using hq] at h
        exact relabel_cell' hy (fun q hq => hn q (.tail _ hq)) h
    · rw [if_neg hc, List.lookup_cons] at h
      by_cases hq : (y == n) = true
      · rw [hq] at h
        exact absurd ((eq_of_beq hq).trans (hn (n, k) (.head _) (Option.some.inj h))) hy
      · rw [show (y == n) = false from by simpa using hq] at h
        exact relabel_cell' hy (fun q hq => hn q (.tail _ hq)) h
theorem lookup_relabel_cell {env : PySem.Env} : ∀ {names : List (Str × NameKind)} {x : Str}, names.lookup x = some .cell →
    (names.map fun (n, k) => if (k == NameKind.free && env.scope.kind == .function && env.kindOf n == some .cell) then (n, NameKind.cell) else (n, k)).lookup x = some .cell
  | [], x, h => by cases h
  | (n, k) :: r, x, h => by
    show List.lookup x ((if (k == NameKind.free && env.scope.kind == .function && env.kindOf n == some .cell) = true then (n, NameKind.cell) else (n, k)) :: _) = _
    rw [List.lookup_cons] at h
    cases hx : x == n with
    | true =>
      simp only [hx] at h
      cases h
      rw [if_neg (by simp), List.lookup_cons, hx]
    | false =>
      simp only [hx] at h
      by_cases hc : (k == NameKind.free && env.scope.kind == .function && env.kindOf n == some .cell) = true
      · rw [if_pos hc, List.lookup_cons, hx]; exact lookup_relabel_cell h
      · rw [if_neg hc, List.lookup_cons, hx]; exact lookup_relabel_cell h
noncomputable def nwA (b : Bool) (C : Addr) : List Addr := bif b then [C + 1] else []
noncomputable def clB (b : Bool) (x : Str) (C : Addr) (cl : List (Str × Addr)) : List (Str × Addr) := bif b then (x, C + 1) :: cl else cl
structure CompG (c : Cx) (sc : Scope) (cl : List (Str × Addr)) (x : Str) (b : Bool) : Prop where
  clos : closureFor sc c.env = pure cl
  kind : sc.kind = .function
  names : ∀ y ∈ sc.names, y.2 = .local → sc.names.lookup y.1 = some .local
  sub : ∀ y a, cl.lookup y = some a → c.env.cells.lookup y = some a
  loc : b = false → sc.names.lookup x = some .local ∧ ∀ y ∈ sc.names, y.2 ≠ .cell
  cell : b = true → oneCell x sc.names = true
structure Homed (b : Bool) (x : Str) (C : Addr) (h : Heap) (ov : Option Value) : Prop where
  ns : ∃ m, h.Ns C m ∧ (b = false → m x = ov)
  cell : b = true → h.IsCell (C + 1) ov
section
variable {c : Cx} {l : Loc}
theorem CompG.only {sc : Scope} {cl : List (Str × Addr)} {x : Str} {b : Bool} (k : CompG c sc cl x b) : ∀ q ∈ sc.names, q.2 = .cell → q.1 = x := fun q hq e => by
  cases b with
  | false => exact absurd e ((k.loc rfl).2 q hq)
  | true => exact (cells_one (n := 0) (acc := []) (h := c.h₀) (k.cell rfl)).2.2 q hq e
theorem CompG.start {sc : Scope} {cl : List (Str × Addr)} {x : Str} {b : Bool} {C : Addr} {H : Heap} (k : CompG c sc cl x b) (hC : H.objs.size = C) : cellsFrom (C + 1) sc.names cl = clB b x C cl ∧ Homed b x C (pushCells (H.push { cls := .type "dict", data := .dict #[] }) sc.names) none ∧
    (∀ a o, H.get? a = some o → (pushCells (H.push { cls := .type "dict", data := .dict #[] }) sc.names).get? a = some o) := by
  have ns : (H.push { cls := .type "dict", data := .dict #[] }).Ns C fun _ => none := hC ▸ Heap.Ns.new H (.type "dict")
  have keep : ∀ a o, H.get? a = some o → (pushCells (H.push { cls := .type "dict", data := .dict #[] }) sc.names).get? a = some o := fun a o e => pushCells_keeps _ _ _ _ (Heap.get?_push_of_some _ e)
  cases b with
  | false =>
    obtain ⟨e1, e2⟩ := cells_none (n := C + 1) (acc := cl) (h := H.push { cls := .type "dict", data := .dict #[] }) (k.loc rfl).2
    rw [e2] at keep ⊢
    exact ⟨e1, ⟨⟨_, ns, fun _ => rfl⟩, fun q => by cases q⟩, keep⟩
  | true =>
    obtain ⟨⟨e1, e2⟩, _⟩ := cells_one (n := C + 1) (acc := cl) (h := H.push { cls := .type "dict", data := .dict #[] }) (k.cell rfl)
    refine ⟨e1, ⟨⟨_, ns.keeps fun b o e => pushCells_keeps _ _ _ _ e, fun q => by cases q⟩, fun _ => ?_⟩, keep⟩
    rw [e2]
    have hs : (H.push { cls := .type "dict", data := .dict #[] }).objs.size = C + 1 := by rw [Heap.size_push, hC]
    exact ⟨_, hs ▸ Heap.get?_push_size _ rfl, rfl⟩
theorem Homed.keeps {b : Bool} {x : Str} {C : Addr} {h h' : Heap} {ov : Option Value} (H : Homed b x C h ov) (k : ∀ a o, a = C ∨ a ∈ nwA b C → h.get? a = some o → h'.get? a = some o) : Homed b x C h' ov := by
  obtain ⟨⟨m, hn, hm⟩, hc⟩ := H
  refine ⟨⟨m, hn.at' fun o e => k C o (.inl rfl) e, hm⟩, fun hb => ?_⟩
  subst hb
  obtain ⟨o, ho, hd⟩ := hc rfl
  exact ⟨o, k _ _ (.inr (.head _)) ho, hd⟩
theorem Inv.compG {av own wr : List Addr} {s s₃ : Shared} {sc : Scope} {cl : List (Str × Addr)} {x : Str} {b : Bool} {lc : Loc} {C D₀ : Addr} {d : D} {v : Value} (i : Inv c av own l s) (k : CompG c sc cl x b) (hs : Sees c l sc cl lc)
    (hx : ∀ e, get lc x ≠ some e) (hC : s.heap.get? C = none) (hA : ∀ a ∈ nwA b C, s.heap.get? a = none) (hD : s.heap.get? D₀ = none) (hCD : D₀ ∉ C :: nwA b C) (hw : ∀ a ∈ wr, s.heap.get? a = none ∧ a ∉ C :: nwA b C ∧ (s₃.heap.get? a).isSome = true) (hn : Homed b x C s₃.heap (some v)) (hDl : (s₃.heap.get? D₀).isSome = true)
    (kp : ∀ a o, s.heap.get? a = some o → s₃.heap.get? a = some o) (r : Rel ((C :: (nwA b C ++ own)) ++ (D₀ :: (wr ++ av))) s₃.heap d v) (f : Froz d) :
    Inv (cx c sc (clB b x C cl) C) (D₀ :: (wr ++ av)) (C :: (nwA b C ++ own)) ((x, d) :: lc) s₃ := by
  have dead₀ : ∀ a, s.heap.get? a = none → c.h₀.get? a = none := fun a ha => by
    obtain ⟨mF, F⟩ := i.fr
    cases e : c.h₀.get? a with
    | none => rfl
    | some o => have := F.keep a o e; rw [ha] at this; cases this
  have deadK : ∀ a, s.heap.get? a = none → c.K.lookup a = none := fun a ha => by
    cases e : c.K.lookup a with
    | none => rfl
    | some o => have := i.keepK a o e; rw [ha] at this; cases this
  have alive : ∀ a, (s.heap.get? a).isSome = true → (s₃.heap.get? a).isSome = true := fun a ha => by
    obtain ⟨o, ho⟩ := Option.isSome_iff_exists.mp ha
    rw [kp a o ho]; rfl
  have ne : ∀ a a', (s.heap.get? a).isSome = true → s.heap.get? a' = none → a ≠ a' := fun a a' h1 h2 e => by subst e; rw [h2] at h1; cases h1
  have dN : ∀ a ∈ C :: nwA b C, s.heap.get? a = none := fun a ha => (List.mem_cons.mp ha).elim (fun e => e ▸ hC) (hA a)
  have offN : ∀ a, (s.heap.get? a).isSome = true → a ∉ own → a ∉ C :: (nwA b C ++ own) := fun a h1 h2 z => by
    rcases List.mem_cons.mp z with z | z
    · exact ne _ _ h1 hC z
    · rcases List.mem_append.mp z with z | z
      · exact ne _ _ h1 (hA a z) rfl
      · exact h2 z
  have lookupLc : ∀ y e, get ((x, d) :: lc) y = some e → (y = x ∧ e = d) ∨ (y ≠ x ∧ get lc y = some e) := fun y e h => by
    simp only [get] at h
    by_cases q : y = x
    · rw [if_pos q] at h; exact .inl ⟨q, (Option.some.inj h).symm⟩
    · rw [if_neg q] at h; exact .inr ⟨q, h⟩
  obtain ⟨⟨m, hns, hm⟩, hcell⟩ := hn
  have clx : ∀ y, y ≠ x → ∀ a, (clB b x C cl).lookup y = some a → cl.lookup y = some a := fun y hy a e => by
    cases b with
    | false => exact e
    | true =>
      rw [show clB true x C cl = (x, C + 1) :: cl from rfl, List.lookup_cons, show (y == x) = false from by simpa using hy] at e
      exact e
  have cln : ∀ y a, (clB b x C cl).lookup y = some a → (y = x ∧ b = true ∧ a = C + 1) ∨ cl.lookup y = some a := fun y a e => by
    cases b with
    | false => exact .inr e
    | true =>
      rw [show clB true x C cl = (x, C + 1) :: cl from rfl, List.lookup_cons] at e
      cases q : y == x with
      | true => rw [q] at e; cases e; exact .inl ⟨eq_of_beq q, rfl, rfl⟩
      | false => rw [q] at e; exact .inr e
  have nameX : NameIs (cx c sc (clB b x C cl) C).env s₃.heap x v := by
    cases b with
    | false => exact .inl ⟨lookup_relabel_local (k.loc rfl).1, m, hns, hm rfl⟩
    | true =>
      refine .inr ⟨.inl (lookup_relabel_cell (cells_one (n := 0) (acc := []) (h := c.h₀) (k.cell rfl)).2.1), C + 1, ?_, hcell rfl⟩
      show ((x, C + 1) :: cl).lookup x = _
      rw [List.lookup_cons, beq_self_eq_true]
  have memA : b = true → C + 1 ∈ nwA b C := fun e => by subst e; exact .head _
  refine ⟨⟨i.ok.below, i.ok.top, i.ok.inK, k.kind, i.ok.fkind, i.ok.frame, i.ok.glob, i.ok.blt, i.ok.roomD, i.ok.roomU⟩, fun a ha => ?_, ?_, fun a ha => ?_, ⟨.head _, m, hns⟩, fun y a h1 h2 => ?_, fun y z a h1 h2 => ?_, fun y a h1 => ?_, fun z => ?_, fun y e he => ?_, fun y z dy dz a h1 h2 _ _ => ?_⟩
  · rcases List.mem_cons.mp ha with q | q
    · subst q
      refine ⟨hDl, deadK _ hD, fun z => ?_⟩
      rcases List.mem_cons.mp z with z | z
      · exact hCD (z ▸ .head _)
      · rcases List.mem_append.mp z with z | z
        · exact hCD (.tail _ z)
        · exact ne _ _ (i.mine _ z).2 hD rfl
    · rcases List.mem_append.mp q with q | q
      · refine ⟨(hw a q).2.2, deadK _ (hw a q).1, fun z => ?_⟩
        rcases List.mem_cons.mp z with z | z
        · exact (hw a q).2.1 (z ▸ .head _)
        · rcases List.mem_append.mp z with z | z
          · exact (hw a q).2.1 (.tail _ z)
          · exact ne _ _ (i.mine _ z).2 (hw a q).1 rfl
      · exact ⟨alive a (i.keep a q).1, (i.keep a q).2.1, offN a (i.keep a q).1 (i.keep a q).2.2⟩
  · obtain ⟨mF, F⟩ := i.fr
    exact ⟨mF, F.ns.keeps kp, fun b o e => kp b o (F.keep b o e), F.above⟩
  · rcases List.mem_cons.mp ha with q | q
    · subst q
      obtain ⟨o, _, _, ho, _⟩ := hns
      exact ⟨dead₀ _ hC, by rw [ho]; rfl⟩
    · rcases List.mem_append.mp q with q | q
      · refine ⟨dead₀ _ (hA a q), ?_⟩
        cases b with
        | false => cases q
        | true =>
          rw [List.mem_singleton.mp q]
          obtain ⟨o, ho, _⟩ := hcell rfl
          rw [ho]; rfl
      · exact ⟨(i.mine a q).1, alive a (i.mine a q).2⟩
  · by_cases hy : y = x
    · subst hy
      cases b with
      | false =>
        have e := h1
        rw [show (cx c sc (clB false y C cl) C).env.kindOf y = some .local from lookup_relabel_local (k.loc rfl).1] at e
        cases e
      | true =>
        rcases cln y a h2 with ⟨_, _, rfl⟩ | h2
        · exact ⟨.tail _ (.head _), _, hcell rfl⟩
        · have e : (clB true y C cl).lookup y = some (C + 1) := by
            show ((y, C + 1) :: cl).lookup y = _
            rw [List.lookup_cons, beq_self_eq_true]
          have h2' := ‹(cx c sc (clB true y C cl) C).env.cells.lookup y = some a›
          rw [show (cx c sc (clB true y C cl) C).env.cells = clB true y C cl from rfl, e] at h2'
          cases h2'
          exact ⟨.tail _ (.head _), _, hcell rfl⟩
    · have hk := relabel_cell' (x := x) hy k.only h1
      obtain ⟨h3, w, h4⟩ := i.cell y a hk (k.sub y a (clx y hy a h2))
      exact ⟨.tail _ (List.mem_append_right _ h3), w, h4.keeps kp⟩
  · rcases cln y a h1 with ⟨e1, e2, e3⟩ | h1
    · rcases cln z a h2 with ⟨e4, _, _⟩ | h2
      · rw [e1, e4]
      · have q := (i.cel z a (k.sub z a h2)).1
        rw [e3, hA _ (memA e2)] at q; cases q
    · rcases cln z a h2 with ⟨e4, e5, e6⟩ | h2
      · have q := (i.cel y a (k.sub y a h1)).1
        rw [e6, hA _ (memA e5)] at q; cases q
      · exact i.inj y z a (k.sub y a h1) (k.sub z a h2)
  · rcases cln y a h1 with ⟨_, e2, e3⟩ | h1
    · subst e3
      obtain ⟨o, ho, _⟩ := hcell e2
      refine ⟨by rw [show s₃.heap.get? (C + 1) = some o from ho]; rfl, fun z => ?_⟩
      rcases List.mem_cons.mp z with z | z
      · exact hCD (.tail _ (z ▸ memA e2))
      · rcases List.mem_append.mp z with z | z
        · exact (hw _ z).2.1 (.tail _ (memA e2))
        · exact ne _ _ (i.keep _ z).1 (hA _ (memA e2)) rfl
    · have q := i.cel y a (k.sub y a h1)
      refine ⟨alive a q.1, fun z => ?_⟩
      rcases List.mem_cons.mp z with z | z
      · exact ne _ _ q.1 hD z
      · rcases List.mem_append.mp z with z | z
        · exact ne _ _ q.1 (hw a z).1 rfl
        · exact q.2 z
  · obtain ⟨mF, F⟩ := i.fr
    obtain ⟨o, _, _, ho, _⟩ := F.ns
    rcases List.mem_cons.mp z with z | z
    · exact ne c.L _ (by rw [ho]; rfl) hD z
    · rcases List.mem_append.mp z with z | z
      · exact ne c.L c.L (by rw [ho]; rfl) (hw _ z).1 rfl
      · exact i.off z
  · rcases lookupLc y e he with ⟨rfl, rfl⟩ | ⟨hy, he'⟩
    · exact ⟨v, nameX, r, by cases e <;> first | exact f | (simp only [Froz] at f)⟩
    · obtain ⟨g1, g2, g3, g4, ⟨a, ga⟩, g5⟩ := hs.has y e he'
      obtain ⟨w, n, rw', q⟩ := i.val y e g1
      have hc : s.heap.IsCell a (some w) := by
        rcases n with ⟨q, _⟩ | ⟨_, a', ha', hc⟩
        · rcases g5 with g5 | g5 <;> rw [q] at g5 <;> cases g5
        · rw [k.sub y a ga] at ha'; cases ha'; exact hc
      have ga' : (clB b x C cl).lookup y = some a := by
        cases b with
        | false => exact ga
        | true => rw [show clB true x C cl = (x, C + 1) :: cl from rfl, List.lookup_cons, show (y == x) = false from by simpa using hy]; exact ga
      refine ⟨w, .inr ⟨?_, a, ga', hc.keeps kp⟩, ?_, by cases e <;> first | exact g2 | (simp only [Froz] at g2)⟩
      · rcases relabel_lookup (sc := sc) (env := c.env) g3 with z | z
        · exact .inr ⟨z, g4⟩
        · exact .inl z
      · refine Rel.kept kp (Rel.sub (fun a' hb => ?_) rw')
        rcases List.mem_append.mp hb with z | z
        · rcases List.mem_cons.mp z with z | z
          · exact .inr (z ▸ hC)
          · rcases List.mem_append.mp z with z | z
            · exact .inr (hA _ z)
            · exact .inl (List.mem_append_left _ z)
        · rcases List.mem_cons.mp z with z | z
          · exact .inr (z ▸ hD)
          · rcases List.mem_append.mp z with z | z
            · exact .inr (hw a' z).1
            · exact .inl (List.mem_append_right _ z)
  · rcases lookupLc y _ h1 with ⟨_, e⟩ | ⟨_, e⟩
    · subst e; simp only [Froz] at f
    · have := (hs.has y _ e).2.1
      simp only [Froz] at this
end
end Mine
end
section
open PySem PySem.W PySem.Spec PySem.Calls PyProof.Rows
set_option Elab.async false
set_option linter.unusedVariables false
set_option maxRecDepth 100000
namespace Mine
theorem bin_addL {c : Cx} {xs ys : List D} (h1 : xs.length ≤ 1000) (h2 : ys.length ≤ 1000) : BIN c .Add (.lst xs) (.lst ys) (.lst (xs ++ ys)) := by
  intro mu s v₁ v₂ Q E hm r₁ r₂ hQ
  simp only [Rel] at r₁ r₂
  obtain ⟨l, vs, rfl, n1, hl, rl1⟩ := r₁
  obtain ⟨b, ws, rfl, n2, hb, rl2⟩ := r₂
  have len : vs.length + ws.length ≤ sizeLine := by rw [rl1.length, rl2.length]; exact Nat.le_trans (Nat.add_le_add h1 h2) (by decide)
  obtain ⟨⟨cls, dd, data, sl⟩, ho, hc, n, hd⟩ := id hl
  obtain ⟨⟨cls2, dd2, data2, sl2⟩, ho2, hc2, n2', hd2⟩ := id hb
  simp only at hc hd hc2 hd2
  subst hc hd hc2 hd2
  have e : vs.toArray ++ ws.toArray = (vs ++ ws).toArray := by simp
  refine concat_meets ⟨_, ho, rfl⟩ ⟨_, ho2, rfl⟩ noFill_list_add seq_list_add PySem.F.slot_list_add PySem.F.entry_list_add (PySem.F.args_list_add_2 _ _) (list_addW l b vs.toArray ws.toArray n n2' dd dd2 sl sl2 (by simpa using len)) ⟨ho, ho2, ?_⟩
  rw [e]
  refine hQ _ _ (kp_push _) ?_
  simp only [Rel]
  exact ⟨_, vs ++ ws, rfl, hm, ⟨_, Heap.get?_push_size _ rfl, rfl, _, rfl⟩, RelL.append (rl1.kept (kp_kept (kp_push _))) (rl2.kept (kp_kept (kp_push _)))⟩
section
variable {c : Cx} {l : Loc} {Q : Fl → Loc → Prop}
theorem storeHome {sc : Scope} {cl : List (Str × Addr)} {x : Str} {b : Bool} {C : Addr} {ov : Option Value} {v : Value} {s : Shared} {R : Unit → Shared → Prop} {E : Value → Shared → Prop} (k : CompG c sc cl x b) (H : Homed b x C s.heap ov)
    (hR : ∀ h' tk, Homed b x C h' (some v) → (∀ a o, a ∉ C :: nwA b C → s.heap.get? a = some o → h'.get? a = some o) → R () { s with heap := h', toks := tk }) : wpAny c.M c.A (storeName (compEnvC sc (clB b x C cl) C c.env) x v) R E s := by
  obtain ⟨⟨m, hn, hm⟩, hc⟩ := H
  cases b with
  | false =>
    refine wpAny_storeName_local (lookup_relabel_local (k.loc rfl).1) hn (fun h' hn' hs => hR h' _ ⟨⟨_, hn', fun _ => if_pos rfl⟩, fun q => by cases q⟩ fun a o ha e => hs.extBut a o (fun z => ha (z ▸ .head _)) e) (by simp [compEnvC, relabel, k.kind])
  | true =>
    have e : (compEnvC sc (clB true x C cl) C c.env).cells.lookup x = some (C + 1) := by
      show ((x, C + 1) :: cl).lookup x = _
      rw [List.lookup_cons, beq_self_eq_true]
    have hCA : ∀ o, s.heap.get? C = some o → C ≠ C + 1 := fun _ _ => Nat.ne_of_lt (Nat.lt_succ_self _)
    refine wpAny_storeName_cell (by simp [compEnvC, relabel, k.kind]) (lookup_relabel_cell (cells_one (n := 0) (acc := []) (h := c.h₀) (k.cell rfl)).2.1) e (hc rfl) fun h' hc' hs => ?_
    exact hR h' s.toks ⟨⟨m, hn.at' fun o e => hs.extBut C o (Nat.ne_of_lt (Nat.lt_succ_self _)) e, fun q => by cases q⟩, fun _ => hc'⟩ fun a o ha e => hs.extBut a o (fun z => ha (z ▸ .tail _ (.head _))) e
theorem comp_blockG {av own fp wr : List Addr} {s₁ s₂ : Shared} {sc : Scope} {cl : List (Str × Addr)} {x : Str} {b : Bool} {px pos : Pos} {lc : Loc} {elt iter : Expr} {ifs : List Expr} {items : List D} {I : Addr} {P : Nat → Value → Prop} {St : Nat → Heap → Prop} (p : D → Bool) (f : D → D) {RR : Value → Addr → Result → Shared → Prop} {E : Value → Shared → Prop}
    (i₁ : Inv c av own l s₁) (k : CompG c sc cl x b) (hs : Sees c l sc cl lc) (hx : ∀ e, get lc x ≠ some e)
    (k₂ : Keeps s₁ s₂) (W : Walks c.prog c.w c.A I fp wr items.length P St) (hst : St 0 s₂.heap) (hfp : ∀ a ∈ fp, a ∉ own ++ av ∧ (s₂.heap.get? a).isSome = true) (hwr : ∀ a ∈ wr, s₁.heap.get? a = none) (hlive : ∀ j h, St j h → ∀ a ∈ fp, (h.get? a).isSome = true)
    (hP : ∀ i v d, P i v → items[i]? = some d → Rel (own ++ av) s₁.heap d v) (fz : FrozL items) (hsz : items.length ≤ 100000)
    (ht : ∀ C, ∀ d ∈ items, Tests (cx c sc (clB b x C cl) C) ((x, d) :: lc) ifs (p d)) (he : ∀ C, ∀ d ∈ items, p d = true → EV (cx c sc (clB b x C cl) C) ((x, d) :: lc) elt (f d)) (hf : ∀ d ∈ items, p d = true → Froz (f d))
    (hR : ∀ D₀ C h' tk m' ys, s₂.heap.get? D₀ = none → s₂.heap.get? C = none → D₀ ≠ C → (∀ a ∈ nwA b C, s₂.heap.get? a = none ∧ a ≠ C ∧ a ≠ D₀) → h'.Ns C m' → h'.PlainList D₀ ys.toArray → RelL ((C :: (nwA b C ++ own)) ++ (D₀ :: (wr ++ av))) h' ((items.filter p).map f) ys → (∀ a o, a ∉ wr → s₂.heap.get? a = some o → h'.get? a = some o) → RR (.ref D₀) C (.ok .next) { s₂ with heap := h', toks := tk }) :
    wpAny c.M c.A (newList []) (fun acc s₃ => wpAny c.M c.A (newFunctionEnv sc c.env.globals cl [] c.env.qual none .none (some c.env)) (fun cenv s₄ =>
      codeAny c.M c.A (.compStart (.ListComp elt [⟨.Name x px, iter, ifs, 0⟩] sc pos) 0 (.ref I) acc { cenv with scope := relabel sc c.env }) (RR acc cenv.locals) s₄) E s₃) E s₂ := by
  refine wpAny_newObj_type (newEnvC ?_)
  dsimp only
  generalize hH2 : s₂.heap.push { cls := .type "list", dict := none, data := .seq ([] : List Value).toArray } = H2
  generalize hDD : s₂.heap.objs.size = D₀ at *
  have hC : H2.objs.size = D₀ + 1 := by rw [← hH2, Heap.size_push, hDD]
  obtain ⟨ecl, hh₁, hk₁⟩ := k.start (H := H2) rfl
  generalize hCC : H2.objs.size = C at *
  rw [ecl]
  generalize hh : pushCells (H2.push { cls := .type "dict", data := .dict #[] }) sc.names = h₁ at *
  have hDC : D₀ ≠ C := by rw [hC]; exact Nat.ne_of_lt (Nat.lt_succ_self _)
  have deadD : s₂.heap.get? D₀ = none := hDD ▸ dead_size _
  have deadGe : ∀ a, D₀ ≤ a → s₂.heap.get? a = none := fun a ha => by
    cases e : s₂.heap.get? a with
    | none => rfl
    | some o => have := Heap.lt_size e; rw [hDD] at this; exact absurd ha (Nat.not_le_of_lt this)
  have deadC : s₂.heap.get? C = none := deadGe C (by rw [hC]; exact Nat.le_succ _)
  have nwE : ∀ a ∈ nwA b C, a = C + 1 := fun a ha => by
    cases b with
    | false => cases ha
    | true => exact List.mem_singleton.mp ha
  have deadA : ∀ a ∈ nwA b C, s₂.heap.get? a = none := fun a ha => deadGe a (by rw [nwE a ha, hC]; omega)
  have nwNe : ∀ a ∈ nwA b C, a ≠ C ∧ a ≠ D₀ := fun a ha => ⟨nwE a ha ▸ Nat.succ_ne_self _, by rw [nwE a ha, hC]; exact Nat.ne_of_gt (Nat.lt_succ_of_lt (Nat.lt_succ_self _))⟩
  have kk₂ := kp_kept k₂
  have dead₁ : ∀ a, s₂.heap.get? a = none → s₁.heap.get? a = none := fun a z => by
    cases e : s₁.heap.get? a with
    | none => rfl
    | some o => have := kk₂ a o e; rw [z] at this; cases this
  have ne₂ : ∀ a a', (s₂.heap.get? a).isSome = true → s₂.heap.get? a' = none → a ≠ a' := fun a a' h1 h2 e => by subst e; rw [h2] at h1; cases h1
  have wrLive : ∀ a ∈ wr, (s₂.heap.get? a).isSome = true := fun a ha => (hfp a (W.sub a ha)).2
  have old : ∀ a o, s₂.heap.get? a = some o → h₁.get? a = some o := fun a o e => hk₁ a o (hH2 ▸ Heap.get?_push_of_some _ e)
  have hacc : h₁.PlainList D₀ #[] := ⟨_, hk₁ _ _ (hH2 ▸ (hDD ▸ Heap.get?_push_size _ rfl))⟩
  have hst₁ : St 0 h₁ := W.frame _ _ _ hst fun a _ o e => old a o e
  have muD : ∀ a ∈ (C :: (nwA b C ++ own)) ++ (D₀ :: (wr ++ av)), a ∈ own ++ av ∨ s₁.heap.get? a = none := fun a ha => by
    rcases List.mem_append.mp ha with z | z
    · rcases List.mem_cons.mp z with z | z
      · exact .inr (z ▸ dead₁ _ deadC)
      · rcases List.mem_append.mp z with z | z
        · exact .inr (dead₁ _ (deadA a z))
        · exact .inl (List.mem_append_left _ z)
    · rcases List.mem_cons.mp z with z | z
      · exact .inr (z ▸ dead₁ _ deadD)
      · rcases List.mem_append.mp z with z | z
        · exact .inr (hwr a z)
        · exact .inl (List.mem_append_right _ z)
  have newMu : ∀ a ∈ C :: nwA b C, a ∈ (C :: (nwA b C ++ own)) ++ (D₀ :: (wr ++ av)) := fun a ha => List.mem_append_left _ ((List.mem_cons.mp ha).elim (fun e => e ▸ .head _) fun z => .tail _ (List.mem_append_left _ z))
  have newDead : ∀ a ∈ C :: nwA b C, s₂.heap.get? a = none := fun a ha => (List.mem_cons.mp ha).elim (fun e => e ▸ deadC) (deadA a)
  have newNeD : D₀ ∉ C :: nwA b C := fun z => (List.mem_cons.mp z).elim hDC fun z => (nwNe _ z).2 rfl
  have newWr : ∀ a ∈ C :: nwA b C, a ∉ wr := fun a ha q => ne₂ a a (wrLive a q) (newDead a ha) rfl
  have loop : ∀ s₃ : Shared, s₃.heap = h₁ → (∃ tk, s₃ = { s₂ with heap := h₁, toks := tk }) →
      codeAny c.M c.A (.compLoop (.ListComp elt [⟨.Name x px, iter, ifs, 0⟩] sc pos) 0 (.ref I) (.ref D₀) (compEnvC sc (clB b x C cl) C c.env)) (RR (.ref D₀) C) s₃ := by
    rintro s₃ - ⟨tk₀, rfl⟩
    refine codeAny_compLoop_tests
      (fun n s' => ∃ j tk h' ov ys, j ≤ items.length ∧ n = items.length + 1 - j ∧ s' = { s₂ with heap := h', toks := tk } ∧ St j h' ∧ h'.PlainList D₀ ys.toArray ∧ Homed b x C h' ov ∧ RelL ((C :: (nwA b C ++ own)) ++ (D₀ :: (wr ++ av))) h' (((items.take j).filter p).map f) ys ∧ (∀ a o, a ∉ wr → s₂.heap.get? a = some o → h'.get? a = some o)) ?_ (items.length + 1)
      ⟨0, _, h₁, _, [], Nat.zero_le _, rfl, rfl, hst₁, hacc, hh₁, by simp only [List.take_zero, List.filter_nil, List.map_nil, RelL], fun a o _ e => old a o e⟩
    rintro n s' ⟨j, tk, h', ov, ys, hj, rfl, rfl, hst', hacc', hn', hr', hk'⟩
    have fzr : FrozL (((items.take j).filter p).map f) := FrozL.of fun d hd => by
      obtain ⟨e, he, rfl⟩ := List.mem_map.mp hd
      obtain ⟨h1, h2⟩ := List.mem_filter.mp he
      exact hf e (List.mem_of_mem_take h1) h2
    have wrMu : ∀ a ∈ wr, a ∈ (C :: (nwA b C ++ own)) ++ (D₀ :: (wr ++ av)) := fun a ha => List.mem_append_right _ (.tail _ (List.mem_append_left _ ha))
    have hDw : D₀ ∉ wr := fun q => ne₂ D₀ D₀ (wrLive D₀ q) deadD rfl
    by_cases hlt : j < items.length
    · have hd : items[j]? = some items[j] := List.getElem?_eq_getElem hlt
      have hmem : items[j] ∈ items := List.getElem_mem hlt
      refine W.item j _ _ _ hlt hst' fun v h₂ tk₂ hPv hst₂ hk₂ => ?_
      have hn₂ : Homed b x C h₂ ov := hn'.keeps fun a o ha e => hk₂ a o (newWr a (ha.elim (fun z => z ▸ .head _) fun z => .tail _ z)) e
      refine wpAny_assign_Name (storeHome k (s := { s₂ with heap := h₂, toks := tk₂ }) hn₂ fun h₃ tk₃ hn₃ hs₃ => ?_)
      have hst₃ : St (j + 1) h₃ := W.frame _ _ _ hst₂ fun a ha o e => hs₃ a o (fun z => ne₂ a a (hfp a ha).2 (newDead a z) rfl) e
      have up : ∀ a o, a ∉ wr → s₂.heap.get? a = some o → h₃.get? a = some o := fun a o ha e => hs₃ a o (fun z => ne₂ a a (by rw [e]; rfl) (newDead a z) rfl) (hk₂ a o ha (hk' a o ha e))
      have up₁ : ∀ a o, s₁.heap.get? a = some o → h₃.get? a = some o := fun a o e => up a o (fun q => by rw [hwr a q] at e; cases e) (kk₂ a o e)
      have hacc₃ : h₃.PlainList D₀ ys.toArray := hacc'.at fun o e => hs₃ _ o newNeD (hk₂ _ o hDw e)
      have hr₃ : RelL ((C :: (nwA b C ++ own)) ++ (D₀ :: (wr ++ av))) h₃ (((items.take j).filter p).map f) ys := by
        refine RelL.but (fun a o ha e => ?_) fzr hr'
        exact hs₃ a o (fun z => ha (newMu a z)) (hk₂ a o (fun z => ha (wrMu a z)) e)
      have rd : Rel ((C :: (nwA b C ++ own)) ++ (D₀ :: (wr ++ av))) h₃ items[j] v := Rel.step (own := wr) (h := s₁.heap) (fun a o ha e => up₁ a o e) (fun a z => .inr (hwr a z)) muD (fz.get hd) (hP j v _ hPv hd)
      have i₃ : Inv (cx c sc (clB b x C cl) C) (D₀ :: (wr ++ av)) (C :: (nwA b C ++ own)) ((x, items[j]) :: lc) { s₂ with heap := h₃, toks := tk₃ } := by
        refine Inv.compG (s := s₁) i₁ k hs hx (dead₁ _ deadC) (fun a ha => dead₁ _ (deadA a ha)) (dead₁ _ deadD) newNeD (fun a ha => ⟨hwr a ha, fun z => newWr a z ha, hlive _ _ hst₃ a (W.sub a ha)⟩) hn₃ ?_ up₁ rd (fz.get hd)
        obtain ⟨n, e⟩ := hacc₃
        rw [show ({ s₂ with heap := h₃, toks := tk₃ } : Shared).heap.get? D₀ = some _ from e]; rfl
      refine Tests.wp (c := cx c sc (clB b x C cl) C) (ht C _ hmem) i₃ fun s₄ k₄ => ?_
      have i₄ := i₃.keeps k₄
      obtain ⟨h₄, tk₄, rfl, kk₄⟩ := k₄
      have hst₄ : St (j + 1) h₄ := W.frame _ _ _ hst₃ fun a _ o e => kk₄ a o e
      have hn₄ : Homed b x C h₄ (some v) := hn₃.keeps fun a o _ e => kk₄ a o e
      have htake : (items.take (j + 1)).filter p = (items.take j).filter p ++ (if p items[j] then [items[j]] else []) := take_succ_filter p items j _ hd
      cases hp : p items[j] with
      | false =>
        simp only [Bool.false_eq_true, if_false]
        refine ⟨items.length + 1 - (j + 1), by omega, j + 1, tk₄, h₄, _, ys, hlt, rfl, rfl, hst₄, hacc₃.at fun o e => kk₄ _ o e, hn₄, ?_, fun a o ha e => kk₄ a o (up a o ha e)⟩
        rw [htake, hp]
        simpa using hr₃.kept kk₄
      | true =>
        simp only [if_true]
        refine he C _ hmem hp _ _ _ i₄ _ _ fun y s₅ k₅ r₅ => ?_
        obtain ⟨h₅, tk₅, rfl, kk₅⟩ := k₅
        have hacc₅ : h₅.PlainList D₀ ys.toArray := hacc₃.at fun o e => kk₅ _ o (kk₄ _ o e)
        refine wpAny_list_append_plain hacc₅ (fun h₆ hp₆ hs₆ => ?_) ?_
        · refine ⟨items.length + 1 - (j + 1), by omega, j + 1, tk₅, h₆, some v, ys ++ [y], hlt, rfl, rfl, ?_, by simpa using hp₆, ?_, ?_, fun a o ha e => ?_⟩
          · refine W.frame _ _ _ hst₄ fun a ha o e => ?_
            exact hs₆.extBut a o (fun z => ne₂ a D₀ (hfp a ha).2 deadD z) (kk₅ a o e)
          · exact hn₄.keeps fun a o ha e => hs₆.extBut a o (fun z => newNeD (z ▸ ha.elim (fun q => q ▸ .head _) fun q => .tail _ q)) (kk₅ a o e)
          · rw [htake, hp]
            simp only [if_true, List.map_append, List.map_cons, List.map_nil]
            have kb : KeptBut ((C :: (nwA b C ++ own)) ++ (D₀ :: (wr ++ av))) h₅ h₆ := sameBut_but hs₆ (List.mem_append_right _ (.head _))
            refine RelL.append (es := [f items[j]]) (ws := [y]) (RelL.but kb fzr ((hr₃.kept kk₄).kept kk₅)) ?_
            simp only [RelL]
            exact ⟨y, [], rfl, Rel.but kb (hf _ hmem hp) r₅, rfl⟩
          · exact hs₆.extBut a o (ne₂ a D₀ (by rw [e]; rfl) deadD) (kk₅ a o (kk₄ a o (up a o ha e)))
        · rw [List.size_toArray, hr₃.length, List.length_map]
          refine Nat.le_trans (List.length_filter_le _ _) (Nat.le_trans (List.length_take_le _ _) (Nat.le_trans (Nat.le_of_lt hlt) (Nat.le_trans hsz (by decide))))
    · have hje : j = items.length := by omega
      subst hje
      rw [List.take_length] at hr'
      refine W.done _ _ _ hst' fun h₂ tk₂ hk₂ => ?_
      obtain ⟨m', hm', _⟩ := hn'.ns
      refine hR D₀ C h₂ tk₂ m' ys deadD deadC hDC (fun a ha => ⟨deadA a ha, nwNe a ha⟩) (hm'.at' fun o e => hk₂ _ o (newWr C (.head _)) e) (hacc'.at fun o e => hk₂ _ o hDw e) (RelL.but (fun a o ha e => hk₂ a o (fun z => ha (wrMu a z)) e) (by rw [List.take_length] at fzr; exact fzr) hr') fun a o ha e => hk₂ a o ha (hk' a o ha e)
  exact codeAny_compStart_list (loop _ rfl ⟨_, rfl⟩) (W.self 0 _ _ _ hst₁ (loop _ rfl ⟨_, rfl⟩))
theorem ev_compG {sc : Scope} {cl : List (Str × Addr)} {x : Str} {b : Bool} {px pos : Pos} {lc : Loc} {elt iter : Expr} {ifs : List Expr} {items : List D} (p : D → Bool) (f : D → D) (k : CompG c sc cl x b) (hs : Sees c l sc cl lc) (hx : ∀ e, get lc x ≠ some e)
    (hit : ITERW c l iter items) (fz : FrozL items) (hsz : items.length ≤ 100000) (ht : ∀ C, ∀ d ∈ items, Tests (cx c sc (clB b x C cl) C) ((x, d) :: lc) ifs (p d)) (he : ∀ C, ∀ d ∈ items, p d = true → EV (cx c sc (clB b x C cl) C) ((x, d) :: lc) elt (f d)) (hf : ∀ d ∈ items, p d = true → Froz (f d))
    (hfs : ∀ env x, foldedSetIterable iter env x = pure x := by intro _ _; rfl) :
    EV c l (.ListComp elt [⟨.Name x px, iter, ifs, 0⟩] sc pos) (.lst ((items.filter p).map f)) := by
  intro av own s i Q E hQ
  rw [eval_ListComp]
  refine wpAny_comprehension_free (use := none) rfl (hfs _) k.clos k.kind k.names (hit av own s i _ _ fun s₁ I fp wr P St s₂ k₁ k₂ W hst hfp hwr hlive hP => ?_)
  have i₁ := i.keeps k₁
  refine comp_blockG (RR := fun acc C => compPost c.M c.A E none Q acc C) p f i₁ k hs hx k₂ W hst hfp hwr hlive hP fz hsz ht he hf ?_
  intro D₀ C h' tk m' ys hD hC hDC hA hn hl hr hk
  refine ⟨m', hn, fun h'' hs'' => ?_⟩
  have dead₁ : ∀ a, s₂.heap.get? a = none → s₁.heap.get? a = none := fun a z => by
    cases e : s₁.heap.get? a with
    | none => rfl
    | some o => have := kp_kept k₂ a o e; rw [z] at this; cases this
  have kp : Keeps s₁ { s₂ with heap := h'', toks := tk } := by
    obtain ⟨hh, tt, rfl, kk⟩ := k₂
    refine ⟨h'', tk, rfl, fun a o e => ?_⟩
    exact hs''.extBut a o (fun z => by rw [z, dead₁ _ hC] at e; cases e) (hk a o (fun z => by rw [hwr a z] at e; cases e) (kk a o e))
  refine hQ _ _ (kp_trans k₁ kp) ?_
  simp only [Rel]
  refine ⟨D₀, ys, rfl, fun z => ?_, (hl.at fun o e => hs''.extBut _ o hDC e).isList, ?_⟩
  · have := i₁.alive D₀ z
    rw [dead₁ _ hD] at this; cases this
  · refine RelL.sub (fun a ha => .inl ?_) (RelL.but (sameBut_but hs'' (List.mem_append_left _ (.head _))) (FrozL.of fun d hd => ?_) hr)
    · rcases List.mem_append.mp ha with z | z
      · exact List.mem_append_left _ (.tail _ (List.mem_append_right _ z))
      · exact List.mem_append_right _ (.tail _ (List.mem_append_right _ z))
    · obtain ⟨e, he', rfl⟩ := List.mem_map.mp hd
      obtain ⟨h1, h2⟩ := List.mem_filter.mp he'
      exact hf e h1 h2
theorem st_compG {sc : Scope} {cl : List (Str × Addr)} {x y : Str} {b : Bool} {px py pos spos : Pos} {lc : Loc} {elt iter : Expr} {ifs : List Expr} {items : List D} {l' : Loc} (p : D → Bool) (f : D → D) (hsw : swapsWith (.ListComp elt [⟨.Name x px, iter, ifs, 0⟩] sc pos) (some (.Name y py)) spos.line c.env = pure true)
    (hL : c.env.locals = c.L) (hy : c.env.kindOf y = some .local) (k : CompG c sc cl x b) (hs : Sees c l sc cl lc) (hx : ∀ e, get lc x ≠ some e)
    (hit : ITERW c l iter items) (fz : FrozL items) (hsz : items.length ≤ 100000) (ht : ∀ C, ∀ d ∈ items, Tests (cx c sc (clB b x C cl) C) ((x, d) :: lc) ifs (p d)) (he : ∀ C, ∀ d ∈ items, p d = true → EV (cx c sc (clB b x C cl) C) ((x, d) :: lc) elt (f d)) (hf : ∀ d ∈ items, p d = true → Froz (f d))
    (hl : put l y (.lst ((items.filter p).map f)) = l') (q : Q .next l') (hfs : ∀ env x, foldedSetIterable iter env x = pure x := by intro _ _; rfl) :
    ST c l (exec (.Assign [.Name y py] (.ListComp elt [⟨.Name x px, iter, ifs, 0⟩] sc pos) spos) c.env) Q := by
  intro av own s i R E hR
  rw [exec_Assign_Name_used _ _ _ _ hsw]
  refine wpAny_bind (wpAny_standAt (wpAny_bind ?_))
  show wpAny _ c.A (do let _ ← comprehension (.ListComp elt [⟨.Name x px, iter, ifs, 0⟩] sc pos) sc c.env _ (newList []) false (eval iter c.env) (some (assign (.Name y py) c.env))) _ _ s
  refine wpAny_bind (wpAny_mono (wpAny_comprehension_free (use := some (assign (.Name y py) c.env)) (Q := fun _ s' => R .next s') rfl (hfs _) k.clos k.kind k.names
    (hit av own s i _ _ fun s₁ I fp wr P St s₂ k₁ k₂ W hst hfp hwr hlive hP => ?_)) (fun _ s' hq => wpAny_pure (wpAny_pure hq)) fun _ _ e => e)
  have i₁ := i.keeps k₁
  refine comp_blockG (RR := fun acc C => compPost c.M c.A E (some (assign (.Name y py) c.env)) (fun _ s' => R .next s') acc C) p f i₁ k hs hx k₂ W hst hfp hwr hlive hP fz hsz ht he hf ?_
  intro D₀ C h' tk m' ys hD hC hDC hA hn hl' hr hk
  have dead₁ : ∀ a, s₂.heap.get? a = none → s₁.heap.get? a = none := fun a z => by
    cases e : s₁.heap.get? a with
    | none => rfl
    | some o => have := kp_kept k₂ a o e; rw [z] at this; cases this
  have fzr : FrozL ((items.filter p).map f) := FrozL.of fun d hd => by
    obtain ⟨e, he', rfl⟩ := List.mem_map.mp hd
    obtain ⟨h1, h2⟩ := List.mem_filter.mp he'
    exact hf e h1 h2
  have kp : Keeps s₁ { s₂ with heap := h', toks := tk } := by
    obtain ⟨hh, tt, rfl, kk⟩ := k₂
    exact ⟨h', tk, rfl, fun a o e => hk a o (fun z => by rw [hwr a z] at e; cases e) (kk a o e)⟩
  -- the comprehension's names lie apart
  have i₃ : Inv c ([C] ++ av) own l { s₂ with heap := h', toks := tk } := i₁.more (kp_kept kp) fun a ha => by
    rw [List.mem_singleton.mp ha]
    obtain ⟨o, _, _, ho, _⟩ := hn
    exact ⟨dead₁ _ hC, by rw [show ({ s₂ with heap := h', toks := tk } : Shared).heap.get? C = some o from ho]; rfl⟩
  show wpAny c.M c.A (assign (.Name y py) c.env (.ref D₀)) _ _ _
  have r₃ : Rel (own ++ ([C] ++ av)) h' (.lst ((items.filter p).map f)) (.ref D₀) := by
    simp only [Rel]
    refine ⟨D₀, ys, rfl, fun z => ?_, hl'.isList, RelL.sub (fun a ha => .inl ?_) hr⟩
    · rcases List.mem_append.mp z with z | z
      · have := i₁.alive D₀ (List.mem_append_left _ z)
        rw [dead₁ _ hD] at this; cases this
      · rcases List.mem_append.mp z with z | z
        · exact hDC (List.mem_singleton.mp z)
        · have := i₁.alive D₀ (List.mem_append_right _ z)
          rw [dead₁ _ hD] at this; cases this
    · rcases List.mem_append.mp ha with z | z
      · exact List.mem_append_left _ (.tail _ (List.mem_append_right _ z))
      · rcases List.mem_append.mp z with z | z
        · rw [List.mem_singleton.mp z]; exact List.mem_append_left _ (.head _)
        · exact List.mem_append_right _ (.tail _ (List.mem_append_right _ z))
  refine wpAny_assign_Name (storeL i₃ hL hy r₃ (by simpa only [Froz] using fzr) fun s₄ st₄ i₄ => ?_)
  have hC₀ : c.h₀.get? C = none := by
    obtain ⟨m, F⟩ := i₁.fr
    cases e : c.h₀.get? C with
    | none => rfl
    | some o => have := F.keep _ o e; rw [dead₁ _ hC] at this; cases this
  have hCo : C ∉ own := fun z => by
    have := i₁.alive C (List.mem_append_left _ z)
    rw [dead₁ _ hC] at this; cases this
  have ns₄ : s₄.heap.Ns C m' := by
    refine hn.at' fun o e => ?_
    exact st₄.kept C o hCo e
  refine ⟨m', ns₄, fun h₅ hs₅ => ?_⟩
  obtain ⟨hh₄, tt₄, rfl⟩ := st₄.same
  have i₅ : Inv c av own (put l y (.lst ((items.filter p).map f))) { s₂ with heap := h₅, toks := tt₄ } := by
    refine Inv.butAv (wr := [C]) (s := { s₂ with heap := hh₄, toks := tt₄ }) i₄ (fun a ha => List.mem_append_left _ ha) (fun a ha => by rw [List.mem_singleton.mp ha]; exact hC₀) (fun a o ha e => hs₅.extBut a o (fun z => ha (z ▸ .head _)) e) (fun a ha => ⟨List.mem_append_right _ ha, ?_⟩)
    obtain ⟨o, ho⟩ := Option.isSome_iff_exists.mp (i₄.keep a (List.mem_append_right _ ha)).1
    have nb : a ≠ C := fun z => by
      have := i₁.alive a (List.mem_append_right _ ha)
      rw [z, dead₁ _ hC] at this; cases this
    rw [hs₅.extBut a o nb ho]; rfl
  have st₅ : Step own s₁ own { s₂ with heap := h₅, toks := tt₄ } := by
    have st := (Step.of (own := own) kp).trans st₄
    refine ⟨?_, fun a o ha e => hs₅.extBut a o (fun z => by rw [z, dead₁ _ hC] at e; cases e) (st.kept a o ha e), fun a ha => .inl ha⟩
    obtain ⟨hh, tt, e2⟩ := st.same
    obtain ⟨h3, t3, e3, _⟩ := k₂
    exact ⟨h₅, tt₄, by rw [e3]⟩
  exact hR .next _ _ own _ (hl ▸ q) (by simp only [RelF]) ((Step.of k₁).trans st₅) (hl ▸ i₅)
end
end Mine
end
section
open PySem PySem.W PySem.Spec PySem.Calls PyProof.Rows
set_option Elab.async false
set_option linter.unusedVariables false
set_option genSizeOfSpec false
set_option genInjectivity false
set_option maxRecDepth 100000
namespace Mine
inductive BF where
  | len | type | bytes | range | ord | chr | isinst | sum | min | bool | int | float | complex | str | bytearray | list | tuple | dict | set | frozenset
noncomputable def BF.nm : BF → Str
  | .len => "len" | .type => "type" | .bytes => "bytes" | .range => "range" | .ord => "ord" | .chr => "chr" | .isinst => "isinstance" | .sum => "sum" | .min => "min" | .bool => "bool" | .int => "int" | .float => "float"
  | .complex => "complex" | .str => "str" | .bytearray => "bytearray" | .list => "list" | .tuple => "tuple" | .dict => "dict" | .set => "set" | .frozenset => "frozenset"
noncomputable def BF.vl : BF → Value
  | .len => .builtin "len" | .type => .type "type" | .bytes => .type "bytes" | .range => .type "range" | .ord => .builtin "ord" | .chr => .builtin "chr" | .isinst => .builtin "isinstance" | .sum => .builtin "sum" | .min => .builtin "min"
  | .bool => .type "bool" | .int => .type "int" | .float => .type "float" | .complex => .type "complex" | .str => .type "str" | .bytearray => .type "bytearray" | .list => .type "list" | .tuple => .type "tuple" | .dict => .type "dict"
  | .set => .type "set" | .frozenset => .type "frozenset"
inductive MF where
  | find | strip | split | join | partition | translate
noncomputable def MF.nm : MF → Str
  | .find => "find" | .strip => "strip" | .split => "split" | .join => "join" | .partition => "partition" | .translate => "translate"
inductive RE where
  | v (i : Nat)
  | int (i : Int)
  | str (x : Str)
  | none
  | bool (b : Bool)
  | byt (b : List UInt8)
  | g (x : Str) (d : D)
  | b (f : BF)
  | bin (op : Operator) (a b : RE)
  | cmp (op : CmpOp) (a b : RE)
  | not (a : RE)
  | neg (a : RE)
  | and (a b : RE)
  | or (as : RE)
  | ite (t a b : RE)
  | itj (t a b : RE)
  | nil
  | cons (a as : RE)
  | lst (as : RE)
  | tup (as : RE)
  | sub (a b : RE)
  | cut (a lo hi : RE) (fl fh : Bool)
  | bc (f : BF) (as : RE)
  | fc (f : Str) (as : RE)
  | fk (f : Str) (as : RE) (k : Str) (e : RE)
  | me (m : MF) (o as : RE)
  | mt (as : RE)
  | comp (elt : RE) (i : Nat) (it test : RE) (ft : Bool) (cs : List Nat)
noncomputable def nst : Expr → Bool
  | .Starred .. => false
  | _ => true
noncomputable def nsu : Expr → Bool
  | .Call _ [] [] _ => false
  | _ => true
noncomputable def mform (o : Expr) (apos pos : Pos) (es : List Expr) : Bool := nsu o && Nat.blt es.length 30 && Nat.beq apos.endLine pos.line
noncomputable def shp : Expr → Bool
  | .Starred .. => false
  | .Slice .. => false
  | .Set .. => false
  | .ListComp .. => false
  | .SetComp .. => false
  | .DictComp .. => false
  | _ => true
noncomputable def nameAt (ns : List Str) (i : Nat) (x : Str) : Bool := match ns[i]? with
  | some y => y == x
  | .none => false
noncomputable def uniqAt : List Str → Nat → Str → Bool
  | [], _, _ => false
  | y :: r, 0, x => y == x && r.all fun z => !(z == x)
  | y :: r, n + 1, x => !(y == x) && uniqAt r n x
noncomputable def isK (S : Scope) (x : Str) (k : NameKind) : Bool := match S.names.lookup x with
  | some q => q == k
  | .none => false
noncomputable def glob (S : Scope) (x : Str) : Bool := isK S x .globalImplicit && !(x == ("__debug__" : Str))
noncomputable def capK (S : Scope) (top : Bool) (y : Str) : Bool := isK S y .cell || (!top && isK S y .free)
noncomputable def compSc (S : Scope) (top : Bool) (sc : Scope) (x : Str) : Bool :=
  sc.kind == .function && ((isK sc x .local && sc.names.all fun y => !(y.2 == .cell)) || oneCell x sc.names) && sc.names.all fun y => (!(y.2 == .local) || isK sc y.1 .local) && (!(y.2 == .free) || capK S top y.1)
noncomputable def capOk (sc : Scope) (ns : List Str) (x : Str) (j : Nat) : Bool := match ns[j]? with
  | some y => !(y == x) && isK sc y .free && !(y == ("__classdict__" : Str))
  | .none => false
noncomputable def chk (ns : List Str) : RE → Scope → Bool → Expr → Bool
  | .v i => fun S top e => match e with | .Name x _ => nameAt ns i x && !(x == ("__debug__" : Str)) | _ => false
  | .int i => fun S top e => match e with | .Constant (.int j) _ _ => i == j | _ => false
  | .str x => fun S top e => match e with | .Constant (.str j) _ _ => x == j | _ => false
  | .none => fun S top e => match e with | .Constant .none _ _ => true | _ => false
  | .bool b => fun S top e => match e with | .Constant (.bool j) _ _ => b == j | _ => false
  | .byt b => fun S top e => match e with | .Constant (.bytes j) _ _ => b == j | _ => false
  | .g x d => fun S top e => match e with | .Name y _ => x == y && glob S y | _ => false
  | .b f => fun S top e => match e with | .Name y _ => f.nm == y && glob S y | _ => false
  | .bin op a b => fun S top e => match e with | .BinOp a' op' b' _ => op == op' && chk ns a S top a' && chk ns b S top b' | _ => false
  | .cmp op a b => fun S top e => match e with | .Compare a' [op'] [b'] _ => shp b' && op == op' && chk ns a S top a' && chk ns b S top b' | _ => false
  | .not a => fun S top e => match e with | .UnaryOp .Not a' _ => chk ns a S top a' | _ => false
  | .neg a => fun S top e => match e with | .UnaryOp .USub a' _ => chk ns a S top a' | _ => false
  | .and a b => fun S top e => match e with | .BoolOp .And [a', b'] _ => chk ns a S top a' && chk ns b S top b' | _ => false
  | .or as => fun S top e => match e with | .BoolOp .Or es p => chk ns as S top (.Tuple es 0 p) | _ => false
  | .ite t a b => fun S top e => match e with | .IfExp t' a' b' _ => chk ns t S top t' && chk ns a S top a' && chk ns b S top b' | _ => false
  | .itj t a b => fun S top e => match e with | .IfExp t' a' b' _ => chk ns t S top t' && chk ns a S top a' && chk ns b S top b' | _ => false
  | .nil => fun S top e => match e with | .Tuple [] 0 _ => true | _ => false
  | .cons a as => fun S top e => match e with | .Tuple (e :: es) 0 p => nst e && chk ns a S top e && chk ns as S top (.Tuple es 0 p) | _ => false
  | .lst as => fun S top e => match e with | .List es p => chk ns as S top (.Tuple es 0 p) | _ => false
  | .tup as => fun S top e => match e with | .Tuple es _ p => chk ns as S top (.Tuple es 0 p) | _ => false
  | .sub a b => fun S top e => match e with | .Subscript a' b' _ => shp b' && chk ns a S top a' && chk ns b S top b' | _ => false
  | .cut a lo hi fl fh => fun S top e => match e with
    | .Subscript a' (.Slice lo' hi' .none _) _ => chk ns a S top a' && (match lo' with | .none => !fl | some x => fl && chk ns lo S top x) && (match hi' with | .none => !fh | some x => fh && chk ns hi S top x)
    | _ => false
  | .bc f as => fun S top e => match e with | .Call (.Name y _) (x :: xs) [] p => f.nm == y && glob S y && chk ns as S top (.Tuple (x :: xs) 0 p) | _ => false
  | .fc f as => fun S top e => match e with | .Call (.Name y _) (x :: xs) [] p => f == y && glob S y && chk ns as S top (.Tuple (x :: xs) 0 p) | _ => false
  | .fk f as k v => fun S top e => match e with | .Call (.Name y _) (x :: xs) [⟨some k', v', _⟩] p => f == y && k == k' && glob S y && chk ns as S top (.Tuple (x :: xs) 0 p) && chk ns v S top v' | _ => false
  | .me m o as => fun S top e => match e with | .Call (.Attribute o' n q) (x :: xs) [] p => mform o' q p (x :: xs) && m.nm == n && chk ns o S top o' && chk ns as S top (.Tuple (x :: xs) 0 p) | _ => false
  | .mt as => fun S top e => match e with | .Call (.Attribute (.Name y w) n q) (x :: xs) [] p => mform (.Name y w) q p (x :: xs) && ("bytes" : Str) == y && ("maketrans" : Str) == n && glob S y && chk ns as S top (.Tuple (x :: xs) 0 p) | _ => false
  | .comp elt i it test ft cs => fun S top e => match e with
    | .ListComp elt' [⟨.Name x _, it', ifs, 0⟩] sc _ => shp it' && nameAt ns i x && compSc S top sc x && cs.all (capOk sc ns x) && chk ns it S top it' && chk ns elt sc false elt' && (match ifs with | [] => !ft | t :: r => ft && r.isEmpty && chk ns test sc false t)
    | _ => false
noncomputable abbrev Env := List (Option D)
noncomputable def nth : Env → Nat → Option D
  | [], _ => .none
  | o :: _, 0 => o
  | _ :: r, n + 1 => nth r n
noncomputable def upd : Env → Nat → D → Env
  | [], _, _ => []
  | _ :: r, 0, d => some d :: r
  | o :: r, n + 1, d => o :: upd r n d
noncomputable def capE (ρ : Env) : List Nat → Env
  | [] => ρ.map fun _ => .none
  | j :: cs => match nth ρ j with
    | some d => upd (capE ρ cs) j d
    | .none => capE ρ cs
noncomputable def frozB : D → Bool
  | .mls _ => false
  | .tup l => frozBs l
  | .lst l => frozBs l
  | _ => true
where frozBs : List D → Bool
  | [] => true
  | d :: ds => frozB d && frozBs ds
structure Fx where
  prog : Program
  w : World
  K : Frag
  lv : Nat
  cl : Bool
noncomputable def FN (X : Fx) (f : Str) (ds : List D) (d : D) : Prop := ∃ a o fd lv', nsIn X.K mainGlobals f = some (some (.ref a)) ∧ X.K.lookup a = some o ∧ o.data = .func fd ∧ CALL X.prog X.w X.K lv' a ds d ∧ lv' + 1 ≤ X.lv
noncomputable def FNK (X : Fx) (f : Str) (ds : List D) (k : Str) (e d : D) : Prop := ∃ a o fd lv', nsIn X.K mainGlobals f = some (some (.ref a)) ∧ X.K.lookup a = some o ∧ o.data = .func fd ∧ CALLK X.prog X.w X.K lv' a ds [k] [e] d ∧ lv' + 1 ≤ X.lv
noncomputable def GV (X : Fx) (x : Str) (d : D) : Prop := ∃ v, nsIn X.K mainGlobals x = some (some v) ∧ ∀ mu h, X.K.In h → (∀ a ∈ mu, X.K.lookup a = .none) → Rel mu h d v
noncomputable def boolD (d : D) (K : Bool → Prop) : Prop := match d with
  | .bool b => K b
  | _ => False
noncomputable def lstD (d : D) (K : List D → Prop) : Prop := match d with
  | .lst l => K l
  | _ => False
noncomputable def intD (d : D) (K : Int → Prop) : Prop := match d with
  | .int i => K i
  | _ => False
noncomputable def strD (d : D) (K : Str → Prop) : Prop := match d with
  | .str i => K i
  | _ => False
noncomputable def bytD (d : D) (K : Array UInt8 → Prop) : Prop := match d with
  | .bytes i => K i
  | _ => False
noncomputable def valD (d : D) (K : Value → Prop) : Prop := match d with
  | .val i => K i
  | _ => False
noncomputable def nilD (l : List D) (P : Prop) : Prop := match l with
  | [] => P
  | _ :: _ => False
noncomputable def hdD (l : List D) (K : D → List D → Prop) : Prop := match l with
  | [] => False
  | x :: r => K x r
noncomputable def oneD (l : List D) (K : D → Prop) : Prop := hdD l fun x r => nilD r (K x)
noncomputable def twoD (l : List D) (K : D → D → Prop) : Prop := hdD l fun x r => oneD r fun y => K x y
noncomputable def truD (d : D) (K : Bool → Prop) : Prop := match d with
  | .bool b => K b
  | .int i => K (i != 0)
  | .lst l => l.length ≤ 100000 ∧ K (!l.isEmpty)
  | _ => False
inductive Md where
  | v | t | o | l
noncomputable def fin (K : D → Prop) (d : D) (m : Md) : Prop := match m with
  | .v => K d
  | .t => truD d fun b => K (.bool b)
  | _ => False
noncomputable def arD (x y : D) (K : Int → Int → Prop) : Prop := intD x fun a => intD y fun b => K a b
noncomputable def addD (x y : D) (K : D → Prop) : Prop := match x with
  | .int a => intD y fun b => K (.int (a + b))
  | .str a => strD y fun b => a.length + b.length ≤ sizeLine ∧ K (.str (a ++ b))
  | _ => False
noncomputable def addLD (x y : D) (K : D → Prop) : Prop := match x with
  | .lst a => lstD y fun b => (a.length ≤ 1000 ∧ b.length ≤ 1000) ∧ K (.lst (a ++ b))
  | x => addD x y K
noncomputable def binD (op : Operator) (x y : D) (K : D → Prop) : Prop := match op with
  | .Add => addLD x y K
  | .Sub => arD x y fun a b => K (.int (a - b))
  | .Mult => arD x y fun a b => (-(2 ^ 64) < a ∧ a < 2 ^ 64) ∧ K (.int (a * b))
  | .FloorDiv => arD x y fun a b => (0 < b ∧ b < 1000000000000000000000000000000) ∧ K (.int (a / b))
  | .Mod => arD x y fun a b => 0 < b ∧ K (.int (a % b))
  | .Pow => arD x y fun a b => (0 ≤ b ∧ b ≤ 64 ∧ (a = 2 ∨ a = 8 ∨ a = 10)) ∧ K (.int (a ^ b.toNat))
  | .BitAnd => arD x y fun a b => K (.int (Builtin.bitAnd a b))
  | .BitOr => arD x y fun a b => K (.int (Builtin.bitOr a b))
  | .LShift => arD x y fun a b => (0 ≤ b ∧ b ≤ 64 ∧ -(2 ^ 64) < a ∧ a < 2 ^ 64) ∧ K (.int (a * 2 ^ b.toNat))
  | .RShift => arD x y fun a b => 0 ≤ b ∧ K (.int (a / 2 ^ b.toNat))
  | _ => False
noncomputable def augD (op : Operator) (x y : D) (K : D → Prop) : Prop := match op with
  | .Add => addD x y K
  | .Sub => arD x y fun a b => K (.int (a - b))
  | .FloorDiv => arD x y fun a b => (0 < b ∧ b < 10 ^ 9) ∧ K (.int (a / b))
  | _ => False
noncomputable def noneD (x : D) (K : Bool → Prop) : Prop := match x with
  | .none => K true
  | .bool _ => K false
  | .int _ => K false
  | .str _ => K false
  | .bytes _ => K false
  | _ => False
noncomputable def dataOk (x : D) : Prop := Plain x = true ∧ (toPy x).canLay0 = true ∧ (toPy x).depth ≤ 50
noncomputable def eqD (x y : D) (K : D → Prop) : Prop := match x with
  | .int a => intD y fun b => K (.bool (a == b))
  | .str a => strD y fun b => K (.bool (a == b))
  | x => (dataOk x ∧ dataOk y) ∧ K (.bool (PyData.eqv (toPy x) (toPy y)))
noncomputable def neD (x y : D) (K : D → Prop) : Prop := match x with
  | .int a => intD y fun b => K (.bool (a != b))
  | .str a => strD y fun b => K (.bool (a != b))
  | .bytes a => bytD y fun b => K (.bool (a.toList != b.toList))
  | x => (dataOk x ∧ dataOk y) ∧ K (.bool (!PyData.eqv (toPy x) (toPy y)))
noncomputable def isD (x y : D) (K : D → Prop) : Prop := match y with
  | .val b => valD x fun a => plainIs a b = true ∧ K (.bool (a == b))
  | .none => noneD x fun b => K (.bool b)
  | _ => False
noncomputable def isnD (x y : D) (K : D → Prop) : Prop := match y with
  | .none => noneD x fun b => K (.bool !b)
  | _ => False
noncomputable def inD (x y : D) (K : D → Prop) : Prop := match y with
  | .str b => strD x fun a => K (.bool (Txt.contains b a))
  | .lst l => (dataOk x ∧ Plains l = true ∧ PyData.canLayAll0 (toPys l) = true) ∧ K (.bool ((toPys l).any fun y => PyData.eqv y (toPy x)))
  | _ => False
noncomputable def ninD (x y : D) (K : D → Prop) : Prop := match y with
  | .mls l => (dataOk x ∧ Plains l = true ∧ PyData.canLayAll0 (toPys l) = true) ∧ K (.bool !((toPys l).any fun y => PyData.eqv y (toPy x)))
  | _ => False
noncomputable def cmD (op : CmpOp) (x y : D) (K : D → Prop) : Prop := match op with
  | .Eq => eqD x y K
  | .NotEq => neD x y K
  | .Lt => arD x y fun a b => K (.bool (decide (a < b)))
  | .LtE => arD x y fun a b => K (.bool (decide (a ≤ b)))
  | .Gt => arD x y fun a b => K (.bool (decide (b < a)))
  | .GtE => arD x y fun a b => K (.bool (decide (b ≤ a)))
  | .Is => isD x y K
  | .IsNot => isnD x y K
  | .In => inD x y K
  | .NotIn => ninD x y K
noncomputable def atD (ds : List D) (k : Int) (K : D → Prop) : Prop := (0 ≤ k ∧ k < 2 ^ 63) ∧ ∃ d, ds[k.toNat]? = some d ∧ K d
noncomputable def itD (x y : D) (K : D → Prop) : Prop := intD y fun k => match x with
  | .lst ds => atD ds k K
  | .mls ds => atD ds k K
  | .tup ds => atD ds k K
  | .str x => (-(x.length : Int) ≤ k ∧ k < x.length ∧ x.length ≤ 2 ^ 60) ∧ K (.str (Txt.item x k))
  | .bytes b => (0 ≤ k ∧ k < b.toList.length ∧ b.toList.length ≤ 2 ^ 30) ∧ K (.int (b.toList.getD k.toNat 0).toNat)
  | _ => False
noncomputable def partD (b : Bool) (w : (D → Prop) → Prop) (K : Option Int → Prop) : Prop := match b with
  | true => w fun y => intD y fun i => K (some i)
  | false => K .none
noncomputable def cutOk (n : Nat) (i j : Option Int) : Prop := n ≤ 1000 ∧ (∀ a, i = some a → 0 ≤ a ∧ a ≤ n) ∧ (∀ b, j = some b → 0 ≤ b) ∧ (∀ a b, i = some a → j = some b → a ≤ b ∧ b ≤ n)
noncomputable def cuD (x : D) (i j : Option Int) (K : D → Prop) : Prop := match x with
  | .str x => x.length ≤ sizeLine ∧ K (.str (Txt.slice x i j))
  | .lst ds => cutOk ds.length i j ∧ K (.lst (cutL ds i j))
  | _ => False
noncomputable def lenD (d : D) (K : D → Prop) : Prop := match d with
  | .str x => x.length ≤ 2 ^ 60 ∧ K (.int x.length)
  | .lst ds => ds.length ≤ 2 ^ 60 ∧ K (.int ds.length)
  | .bytes b => b.size ≤ 2 ^ 30 ∧ K (.int b.size)
  | _ => False
noncomputable def typeD (d : D) (K : D → Prop) : Prop := match d with
  | .bytes _ => K (.val (.type "bytes"))
  | .bool _ => K (.val (.type "bool"))
  | .int _ => K (.val (.type "int"))
  | .str _ => K (.val (.type "str"))
  | _ => False
noncomputable def rangeD (l : List D) (K : D → Prop) : Prop := hdD l fun x r => intD x fun n => match r with
  | [] => K (.rng 0 n 1)
  | y :: r => intD y fun b => oneD r fun z => intD z fun k => (k ≠ 0 ∧ k.natAbs < 1073741824) ∧ K (.rng n b k)
noncomputable def bcD (f : BF) (l : List D) (K : D → Prop) : Prop := match f with
  | .len => oneD l fun d => lenD d K
  | .type => oneD l fun d => typeD d K
  | .bytes => oneD l fun d => lstD d fun ds => ((ds.map unI).map .int = ds ∧ (∀ n ∈ ds.map unI, 0 ≤ n ∧ n < 256) ∧ (ds.map unI).length ≤ 100000) ∧ K (.bytes (byteArr (ds.map unI)))
  | .range => rangeD l K
  | .ord => oneD l fun d => strD d fun x => ∃ n, x = ⟨#[n]⟩ ∧ K (.int (n : Nat))
  | .chr => oneD l fun d => intD d fun i => (0 ≤ i ∧ i ≤ 1114111) ∧ K (.str ⟨#[i.toNat]⟩)
  | .sum => oneD l fun d => lstD d fun ds => (ds.map unI).map .int = ds ∧ K (.int (ds.map unI).sum)
  | .min => oneD l fun d => lstD d fun ds => ((ds.map unI).map .int = ds ∧ ds.map unI ≠ []) ∧ K (.int (least (ds.map unI)))
  | .isinst => twoD l fun x y => bytD x fun _ => valD y fun v => v = .type "bytes" ∧ K (.bool true)
  | _ => False
noncomputable def findD (x : Str) (l : List D) (K : D → Prop) : Prop := hdD l fun y r => strD y fun y => match r with
  | [] => K (.int (Txt.find x y))
  | z :: r => intD z fun i => nilD r (K (.int (Txt.find3 x y i)))
noncomputable def meD (m : MF) (o : D) (l : List D) (K : D → Prop) : Prop := match m with
  | .find => strD o fun x => findD x l K
  | .strip => strD o fun x => oneD l fun y => strD y fun y => x.length ≤ sizeLine ∧ K (.str (Txt.stripChars x y))
  | .split => strD o fun x => oneD l fun y => strD y fun y => ((y.length == 0) = false ∧ x.length ≤ sizeLine ∧ (Builtin.Str.partsBetween x (Builtin.Str.occurrences x y 0 x.length (x.length + 1)) y.length).length ≤ sizeLine) ∧ K (.lst ((Txt.split x y).map .str))
  | .join => strD o fun x => oneD l fun y => lstD y fun ds => ∃ ys, ds = ys.map .str ∧ JoinOk x ys = true ∧ K (.str (Txt.join x ys))
  | .partition => strD o fun x => oneD l fun y => strD y fun y => ((y.length == 0) = false ∧ x.length ≤ sizeLine) ∧ K (.tup [.str (Txt.partition x y).1, .str (Txt.partition x y).2.1, .str (Txt.partition x y).2.2])
  | .translate => bytD o fun b => oneD l fun t => bytD t fun t => (t.size = 256 ∧ b.size ≤ 100000) ∧ K (.bytes (transBy t b))
noncomputable def mtD (l : List D) (K : D → Prop) : Prop := twoD l fun a b => bytD a fun a => bytD b fun b => a.size = b.size ∧ K (.bytes (transOf a.toList b.toList))
noncomputable def srcD (d : D) (K : List D → Prop) : Prop := match d with
  | .lst ds => K ds
  | .tup ds => K ds
  | .str x => K (signsOf x)
  | .bytes b => K (bytesOf b)
  | .rng a b k => Builtin.Range.small a b k = true ∧ ∃ n : Nat, Builtin.Range.rangeSize a b k = n ∧ K (rngOf a k n)
  | _ => False
noncomputable def ifD (x : D) (A B : Prop) : Prop := boolD x fun p => (p = true → A) ∧ (p = false → B)
noncomputable def m0 (P : Prop) (m : Md) : Prop := match m with
  | .v => P
  | _ => False
noncomputable def m1 (P : Prop) (m : Md) : Prop := match m with
  | .t => P
  | _ => False
noncomputable def m01 (P : Prop) (m : Md) : Prop := match m with
  | .v => P
  | .t => P
  | _ => False
noncomputable def m23 (P Q : Prop) (m : Md) : Prop := match m with
  | .o => P
  | .l => Q
  | _ => False
noncomputable def wp (X : Fx) : RE → Md → Env → (D → Prop) → Prop
  | .v i => fun m ρ K => match nth ρ i with | some d => fin K d m | .none => False
  | .int i => fun m ρ K => fin K (.int i) m
  | .str x => fun m ρ K => fin K (.str x) m
  | .none => fun m ρ K => fin K .none m
  | .bool b => fun m ρ K => fin K (.bool b) m
  | .byt b => fun m ρ K => fin K (.bytes b.toArray) m
  | .g x d => fun m ρ K => GV X x d ∧ fin K d m
  | .b f => fun m ρ K => fin K (.val f.vl) m
  | .bin op a b => fun m ρ K => wp X a .v ρ fun x => wp X b .v ρ fun y => binD op x y fun d => fin K d m
  | .cmp op a b => fun m ρ K => m01 (wp X a .v ρ fun x => wp X b .v ρ fun y => cmD op x y K) m
  | .not a => fun m ρ K => m1 (wp X a .t ρ fun x => boolD x fun p => K (.bool !p)) m
  | .neg a => fun m ρ K => wp X a .v ρ fun x => intD x fun i => fin K (.int (-i)) m
  | .and a b => fun m ρ K => m01 (wp X a m ρ fun x => ifD x (wp X b m ρ fun y => boolD y fun q => K (.bool q)) (K (.bool false))) m
  | .or as => fun m ρ K => m1 (wp X as .o ρ K) m
  | .ite t a b => fun m ρ K => m0 (wp X t .t ρ fun x => ifD x (wp X a .v ρ K) (wp X b .v ρ K)) m
  | .itj t a b => fun m ρ K => m0 (wp X t .t ρ fun x => boolD x fun p => ∃ d, (p = true → wp X a .v ρ fun y => y = d) ∧ (p = false → wp X b .v ρ fun y => y = d) ∧ K d) m
  | .nil => fun m ρ K => m23 (K (.bool false)) (K (.lst [])) m
  | .cons a as => fun m ρ K => m23 (wp X a .t ρ fun x => ifD x (K (.bool true)) (wp X as .o ρ K)) (wp X a .v ρ fun d => wp X as .l ρ fun y => lstD y fun l => K (.lst (d :: l))) m
  | .lst as => fun m ρ K => m0 (wp X as .l ρ fun y => lstD y fun l => l.length ≤ 1000 ∧ K (.lst l)) m
  | .tup as => fun m ρ K => m0 (wp X as .l ρ fun y => lstD y fun l => l.length ≤ 1000 ∧ K (.tup l)) m
  | .sub a b => fun m ρ K => wp X a .v ρ fun x => wp X b .v ρ fun y => itD x y fun d => fin K d m
  | .cut a lo hi fl fh => fun m ρ K => wp X a .v ρ fun x => partD fl (wp X lo .v ρ) fun i => partD fh (wp X hi .v ρ) fun j => cuD x i j fun d => fin K d m
  | .bc f as => fun m ρ K => wp X as .l ρ fun y => lstD y fun l => bcD f l fun d => fin K d m
  | .fc f as => fun m ρ K => wp X as .l ρ fun y => lstD y fun l => ∃ d, FN X f l d ∧ fin K d m
  | .fk f as k v => fun m ρ K => wp X as .l ρ fun y => lstD y fun l => wp X v .v ρ fun e => ∃ d, FNK X f l k e d ∧ fin K d m
  | .me o ob as => fun m ρ K => wp X ob .v ρ fun x => wp X as .l ρ fun y => lstD y fun l => meD o x l fun d => fin K d m
  | .mt as => fun m ρ K => wp X as .l ρ fun y => lstD y fun l => mtD l fun d => fin K d m
  | .comp elt i it test ft cs => fun m ρ K => m0 (wp X it .v ρ fun s => srcD s fun items =>
      (frozB.frozBs items = true ∧ items.length ≤ 100000 ∧ cs.all (fun j => match nth ρ j with | some d => frozB d | .none => true) = true) ∧ (match ft with
      | false => ∃ f : D → D, (∀ d ∈ items, wp X elt .v (upd (capE ρ cs) i d) fun r => r = f d ∧ frozB r = true) ∧ K (.lst (items.map f))
      | true => ∃ (p : D → Bool) (f : D → D), (∀ d ∈ items, wp X test .t (upd (capE ρ cs) i d) fun r => r = .bool (p d)) ∧ (∀ d ∈ items, p d = true → wp X elt .v (upd (capE ρ cs) i d) fun r => r = f d ∧ frozB r = true) ∧ K (.lst ((items.filter p).map f)))) m
end Mine
end
section
open PySem PySem.W PySem.Spec PySem.Calls PyProof.Rows
set_option Elab.async false
set_option linter.unusedVariables false
set_option maxRecDepth 100000
namespace Mine
theorem nof {P : Prop} (h : false = true) : P := Bool.noConfusion h
theorem and2 {a b : Bool} (h : (a && b) = true) : a = true ∧ b = true := Bool.and_eq_true_iff.mp h
theorem nst_each {e : Expr} {es : List Expr} (h : nst e = true) (env : PySem.Env) : starEach (e :: es) env = (false, eval e env) :: starEach es env := by
  cases e <;> first | rfl | exact nof h
theorem nst_any {pos : Pos} {env : PySem.Env} : ∀ {es : List Expr}, (∀ e ∈ es, nst e = true) → (backTo pos (starEach es env)).any (·.1) = false
  | [], _ => rfl
  | e :: es, h => by
    rw [nst_each (h e (.head _))]
    exact nst_any fun x hx => h x (.tail _ hx)
theorem shp_swaps {e : Expr} {t : Option Expr} {n : Nat} (h : shp e = true) (env : PySem.Env) : swapsWith e t n env = pure false := by
  cases e <;> first | rfl | exact nof h
theorem shp_marks {e : Expr} {op : CmpOp} (h : shp e = true) : behindInMarks op e = false := by
  cases e <;> first | rfl | exact nof h
theorem shp_sub {e : Expr} (h : shp e = true) (o i : Value) : subscripted e false o i = operate [o, i] (getItem o i) := by
  cases e <;> first | rfl | exact nof h
theorem shp_fold {e : Expr} (h : shp e = true) (env : PySem.Env) (x : Value) : foldedSetIterable e env x = pure x := by
  cases e <;> first | rfl | exact nof h
structure CE (X : Fx) (S : Scope) (c : Cx) : Prop where
  prog : c.prog = X.prog
  w : c.w = X.w
  K : c.K = X.K
  lv : c.lv = X.lv
  gl : ∀ x, S.names.lookup x = some .globalImplicit → c.env.kindOf x = some .globalImplicit
structure CF (S : Scope) (c : Cx) : Prop where
  sc : c.env.scope = S
  loc : c.env.locals = c.L
  cells : c.env.cells = cellsFrom (c.L + 1) S.names []
structure CG (top : Bool) (S : Scope) (c : Cx) : Prop where
  cap : ∀ y, capK S top y = true → (c.env.kindOf y = some .cell ∨ c.env.kindOf y = some .free) ∧ ∃ a, c.env.cells.lookup y = some a
structure XOk (X : Fx) : Prop where
  bl : ∀ f : BF, nsIn X.K mainGlobals f.nm = some none
  en : nsIn X.K mainGlobals "enumerate" = some none
  mt : findCls X.K (.type "bytes") (.type "type") "maketrans" = some (.val (.builtin "bytes.maketrans"))
noncomputable def Agr (ns : List Str) (ρ : Env) (l : Loc) : Prop := ∀ i d, nth ρ i = some d → ∃ x, ns[i]? = some x ∧ get l x = some d
theorem isK_out {S : Scope} {x : Str} {k : NameKind} (h : isK S x k = true) : S.names.lookup x = some k := by
  unfold isK at h
  split at h
  · next e => rw [e, eq_of_beq h]
  · exact nof h
theorem glob_out {S : Scope} {x : Str} (h : glob S x = true) : S.names.lookup x = some .globalImplicit ∧ (x == ("__debug__" : Str)) = false := by
  unfold glob at h
  obtain ⟨h1, h2⟩ := and2 h
  exact ⟨isK_out h1, by simpa using h2⟩
theorem nameAt_out {ns : List Str} {i : Nat} {x : Str} (h : nameAt ns i x = true) : ns[i]? = some x := by
  unfold nameAt at h
  split at h
  · next e => rw [e, eq_of_beq h]
  · exact nof h
theorem BF.boot (f : BF) : bootBuiltins f.nm = some f.vl := by
  cases f
  · exact boot_len
  · exact boot_type
  · exact boot_bytes
  · exact boot_range
  · exact boot_ord
  · exact boot_chr
  · exact boot_isinstance
  · exact boot_sum
  · exact boot_min
  · exact boot_bool
  · exact boot_int
  · exact boot_float
  · exact boot_complex
  · exact boot_str
  · exact boot_bytearray
  · exact boot_list
  · exact boot_tuple
  · exact boot_dict
  · exact boot_set
  · exact boot_frozenset
theorem BF.ne (f : BF) : f.nm ≠ "__name__" := by cases f <;> exact str_ne (by decide)
section
variable {X : Fx} {S : Scope} {c : Cx} {l : Loc}
theorem ev_b (ok : XOk X) (ce : CE X S c) {f : BF} {pos : Pos} (h : glob S f.nm = true) : EV c l (.Name f.nm pos) (.val f.vl) := by
  obtain ⟨h1, h2⟩ := glob_out h
  exact ev_blt (ce.gl _ h1) (ce.K ▸ ok.bl f) f.boot f.ne h2
theorem ev_gv (ce : CE X S c) {x : Str} {d : D} {pos : Pos} (h : glob S x = true) (g : GV X x d) : EV c l (.Name x pos) d := by
  obtain ⟨h1, h2⟩ := glob_out h
  obtain ⟨v, g1, g2⟩ := g
  exact ev_glob (ce.gl _ h1) (by rw [ce.K]; exact g1) (by rw [ce.K]; exact g2) h2
noncomputable def TV (e : Expr) : Prop := ∀ env, isTrue e env (eval e env) = (do let v ← eval e env; standAt e.pos; holding [v] (truthy v))
noncomputable def Out (c : Cx) (l : Loc) (e : Expr) (K : D → Prop) (m : Md) : Prop := match m with
  | .v => ∃ d, EV c l e d ∧ K d
  | .t => ∃ b, TR c l e b ∧ K (.bool b)
  | .o => ∃ es p, e = .Tuple es 0 p ∧ ∃ b, ORL c l es b ∧ K (.bool b)
  | .l => ∃ es p, e = .Tuple es 0 p ∧ (∀ x ∈ es, nst x = true) ∧ ∃ ds, EVL c l es ds ∧ K (.lst ds)
theorem boolD_out {d : D} {K : Bool → Prop} (h : boolD d K) : ∃ b, d = .bool b ∧ K b := by
  cases d with
  | bool b => exact ⟨b, rfl, h⟩
  | _ => exact h.elim
theorem lstD_out {d : D} {K : List D → Prop} (h : lstD d K) : ∃ b, d = .lst b ∧ K b := by
  cases d with
  | lst b => exact ⟨b, rfl, h⟩
  | _ => exact h.elim
theorem intD_out {d : D} {K : Int → Prop} (h : intD d K) : ∃ b, d = .int b ∧ K b := by
  cases d with
  | int b => exact ⟨b, rfl, h⟩
  | _ => exact h.elim
theorem strD_out {d : D} {K : Str → Prop} (h : strD d K) : ∃ b, d = .str b ∧ K b := by
  cases d with
  | str b => exact ⟨b, rfl, h⟩
  | _ => exact h.elim
theorem bytD_out {d : D} {K : Array UInt8 → Prop} (h : bytD d K) : ∃ b, d = .bytes b ∧ K b := by
  cases d with
  | bytes b => exact ⟨b, rfl, h⟩
  | _ => exact h.elim
theorem valD_out {d : D} {K : Value → Prop} (h : valD d K) : ∃ b, d = .val b ∧ K b := by
  cases d with
  | val b => exact ⟨b, rfl, h⟩
  | _ => exact h.elim
theorem nilD_out {l : List D} {P : Prop} (h : nilD l P) : l = [] ∧ P := by
  cases l with
  | nil => exact ⟨rfl, h⟩
  | cons _ _ => exact h.elim
theorem hdD_out {l : List D} {K : D → List D → Prop} (h : hdD l K) : ∃ x r, l = x :: r ∧ K x r := by
  cases l with
  | nil => exact h.elim
  | cons x r => exact ⟨x, r, rfl, h⟩
theorem oneD_out {l : List D} {K : D → Prop} (h : oneD l K) : ∃ x, l = [x] ∧ K x := by
  replace h := hdD_out h; obtain ⟨x, r, rfl, h⟩ := h
  replace h := nilD_out h; obtain ⟨rfl, h⟩ := h
  exact ⟨x, rfl, h⟩
theorem twoD_out {l : List D} {K : D → D → Prop} (h : twoD l K) : ∃ x y, l = [x, y] ∧ K x y := by
  replace h := hdD_out h; obtain ⟨x, r, rfl, h⟩ := h
  replace h := oneD_out h; obtain ⟨y, rfl, h⟩ := h
  exact ⟨x, y, rfl, h⟩
theorem arD_out {x y : D} {K : Int → Int → Prop} (h : arD x y K) : ∃ a b, x = .int a ∧ y = .int b ∧ K a b := by
  replace h := intD_out h; obtain ⟨a, rfl, h⟩ := h
  replace h := intD_out h; obtain ⟨b, rfl, h⟩ := h
  exact ⟨a, b, rfl, rfl, h⟩
theorem truD_out {d : D} {K : Bool → Prop} (h : truD d K) : ∃ b, TRUTH c d b ∧ K b := by
  cases d with
  | bool b => exact ⟨_, t_bool, h⟩
  | int b => exact ⟨_, t_int, h⟩
  | lst l => exact ⟨_, t_lst h.1, h.2⟩
  | _ => exact h.elim
theorem out_fin {e : Expr} {d : D} {m : Md} {K : D → Prop} (h : EV c l e d) (tv : TV e) (f : fin K d m) : Out c l e K m := by
  cases m with
  | v => exact ⟨d, h, f⟩
  | t =>
    obtain ⟨b, t, k⟩ := truD_out (c := c) (show truD d _ from f)
    exact ⟨b, tr_val h t tv, k⟩
  | _ => exact f.elim
theorem bin_out {op : Operator} {x y : D} {K : D → Prop} (h : binD op x y K) : ∃ d, BIN c op x y d ∧ K d := by
  cases op with
  | Add =>
    cases x with
    | int a => replace h := intD_out h; obtain ⟨b, rfl, h⟩ := h; exact ⟨_, b_add, h⟩
    | str a => replace h := strD_out h; obtain ⟨b, rfl, h⟩ := h; exact ⟨_, b_cat h.1, h.2⟩
    | lst a => replace h := lstD_out h; obtain ⟨b, rfl, h⟩ := h; exact ⟨_, bin_addL h.1.1 h.1.2, h.2⟩
    | _ => exact h.elim
  | Sub => replace h := arD_out h; obtain ⟨a, b, rfl, rfl, h⟩ := h; exact ⟨_, b_sub, h⟩
  | Mult => replace h := arD_out h; obtain ⟨a, b, rfl, rfl, h⟩ := h; exact ⟨_, b_mul h.1.1 h.1.2, h.2⟩
  | FloorDiv => replace h := arD_out h; obtain ⟨a, b, rfl, rfl, h⟩ := h; exact ⟨_, b_div h.1.1 h.1.2, h.2⟩
  | Mod => replace h := arD_out h; obtain ⟨a, b, rfl, rfl, h⟩ := h; exact ⟨_, b_mod h.1, h.2⟩
  | Pow => replace h := arD_out h; obtain ⟨a, b, rfl, rfl, h⟩ := h; exact ⟨_, b_pow h.1.1 h.1.2.1 h.1.2.2 rfl, h.2⟩
  | BitAnd => replace h := arD_out h; obtain ⟨a, b, rfl, rfl, h⟩ := h; exact ⟨_, b_and, h⟩
  | BitOr => replace h := arD_out h; obtain ⟨a, b, rfl, rfl, h⟩ := h; exact ⟨_, b_or, h⟩
  | LShift => replace h := arD_out h; obtain ⟨a, b, rfl, rfl, h⟩ := h; exact ⟨_, b_shl h.1.1 h.1.2.1 h.1.2.2.1 h.1.2.2.2, h.2⟩
  | RShift => replace h := arD_out h; obtain ⟨a, b, rfl, rfl, h⟩ := h; exact ⟨_, b_shr h.1, h.2⟩
  | _ => exact h.elim
theorem aug_out {op : Operator} {x y : D} {K : D → Prop} (h : augD op x y K) : ∃ d, IBIN c op x y d ∧ K d := by
  cases op with
  | Add =>
    cases x with
    | int a => replace h := intD_out h; obtain ⟨b, rfl, h⟩ := h; exact ⟨_, ib_add, h⟩
    | str a => replace h := strD_out h; obtain ⟨b, rfl, h⟩ := h; exact ⟨_, ib_cat h.1, h.2⟩
    | _ => exact h.elim
  | Sub => replace h := arD_out h; obtain ⟨a, b, rfl, rfl, h⟩ := h; exact ⟨_, ib_sub, h⟩
  | FloorDiv => replace h := arD_out h; obtain ⟨a, b, rfl, rfl, h⟩ := h; exact ⟨_, ib_div h.1.1 h.1.2, h.2⟩
  | _ => exact h.elim
theorem noneD_out {d : D} {K : Bool → Prop} (h : noneD d K) : ∃ b, (∀ mu h v, Rel mu h d v → (v == Value.none) = b) ∧ K b := by
  cases d with
  | none => exact ⟨_, fun _ _ v (r : v = _) => by subst r; rfl, h⟩
  | bool b => exact ⟨_, fun _ _ v (r : v = _) => by subst r; rfl, h⟩
  | int b => exact ⟨_, fun _ _ v (r : ∃ t, v = _) => by obtain ⟨t, rfl⟩ := r; rfl, h⟩
  | str b => exact ⟨_, fun _ _ v (r : ∃ t, v = _) => by obtain ⟨t, rfl⟩ := r; rfl, h⟩
  | bytes b => exact ⟨_, fun _ _ v (r : ∃ t, v = _) => by obtain ⟨t, rfl⟩ := r; rfl, h⟩
  | _ => exact h.elim
theorem cm_data {x y : D} {K : D → Prop} (h : (dataOk x ∧ dataOk y) ∧ K (.bool (PyData.eqv (toPy x) (toPy y)))) : ∃ b, CMP c .Eq x y b ∧ K (.bool b) := by
  obtain ⟨⟨⟨p1, p2, p3⟩, q1, q2, q3⟩, h⟩ := h; exact ⟨_, c_deq p1 q1 p2 q2 p3, h⟩
theorem cm_ndata {x y : D} {K : D → Prop} (h : (dataOk x ∧ dataOk y) ∧ K (.bool (!PyData.eqv (toPy x) (toPy y)))) : ∃ b, CMP c .NotEq x y b ∧ K (.bool b) := by
  obtain ⟨⟨⟨p1, p2, p3⟩, q1, q2, q3⟩, h⟩ := h; exact ⟨_, c_dne p1 q1 p2 q2 p3, h⟩
theorem cm_out {op : CmpOp} {x y : D} {K : D → Prop} (h : cmD op x y K) : ∃ b, CMP c op x y b ∧ K (.bool b) := by
  cases op with
  | Eq =>
    cases x with
    | int a => replace h := intD_out h; obtain ⟨b, rfl, h⟩ := h; exact ⟨_, c_eq, h⟩
    | str a => replace h := strD_out h; obtain ⟨b, rfl, h⟩ := h; exact ⟨_, c_seq, h⟩
    | _ => exact cm_data h
  | NotEq =>
    cases x with
    | int a => replace h := intD_out h; obtain ⟨b, rfl, h⟩ := h; exact ⟨_, c_ne, h⟩
    | str a => replace h := strD_out h; obtain ⟨b, rfl, h⟩ := h; exact ⟨_, c_sne, h⟩
    | bytes a => replace h := bytD_out h; obtain ⟨b, rfl, h⟩ := h; exact ⟨_, c_bne, h⟩
    | _ => exact cm_ndata h
  | Lt => replace h := arD_out h; obtain ⟨a, b, rfl, rfl, h⟩ := h; exact ⟨_, c_lt, h⟩
  | LtE => replace h := arD_out h; obtain ⟨a, b, rfl, rfl, h⟩ := h; exact ⟨_, c_le, h⟩
  | Gt => replace h := arD_out h; obtain ⟨a, b, rfl, rfl, h⟩ := h; exact ⟨_, c_gt, h⟩
  | GtE => replace h := arD_out h; obtain ⟨a, b, rfl, rfl, h⟩ := h; exact ⟨_, c_ge, h⟩
  | Is =>
    cases y with
    | val b => replace h := valD_out h; obtain ⟨b, rfl, h⟩ := h; exact ⟨_, c_is h.1 rfl, h.2⟩
    | none => replace h := noneD_out (show noneD x (fun b => K (.bool b)) from h); obtain ⟨b, e, h⟩ := h; exact ⟨_, c_isNone e, h⟩
    | _ => exact h.elim
  | IsNot =>
    cases y with
    | none => replace h := noneD_out (show noneD x (fun b => K (.bool !b)) from h); obtain ⟨b, e, h⟩ := h; exact ⟨_, c_isNotNone e, h⟩
    | _ => exact h.elim
  | In =>
    cases y with
    | str b => replace h := strD_out h; obtain ⟨b, rfl, h⟩ := h; exact ⟨_, c_inS, h⟩
    | lst l => obtain ⟨⟨⟨p1, p2, p3⟩, q1, q2⟩, h⟩ := h; exact ⟨_, c_inL p1 q1 p2 q2 p3, h⟩
    | _ => exact h.elim
  | NotIn =>
    cases y with
    | mls l => obtain ⟨⟨⟨p1, p2, p3⟩, q1, q2⟩, h⟩ := h; exact ⟨_, c_notInM p1 q1 p2 q2 p3, h⟩
    | _ => exact h.elim
theorem it_out {x y : D} {K : D → Prop} (h : itD x y K) : ∃ d, ITEM c x y d ∧ K d := by
  replace h := intD_out h; obtain ⟨k, rfl, h⟩ := h
  cases x with
  | lst ds => obtain ⟨h1, d, h2, h3⟩ := h; exact ⟨d, i_lst h1.1 h1.2 h2, h3⟩
  | mls ds => obtain ⟨h1, d, h2, h3⟩ := h; exact ⟨d, i_mls h1.1 h1.2 h2, h3⟩
  | tup ds => obtain ⟨h1, d, h2, h3⟩ := h; exact ⟨d, i_tup h1.1 h1.2 h2, h3⟩
  | str x => exact ⟨_, i_str h.1.1 h.1.2.1 h.1.2.2, h.2⟩
  | bytes b => exact ⟨_, i_bytes (b := b.toList) h.1.1 h.1.2.1 h.1.2.2, h.2⟩
  | _ => exact h.elim
theorem cu_out {x : D} {i j : Option Int} {K : D → Prop} (h : cuD x i j K) : ∃ d, CUT c x i j d ∧ K d := by
  cases x with
  | str x => exact ⟨_, cut_str h.1, h.2⟩
  | lst l => obtain ⟨⟨h0, h1, h2, h3⟩, h⟩ := h; exact ⟨_, cut_lst h0 h1 h2 h3, h⟩
  | _ => exact h.elim
theorem bc_out {f : BF} {x : List D} {K : D → Prop} (h : bcD f x K) : ∃ d, BCALL c f.vl x d ∧ K d := by
  cases f with
  | len =>
    replace h := oneD_out h; obtain ⟨d, rfl, h⟩ := h
    cases d with
    | str x => exact ⟨_, k_lenS h.1, h.2⟩
    | lst x => exact ⟨_, k_lenL h.1, h.2⟩
    | bytes x => exact ⟨_, k_lenB h.1, h.2⟩
    | _ => exact h.elim
  | type =>
    replace h := oneD_out h; obtain ⟨d, rfl, h⟩ := h
    cases d with
    | bytes _ => exact ⟨_, k_type rfl rfl, h⟩
    | bool _ => exact ⟨_, k_type rfl rfl, h⟩
    | int _ => exact ⟨_, k_type rfl rfl, h⟩
    | str _ => exact ⟨_, k_type rfl rfl, h⟩
    | _ => exact h.elim
  | bytes =>
    replace h := oneD_out h; obtain ⟨d, rfl, h⟩ := h
    replace h := lstD_out h; obtain ⟨l, rfl, h⟩ := h
    exact ⟨_, k_bytesE h.1.1 h.1.2.1 h.1.2.2, h.2⟩
  | range =>
    replace h := hdD_out h; obtain ⟨d, r, rfl, h⟩ := h
    replace h := intD_out h; obtain ⟨a, rfl, h⟩ := h
    cases r with
    | nil => exact ⟨_, k_range1, h⟩
    | cons y r =>
      replace h := intD_out h; obtain ⟨b, rfl, h⟩ := h
      replace h := oneD_out h; obtain ⟨z, rfl, h⟩ := h
      replace h := intD_out h; obtain ⟨k, rfl, h⟩ := h
      exact ⟨_, k_range3 h.1.1 h.1.2, h.2⟩
  | sum =>
    replace h := oneD_out h; obtain ⟨d, rfl, h⟩ := h
    replace h := lstD_out h; obtain ⟨l, rfl, h1, h⟩ := h
    refine ⟨_, ?_, h⟩
    have := k_sum (c := c) (ns := l.map unI)
    rwa [h1] at this
  | min =>
    replace h := oneD_out h; obtain ⟨d, rfl, h⟩ := h
    replace h := lstD_out h; obtain ⟨l, rfl, ⟨h1, h2⟩, h⟩ := h
    refine ⟨_, ?_, h⟩
    have := k_min (c := c) (ns := l.map unI) h2
    rwa [h1] at this
  | ord =>
    replace h := oneD_out h; obtain ⟨d, rfl, h⟩ := h
    replace h := strD_out h; obtain ⟨x, rfl, n, rfl, h⟩ := h
    exact ⟨_, k_ord, h⟩
  | chr =>
    replace h := oneD_out h; obtain ⟨d, rfl, h⟩ := h
    replace h := intD_out h; obtain ⟨x, rfl, h⟩ := h
    exact ⟨_, k_chr h.1.1 h.1.2, h.2⟩
  | isinst =>
    replace h := twoD_out h; obtain ⟨x, y, rfl, h⟩ := h
    replace h := bytD_out h; obtain ⟨x, rfl, h⟩ := h
    replace h := valD_out h; obtain ⟨y, rfl, rfl, h⟩ := h
    exact ⟨_, k_isBytes, h⟩
  | _ => exact h.elim
theorem me_out {f : MF} {o : D} {x : List D} {K : D → Prop} (h : meD f o x K) : ∃ id d, METH c o f.nm id ∧ BCALL c (.builtin id) (o :: x) d ∧ K d := by
  cases f with
  | find =>
    replace h := strD_out h; obtain ⟨x, rfl, h⟩ := h
    replace h := hdD_out h; obtain ⟨y, r, rfl, h⟩ := h
    replace h := strD_out h; obtain ⟨y, rfl, h⟩ := h
    cases r with
    | nil => exact ⟨_, _, m_find, k_find, h⟩
    | cons z r =>
      replace h := intD_out h; obtain ⟨z, rfl, h⟩ := h
      replace h := nilD_out h; obtain ⟨rfl, h⟩ := h
      exact ⟨_, _, m_find, k_find3, h⟩
  | strip =>
    replace h := strD_out h; obtain ⟨x, rfl, h⟩ := h
    replace h := oneD_out h; obtain ⟨y, rfl, h⟩ := h
    replace h := strD_out h; obtain ⟨y, rfl, h⟩ := h
    exact ⟨_, _, m_strip, k_strip h.1, h.2⟩
  | split =>
    replace h := strD_out h; obtain ⟨x, rfl, h⟩ := h
    replace h := oneD_out h; obtain ⟨y, rfl, h⟩ := h
    replace h := strD_out h; obtain ⟨y, rfl, h⟩ := h
    exact ⟨_, _, m_split, k_split h.1.1 h.1.2.1 h.1.2.2, h.2⟩
  | join =>
    replace h := strD_out h; obtain ⟨x, rfl, h⟩ := h
    replace h := oneD_out h; obtain ⟨y, rfl, h⟩ := h
    replace h := lstD_out h; obtain ⟨_, rfl, ys, rfl, h1, h2⟩ := h
    exact ⟨_, _, m_join, k_join h1, h2⟩
  | partition =>
    replace h := strD_out h; obtain ⟨x, rfl, h⟩ := h
    replace h := oneD_out h; obtain ⟨y, rfl, h⟩ := h
    replace h := strD_out h; obtain ⟨y, rfl, h⟩ := h
    exact ⟨_, _, m_partition, k_partition h.1.1 h.1.2, h.2⟩
  | translate =>
    replace h := bytD_out h; obtain ⟨x, rfl, h⟩ := h
    replace h := oneD_out h; obtain ⟨y, rfl, h⟩ := h
    replace h := bytD_out h; obtain ⟨y, rfl, h⟩ := h
    exact ⟨_, _, m_translate, k_translate h.1.1 h.1.2, h.2⟩
theorem mt_out {x : List D} {K : D → Prop} (h : mtD x K) : ∃ d, BCALL c (.builtin "bytes.maketrans") x d ∧ K d := by
  replace h := twoD_out h; obtain ⟨x, y, rfl, h⟩ := h
  replace h := bytD_out h; obtain ⟨x, rfl, h⟩ := h
  replace h := bytD_out h; obtain ⟨y, rfl, h⟩ := h
  exact ⟨_, k_maketrans h.1, h.2⟩
theorem src_out {x : D} {K : List D → Prop} (h : srcD x K) : ∃ ds, SRCW c x ds ∧ K ds := by
  cases x with
  | lst _ => exact ⟨_, sw_lst, h⟩
  | tup _ => exact ⟨_, sw_tup, h⟩
  | str _ => exact ⟨_, sw_str, h⟩
  | bytes _ => exact ⟨_, sw_bytes, h⟩
  | rng _ _ _ => obtain ⟨h1, n, h2, h3⟩ := h; exact ⟨_, sw_rng h1 h2, h3⟩
  | _ => exact h.elim
end
mutual
theorem froz_of : ∀ {d : D}, frozB d = true → Froz d
  | .mls _, h => nof h
  | .tup l, h => frozs_of (ds := l) h
  | .lst l, h => frozs_of (ds := l) h
  | .none, _ => trivial
  | .bool _, _ => trivial
  | .int _, _ => trivial
  | .str _, _ => trivial
  | .bytes _, _ => trivial
  | .rng _ _ _, _ => trivial
  | .val _, _ => trivial
theorem frozs_of : ∀ {ds : List D}, frozB.frozBs ds = true → FrozL ds
  | [], _ => trivial
  | d :: ds, h => ⟨froz_of (and2 h).1, frozs_of (and2 h).2⟩
end
end Mine
end
section
open PySem PySem.W PySem.Spec PySem.Calls PyProof.Rows
set_option Elab.async false
set_option linter.unusedVariables false
set_option maxRecDepth 100000
namespace Mine
theorem clos_loop {env : PySem.Env} : ∀ (names : List (Str × NameKind)) (acc : List (Str × Addr)), (∀ y ∈ names, y.2 = .free → ∃ a, env.cells.lookup y.1 = some a) → (∀ q ∈ acc, env.cells.lookup q.1 = some q.2) →
    ∃ cl, (forIn names acc fun (x : Str × NameKind) (cs : List (Str × Addr)) => (if x.2 == NameKind.free then do let a ← cellOf env x.1; pure (ForInStep.yield ((x.1, a) :: cs)) else pure (ForInStep.yield cs) : Sem _)) = pure cl ∧
      (∀ q ∈ cl, env.cells.lookup q.1 = some q.2) ∧ (∀ y, (∃ a, acc.lookup y = some a) ∨ (y, NameKind.free) ∈ names → ∃ a, cl.lookup y = some a)
  | [], acc, _, h2 => ⟨acc, rfl, h2, fun y h => h.elim id fun q => nomatch q⟩
  | (x, k) :: r, acc, h1, h2 => by
    rw [List.forIn_cons]
    by_cases hk : k = .free
    · subst hk
      obtain ⟨a, ha⟩ := h1 _ (.head _) rfl
      obtain ⟨cl, e1, e2, e3⟩ := clos_loop r ((x, a) :: acc) (fun y hy => h1 y (.tail _ hy)) fun q hq => (List.mem_cons.mp hq).elim (fun z => z ▸ ha) (h2 q)
      refine ⟨cl, ?_, e2, fun y h => e3 y ?_⟩
      · rw [← e1]
        have hc : cellOf env x = pure a := by unfold cellOf; rw [ha]
        show ((do let a ← cellOf env x; pure (ForInStep.yield ((x, a) :: acc))) >>= _ : Sem _) = _
        rw [hc, pure_bind, pure_bind]
      · rcases h with ⟨b, hb⟩ | h
        · left
          rw [List.lookup_cons]
          by_cases q : (y == x) = true
          · simp only [q]; exact ⟨_, rfl⟩
          · simp only [q]; exact ⟨b, hb⟩
        · rcases List.mem_cons.mp h with e | h
          · left
            cases e
            rw [List.lookup_cons]
            simp only [beq_self_eq_true]; exact ⟨_, rfl⟩
          · exact .inr h
    · obtain ⟨cl, e1, e2, e3⟩ := clos_loop r acc (fun y hy => h1 y (.tail _ hy)) h2
      have hb : (k == NameKind.free) = false := by simpa using hk
      refine ⟨cl, ?_, e2, fun y h => e3 y (h.imp id fun q => ?_)⟩
      · rw [← e1]
        simp only [hb, Bool.false_eq_true, if_false, pure_bind]
      · rcases List.mem_cons.mp q with e | q
        · cases e; exact absurd rfl hk
        · exact q
theorem clos_ok {sc : Scope} {env : PySem.Env} (h : ∀ y ∈ sc.names, y.2 = .free → ∃ a, env.cells.lookup y.1 = some a) :
    ∃ cl, closureFor sc env = pure cl ∧ (∀ q ∈ cl, env.cells.lookup q.1 = some q.2) ∧ ∀ y, (y, NameKind.free) ∈ sc.names → ∃ a, cl.lookup y = some a := by
  obtain ⟨cl, e1, e2, e3⟩ := clos_loop (env := env) sc.names [] h (fun q e => nomatch e)
  refine ⟨cl, ?_, e2, fun y hy => e3 y (.inr hy)⟩
  show ((forIn sc.names [] fun (x : Str × NameKind) (cs : List (Str × Addr)) => (if x.2 == NameKind.free then do let a ← cellOf env x.1; pure (ForInStep.yield ((x.1, a) :: cs)) else pure (ForInStep.yield cs) : Sem _)) >>= fun r => pure r) = _
  rw [e1]; rfl
end Mine
end
section
open PySem PySem.W PySem.Spec PySem.Calls PyProof.Rows
set_option Elab.async false
set_option linter.unusedVariables false
set_option maxRecDepth 100000
namespace Mine
theorem nth_upd {i : Nat} {d : D} : ∀ {ρ : Env} {i j : Nat} {e : D}, nth (upd ρ i d) j = some e → (j = i ∧ e = d) ∨ (j ≠ i ∧ nth ρ j = some e)
  | [], _, _, _, h => by cases h
  | o :: r, 0, 0, e, h => .inl ⟨rfl, (Option.some.inj h).symm⟩
  | o :: r, 0, j + 1, e, h => .inr ⟨Nat.succ_ne_zero j, h⟩
  | o :: r, i + 1, 0, e, h => .inr ⟨(Nat.succ_ne_zero i).symm, h⟩
  | o :: r, i + 1, j + 1, e, h => (nth_upd (i := i) (ρ := r) (j := j) h).imp (fun q => ⟨congrArg (· + 1) q.1, q.2⟩) fun q => ⟨fun z => q.1 (Nat.succ.inj z), q.2⟩
theorem nth_none : ∀ {ρ : Env} {j : Nat} {e : D}, nth (ρ.map fun _ => none) j ≠ some e
  | [], _, _, h => by cases h
  | _ :: _, 0, _, h => by cases h
  | _ :: r, j + 1, _, h => nth_none (ρ := r) (j := j) h
theorem nth_cap {ρ : Env} : ∀ {cs : List Nat} {i : Nat} {e : D}, nth (capE ρ cs) i = some e → i ∈ cs ∧ nth ρ i = some e
  | [], i, e, h => absurd h nth_none
  | j :: cs, i, e, h => by
    unfold capE at h
    split at h
    · next d hd =>
      rcases nth_upd (i := i) h with ⟨rfl, rfl⟩ | ⟨_, h⟩
      · exact ⟨.head _, hd⟩
      · exact ⟨.tail _ (nth_cap h).1, (nth_cap h).2⟩
    · exact ⟨.tail _ (nth_cap h).1, (nth_cap h).2⟩
noncomputable def lcOf (ns : List Str) (ρ : Env) : List Nat → Loc
  | [] => []
  | j :: cs => match ns[j]?, nth ρ j with
    | some y, some d => (y, d) :: lcOf ns ρ cs
    | _, _ => lcOf ns ρ cs
theorem lcOf_out {ns : List Str} {ρ : Env} {y : Str} {d : D} : ∀ {cs : List Nat}, get (lcOf ns ρ cs) y = some d → ∃ j, j ∈ cs ∧ ns[j]? = some y ∧ nth ρ j = some d
  | [], h => by cases h
  | j :: cs, h => by
    unfold lcOf at h
    split at h
    · next e1 e2 =>
      simp only [get] at h
      split at h
      · next q => cases h; exact ⟨j, .head _, q ▸ e1, e2⟩
      · obtain ⟨k, h1, h2⟩ := lcOf_out h; exact ⟨k, .tail _ h1, h2⟩
    · obtain ⟨k, h1, h2⟩ := lcOf_out h; exact ⟨k, .tail _ h1, h2⟩
theorem lcOf_in {ns : List Str} {ρ : Env} {y : Str} {d : D} {j : Nat} (h2 : ns[j]? = some y) (h3 : nth ρ j = some d) : ∀ {cs : List Nat}, j ∈ cs → ∃ e, get (lcOf ns ρ cs) y = some e
  | k :: cs, h => by
    unfold lcOf
    rcases List.mem_cons.mp h with rfl | h
    · rw [h2, h3]; exact ⟨d, if_pos rfl⟩
    · obtain ⟨e, ih⟩ := lcOf_in h2 h3 h
      split
      · simp only [get]
        split
        · exact ⟨_, rfl⟩
        · exact ⟨e, ih⟩
      · exact ⟨e, ih⟩
theorem lookup_relabel_glob {env : PySem.Env} : ∀ {names : List (Str × NameKind)} {x : Str}, names.lookup x = some .globalImplicit →
    (names.map fun (n, k) => if (k == NameKind.free && env.scope.kind == .function && env.kindOf n == some .cell) then (n, NameKind.cell) else (n, k)).lookup x = some .globalImplicit
  | [], x, h => by cases h
  | (n, k) :: r, x, h => by
    show List.lookup x ((if (k == NameKind.free && env.scope.kind == .function && env.kindOf n == some .cell) = true then (n, NameKind.cell) else (n, k)) :: _) = _
    rw [List.lookup_cons] at h
    cases hx : x == n with
    | true =>
      simp only [hx] at h
      cases h
      rw [if_neg (by simp), List.lookup_cons, hx]
    | false =>
      simp only [hx] at h
      by_cases hc : (k == NameKind.free && env.scope.kind == .function && env.kindOf n == some .cell) = true
      · rw [if_pos hc, List.lookup_cons, hx]; exact lookup_relabel_glob h
      · rw [if_neg hc, List.lookup_cons, hx]; exact lookup_relabel_glob h
section
variable {X : Fx} {S : Scope} {c : Cx} {l : Loc} {ns : List Str} {ρ : Env}
theorem cg_of (cf : CF S c) : CG true S c := ⟨fun y h => by
  have e : S.names.lookup y = some .cell := by
    unfold capK at h
    rw [Bool.not_true, Bool.false_and, Bool.or_false] at h
    exact isK_out h
  exact ⟨.inl (by rw [Env.kindOf, cf.sc]; exact e), by rw [cf.cells]; exact Option.isSome_iff_exists.mp (cellsFrom_some S.names _ [] (.inl e))⟩⟩
theorem comp_ctx {top : Bool} {sc : Scope} {x : Str} {i : Nat} {cs : List Nat} (ce : CE X S c) (cg : CG top S c) (ag : Agr ns ρ l) (h : compSc S top sc x = true) (hi : ns[i]? = some x) (hc : cs.all (capOk sc ns x) = true)
    (hf : cs.all (fun j => match nth ρ j with | some d => frozB d | none => true) = true) :
    ∃ cl b, CompG c sc cl x b ∧ Sees c l sc cl (lcOf ns ρ cs) ∧ (∀ e, get (lcOf ns ρ cs) x ≠ some e) ∧ (∀ C, CE X sc (cx c sc (clB b x C cl) C) ∧ CG false sc (cx c sc (clB b x C cl) C)) ∧ ∀ d, Agr ns (upd (capE ρ cs) i d) ((x, d) :: lcOf ns ρ cs) := by
  unfold compSc at h
  obtain ⟨h, h3⟩ := Bool.and_eq_true_iff.mp h
  obtain ⟨h1, h2⟩ := Bool.and_eq_true_iff.mp h
  have all3 := List.all_eq_true.mp h3
  have fr : ∀ y ∈ sc.names, y.2 = .free → capK S top y.1 = true := fun y hy e => by
    have := (Bool.and_eq_true_iff.mp (all3 y hy)).2
    rw [e] at this
    exact this
  obtain ⟨cl, e1, e2', e3⟩ := clos_ok (sc := sc) (env := c.env) fun y hy e => (cg.cap _ (fr y hy e)).2
  have e2 : ∀ y a, cl.lookup y = some a → c.env.cells.lookup y = some a := fun y a h => e2' _ (mem_of_lookup h)
  have capX : ∀ j ∈ cs, ∀ y, ns[j]? = some y → y ≠ x ∧ sc.names.lookup y = some .free ∧ (y == ("__classdict__" : Str)) = false := fun j hj y hy => by
    have := List.all_eq_true.mp hc j hj
    unfold capOk at this
    rw [hy] at this
    obtain ⟨q, q3⟩ := Bool.and_eq_true_iff.mp this
    obtain ⟨q1, q2⟩ := Bool.and_eq_true_iff.mp q
    exact ⟨by simpa using q1, isK_out q2, by simpa using q3⟩
  have loc : ∀ y ∈ sc.names, y.2 = .local → sc.names.lookup y.1 = some .local := fun y hy e => by
    have := (Bool.and_eq_true_iff.mp (all3 y hy)).1
    rw [e] at this; exact isK_out this
  obtain ⟨b, hb⟩ : ∃ b, CompG c sc cl x b := by
    rcases Bool.or_eq_true_iff.mp h2 with q | q
    · obtain ⟨q1, q2⟩ := Bool.and_eq_true_iff.mp q
      refine ⟨false, e1, eq_of_beq h1, loc, e2, fun _ => ⟨isK_out q1, fun y hy e => ?_⟩, fun q => by cases q⟩
      have := List.all_eq_true.mp q2 y hy
      rw [e] at this; exact nof this
    · exact ⟨true, e1, eq_of_beq h1, loc, e2, fun q => (by cases q), fun _ => q⟩
  refine ⟨cl, b, hb, ⟨fun y d hd => ?_⟩, fun e he => ?_, fun C => ⟨⟨ce.prog, ce.w, ce.K, ce.lv, fun y hy => lookup_relabel_glob hy⟩, ⟨fun y hy => ?_⟩⟩, fun d j e he => ?_⟩
  · obtain ⟨j, hj, n1, n2⟩ := lcOf_out hd
    obtain ⟨_, q2, q3⟩ := capX j hj y n1
    obtain ⟨y', n1', g⟩ := ag j d n2
    rw [n1] at n1'; cases n1'
    have fz := List.all_eq_true.mp hf j hj
    rw [n2] at fz
    have hm : (y, NameKind.free) ∈ sc.names := mem_of_lookup q2
    exact ⟨g, froz_of fz, q2, q3, e3 y hm, (cg.cap _ (fr _ hm rfl)).1⟩
  · obtain ⟨j, hj, n1, n2⟩ := lcOf_out he
    exact (capX j hj x n1).1 rfl
  · unfold capK at hy
    rcases Bool.or_eq_true_iff.mp hy with q | q
    · have q := isK_out q
      have ey := hb.only _ (mem_of_lookup q) rfl
      have ey : y = x := ey
      subst ey
      cases b with
      | false => exact absurd rfl ((hb.loc rfl).2 _ (mem_of_lookup q))
      | true =>
        refine ⟨.inl (lookup_relabel_cell q), C + 1, ?_⟩
        show ((y, C + 1) :: cl).lookup y = _
        rw [List.lookup_cons, beq_self_eq_true]
    · have q := isK_out (Bool.and_eq_true_iff.mp q).2
      refine ⟨(relabel_lookup (sc := sc) (env := c.env) q).symm, ?_⟩
      obtain ⟨a, ha⟩ := e3 y (mem_of_lookup q)
      cases b with
      | false => exact ⟨a, ha⟩
      | true =>
        have nx : y ≠ x := fun e => by
          have := (cells_one (n := 0) (acc := []) (h := c.h₀) (hb.cell rfl)).2.1
          rw [← e, q] at this; cases this
        refine ⟨a, ?_⟩
        show ((x, C + 1) :: cl).lookup y = _
        rw [List.lookup_cons, show (y == x) = false from by simpa using nx]; exact ha
  · rcases nth_upd (i := i) he with ⟨rfl, rfl⟩ | ⟨_, he⟩
    · exact ⟨x, hi, if_pos rfl⟩
    · obtain ⟨hj, n2⟩ := nth_cap he
      obtain ⟨y, n1, g⟩ := ag j e n2
      refine ⟨y, n1, ?_⟩
      obtain ⟨e', ge⟩ := lcOf_in n1 n2 hj
      obtain ⟨k, hk, m1, m2⟩ := lcOf_out ge
      obtain ⟨y', m1', g'⟩ := ag k e' m2
      rw [m1] at m1'; cases m1'
      rw [g] at g'; cases g'
      simp only [get]
      rw [if_neg (capX j hj y n1).1]; exact ge
end
end Mine
end
section
open PySem PySem.W PySem.Spec PySem.Calls PyProof.Rows
set_option Elab.async false
set_option linter.unusedVariables false
set_option maxRecDepth 100000
namespace Mine
theorem and3 {a b c : Bool} (h : (a && b && c) = true) : a = true ∧ b = true ∧ c = true := ⟨(and2 (and2 h).1).1, (and2 (and2 h).1).2, (and2 h).2⟩
theorem and4 {a b c d : Bool} (h : (a && b && c && d) = true) : a = true ∧ b = true ∧ c = true ∧ d = true := ⟨(and3 (and2 h).1).1, (and3 (and2 h).1).2.1, (and3 (and2 h).1).2.2, (and2 h).2⟩
theorem m0_out {P : Prop} {m : Md} (h : m0 P m) : m = .v ∧ P := by
  cases m with
  | v => exact ⟨rfl, h⟩
  | _ => exact h.elim
theorem m1_out {P : Prop} {m : Md} (h : m1 P m) : m = .t ∧ P := by
  cases m with
  | t => exact ⟨rfl, h⟩
  | _ => exact h.elim
theorem m01_out {P : Prop} {m : Md} (h : m01 P m) : (m = .v ∨ m = .t) ∧ P := by
  cases m with
  | v => exact ⟨.inl rfl, h⟩
  | t => exact ⟨.inr rfl, h⟩
  | _ => exact h.elim
theorem m23_out {P Q : Prop} {m : Md} (h : m23 P Q m) : (m = .o ∧ P) ∨ (m = .l ∧ Q) := by
  cases m with
  | o => exact .inl ⟨rfl, h⟩
  | l => exact .inr ⟨rfl, h⟩
  | _ => exact h.elim
theorem ifD_out {x : D} {A B : Prop} (h : ifD x A B) : ∃ p, x = .bool p ∧ (p = true → A) ∧ (p = false → B) := boolD_out h
section
variable {X : Fx} {ns : List Str}
noncomputable abbrev SND (X : Fx) (ns : List Str) (r : RE) : Prop := ∀ {c : Cx} {S : Scope} {top : Bool} {l : Loc} {ρ : Env} {m : Md} {e : Expr} {K : D → Prop}, CE X S c → CG top S c → Agr ns ρ l → chk ns r S top e = true → wp X r m ρ K → Out c l e K m
theorem part_snd {fl : Bool} {lo : RE} {lo' : Option Expr} {c : Cx} {S : Scope} {top : Bool} {l : Loc} {ρ : Env} {K : Option Int → Prop} (H : SND X ns lo) (ce : CE X S c) (cf : CG top S c) (ag : Agr ns ρ l)
    (hc : (match lo' with | .none => !fl | some x => fl && chk ns lo S top x) = true) (hw : partD fl (wp X lo .v ρ) K) : ∃ i, Part c l lo' i ∧ K i := by
  cases lo' with
  | none =>
    cases fl with
    | true => exact nof hc
    | false => exact ⟨none, Part.none, hw⟩
  | some x =>
    obtain ⟨h1, h2⟩ := and2 hc
    subst h1
    obtain ⟨d, h, k⟩ := H ce cf ag h2 (show wp X lo .v ρ _ from hw)
    obtain ⟨i, rfl, k⟩ := intD_out k
    exact ⟨some i, Part.some h, k⟩
theorem fn_snd {f : Str} {xs : List Expr} {x : Expr} {px pos : Pos} {ds : List D} {d : D} {c : Cx} {S : Scope} {l : Loc} (ce : CE X S c) (hg : glob S f = true) (hn : nst x = true) (ha : EVL c l (x :: xs) ds) (h : FN X f ds d) : EV c l (.Call (.Name f px) (x :: xs) [] pos) d := by
  obtain ⟨a, o, fd, lv', g1, g2, g3, g4, g5⟩ := h
  obtain ⟨h1, h2⟩ := glob_out hg
  exact ev_call (ev_globV (ce.gl _ h1) (by rw [ce.K]; exact g1) h2) (by rw [ce.K]; exact g2) g3 ha (call_at ce.prog ce.w ce.K g4) (by rw [ce.lv]; exact g5) (nst_each hn)
theorem fnk_snd {f k : Str} {xs : List Expr} {x v : Expr} {px kp pos : Pos} {ds : List D} {d e : D} {c : Cx} {S : Scope} {l : Loc} (ce : CE X S c) (hg : glob S f = true) (hn : nst x = true) (ha : EVL c l (x :: xs) ds) (hv : EV c l v e) (h : FNK X f ds k e d) : EV c l (.Call (.Name f px) (x :: xs) [⟨some k, v, kp⟩] pos) d := by
  obtain ⟨a, o, fd, lv', g1, g2, g3, g4, g5⟩ := h
  obtain ⟨h1, h2⟩ := glob_out hg
  intro av own s i Q E hQ
  rw [show eval (.Call (.Name f px) (x :: xs) [⟨some k, v, kp⟩] pos) c.env = (do callWith pos (← eval (.Name f px) c.env) [] (backTo pos (starEach (x :: xs) c.env)) (backToKw pos (keywordEach [⟨some k, v, kp⟩] c.env))) from rfl]
  refine wpAny_bind (ev_globV (ce.gl _ h1) (by rw [ce.K]; exact g1) h2 av own s i _ _ fun vv s₁ k₁ r₁ => ?_)
  simp only [Rel] at r₁
  subst r₁
  have i₁ := i.keeps k₁
  have g4' : CALLK c.prog c.w c.K lv' a ds [k] [e] d := by rw [ce.prog, ce.w, ce.K]; exact g4
  refine callWith_function_kw (o := o) (fd := fd) (evalArgs_kw2 rfl (ha av own s₁ i₁ pos _ _ fun vs s₂ k₂ r₂ => kwAll_cons (hv av own s₂ (i₁.keeps k₂) _ _ fun kv s₃ k₃ r₃ => kwAll_nil ⟨⟨((i₁.keeps k₂).keeps k₃).keepK _ _ (by rw [ce.K]; exact g2), g3⟩, ?_⟩)) (nst_each hn _))
  have i₃ := (i₁.keeps k₂).keeps k₃
  obtain ⟨m, F⟩ := i₃.fr
  have hD := i₃.ok.roomD
  have hU := i₃.ok.roomU
  have hl := ce.lv
  refine g4' (c.dp + 1) (c.un + 3) c.gd (c.fenv :: c.outer) c.base s₃ c.p c.loose c.mean c.mg c.mb (own ++ av) vs [kv] Q E (by omega) (by omega) (pushX i₃.ok.below F i₃.ok.frame i₃.ok.fkind) i₃.keepK (i₃.ok.top.keeps F.keep) (fun a ha => ⟨?_, notK i₃ a ha⟩) (r₂.kept (kp_kept k₃)) (by simp only [RelL]; exact ⟨kv, [], rfl, r₃, rfl⟩) fun v s' k r => hQ v s' (kp_trans k₁ (kp_trans k₂ (kp_trans k₃ k))) r
  exact i₃.alive a ha
theorem base_shape {o : Expr} {name : Str} {w : Sem Value} {env : PySem.Env} (h : nsu o = true) : attributeBase o name env w = w := by
  cases o with
  | Call f as ks p =>
    cases f with
    | Name _ _ =>
      cases as with
      | cons _ _ => rfl
      | nil =>
        cases ks with
        | cons _ _ => rfl
        | nil => exact nof h
    | _ => rfl
  | _ => rfl
theorem form_shape {es : List Expr} {pos : Pos} {env : PySem.Env} (hn : ∀ y ∈ es, nst y = true) (hl : es.length < 30) : methodCallForm (es.length + ([] : List Keyword).length) (backTo pos (starEach es env)) (backToKw pos (keywordEach [] env)) = true := by
  have e : (backTo pos (starEach es env)).all (!·.1) = true := by
    have := nst_any (pos := pos) (env := env) hn
    rw [List.all_eq_true]
    intro x hx
    have := (List.any_eq_false.mp this) x hx
    simpa using this
  show (_ && true && decide (es.length < 30)) = true
  rw [e, decide_eq_true hl]; rfl
theorem call_shape {o : Expr} {name : Str} {apos pos : Pos} {es : List Expr} (hm : mform o apos pos es = true) (hn : ∀ y ∈ es, nst y = true) (env : PySem.Env) : ∃ pl : Sem Bool, eval (.Call (.Attribute o name apos) es [] pos) env = (do
      let ov ← eval o env
      standAt apos.atName
      let (f, first) ← holding [ov] (getMethod ov name pl)
      callWith pos f first (backTo pos (starEach es env)) []) := by
  obtain ⟨h1, h2, h3⟩ := and3 hm
  refine ⟨(do return (← importBound o env).getD true), ?_⟩
  show (do
    let ov ← attributeBase o name env (eval o env)
    standAt apos.atName
    methodCall o name apos pos env ov (es.length + ([] : List Keyword).length) (backTo pos (starEach es env)) (backToKw pos (keywordEach [] env))) = _
  rw [base_shape h1]
  unfold methodCall
  rw [form_shape hn (Nat.le_of_ble_eq_true h2)]
  have hp : methodCallPos true o env apos pos = pure pos := by
    unfold methodCallPos
    rw [if_pos (by simp only [Nat.eq_of_beq_eq_true h3, beq_self_eq_true, Bool.or_true])]
  rw [hp]
  rfl
theorem me_snd {o x : Expr} {name : Str} {apos pos : Pos} {xs : List Expr} {id : String} {d₀ d : D} {ds : List D} {c : Cx} {l : Loc} (hf : mform o apos pos (x :: xs) = true) (h₀ : EV c l o d₀) (hm : METH c d₀ name id) (hn : ∀ y ∈ x :: xs, nst y = true) (ha : EVL c l (x :: xs) ds) (h : BCALL c (.builtin id) (d₀ :: ds) d) : EV c l (.Call (.Attribute o name apos) (x :: xs) [] pos) d :=
  ev_meth h₀ hm ha h (call_shape hf hn) (nst_each (hn _ (.head _))) fun env => nst_any fun y hy => hn y (.tail _ hy)
theorem bc_snd {f : BF} {x : Expr} {px pos : Pos} {xs : List Expr} {d : D} {ds : List D} {c : Cx} {l : Loc} (h₀ : EV c l (.Name f.nm px) (.val f.vl)) (hn : ∀ y ∈ x :: xs, nst y = true) (ha : EVL c l (x :: xs) ds) (h : BCALL c f.vl ds d) : EV c l (.Call (.Name f.nm px) (x :: xs) [] pos) d := by
  have he := fun env => nst_each (es := xs) (hn _ (.head _)) env
  have hp : ∀ env, (backTo pos (starEach xs env)).any (·.1) = false := fun env => nst_any fun y hy => hn y (.tail _ hy)
  generalize f.nm = nm at *
  cases f <;> first | exact ev_bcall h₀ ha h he hp | exact ev_tcall h₀ ha h he hp
theorem orl_nil {c : Cx} {l : Loc} : ORL c l [] false := fun av own s i Q E hQ => wpAny_allTrue_Or_nil (hQ s kp_rfl)
theorem type_type : typeOf (.type "bytes") = pure (.type "type") := by exact rfl
theorem one_test {c : Cx} {l : Loc} {ifs : List Expr} {b : Bool} (h : ifs = []) (hb : b = true) : Tests c l ifs b := by
  subst h; subst hb; exact Tests.nil
theorem comp_snd {elt it test : RE} {i : Nat} {ft : Bool} {cs : List Nat} {c : Cx} {S sc : Scope} {top : Bool} {l : Loc} {ρ : Env} {elt' it' : Expr} {x : Str} {ifs : List Expr} {K : D → Prop}
    (H1 : SND X ns elt) (H2 : SND X ns it) (H3 : SND X ns test) (ce : CE X S c) (cf : CG top S c) (ag : Agr ns ρ l) (hsh : shp it' = true) (hn : nameAt ns i x = true) (hsc : compSc S top sc x = true) (hcs : cs.all (capOk sc ns x) = true) (hit : chk ns it S top it' = true) (helt : chk ns elt sc false elt' = true)
    (hte : (match ifs with | [] => !ft | t :: r => ft && r.isEmpty && chk ns test sc false t) = true)
    (hw : wp X it .v ρ fun s => srcD s fun items =>
      (frozB.frozBs items = true ∧ items.length ≤ 100000 ∧ cs.all (fun j => match nth ρ j with | some d => frozB d | .none => true) = true) ∧ (match (generalizing := false) ft with
      | false => ∃ f : D → D, (∀ d ∈ items, wp X elt .v (upd (capE ρ cs) i d) fun r => r = f d ∧ frozB r = true) ∧ K (.lst (items.map f))
      | true => ∃ (p : D → Bool) (f : D → D), (∀ d ∈ items, wp X test .t (upd (capE ρ cs) i d) fun r => r = .bool (p d)) ∧ (∀ d ∈ items, p d = true → wp X elt .v (upd (capE ρ cs) i d) fun r => r = f d ∧ frozB r = true) ∧ K (.lst ((items.filter p).map f)))) :
    ∃ (cl : List (Str × Addr)) (b : Bool) (lc : Loc) (items : List D) (p : D → Bool) (f : D → D), CompG c sc cl x b ∧ Sees c l sc cl lc ∧ (∀ e, get lc x ≠ some e) ∧ ITERW c l it' items ∧ FrozL items ∧ items.length ≤ 100000 ∧
      (∀ C, ∀ d ∈ items, Tests (cx c sc (clB b x C cl) C) ((x, d) :: lc) ifs (p d)) ∧ (∀ C, ∀ d ∈ items, p d = true → EV (cx c sc (clB b x C cl) C) ((x, d) :: lc) elt' (f d)) ∧ (∀ d ∈ items, p d = true → Froz (f d)) ∧ K (.lst ((items.filter p).map f)) := by
  obtain ⟨s, hs, hw⟩ := H2 ce cf ag hit hw
  obtain ⟨items, hsrc, ⟨hz, hl, hf⟩, hw⟩ := src_out (c := c) hw
  obtain ⟨cl, b, k, sees, hx, ce', ag'⟩ := comp_ctx (i := i) ce cf ag hsc (nameAt_out hn) hcs hf
  have elt_ : ∀ (f : D → D) C d, (wp X elt .v (upd (capE ρ cs) i d) fun r => r = f d ∧ frozB r = true) → EV (cx c sc (clB b x C cl) C) ((x, d) :: lcOf ns ρ cs) elt' (f d) ∧ frozB (f d) = true := fun f C d h => by
    obtain ⟨r, h1, rfl, h3⟩ := H1 (ce' C).1 (ce' C).2 (ag' d) helt h
    exact ⟨h1, h3⟩
  cases ft with
  | false =>
    obtain ⟨f, h1, hk⟩ := hw
    have e : ifs = [] := by
      cases ifs with
      | nil => rfl
      | cons _ _ => exact nof hte
    refine ⟨cl, b, _, items, fun _ => true, f, k, sees, hx, itw_ev hs hsrc, frozs_of hz, hl, fun C d hd => one_test e rfl, fun C d hd _ => (elt_ f C d (h1 d hd)).1, fun d hd _ => froz_of (elt_ f 0 d (h1 d hd)).2, ?_⟩
    rw [filter_true]; exact hk
  | true =>
    obtain ⟨p, f, h0, h1, hk⟩ := hw
    refine ⟨cl, b, _, items, p, f, k, sees, hx, itw_ev hs hsrc, frozs_of hz, hl, fun C d hd => ?_, fun C d hd q => (elt_ f C d (h1 d hd q)).1, fun d hd q => froz_of (elt_ f 0 d (h1 d hd q)).2, hk⟩
    cases ifs with
    | nil => exact nof hte
    | cons t r =>
      obtain ⟨_, q2, q3⟩ := and3 hte
      obtain rfl : r = [] := List.isEmpty_iff.mp q2
      obtain ⟨bb, h2, h3⟩ := H3 (ce' C).1 (ce' C).2 (ag' d) q3 (h0 d hd)
      cases h3
      exact Tests.one h2
end
end Mine
end
section
open PySem PySem.W PySem.Spec PySem.Calls PyProof.Rows
set_option Elab.async false
set_option linter.unusedVariables false
set_option maxRecDepth 100000
namespace Mine
section
variable {X : Fx} {ns : List Str}
theorem ag_name {c : Cx} {l : Loc} {ρ : Env} {i : Nat} {x : Str} {p : Pos} {d : D} (ag : Agr ns ρ l) (h : (nameAt ns i x && !(x == ("__debug__" : Str))) = true) (e : nth ρ i = some d) : EV c l (.Name x p) d := by
  obtain ⟨h1, h2⟩ := and2 h
  obtain ⟨y, n1, g⟩ := ag i d e
  rw [nameAt_out h1] at n1; cases n1
  exact ev_name g (by simpa using h2)
theorem snd (ok : XOk X) : ∀ (r : RE), SND X ns r
  | .v i, c, S, top, l, ρ, m, e, K, ce, cf, ag, hc, hw => by
    cases e with
    | Name x p =>
      cases e : nth ρ i with
      | none => have q : (match nth ρ i with | some d => fin K d m | .none => False) := hw; rw [e] at q; exact q.elim
      | some d => have q : (match nth ρ i with | some d => fin K d m | .none => False) := hw; rw [e] at q; exact out_fin (ag_name ag hc e) (fun _ => rfl) q
    | _ => exact nof hc
  | .int i, c, S, top, l, ρ, m, e, K, ce, cf, ag, hc, hw => by
    cases e with
    | Constant k _ p =>
      cases k with
      | int j => rw [← show i = j from eq_of_beq hc]; exact out_fin ev_int (fun _ => rfl) hw
      | _ => exact nof hc
    | _ => exact nof hc
  | .str i, c, S, top, l, ρ, m, e, K, ce, cf, ag, hc, hw => by
    cases e with
    | Constant k _ p =>
      cases k with
      | str j => rw [← show i = j from eq_of_beq hc]; exact out_fin ev_str (fun _ => rfl) hw
      | _ => exact nof hc
    | _ => exact nof hc
  | .none, c, S, top, l, ρ, m, e, K, ce, cf, ag, hc, hw => by
    cases e with
    | Constant k _ p =>
      cases k with
      | none => exact out_fin ev_none (fun _ => rfl) hw
      | _ => exact nof hc
    | _ => exact nof hc
  | .bool i, c, S, top, l, ρ, m, e, K, ce, cf, ag, hc, hw => by
    cases e with
    | Constant k _ p =>
      cases k with
      | bool j => rw [← show i = j from eq_of_beq hc]; exact out_fin ev_bool (fun _ => rfl) hw
      | _ => exact nof hc
    | _ => exact nof hc
  | .byt i, c, S, top, l, ρ, m, e, K, ce, cf, ag, hc, hw => by
    cases e with
    | Constant k _ p =>
      cases k with
      | bytes j => rw [← show i = j from eq_of_beq hc]; exact out_fin ev_bytes (fun _ => rfl) hw
      | _ => exact nof hc
    | _ => exact nof hc
  | .g x d, c, S, top, l, ρ, m, e, K, ce, cf, ag, hc, hw => by
    cases e with
    | Name y p =>
      obtain ⟨h1, h2⟩ := and2 hc
      exact out_fin (ev_gv ce h2 ((show x = y from eq_of_beq h1) ▸ hw.1)) (fun _ => rfl) hw.2
    | _ => exact nof hc
  | .b f, c, S, top, l, ρ, m, e, K, ce, cf, ag, hc, hw => by
    cases e with
    | Name y p =>
      obtain ⟨h1, h2⟩ := and2 hc
      rw [← show f.nm = y from eq_of_beq h1] at h2 ⊢
      exact out_fin (ev_b ok ce h2) (fun _ => rfl) hw
    | _ => exact nof hc
  | .bin op a b, c, S, top, l, ρ, m, e, K, ce, cf, ag, hc, hw => by
    cases e with
    | BinOp a' op' b' p =>
      obtain ⟨h1, h2, h3⟩ := and3 hc
      rw [← show op = op' from eq_of_beq h1]
      obtain ⟨x, e1, hw⟩ := snd ok a ce cf ag h2 (show wp X a .v ρ _ from hw)
      obtain ⟨y, e2, hw⟩ := snd ok b ce cf ag h3 hw
      obtain ⟨d, e3, hw⟩ := bin_out (c := c) hw
      exact out_fin (ev_bin e1 e2 e3) (fun _ => rfl) hw
    | _ => exact nof hc
  | .cmp op a b, c, S, top, l, ρ, m, e, K, ce, cf, ag, hc, hw => by
    cases e with
    | Compare a' ops bs p =>
      cases ops with
      | nil => exact nof hc
      | cons op' ops =>
        cases ops with
        | cons _ _ => exact nof hc
        | nil =>
          cases bs with
          | nil => exact nof hc
          | cons b' bs =>
            cases bs with
            | cons _ _ => exact nof hc
            | nil =>
              obtain ⟨h0, h1, h2, h3⟩ := and4 hc
              rw [← show op = op' from eq_of_beq h1]
              replace hw := m01_out hw; obtain ⟨hm, hw⟩ := hw
              obtain ⟨x, e1, hw⟩ := snd ok a ce cf ag h2 hw
              obtain ⟨y, e2, hw⟩ := snd ok b ce cf ag h3 hw
              obtain ⟨d, e3, hw⟩ := cm_out (c := c) hw
              rcases hm with rfl | rfl
              · exact ⟨_, ev_cmp e1 e2 e3 (shp_marks h0), hw⟩
              · exact ⟨_, tr_cmp e1 e2 e3 (shp_marks h0), hw⟩
    | _ => exact nof hc
  | .not a, c, S, top, l, ρ, m, e, K, ce, cf, ag, hc, hw => by
    cases e with
    | UnaryOp op a' p =>
      cases op with
      | Not =>
        replace hw := m1_out hw; obtain ⟨rfl, hw⟩ := hw
        obtain ⟨b, e1, hw⟩ := snd ok a ce cf ag hc hw
        exact ⟨_, tr_not e1, hw⟩
      | _ => exact nof hc
    | _ => exact nof hc
  | .neg a, c, S, top, l, ρ, m, e, K, ce, cf, ag, hc, hw => by
    cases e with
    | UnaryOp op a' p =>
      cases op with
      | USub =>
        obtain ⟨x, e1, hw⟩ := snd ok a ce cf ag hc (show wp X a .v ρ _ from hw)
        obtain ⟨i, rfl, hw⟩ := intD_out hw
        exact out_fin (ev_neg e1) (fun _ => rfl) hw
      | _ => exact nof hc
    | _ => exact nof hc
  | .and a b, c, S, top, l, ρ, m, e, K, ce, cf, ag, hc, hw => by
    cases e with
    | BoolOp op es p =>
      cases op with
      | Or => exact nof hc
      | And =>
        cases es with
        | nil => exact nof hc
        | cons a' es =>
          cases es with
          | nil => exact nof hc
          | cons b' es =>
            cases es with
            | cons _ _ => exact nof hc
            | nil =>
              obtain ⟨h1, h2⟩ := and2 hc
              replace hw := m01_out hw; obtain ⟨hm, hw⟩ := hw
              rcases hm with rfl | rfl
              · obtain ⟨x, e1, hw⟩ := snd ok a ce cf ag h1 hw
                obtain ⟨q, rfl, k1, k2⟩ := ifD_out hw
                cases q with
                | false => exact ⟨_, ev_and (b₂ := false) e1 (fun z => nof z), k2 rfl⟩
                | true =>
                  obtain ⟨y, e2, hw⟩ := snd ok b ce cf ag h2 (k1 rfl)
                  obtain ⟨q, rfl, hw⟩ := boolD_out hw
                  exact ⟨_, ev_and e1 (fun _ => e2), hw⟩
              · obtain ⟨q, e1, k1, k2⟩ := snd ok a ce cf ag h1 hw
                cases q with
                | false => exact ⟨_, tr_and2 (b₂ := false) e1 (fun z => nof z), k2 rfl⟩
                | true =>
                  obtain ⟨q, e2, hw⟩ := snd ok b ce cf ag h2 (k1 rfl)
                  exact ⟨_, tr_and2 e1 (fun _ => e2), hw⟩
    | _ => exact nof hc
  | .or as, c, S, top, l, ρ, m, e, K, ce, cf, ag, hc, hw => by
    cases e with
    | BoolOp op es p =>
      cases op with
      | And => exact nof hc
      | Or =>
        replace hw := m1_out hw; obtain ⟨rfl, hw⟩ := hw
        obtain ⟨es', p', he, b, h, k⟩ := snd ok as ce cf ag hc hw
        cases he
        exact ⟨b, tr_orl h, k⟩
    | _ => exact nof hc
  | .ite t a b, c, S, top, l, ρ, m, e, K, ce, cf, ag, hc, hw => by
    cases e with
    | IfExp t' a' b' p =>
      obtain ⟨h1, h2, h3⟩ := and3 hc
      replace hw := m0_out hw; obtain ⟨rfl, hw⟩ := hw
      obtain ⟨q, e1, k1, k2⟩ := snd ok t ce cf ag h1 hw
      cases q with
      | true =>
        obtain ⟨d, e2, k⟩ := snd ok a ce cf ag h2 (k1 rfl)
        exact ⟨d, ev_if (d₂ := d) e1 (fun _ => e2) (fun z => nof z.symm), k⟩
      | false =>
        obtain ⟨d, e2, k⟩ := snd ok b ce cf ag h3 (k2 rfl)
        exact ⟨d, ev_if (d₁ := d) e1 (fun z => nof z) (fun _ => e2), k⟩
    | _ => exact nof hc
  | .itj t a b, c, S, top, l, ρ, m, e, K, ce, cf, ag, hc, hw => by
    cases e with
    | IfExp t' a' b' p =>
      obtain ⟨h1, h2, h3⟩ := and3 hc
      replace hw := m0_out hw; obtain ⟨rfl, hw⟩ := hw
      obtain ⟨q, e1, d, k1, k2, k⟩ := snd ok t ce cf ag h1 hw
      cases q with
      | true =>
        obtain ⟨d', e2, rfl⟩ := snd ok a ce cf ag h2 (k1 rfl)
        exact ⟨d', ev_if (d₂ := d') e1 (fun _ => e2) (fun z => nof z.symm), k⟩
      | false =>
        obtain ⟨d', e2, rfl⟩ := snd ok b ce cf ag h3 (k2 rfl)
        exact ⟨d', ev_if (d₁ := d') e1 (fun z => nof z) (fun _ => e2), k⟩
    | _ => exact nof hc
  | .nil, c, S, top, l, ρ, m, e, K, ce, cf, ag, hc, hw => by
    cases e with
    | Tuple es k p =>
      cases es with
      | cons _ _ => exact nof hc
      | nil =>
        cases k with
        | succ _ => exact nof hc
        | zero =>
          rcases m23_out hw with ⟨rfl, hw⟩ | ⟨rfl, hw⟩
          · exact ⟨[], p, rfl, false, orl_nil, hw⟩
          · exact ⟨[], p, rfl, (fun _ h => nomatch h), [], evl_nil, hw⟩
    | _ => exact nof hc
  | .cons a as, c, S, top, l, ρ, m, e, K, ce, cf, ag, hc, hw => by
    cases e with
    | Tuple es k p =>
      cases es with
      | nil => exact nof hc
      | cons x xs =>
        cases k with
        | succ _ => exact nof hc
        | zero =>
          obtain ⟨h0, h1, h2⟩ := and3 hc
          rcases m23_out hw with ⟨rfl, hw⟩ | ⟨rfl, hw⟩
          · obtain ⟨q, e1, k1, k2⟩ := snd ok a ce cf ag h1 hw
            cases q with
            | true => exact ⟨x :: xs, p, rfl, true, orl_true e1 rfl, k1 rfl⟩
            | false =>
              obtain ⟨es', p', he, b, h, k⟩ := snd ok as ce cf ag h2 (k2 rfl)
              cases he
              exact ⟨x :: xs, p, rfl, b, orl_false e1 rfl h, k⟩
          · obtain ⟨d, e1, hw⟩ := snd ok a ce cf ag h1 hw
            obtain ⟨es', p', he, hn, ds, h, k⟩ := snd ok as ce cf ag h2 hw
            cases he
            exact ⟨x :: xs, p, rfl, (fun y hy => (List.mem_cons.mp hy).elim (fun z => z ▸ h0) (hn y)), d :: ds, evl_cons e1 h (nst_each h0), k⟩
    | _ => exact nof hc
  | .lst as, c, S, top, l, ρ, m, e, K, ce, cf, ag, hc, hw => by
    cases e with
    | List es p =>
      replace hw := m0_out hw; obtain ⟨rfl, hw⟩ := hw
      obtain ⟨es', p', he, hn, ds, h, k⟩ := snd ok as ce cf ag hc hw
      cases he
      exact ⟨_, ev_list h k.1, k.2⟩
    | _ => exact nof hc
  | .tup as, c, S, top, l, ρ, m, e, K, ce, cf, ag, hc, hw => by
    cases e with
    | Tuple es kk p =>
      replace hw := m0_out hw; obtain ⟨rfl, hw⟩ := hw
      obtain ⟨es', p', he, hn, ds, h, k⟩ := snd ok as ce cf ag hc hw
      cases he
      exact ⟨_, ev_tuple h k.1, k.2⟩
    | _ => exact nof hc
  | .sub a b, c, S, top, l, ρ, m, e, K, ce, cf, ag, hc, hw => by
    cases e with
    | Subscript a' b' p =>
      obtain ⟨h1, h2, h3⟩ := and3 hc
      obtain ⟨x, e1, hw⟩ := snd ok a ce cf ag h2 (show wp X a .v ρ _ from hw)
      obtain ⟨y, e2, hw⟩ := snd ok b ce cf ag h3 hw
      obtain ⟨d, e3, hw⟩ := it_out (c := c) hw
      exact out_fin (ev_sub e1 e2 e3 (shp_sub h1)) (fun _ => rfl) hw
    | _ => exact nof hc
  | .cut a lo hi fl fh, c, S, top, l, ρ, m, e, K, ce, cf, ag, hc, hw => by
    cases e with
    | Subscript a' b' p =>
      cases b' with
      | Slice lo' hi' st' p' =>
        cases st' with
        | some _ => exact nof hc
        | none =>
          obtain ⟨h1, h2, h3⟩ := and3 hc
          obtain ⟨x, e1, hw⟩ := snd ok a ce cf ag h1 (show wp X a .v ρ _ from hw)
          obtain ⟨i, p1, hw⟩ := part_snd (snd ok lo) ce cf ag h2 hw
          obtain ⟨j, p2, hw⟩ := part_snd (snd ok hi) ce cf ag h3 hw
          obtain ⟨d, e3, hw⟩ := cu_out (c := c) hw
          exact out_fin (ev_cut e1 p1 p2 e3) (fun _ => rfl) hw
      | _ => exact nof hc
    | _ => exact nof hc
  | .bc f as, c, S, top, l, ρ, m, e, K, ce, cf, ag, hc, hw => by
    cases e with
    | Call fn es kw p =>
      cases fn with
      | Name y q =>
        cases es with
        | nil => exact nof hc
        | cons x xs =>
          cases kw with
          | cons _ _ => exact nof hc
          | nil =>
            obtain ⟨h1, h2, h3⟩ := and3 hc
            obtain ⟨es', p', he, hn, ds, h, k⟩ := snd ok as ce cf ag h3 (show wp X as .l ρ _ from hw)
            cases he
            obtain ⟨d, e3, hw⟩ := bc_out (c := c) k
            rw [← show f.nm = y from eq_of_beq h1] at h2 ⊢
            exact out_fin (bc_snd (ev_b ok ce h2) hn h e3) (fun _ => rfl) hw
      | _ => exact nof hc
    | _ => exact nof hc
  | .fc f as, c, S, top, l, ρ, m, e, K, ce, cf, ag, hc, hw => by
    cases e with
    | Call fn es kw p =>
      cases fn with
      | Name y q =>
        cases es with
        | nil => exact nof hc
        | cons x xs =>
          cases kw with
          | cons _ _ => exact nof hc
          | nil =>
            obtain ⟨h1, h2, h3⟩ := and3 hc
            obtain ⟨es', p', he, hn, ds, h, d, k, hw⟩ := snd ok as ce cf ag h3 (show wp X as .l ρ _ from hw)
            cases he
            rw [← show f = y from eq_of_beq h1] at h2 ⊢
            exact out_fin (fn_snd ce h2 (hn _ (.head _)) h k) (fun _ => rfl) hw
      | _ => exact nof hc
    | _ => exact nof hc
  | .fk f as k v, c, S, top, l, ρ, m, e, K, ce, cf, ag, hc, hw => by
    cases e with
    | Call fn es kw p =>
      cases fn with
      | Name y q =>
        cases es with
        | nil => exact nof hc
        | cons x xs =>
          cases kw with
          | nil => exact nof hc
          | cons k1 ks =>
            cases ks with
            | cons _ _ => cases k1 with | mk n _ _ => cases n <;> exact nof hc
            | nil =>
              cases k1 with
              | mk n v' q' =>
                cases n with
                | none => exact nof hc
                | some n =>
                  obtain ⟨hc, h5⟩ := and2 hc
                  obtain ⟨h1, h2, h3, h4⟩ := and4 hc
                  obtain ⟨es', p', he, hn, ds, h, hw⟩ := snd ok as ce cf ag h4 (show wp X as .l ρ _ from hw)
                  cases he
                  obtain ⟨ev, e2, d, g, hw⟩ := snd ok v ce cf ag h5 hw
                  rw [← show f = y from eq_of_beq h1] at h3 ⊢
                  rw [← show k = n from eq_of_beq h2]
                  exact out_fin (fnk_snd ce h3 (hn _ (.head _)) h e2 g) (fun _ => rfl) hw
      | _ => exact nof hc
    | _ => exact nof hc
  | .me o ob as, c, S, top, l, ρ, m, e, K, ce, cf, ag, hc, hw => by
    cases e with
    | Call fn es kw p =>
      cases fn with
      | Attribute o' n q =>
        cases es with
        | nil => exact nof hc
        | cons x xs =>
          cases kw with
          | cons _ _ => exact nof hc
          | nil =>
            obtain ⟨h0, h1, h2, h3⟩ := and4 hc
            obtain ⟨d₀, e1, hw⟩ := snd ok ob ce cf ag h2 (show wp X ob .v ρ _ from hw)
            obtain ⟨es', p', he, hn, ds, h, k⟩ := snd ok as ce cf ag h3 hw
            cases he
            obtain ⟨id, d, e2, e3, hw⟩ := me_out (c := c) k
            rw [← show o.nm = n from eq_of_beq h1]
            exact out_fin (me_snd h0 e1 e2 hn h e3) (fun _ => rfl) hw
      | _ => exact nof hc
    | _ => exact nof hc
  | .mt as, c, S, top, l, ρ, m, e, K, ce, cf, ag, hc, hw => by
    cases e with
    | Call fn es kw p =>
      cases fn with
      | Attribute o' n q =>
        cases o' with
        | Name y w =>
          cases es with
          | nil => exact nof hc
          | cons x xs =>
            cases kw with
            | cons _ _ => exact nof hc
            | nil =>
              obtain ⟨hc, h3⟩ := and2 hc
              obtain ⟨h0, h1, h2, h4⟩ := and4 hc
              obtain ⟨es', p', he, hn, ds, h, k⟩ := snd ok as ce cf ag h3 (show wp X as .l ρ _ from hw)
              cases he
              obtain ⟨d, e3, hw⟩ := mt_out (c := c) (show mtD ds (fun d => fin K d m) from k)
              rw [← show ("bytes" : Str) = y from eq_of_beq h1] at h0 h4 ⊢
              rw [← show ("maketrans" : Str) = n from eq_of_beq h2]
              exact out_fin (ev_smeth ce.K (ev_b ok ce (f := .bytes) h4) type_type (by decide +kernel) ok.mt (by decide +kernel) h e3 (call_shape h0 hn) (nst_each (hn _ (.head _))) fun env => nst_any fun y hy => hn y (.tail _ hy)) (fun _ => rfl) hw
        | _ => exact nof hc
      | _ => exact nof hc
    | _ => exact nof hc
  | .comp elt i it test ft cs, c, S, top, l, ρ, m, e, K, ce, cf, ag, hc, hw => by
    cases e with
    | ListComp elt' gs sc p =>
      cases gs with
      | nil => exact nof hc
      | cons g gs =>
        cases g with
        | mk t it' ifs k =>
          cases t with
          | Name x q =>
            cases gs with
            | cons _ _ => exact nof (by cases k with | ofNat n => (cases n <;> exact hc) | negSucc _ => exact hc)
            | nil =>
              by_cases hk : k = 0
              · subst hk
                obtain ⟨hc, h8⟩ := and2 hc
                obtain ⟨hc, h7⟩ := and2 hc
                obtain ⟨hc, h6⟩ := and2 hc
                obtain ⟨hc, h5⟩ := and2 hc
                obtain ⟨h2, h3, h4⟩ := and3 hc
                replace hw := m0_out hw; obtain ⟨rfl, hw⟩ := hw
                obtain ⟨cl, b, lc, items, pp, f, k1, k2, k3, k4, k5, k6, k7, k8, k9, k⟩ := comp_snd (snd ok elt) (snd ok it) (snd ok test) ce cf ag h2 h3 h4 h5 h6 h7 h8 hw
                exact ⟨_, ev_compG pp f k1 k2 k3 k4 k5 k6 k7 k8 k9 (shp_fold h2), k⟩
              · exact nof (by cases k with | ofNat n => (cases n with | zero => exact absurd rfl hk | succ _ => exact hc) | negSucc _ => exact hc)
          | _ => exact nof hc
    | _ => exact nof hc
end
end Mine
end
section
open PySem PySem.W PySem.Spec PySem.Calls PyProof.Rows
set_option Elab.async false
set_option linter.unusedVariables false
set_option maxRecDepth 100000
namespace Mine
noncomputable def under (l : List (Code × Pos)) : Prop := (l.any fun x => x.1.isCaller) = true
noncomputable def hasC (b : Bool) (Γ : PySem.Ctx) : Prop := b = true → Γ.code.isCaller = true ∨ under Γ.below
noncomputable def belowC (b : Bool) (Γ : PySem.Ctx) : Prop := b = true → under Γ.below
noncomputable def wpM {α : Type} (b : Bool) (M : Model) (A : Around) (t : Sem α) (Q : α → Shared → Prop) (E : Value → Shared → Prop) (s : Shared) : Prop :=
  ∀ Γ p, Γ.In A → hasC b Γ → Sem.wp M Γ t (fun a _ s' => Q a s') (fun e _ s' => E e s') p s
noncomputable def codeM (b : Bool) (M : Model) (A : Around) (c : Code) (R : Result → Shared → Prop) (s : Shared) : Prop :=
  ∀ Γ p, Γ.code = c → Γ.Below A → belowC b Γ → wpCode M Γ R p s
section
variable {α β : Type} {b : Bool} {M : Model} {A : Around} {E : Value → Shared → Prop} {s : Shared}
theorem wm_of {t : Sem α} {Q : α → Shared → Prop} (h : wpAny M A t Q E s) : wpM b M A t Q E s := fun Γ p hΓ _ => h Γ p hΓ
theorem wm_to {t : Sem α} {Q : α → Shared → Prop} (h : wpM false M A t Q E s) : wpAny M A t Q E s := fun Γ p hΓ => h Γ p hΓ fun q => nof q
theorem wm_mono {t : Sem α} {Q Q' : α → Shared → Prop} {E' : Value → Shared → Prop} (h : wpM b M A t Q E s) (hQ : ∀ a s, Q a s → Q' a s) (hE : ∀ e s, E e s → E' e s) : wpM b M A t Q' E' s :=
  fun Γ p hΓ hc => Sem.wp_mono M Γ t (fun a _ s => hQ a s) (fun e _ s => hE e s) p s (h Γ p hΓ hc)
theorem wm_bind {m : Sem α} {f : α → Sem β} {Q : β → Shared → Prop} (h : wpM b M A m (fun a s' => wpM b M A (f a) Q E s') E s) : wpM b M A (m >>= f) Q E s := fun Γ p hΓ hc => by
  rw [Sem.wp_bind']
  exact Sem.wp_mono M Γ m (fun a p' s' h' => h' Γ p' hΓ hc) (fun _ _ _ h' => h') p s (h Γ p hΓ hc)
theorem wm_seq {m : Sem α} {f : α → Sem β} {Q : β → Shared → Prop} (h : wpAny M A m (fun a s' => wpM b M A (f a) Q E s') E s) : wpM b M A (m >>= f) Q E s := wm_bind (wm_of h)
theorem wm_pure {a : α} {Q : α → Shared → Prop} (h : Q a s) : wpM b M A (pure a) Q E s := wm_of (wpAny_pure h)
theorem wm_holding {vs : List Value} {m : Sem α} {Q : α → Shared → Prop} (h : wpM b M A m Q E s) : wpM b M A (holding vs m) Q E s := fun Γ p hΓ hc => by
  rw [Sem.wp_holding]; exact h Γ p hΓ hc
theorem wm_onRaise {m : Sem α} {k : Value → Sem Unit} {Q : α → Shared → Prop} (h : wpM b M A m Q (fun e s' => wpM b M A (k e) (fun _ s'' => E e s'') E s') s) : wpM b M A (m.onRaise k) Q E s := fun Γ p hΓ hc => by
  rw [Sem.wp_onRaise]
  exact Sem.wp_mono M Γ m (fun _ _ _ h' => h') (fun e p' s' h' => h' Γ p' hΓ hc) p s (h Γ p hΓ hc)
theorem wm_attempt {m : Sem α} {Q : Except Value α → Shared → Prop} (h : wpM b M A m (fun a => Q (.ok a)) (fun e => Q (.error e)) s) : wpM b M A m.attempt Q E s := fun Γ p hΓ hc => by
  rw [Sem.wp_attempt]; exact h Γ p hΓ hc
theorem under_cons {c : Code} {p : Pos} {l : List (Code × Pos)} (h : c.isCaller = true ∨ under l) : under ((c, p) :: l) := by
  unfold under at *
  rw [List.any_cons, Bool.or_eq_true_iff]; exact h
theorem wm_runValue {c : Code} {Q : Value → Shared → Prop} (hc : codeM b M A c (fun r s' => match r with | .ok (.ret v) => Q v s' | .ok _ => False | .error e => E e s') s) : wpM b M A (runValue c) Q E s := fun Γ p hΓ hu => by
  rw [Sem.wp_runValue]
  exact hc _ p rfl (hΓ.enter c none p (by intro x; cases x)) fun q => under_cons (hu q)
theorem wm_call {f : Value} {pos : List Value} {kw : List (Str × Value)} {Q : Value → Shared → Prop} (hc : codeM b M A (.call f ⟨pos, kw⟩) (fun r s' => match r with | .ok (.ret v) => Q v s' | .ok _ => False | .error e => E e s') s) :
    wpM b M A (call f pos kw) Q E s := wm_runValue hc
theorem cm_of {c : Code} {R : Result → Shared → Prop} (h : codeAny M A c R s) : codeM b M A c R s := fun Γ p hc hΓ _ => h Γ p hc hΓ
theorem cm_mono {c : Code} {R R' : Result → Shared → Prop} (h : codeM b M A c R s) (hR : ∀ r s, R r s → R' r s) : codeM b M A c R' s := fun Γ p hc hΓ hu => wpCode_mono hR (h Γ p hc hΓ hu)
theorem cm_tree {c : Code} {R : Result → Shared → Prop}
    (h : wpM b M (A.under c) (M.den c) (fun fin s' => match fin with | .done f => R (.ok f) s' | .again c' => c'.quiet = true ∧ codeM b M A c' R s') (fun e s' => R (.error e) s') s) : codeM b M A c R s := fun Γ p hc hΓ hu => by
  rw [wpCode_iff_wp, hc]
  refine Sem.wp_mono M Γ _ (fun fin p' s' h' => ?_) (fun _ _ _ h' => h') p s (h Γ p (hc ▸ hΓ.in) fun q => .inr (hu q))
  cases fin with
  | done f => exact h'
  | again c' => exact ⟨h'.1, h'.2 (Γ.goto c') p' rfl (hΓ.goto c') hu⟩
theorem cm_loop {c : Code} {R : Result → Shared → Prop} (hq : c.quiet = true) (I : Nat → Shared → Prop)
    (turn : ∀ n s, I n s → wpM b M (A.under c) (M.den c) (fun fin s' => match fin with
        | .done f => R (.ok f) s'
        | .again c' => (c' = c ∧ ∃ m, m < n ∧ I m s') ∨ (c'.quiet = true ∧ codeM b M A c' R s')) (fun e s' => R (.error e) s') s) : ∀ (n : Nat) {s : Shared}, I n s → codeM b M A c R s := by
  intro n
  induction n using Nat.strongRecOn with
  | ind n ih =>
    intro s h
    refine cm_tree (wm_mono (turn n s h) (fun fin s' hf => ?_) fun _ _ h' => h')
    cases fin with
    | done f => exact hf
    | again c' =>
      rcases hf with ⟨rfl, m, hm, hI⟩ | hf
      · exact ⟨hq, ih m hm hI⟩
      · exact hf
end
section
variable {b : Bool} {prog : Program} {w : World} {A : Around} {E : Value → Shared → Prop} {s : Shared} {env : PySem.Env}
theorem wm_execs_cons {M : Model} {st : Stmt} {rest : List Stmt} {Q : Flow → Shared → Prop} (h : wpM b M A (exec st env) (fun f s' => match f with | .next => wpM b M A (execs rest env) Q E s' | f => Q f s') E s) : wpM b M A (execs (st :: rest) env) Q E s := fun Γ p hΓ hu => by
  rw [execs_cons, Sem.wp_bind']
  refine Sem.wp_mono M Γ _ (fun f p' s' h' => ?_) (fun _ _ _ h' => h') _ _ (h Γ p hΓ hu)
  cases f <;> first | exact h' Γ p' hΓ hu | exact h'
theorem wm_If {M : Model} {test : Expr} {body orelse : List Stmt} {pos : Pos} {Q : Flow → Shared → Prop} (h : wpM b M A (isTrue test env (eval test env)) (fun b' s₂ => if b' then wpM b M A (execs body env) Q E s₂ else wpM b M A (execs orelse env) Q E s₂) E s) :
    wpM b M A (exec (.If test body orelse pos) env) Q E s := fun Γ p hΓ hu => by
  simp only [exec_If, Sem.wp_bind', Sem.wp_cmd_standAt]
  refine Sem.wp_mono M Γ _ (fun b' p₂ s₂ h₂ => ?_) (fun _ _ _ h' => h') _ _ (h Γ _ hΓ hu)
  cases b' <;> exact h₂ Γ p₂ hΓ hu
theorem wm_Assign {M : Model} {x : Str} {pos' pos : Pos} {value : Expr} {Q : Flow → Shared → Prop} (h : wpM b M A (eval value env) (fun v s₁ => wpAny M A (storeName env x v) (fun _ => Q .next) E s₁) E s)
    (hs : swapsWith value (some (.Name x pos')) pos.line env = pure false) : wpM b M A (exec (.Assign [.Name x pos'] value pos) env) Q E s := fun Γ p hΓ hu => by
  simp only [exec_Assign_Name env x pos' value pos hs, Sem.wp_bind', Sem.wp_cmd_standAt, Sem.wp_bindName, Sem.wp_pure']
  exact Sem.wp_mono M Γ _ (fun v _ s₁ h₁ => h₁ Γ _ hΓ) (fun _ _ _ h' => h') _ _ (h Γ _ hΓ hu)
theorem cm_func {body : List Stmt} {R : Result → Shared → Prop}
    (h : wpM b (model prog w) (A.deeper env) (execs body env) (fun f s' => R (.ok (.ret (match f with | .ret v => v | _ => .none))) s')
      (fun e s' => wpAny (model prog w) (A.deeper env) (leaving env e) (fun _ s'' => R (.error e) s'') (fun e' s'' => R (.error e') s'') s') s) : codeM b (model prog w) A (.func body env) R s := by
  refine cm_tree ?_
  show wpM b _ (A.deeper env) (do point; match ← (execs body env).onRaise (leaving env) with | .ret v => ret v | _ => ret .none) _ _ s
  refine wm_seq (wpAny_point (wm_bind (wm_onRaise (wm_mono h (fun f s' h' => ?_) fun _ _ h' => wm_of h'))))
  cases f <;> exact wm_pure h'
theorem cm_call {a : Addr} {args : Args} {o : Obj} {fd : FuncData} {body : List Stmt} {R : Result → Shared → Prop} (hroom : A.depth < recursionLimit) (ho : s.heap.get? a = some o)
    (hd' : o.data = .func fd) (hco : fd.scope.isCoroutine = false) (hgen : fd.scope.isGenerator = false) (hbody : fd.body = .stmts body) (hcd : s.heap.CodeRec fd.code fd.qualname)
    (h : wpAny (model prog w) A.in1 (bindArgs fd args) (fun binds s₁ => wpAny (model prog w) A.in1 (newFunctionEnv fd.scope fd.globals fd.closure binds (fd.qualname ++ ".<locals>.") (some a) fd.code none fd.builtins)
        (fun env s₂ => s₂.heap.NoLimit ∧ codeM b (model prog w) A (.func body env) R s₂) (fun e s' => R (.error e) s') s₁) (fun e s' => R (.error e) s') s) : codeM b (model prog w) A (.call (.ref a) args) R s := by
  refine cm_tree ?_
  show wpM b _ A.in1 (callAny (.ref a) args) _ _ s
  simp only [callAny]
  refine wm_seq (wpAny_load ho ?_)
  obtain ⟨c, oc, vs, tq, hc, hoc, hdc, hq⟩ := hcd
  simp only [hd', callFunction, hco, hgen, hbody, hc]
  rw [hc] at h
  refine wm_seq (m := field (.ref c) 1) (wpAny_field hoc hdc hq (wm_seq (wpAny_pure ?_)))
  refine wm_seq (wpAny_mono h (fun binds s₁ h₁ => wm_seq (wpAny_mono h₁ (fun env s₂ h₂ => wm_seq (wpAny_enterFrame h₂.1 hroom (wm_pure (And.intro rfl h₂.2)))) fun _ _ h' => h')) fun _ _ h' => h')
theorem wm_keep {M : Model} {α : Type} {vs : List Value} {m : Sem α} {Q : α → Shared → Prop} (h : wpM b M A m Q E s) : wpM b M A (m.keep vs) Q E s := fun Γ p hΓ hu => by
  rw [Sem.wp_keep]; exact h Γ p hΓ hu
theorem wm_callWith {pos : Pos} {a : Addr} {o : Obj} {fd : FuncData} {first : List Value} {args : List (Bool × Sem Value)} {keywords : List (Option Str × Sem Value)} {Q : Value → Shared → Prop} (hs : (args.any (·.1) || keywords.any (·.1.isNone)) = false)
    (h : wpAny (model prog w) A (evalArgs (.ref a) true args keywords) (fun x s₁ => (s₁.heap.get? a = some o ∧ o.data = .func fd) ∧ wpM b (model prog w) A (call (.ref a) (first ++ x.pos) x.kw) Q E s₁) E s) :
    wpM b (model prog w) A (callWith pos (.ref a) first args keywords) Q E s := by
  unfold callWith
  refine wm_seq (wpAny_holding (wpAny_mono h (fun x s₁ h₁ => wm_seq (wpAny_standAt ?_)) fun _ _ x => x))
  have tail : ∀ {t : Sem Value}, wpM b (model prog w) A t Q E s₁ → wpM b (model prog w) A (t >>= fun r => holding [r] point >>= fun _ => pure r) Q E s₁ :=
    fun ht => wm_bind (wm_mono ht (fun r s₂ hr => wm_seq (wpAny_holding (wpAny_point (wm_pure hr)))) fun _ _ x => x)
  rw [hs]
  refine wm_seq (m := keeperOf (.ref a)) ?_
  unfold keeperOf
  refine wpAny_bind (wpAny_load h₁.1.1 ?_)
  rw [h₁.1.2]
  refine wpAny_pure ?_
  by_cases hl : args.length + 2 * keywords.length > 30
  · simp only [hl, if_true]
    exact tail h₁.2
  · simp only [hl, if_false]
    exact tail (by unfold callMarked; exact wm_keep h₁.2)
end
end Mine
end
section
open PySem PySem.W PySem.Spec PySem.Calls PyProof.Rows
set_option Elab.async false
set_option linter.unusedVariables false
set_option genSizeOfSpec false
set_option genInjectivity false
set_option maxRecDepth 100000
namespace Mine
inductive RS where
  | done
  | set (i : Nat) (e : RE) (rest : RS)
  | setc (i : Nat) (elt : RE) (j : Nat) (it test : RE) (ft : Bool) (cs : List Nat) (rest : RS)
  | new (i : Nat) (as : RE) (rest : RS)
  | aug (i : Nat) (op : Operator) (e : RE) (rest : RS)
  | app (i : Nat) (e : RE) (rest : RS)
  | ite (t : RE) (a b rest : RS)
  | itj (t : RE) (a b rest : RS)
  | for_ (is : List Nat) (en : Bool) (src : RE) (body orelse rest : RS)
  | while_ (t : RE) (body orelse rest : RS)
  | ret (e : RE)
  | brk
  | asrt (t : RE) (rest : RS)
  | frz (i : Nat) (rest : RS)
  | rse (x : Str) (C : Addr) (e : RE)
  | seti (i : Nat) (e : RE) (rest : RS)
  | fls
  | un2 (i j : Nat) (e as : RE) (rest : RS)
  | un3 (i j k : Nat) (as e₁ e₂ : RE) (rest : RS)
  | sti (i : Nat) (k e : RE) (rest : RS)
  | aui (i : Nat) (k : RE) (op : Operator) (e : RE) (rest : RS)
  | ext (i : Nat) (as : RE) (rest : RS)
noncomputable def lcE : Expr → Bool
  | .ListComp .. => true
  | _ => false
noncomputable def namesAt (S : Scope) (ns : List Str) : List Nat → List Expr → Bool
  | [], [] => true
  | i :: is, .Name x _ :: es => uniqAt ns i x && (isK S x .local || isK S x .cell) && namesAt S ns is es
  | _, _ => false
noncomputable def storeAt (S : Scope) (ns : List Str) (i : Nat) (x : Str) : Bool := uniqAt ns i x && (isK S x .local || isK S x .cell)
noncomputable def tgtAt (S : Scope) (ns : List Str) (is : List Nat) (t : Expr) : Bool := match t with
  | .Name x _ => match is with
    | [i] => storeAt S ns i x
    | _ => false
  | .Tuple es _ _ => !(Nat.beq is.length 1) && namesAt S ns is es
  | _ => false
noncomputable def nmsOf (ts : List Expr) : List Str := ts.map fun t => match t with | .Name x _ => x | _ => Str.empty
noncomputable def pureOf {α : Type} : Sem α → Option α
  | .pure a => some a
  | _ => none
noncomputable def envS (S : Scope) : PySem.Env := { scope := S, locals := 0, globals := 0, cells := [] }
noncomputable def swapOk (ts vs : List Expr) (S : Scope) : Bool := match pureOf (swappedStores [.Tuple ts 0 ⟨0, 0, 0, 0⟩] (.Tuple vs 0 ⟨0, 0, 0, 0⟩) (envS S)) with
  | some (some l) => l == nmsOf ts
  | _ => false
noncomputable def sAs (ss : List Stmt) (k : Expr → Expr → Pos → List Stmt → Bool) : Bool := match ss with
  | .Assign [t] v pos :: r => k t v pos r
  | _ => false
noncomputable def sAu (ss : List Stmt) (k : Expr → Operator → Expr → Pos → List Stmt → Bool) : Bool := match ss with
  | .AugAssign t op v pos :: r => k t op v pos r
  | _ => false
noncomputable def sEx (ss : List Stmt) (k : Expr → Pos → List Stmt → Bool) : Bool := match ss with
  | .Expr v pos :: r => k v pos r
  | _ => false
noncomputable def sIf (ss : List Stmt) (k : Expr → List Stmt → List Stmt → Pos → List Stmt → Bool) : Bool := match ss with
  | .If t a b pos :: r => k t a b pos r
  | _ => false
noncomputable def sRa (ss : List Stmt) (k : Expr → Pos → List Stmt → Bool) : Bool := match ss with
  | .Raise (some e) .none pos :: r => k e pos r
  | _ => false
noncomputable def eNm (e : Expr) (k : Str → Pos → Bool) : Bool := match e with
  | .Name x p => k x p
  | _ => false
noncomputable def eTu (e : Expr) (k : List Expr → Nat → Pos → Bool) : Bool := match e with
  | .Tuple es n p => k es n p
  | _ => false
noncomputable def eLi (e : Expr) (k : List Expr → Pos → Bool) : Bool := match e with
  | .List es p => k es p
  | _ => false
noncomputable def eSb (e : Expr) (k : Expr → Expr → Pos → Bool) : Bool := match e with
  | .Subscript o i p => k o i p
  | _ => false
noncomputable def eCl (e : Expr) (k : Expr → List Expr → List Keyword → Pos → Bool) : Bool := match e with
  | .Call f es kw p => k f es kw p
  | _ => false
noncomputable def eAt (e : Expr) (k : Expr → Str → Pos → Bool) : Bool := match e with
  | .Attribute o n p => k o n p
  | _ => false
noncomputable def eLC (e : Expr) (k : Expr → List Comprehension → Scope → Pos → Bool) : Bool := match e with
  | .ListComp a gs sc p => k a gs sc p
  | _ => false
noncomputable def gCo (g : Comprehension) (k : Str → Pos → Expr → List Expr → Bool) : Bool := match g with
  | ⟨.Name x q, it, ifs, 0⟩ => k x q it ifs
  | _ => false
noncomputable def l0 {α : Type} (l : List α) (b : Bool) : Bool := match l with
  | [] => b
  | _ => false
noncomputable def l1 {α : Type} (l : List α) (k : α → Bool) : Bool := match l with
  | [a] => k a
  | _ => false
noncomputable def l2 {α : Type} (l : List α) (k : α → α → Bool) : Bool := match l with
  | [a, b] => k a b
  | _ => false
noncomputable def l3 {α : Type} (l : List α) (k : α → α → α → Bool) : Bool := match l with
  | [a, b, c] => k a b c
  | _ => false
section
variable {P : List Stmt → Prop} {R : Expr → Prop} {ss : List Stmt} {e : Expr}
@[elab_as_elim] theorem sAs_el {k} (h : sAs ss k = true) (f : ∀ t v pos r, k t v pos r = true → P (.Assign [t] v pos :: r)) : P ss := by
  cases ss with
  | nil => exact nof h
  | cons st r =>
    cases st with
    | Assign ts v pos =>
      cases ts with
      | nil => exact nof h
      | cons t ts =>
        cases ts with
        | nil => exact f t v pos r h
        | cons _ _ => exact nof h
    | _ => exact nof h
@[elab_as_elim] theorem sAu_el {k} (h : sAu ss k = true) (f : ∀ t op v pos r, k t op v pos r = true → P (.AugAssign t op v pos :: r)) : P ss := by
  cases ss with
  | nil => exact nof h
  | cons st r =>
    cases st with
    | AugAssign t op v pos => exact f t op v pos r h
    | _ => exact nof h
@[elab_as_elim] theorem sEx_el {k} (h : sEx ss k = true) (f : ∀ v pos r, k v pos r = true → P (.Expr v pos :: r)) : P ss := by
  cases ss with
  | nil => exact nof h
  | cons st r =>
    cases st with
    | Expr v pos => exact f v pos r h
    | _ => exact nof h
@[elab_as_elim] theorem sIf_el {k} (h : sIf ss k = true) (f : ∀ t a b pos r, k t a b pos r = true → P (.If t a b pos :: r)) : P ss := by
  cases ss with
  | nil => exact nof h
  | cons st r =>
    cases st with
    | If t a b pos => exact f t a b pos r h
    | _ => exact nof h
@[elab_as_elim] theorem sRa_el {k} (h : sRa ss k = true) (f : ∀ e pos r, k e pos r = true → P (.Raise (some e) .none pos :: r)) : P ss := by
  cases ss with
  | nil => exact nof h
  | cons st r =>
    cases st with
    | Raise o o' pos =>
      cases o with
      | none => exact nof h
      | some e =>
        cases o' with
        | none => exact f e pos r h
        | some _ => exact nof h
    | _ => exact nof h
@[elab_as_elim] theorem eNm_el {k} (h : eNm e k = true) (f : ∀ x p, k x p = true → R (.Name x p)) : R e := by
  cases e with
  | Name x p => exact f x p h
  | _ => exact nof h
@[elab_as_elim] theorem eTu_el {k} (h : eTu e k = true) (f : ∀ es n p, k es n p = true → R (.Tuple es n p)) : R e := by
  cases e with
  | Tuple es n p => exact f es n p h
  | _ => exact nof h
@[elab_as_elim] theorem eLi_el {k} (h : eLi e k = true) (f : ∀ es p, k es p = true → R (.List es p)) : R e := by
  cases e with
  | List es p => exact f es p h
  | _ => exact nof h
@[elab_as_elim] theorem eSb_el {k} (h : eSb e k = true) (f : ∀ o i p, k o i p = true → R (.Subscript o i p)) : R e := by
  cases e with
  | Subscript o i p => exact f o i p h
  | _ => exact nof h
@[elab_as_elim] theorem eCl_el {k} (h : eCl e k = true) (f : ∀ g es kw p, k g es kw p = true → R (.Call g es kw p)) : R e := by
  cases e with
  | Call g es kw p => exact f g es kw p h
  | _ => exact nof h
@[elab_as_elim] theorem eAt_el {k} (h : eAt e k = true) (f : ∀ o n p, k o n p = true → R (.Attribute o n p)) : R e := by
  cases e with
  | Attribute o n p => exact f o n p h
  | _ => exact nof h
@[elab_as_elim] theorem eLC_el {k} (h : eLC e k = true) (f : ∀ a gs sc p, k a gs sc p = true → R (.ListComp a gs sc p)) : R e := by
  cases e with
  | ListComp a gs sc p => exact f a gs sc p h
  | _ => exact nof h
end
@[elab_as_elim] theorem gCo_el {k} {P : Comprehension → Prop} {g : Comprehension} (h : gCo g k = true) (f : ∀ x q it ifs, k x q it ifs = true → P ⟨.Name x q, it, ifs, 0⟩) : P g := by
  cases g with
  | mk t it ifs n =>
    cases t with
    | Name x q =>
      by_cases hk : n = 0
      · subst hk; exact f x q it ifs h
      · exact nof (by cases n with | ofNat n => (cases n with | zero => exact absurd rfl hk | succ _ => exact h) | negSucc _ => exact h)
    | _ => exact nof h
section
variable {α : Type} {P : List α → Prop} {l : List α}
@[elab_as_elim] theorem l0_el {b : Bool} (h : l0 l b = true) (f : b = true → P []) : P l := by
  cases l with
  | nil => exact f h
  | cons _ _ => exact nof h
@[elab_as_elim] theorem l1_el {k} (h : l1 l k = true) (f : ∀ a, k a = true → P [a]) : P l := by
  cases l with
  | nil => exact nof h
  | cons a l =>
    cases l with
    | nil => exact f a h
    | cons _ _ => exact nof h
@[elab_as_elim] theorem l2_el {k} (h : l2 l k = true) (f : ∀ a b, k a b = true → P [a, b]) : P l := by
  cases l with
  | nil => exact nof h
  | cons a l =>
    cases l with
    | nil => exact nof h
    | cons b l =>
      cases l with
      | nil => exact f a b h
      | cons _ _ => exact nof h
@[elab_as_elim] theorem l3_el {k} (h : l3 l k = true) (f : ∀ a b c, k a b c = true → P [a, b, c]) : P l := by
  cases l with
  | nil => exact nof h
  | cons a l =>
    cases l with
    | nil => exact nof h
    | cons b l =>
      cases l with
      | nil => exact nof h
      | cons c l =>
        cases l with
        | nil => exact f a b c h
        | cons _ _ => exact nof h
end
noncomputable def chkS (S : Scope) (ns : List Str) : RS → List Stmt → Bool
  | .done => fun ss => match ss with | [] => true | _ => false
  | .set i e rest => fun ss => sAs ss fun t v _ ss => eNm t fun x _ => storeAt S ns i x && (shp v || (lcE v && isK S x .cell)) && chk ns e S true v && chkS S ns rest ss
  | .setc i elt j it test ft cs rest => fun ss => sAs ss fun t v pos ss => eNm t fun y q => eLC v fun elt' gs sc p => l1 gs fun g => gCo g fun x _ it' ifs =>
      chk ns (.comp elt j it test ft cs) S true (.ListComp elt' [⟨.Name x q, it', ifs, 0⟩] sc p) && uniqAt ns i y && isK S y .local && S.kind == .function && q.line == p.line && !(sc.names.any fun (n, k) => n == y && (k == .local || k == .cell)) && chkS S ns rest ss
  | .new i as rest => fun ss => sAs ss fun t v _ ss => eNm t fun x _ => eLi v fun es p => uniqAt ns i x && isK S x .local && chk ns as S true (.Tuple es 0 p) && chkS S ns rest ss
  | .aug i op e rest => fun ss => sAu ss fun t op' v _ ss => eNm t fun x _ => storeAt S ns i x && op == op' && chk ns e S true v && chkS S ns rest ss
  | .app i e rest => fun ss => sEx ss fun c _ ss => eCl c fun f es kw p => eAt f fun o n apos => eNm o fun x _ => l1 es fun v => l0 kw <|
      uniqAt ns i x && !(x == ("__debug__" : Str)) && n == ("append" : Str) && nst v && mform (.Name x p) apos p [v] && chk ns e S true v && chkS S ns rest ss
  | .ite t a b rest => fun ss => sIf ss fun t' a' b' _ ss => chk ns t S true t' && chkS S ns a a' && chkS S ns b b' && chkS S ns rest ss
  | .itj t a b rest => fun ss => sIf ss fun t' a' b' _ ss => chk ns t S true t' && chkS S ns a a' && chkS S ns b b' && chkS S ns rest ss
  | .for_ is en src body orelse rest => fun ss => match ss with
    | .For t it b' o' _ :: ss => tgtAt S ns is t && shp it && (match en with
      | false => chk ns src S true it
      | true => match t, it with
        | .Tuple _ _ _, .Call (.Name y _) [v] [] _ => ("enumerate" : Str) == y && glob S y && nst v && chk ns src S true v
        | _, _ => false) && chkS S ns body b' && chkS S ns orelse o' && chkS S ns rest ss
    | _ => false
  | .while_ t body orelse rest => fun ss => match ss with
    | .While t' b' o' _ :: ss => chk ns t S true t' && chkS S ns body b' && chkS S ns orelse o' && chkS S ns rest ss
    | _ => false
  | .ret e => fun ss => match ss with
    | .Return (some v) _ :: _ => chk ns e S true v
    | _ => false
  | .brk => fun ss => match ss with | .Break _ :: _ => true | _ => false
  | .asrt t rest => fun ss => match ss with
    | .Assert t' _ _ :: ss => chk ns t S true t' && chkS S ns rest ss
    | _ => false
  | .frz i rest => fun ss => (match ns[i]? with | some x => uniqAt ns i x | .none => false) && chkS S ns rest ss
  | .rse x C e => fun ss => sRa ss fun c _ _ => eCl c fun f es kw _ => eNm f fun y _ => l1 es fun v => l0 kw <| x == y && glob S y && nst v && chk ns e S true v
  | .seti i e rest => fun ss => sAs ss fun t c _ ss => eNm t fun x _ => eCl c fun f es kw _ => eNm f fun y _ => l1 es fun v => l0 kw <| storeAt S ns i x && ("int" : Str) == y && glob S y && nst v && chk ns e S true v && chkS S ns rest ss
  | .fls => fun ss => true
  | .un2 i j e as rest => fun ss => sAs ss fun t u _ ss => eTu t fun ts _ _ => l2 ts fun t1 t2 => eNm t1 fun x p => eNm t2 fun y q => eTu u fun vs _ _ => l2 vs fun v w => eLi w fun es pl =>
      storeAt S ns i x && uniqAt ns j y && isK S y .local && nst v && swapOk [.Name x p, .Name y q] [v, .List es pl] S && chk ns e S true v && chk ns as S true (.Tuple es 0 pl) && chkS S ns rest ss
  | .un3 i j k as e₁ e₂ rest => fun ss => sAs ss fun t u _ ss => eTu t fun ts _ _ => l3 ts fun t1 t2 t3 => eNm t1 fun x p => eNm t2 fun y q => eNm t3 fun z r => eTu u fun vs _ _ => l3 vs fun w v₁ v₂ => eLi w fun es pl =>
      uniqAt ns i x && isK S x .local && uniqAt ns j y && isK S y .local && uniqAt ns k z && isK S z .local && nst v₁ && nst v₂ && swapOk [.Name x p, .Name y q, .Name z r] [.List es pl, v₁, v₂] S && chk ns as S true (.Tuple es 0 pl) && chk ns e₁ S true v₁ && chk ns e₂ S true v₂ && chkS S ns rest ss
  | .sti i k e rest => fun ss => sAs ss fun t v _ ss => eSb t fun o k' _ => eNm o fun x _ => uniqAt ns i x && !(x == ("__debug__" : Str)) && shp v && chk ns e S true v && chk ns k S true k' && chkS S ns rest ss
  | .aui i k op e rest => fun ss => sAu ss fun t op' v _ ss => eSb t fun o k' _ => eNm o fun x _ => uniqAt ns i x && !(x == ("__debug__" : Str)) && shp k' && op == op' && chk ns e S true v && chk ns k S true k' && chkS S ns rest ss
  | .ext i as rest => fun ss => sAu ss fun t op v _ ss => eNm t fun x _ => eLi v fun es p => Operator.Add == op && (uniqAt ns i x && isK S x .local && chk ns as S true (.Tuple es 0 p) && chkS S ns rest ss)
inductive Ov where
  | next | brk | cont
  | ret (d : D)
  | exc (C : Addr) (x : Str)
  | ve
noncomputable def ovf : Fl → Ov
  | .next => .next
  | .brk => .brk
  | .cont => .cont
  | .ret d => .ret d
noncomputable abbrev PQ := Ov → Env → Prop
noncomputable def seqQ (W : Env → PQ → Prop) (Q : PQ) : PQ := fun o ρ => match o with
  | .next => W ρ Q
  | o => Q o ρ
noncomputable def joinQ (ρ₁ : Env) (Q : PQ) : PQ := fun o ρ => match o with
  | .next => ρ = ρ₁
  | o => Q o ρ
noncomputable def loopQ (N : Env → Prop) (Q : PQ) : PQ := fun o ρ => match o with
  | .next => N ρ
  | .cont => N ρ
  | .brk => Q .next ρ
  | .ret d => Q (.ret d) ρ
  | _ => False
noncomputable def noX (Q : PQ) : PQ := fun o ρ => match o with
  | .exc _ _ => False
  | .ve => False
  | o => Q o ρ
noncomputable def updAll : Env → List Nat → List D → Env
  | ρ, i :: is, d :: ds => updAll (upd ρ i d) is ds
  | ρ, _, _ => ρ
noncomputable def asgE (is : List Nat) (ρ : Env) (d : D) (K : Env → Prop) : Prop := match is with
  | [i] => (match d with
    | .tup _ => False
    | d => K (upd ρ i d))
  | is => match d with
    | .tup ds => is.length = ds.length ∧ K (updAll ρ is ds)
    | _ => False
noncomputable def wpFor (is : List Nat) (B O : Env → PQ → Prop) (Q : PQ) : List D → Env → Prop
  | [], ρ => O ρ (noX Q)
  | d :: ds, ρ => asgE is ρ d fun ρ' => B ρ' (loopQ (wpFor is B O Q ds) Q)
noncomputable def wpWh (T : Env → (D → Prop) → Prop) (B O : Env → PQ → Prop) (Q : PQ) : Nat → Env → Prop
  | 0, ρ => T ρ fun x => ifD x False (O ρ (noX Q))
  | n + 1, ρ => T ρ fun x => ifD x (B ρ (loopQ (wpWh T B O Q n) Q)) (O ρ (noX Q))
noncomputable def mlsAt (o : Option D) (K : List D → Prop) : Prop := match o with
  | some d => (match d with
    | .mls l => K l
    | _ => False)
  | .none => False
noncomputable def at_ (o : Option D) (K : D → Prop) : Prop := match o with
  | some d => K d
  | .none => False
noncomputable def tupD (d : D) (K : List D → Prop) : Prop := match d with
  | .tup l => K l
  | _ => False
noncomputable def intOf (x : Str) : Option Int := PySem.intText? x
noncomputable def wpS (X : Fx) : RS → Env → PQ → Prop
  | .done => fun ρ Q => Q .next ρ
  | .set i e rest => fun ρ Q => wp X e .v ρ fun d => frozB d = true ∧ wpS X rest (upd ρ i d) Q
  | .setc i elt j it test ft cs rest => fun ρ Q => wp X (.comp elt j it test ft cs) .v ρ fun d => frozB d = true ∧ wpS X rest (upd ρ i d) Q
  | .new i as rest => fun ρ Q => wp X as .l ρ fun y => lstD y fun l => (l.length ≤ 1000 ∧ frozB.frozBs l = true) ∧ wpS X rest (upd ρ i (.mls l)) Q
  | .aug i op e rest => fun ρ Q => at_ (nth ρ i) fun d₀ => wp X e .v ρ fun d₁ => augD op d₀ d₁ fun d => frozB d = true ∧ wpS X rest (upd ρ i d) Q
  | .app i e rest => fun ρ Q => mlsAt (nth ρ i) fun l => wp X e .v ρ fun d => (frozB d = true ∧ l.length ≤ 100000) ∧ wpS X rest (upd ρ i (.mls (l ++ [d]))) Q
  | .ite t a b rest => fun ρ Q => wp X t .t ρ fun x => ifD x (wpS X a ρ (seqQ (wpS X rest) Q)) (wpS X b ρ (seqQ (wpS X rest) Q))
  | .itj t a b rest => fun ρ Q => wp X t .t ρ fun x => boolD x fun p => ∃ ρ₁, (p = true → wpS X a ρ (joinQ ρ₁ Q)) ∧ (p = false → wpS X b ρ (joinQ ρ₁ Q)) ∧ wpS X rest ρ₁ Q
  | .for_ is en src body orelse rest => fun ρ Q => X.cl = false ∧ wp X src .v ρ fun d => (match en with
    | false => fun (K : List D → Prop) => srcD d K
    | true => fun K => tupD d fun ds => K (enumFrom 0 ds)) fun items => frozB.frozBs items = true ∧ wpFor is (wpS X body) (wpS X orelse) (seqQ (wpS X rest) Q) items ρ
  | .while_ t body orelse rest => fun ρ Q => X.cl = false ∧ ∃ n, wpWh (wp X t .t) (wpS X body) (wpS X orelse) (seqQ (wpS X rest) Q) n ρ
  | .ret e => fun ρ Q => wp X e .v ρ fun d => frozB d = true ∧ Q (.ret d) ρ
  | .brk => fun ρ Q => Q .brk ρ
  | .asrt t rest => fun ρ Q => wp X t .t ρ fun x => boolD x fun p => p = true ∧ wpS X rest ρ Q
  | .frz i rest => fun ρ Q => mlsAt (nth ρ i) fun l => wpS X rest (upd ρ i (.lst l)) Q
  | .rse x C e => fun ρ Q => wp X e .v ρ fun d => strD d fun t => (nsIn X.K mainGlobals x = some (some (.ref C)) ∧ excIn X.K C [.type "Exception", .type "BaseException", .type "object"] "Exception.__new__" = true) ∧ Q (.exc C t) ρ
  | .seti i e rest => fun ρ Q => X.cl = true ∧ wp X e .v ρ fun d => strD d fun t => (t.length ≤ 640 ∧ (reprText t).length ≤ sizeLine) ∧ ((∃ n, intOf t = some n ∧ wpS X rest (upd ρ i (.int n)) Q) ∨ (intOf t = .none ∧ Q .ve ρ))
  | .fls => fun ρ Q => False
  | .un2 i j e as rest => fun ρ Q => wp X e .v ρ fun d => wp X as .l ρ fun y => lstD y fun l => (frozB d = true ∧ l.length ≤ 1000 ∧ frozB.frozBs l = true) ∧ wpS X rest (upd (upd ρ j (.mls l)) i d) Q
  | .un3 i j k as e₁ e₂ rest => fun ρ Q => wp X as .l ρ fun y => lstD y fun l => wp X e₁ .v ρ fun d₁ => wp X e₂ .v ρ fun d₂ => (l.length ≤ 1000 ∧ frozB.frozBs l = true ∧ frozB d₁ = true ∧ frozB d₂ = true) ∧ wpS X rest (upd (upd (upd ρ k d₂) j d₁) i (.mls l)) Q
  | .sti i k e rest => fun ρ Q => mlsAt (nth ρ i) fun l => wp X e .v ρ fun d => wp X k .v ρ fun y => intD y fun n => (frozB d = true ∧ 0 ≤ n ∧ n < l.length ∧ l.length ≤ 100000) ∧ wpS X rest (upd ρ i (.mls (l.set n.toNat d))) Q
  | .aui i k op e rest => fun ρ Q => mlsAt (nth ρ i) fun l => wp X k .v ρ fun y => intD y fun n => at_ l[n.toNat]? fun d₀ => wp X e .v ρ fun d₁ => augD op d₀ d₁ fun d => (frozB d = true ∧ 0 ≤ n ∧ n < l.length ∧ l.length ≤ 100000) ∧ wpS X rest (upd ρ i (.mls (l.set n.toNat d))) Q
  | .ext i as rest => fun ρ Q => mlsAt (nth ρ i) fun l => wp X as .l ρ fun y => lstD y fun ds => (ds.length ≤ 1000 ∧ l.length ≤ 100000 ∧ frozB.frozBs ds = true) ∧ wpS X rest (upd ρ i (.mls (l ++ ds))) Q
end Mine
end
section
open PySem PySem.W PySem.Spec PySem.Calls PyProof.Rows
set_option Elab.async false
set_option linter.unusedVariables false
set_option maxRecDepth 100000
namespace Mine
noncomputable def SamS (s s' : Shared) : Prop := ∃ tk, s' = { s with heap := s'.heap, toks := tk }
theorem SamS.step {own own' : List Addr} {s s₁ s' : Shared} (k : Step own s own' s₁) (h : SamS s₁ s') : SamS s s' := by
  obtain ⟨h', tk, rfl⟩ := k.same
  obtain ⟨tk', e⟩ := h
  exact ⟨tk', e⟩
structure XE (c : Cx) (s : Shared) (E : Value → Shared → Prop) (Q : Ov → Prop) : Prop where
  own : ∀ C x tx e h m s', Q (.exc C x) → Fr c.h₀ c.L h m → Heap.MadeExcOf h s'.heap e (.ref C) [.str x tx] → SamS s s' → E (.ref e) s'
  ve : ∀ e h m s', Q .ve → Fr c.h₀ c.L h m → Heap.NewExc h s'.heap e "ValueError" → SamS s s' → E (.ref e) s'
noncomputable def STX (b : Bool) (c : Cx) (l : Loc) (t : Sem Flow) (Q : Ov → Loc → Prop) : Prop :=
  ∀ av own s, Inv c av own l s → ∀ (R : Flow → Shared → Prop) (E : Value → Shared → Prop),
    (∀ fl f l' own' s', Q (ovf fl) l' → RelF (own' ++ av) s'.heap fl f → Step own s own' s' → Inv c av own' l' s' → R f s') → XE c s E (fun o => ∃ l', Q o l') → wpM b c.M c.A t R E s
section
variable {b : Bool} {c : Cx} {l : Loc} {Q : Ov → Loc → Prop}
theorem stx_of {t : Sem Flow} (h : ST c l t (fun fl l' => Q (ovf fl) l')) : STX b c l t Q := fun av own s i R E hR _ => wm_of (h av own s i R E hR)
theorem stx_to {t : Sem Flow} (h : STX false c l t Q) (h1 : ∀ C x l', ¬ Q (.exc C x) l') (h2 : ∀ l', ¬ Q .ve l') : ST c l t (fun fl l' => Q (ovf fl) l') := fun av own s i R E hR =>
  wm_to (h av own s i R E hR ⟨fun C x _ _ _ _ _ q => q.elim fun l' q => (h1 C x l' q).elim, fun _ _ _ _ q => q.elim fun l' q => (h2 l' q).elim⟩)
theorem stx_mono {t : Sem Flow} {Q' : Ov → Loc → Prop} (h : STX b c l t Q') (k : ∀ o l', Q' o l' → Q o l') : STX b c l t Q := fun av own s i R E hR x =>
  h av own s i R E (fun fl f l' own' s' q => hR fl f l' own' s' (k _ _ q)) ⟨fun C y tx e h m s' q => x.own C y tx e h m s' (q.elim fun l' q => ⟨l', k _ _ q⟩), fun e h m s' q => x.ve e h m s' (q.elim fun l' q => ⟨l', k _ _ q⟩)⟩
theorem stx_cons {st : Stmt} {rest : List Stmt} (h : STX b c l (exec st c.env) (fun o l' => match o with | .next => STX b c l' (execs rest c.env) Q | o => Q o l')) : STX b c l (execs (st :: rest) c.env) Q := by
  intro av own s i R E hR hx
  refine wm_execs_cons (h av own s i _ _ (fun fl f l' own' s' q r k i' => ?_) ⟨fun C y tx e h m s' q => hx.own C y tx e h m s' q, fun e h m s' q => hx.ve e h m s' q⟩)
  cases fl with
  | next =>
    simp only [RelF] at r
    subst r
    exact q av own' s' i' R E (fun fl f l'' own'' s'' q' r' k' i'' => hR fl f l'' own'' s'' q' r' (k.trans k') i'') ⟨fun C y tx e h m s' q e1 e2 e3 => hx.own C y tx e h m s' q e1 e2 (e3.step k), fun e h m s' q e1 e2 e3 => hx.ve e h m s' q e1 e2 (e3.step k)⟩
  | brk => simp only [RelF] at r; subst r; exact hR .brk _ l' own' s' q (by simp only [RelF]) k i'
  | cont => simp only [RelF] at r; subst r; exact hR .cont _ l' own' s' q (by simp only [RelF]) k i'
  | ret d =>
    have r' := r
    simp only [RelF] at r
    obtain ⟨v, rfl, r1, r2⟩ := r
    exact hR (.ret d) _ l' own' s' q r' k i'
theorem stx_if {t : Expr} {body orelse : List Stmt} {pos : Pos} {p : Bool} (ht : TR c l t p) (h₁ : p = true → STX b c l (execs body c.env) Q) (h₂ : p = false → STX b c l (execs orelse c.env) Q) : STX b c l (exec (.If t body orelse pos) c.env) Q := by
  intro av own s i R E hR hx
  refine wm_If (wm_of (ht av own s i _ _ fun s₁ k₁ => ?_))
  have st := Step.of (own := own) k₁
  have hx' : XE c s₁ E (fun o => ∃ l', Q o l') := ⟨fun C y tx e h m s' q e1 e2 e3 => hx.own C y tx e h m s' q e1 e2 (e3.step st), fun e h m s' q e1 e2 e3 => hx.ve e h m s' q e1 e2 (e3.step st)⟩
  cases p with
  | true => exact h₁ rfl av own s₁ (i.keeps k₁) R E (fun fl f l' own' s' q r k i' => hR fl f l' own' s' q r (st.trans k) i') hx'
  | false => exact h₂ rfl av own s₁ (i.keeps k₁) R E (fun fl f l' own' s' q r k i' => hR fl f l' own' s' q r (st.trans k) i') hx'
end
theorem uniq_out : ∀ {ns : List Str} {i : Nat} {x : Str}, uniqAt ns i x = true → ns[i]? = some x ∧ ∀ j, ns[j]? = some x → j = i
  | [], _, _, h => nof h
  | y :: r, 0, x, h => by
    obtain ⟨h1, h2⟩ := and2 h
    have e : y = x := eq_of_beq h1
    subst e
    refine ⟨rfl, fun j hj => ?_⟩
    cases j with
    | zero => rfl
    | succ j =>
      have hm : y ∈ r := List.mem_of_getElem? hj
      have := List.all_eq_true.mp h2 y hm
      simp at this
  | y :: r, n + 1, x, h => by
    obtain ⟨h1, h2⟩ := and2 h
    obtain ⟨e1, e2⟩ := uniq_out h2
    refine ⟨e1, fun j hj => ?_⟩
    cases j with
    | zero =>
      have e : y = x := Option.some.inj hj
      subst e
      simp at h1
    | succ j => exact congrArg (· + 1) (e2 j hj)
section
variable {X : Fx} {S : Scope} {c : Cx} {l : Loc} {ns : List Str} {ρ : Env}
theorem agr_upd {i : Nat} {x : Str} {d : D} (ag : Agr ns ρ l) (h : uniqAt ns i x = true) : Agr ns (upd ρ i d) (put l x d) := fun j e he => by
  obtain ⟨h1, h2⟩ := uniq_out h
  rcases nth_upd (i := i) he with ⟨rfl, rfl⟩ | ⟨hj, he⟩
  · exact ⟨x, h1, by rw [get_put, if_pos rfl]⟩
  · obtain ⟨y, n1, g⟩ := ag j e he
    refine ⟨y, n1, ?_⟩
    rw [get_put, if_neg (fun (z : y = x) => hj (h2 j (z ▸ n1)))]; exact g
theorem slot_of (cf : CF S c) {x : Str} (h : (isK S x .local || isK S x .cell) = true) : Slot c x := by
  rcases Bool.or_eq_true_iff.mp h with h | h
  · exact .loc cf.loc (by rw [Env.kindOf, cf.sc]; exact isK_out h)
  · obtain ⟨a, ha⟩ := Option.isSome_iff_exists.mp (cellsFrom_some S.names (c.L + 1) [] (.inl (isK_out h)))
    exact .cell (a := a) (by rw [Env.kindOf, cf.sc]; exact isK_out h) (by rw [cf.cells]; exact ha)
noncomputable def uniqL (ns : List Str) : List Nat → List Str → Prop
  | [], [] => True
  | i :: is, x :: xs => uniqAt ns i x = true ∧ uniqL ns is xs
  | _, _ => False
theorem names_out (cf : CF S c) : ∀ {is : List Nat} {es : List Expr}, namesAt S ns is es = true → ∃ xs : List (Str × Pos), es = xs.map (fun x => .Name x.1 x.2) ∧ (∀ x ∈ xs, Slot c x.1) ∧ xs.length = is.length ∧
    uniqL ns is (xs.map (·.1))
  | [], [], _ => ⟨[], rfl, (fun _ h => nomatch h), rfl, trivial⟩
  | [], _ :: _, h => nof h
  | _ :: _, [], h => nof h
  | i :: is, e :: es, h => by
    cases e with
    | Name x p =>
      obtain ⟨h1, h2, h3⟩ := and3 h
      obtain ⟨xs, rfl, k1, k2, k3⟩ := names_out cf h3
      refine ⟨(x, p) :: xs, rfl, fun y hy => ?_, congrArg (· + 1) k2, h1, k3⟩
      rcases List.mem_cons.mp hy with rfl | hy
      · exact slot_of cf h2
      · exact k1 y hy
    | _ => exact nof h
theorem agr_all : ∀ {is : List Nat} {xs : List Str} {ρ : Env} {l : Loc} {ds : List D}, uniqL ns is xs → Agr ns ρ l → Agr ns (updAll ρ is ds) (putAll l xs ds)
  | [], [], ρ, l, ds, _, ag => by cases ds <;> exact ag
  | [], _ :: _, _, _, _, h, _ => h.elim
  | _ :: _, [], _, _, _, h, _ => h.elim
  | i :: is, x :: xs, ρ, l, [], _, ag => ag
  | i :: is, x :: xs, ρ, l, d :: ds, h, ag => agr_all (is := is) (xs := xs) (ds := ds) h.2 (agr_upd ag h.1)
theorem tgt_out (cf : CF S c) {is : List Nat} {t : Expr} {d : D} {K : Env → Prop} (ag : Agr ns ρ l) (h : tgtAt S ns is t = true) (hk : asgE is ρ d K) : ∃ l' ρ', ASG c t l d l' ∧ Agr ns ρ' l' ∧ K ρ' := by
  cases t with
  | Name x p =>
    cases is with
    | nil => exact nof h
    | cons i is =>
      cases is with
      | cons _ _ => exact nof h
      | nil =>
        obtain ⟨h1, h2⟩ := and2 h
        cases d with
        | tup _ => exact hk.elim
        | _ => exact ⟨_, _, asg_name (slot_of cf h2) (fun _ q => nomatch q) rfl, agr_upd ag h1, hk⟩
  | Tuple ts k p =>
    obtain ⟨h1, h2⟩ := and2 h
    obtain ⟨xs, rfl, k1, k2, k3⟩ := names_out cf h2
    have main : ∀ ds, d = .tup ds → (is.length = ds.length ∧ K (updAll ρ is ds)) → ∃ l' ρ', ASG c (.Tuple (xs.map fun x => .Name x.1 x.2) k p) l d l' ∧ Agr ns ρ' l' ∧ K ρ' := fun ds e q => by
      subst e
      exact ⟨_, _, asg_tup rfl k1 (k2.trans q.1) rfl, agr_all k3 ag, q.2⟩
    cases is with
    | nil =>
      cases d with
      | tup ds => exact main ds rfl hk
      | _ => exact hk.elim
    | cons i is =>
      cases is with
      | nil => exact nof h1
      | cons _ _ =>
        cases d with
        | tup ds => exact main ds rfl hk
        | _ => exact hk.elim
  | _ => exact nof h
end
end Mine
end
section
open PySem PySem.W PySem.Spec PySem.Calls PyProof.Rows
set_option Elab.async false
set_option linter.unusedVariables false
set_option maxRecDepth 100000
namespace Mine
noncomputable def Lift (ns : List Str) (Q : PQ) : Ov → Loc → Prop := fun o l' => ∃ ρ', Agr ns ρ' l' ∧ Q o ρ'
theorem swap_env {ts : List Expr} {v : Expr} {env env' : PySem.Env} (h : env.scope = env'.scope) : swappedStores ts v env = swappedStores ts v env' := by
  obtain ⟨⟩ := env
  obtain ⟨⟩ := env'
  cases h
  rfl
theorem swap_out {ts vs : List Expr} {S : Scope} {env : PySem.Env} {k k' : Nat} {p p' : Pos} (sc : env.scope = S) (h : swapOk ts vs S = true) : swappedStores [.Tuple ts k p] (.Tuple vs k' p') env = pure (some (nmsOf ts)) := by
  rw [swap_env (env' := envS S) sc]
  unfold swapOk at h
  have e : swappedStores [.Tuple ts k p] (.Tuple vs k' p') (envS S) = swappedStores [.Tuple ts 0 ⟨0, 0, 0, 0⟩] (.Tuple vs 0 ⟨0, 0, 0, 0⟩) (envS S) := rfl
  rw [e]
  generalize swappedStores [.Tuple ts 0 ⟨0, 0, 0, 0⟩] (.Tuple vs 0 ⟨0, 0, 0, 0⟩) (envS S) = m at h ⊢
  cases m with
  | pure o =>
    cases o with
    | none => exact nof h
    | some l => rw [show l = nmsOf ts from eq_of_beq h]; rfl
  | _ => exact nof h
theorem setc_swaps {elt : Expr} {gs : List Comprehension} {sc S : Scope} {p q : Pos} {y : Str} {n : Nat} {env : PySem.Env} (e : env.scope = S) (h1 : isK S y .local = true) (h2 : (S.kind == .function) = true) (h3 : (q.line == p.line) = true)
    (h4 : (!(sc.names.any fun (n, k) => n == y && (k == .local || k == .cell))) = true) : swapsWith (.ListComp elt gs sc p) (some (.Name y q)) n env = pure true := by
  have eK : env.blockKind = .function := by unfold Env.blockKind; rw [e, eq_of_beq h2]; rfl
  have e1 : env.kindOf y = some .local := by rw [Env.kindOf, e]; exact isK_out h1
  show (pure (env.blockKind == .function && env.kindOf y == some .local && q.line == p.line && !(sc.names.any fun (n, k) => n == y && (k == .local || k == .cell))) : Sem Bool) = _
  rw [h4, h3, eK, e1]; rfl
section
variable {X : Fx} {S : Scope} {ns : List Str} {b : Bool} {c : Cx} {l : Loc}
theorem stx_freeze {t : Sem Flow} {x : Str} {its : List D} {Q : Ov → Loc → Prop} (hx : get l x = some (.mls its)) (h : STX b c (put l x (.lst its)) t Q) : STX b c l t Q := by
  intro av own s i R E hR hX
  obtain ⟨own', sub, i'⟩ := i.freeze hx
  exact h av own' s i' R E (fun fl f l'' own'' s'' q r st i'' => hR fl f l'' own'' s'' q r ⟨st.same, fun b o hb e => st.kept b o (fun z => hb (sub b z)) e, fun a ha => (st.new a ha).imp (sub a) id⟩ i'') hX
theorem loop_of {is : List Nat} {t : Expr} {bs os : List Stmt} {B O : Env → PQ → Prop} {Q : PQ} (cf : CF S c) (ht : tgtAt S ns is t = true)
    (hB : ∀ {ρ l Q}, Agr ns ρ l → B ρ Q → STX false c l (execs bs c.env) (Lift ns Q)) (hO : ∀ {ρ l Q}, Agr ns ρ l → O ρ Q → STX false c l (execs os c.env) (Lift ns Q)) :
    ∀ {items : List D} {ρ : Env} {l : Loc}, Agr ns ρ l → wpFor is B O Q items ρ → LOOP c t bs os (fun fl l' => Lift ns Q (ovf fl) l') items l
  | [], ρ, l, ag, h => by
    have := stx_to (hO ag (show O ρ (noX Q) from h)) (fun _ _ _ q => q.elim fun _ z => z.2) (fun _ q => q.elim fun _ z => z.2)
    exact st_mono this fun fl l' q => by cases fl <;> exact q
  | d :: ds, ρ, l, ag, h => by
    obtain ⟨l', ρ', ha, ag', hb⟩ := tgt_out cf ag ht (show asgE is ρ d _ from h)
    refine ⟨l', ha, ?_⟩
    have := stx_to (hB ag' hb) (fun _ _ _ q => q.elim fun _ z => z.2) (fun _ q => q.elim fun _ z => z.2)
    refine st_mono this fun fl l'' q => ?_
    obtain ⟨ρ'', ag'', q⟩ := q
    cases fl with
    | next => exact loop_of cf ht hB hO ag'' q
    | cont => exact loop_of cf ht hB hO ag'' q
    | brk => exact ⟨ρ'', ag'', q⟩
    | ret v => exact ⟨ρ'', ag'', q⟩
theorem while_of {t : Expr} {bs os : List Stmt} {T : Env → (D → Prop) → Prop} {B O : Env → PQ → Prop} {Q : PQ}
    (hT : ∀ {ρ l K}, Agr ns ρ l → T ρ K → ∃ b, TR c l t b ∧ K (.bool b))
    (hB : ∀ {ρ l Q}, Agr ns ρ l → B ρ Q → STX false c l (execs bs c.env) (Lift ns Q)) (hO : ∀ {ρ l Q}, Agr ns ρ l → O ρ Q → STX false c l (execs os c.env) (Lift ns Q)) :
    ∀ {n : Nat} {ρ : Env} {l : Loc}, Agr ns ρ l → wpWh T B O Q n ρ → WB c t bs os (fun fl l' => Lift ns Q (ovf fl) l') n l
  | 0, ρ, l, ag, h => by
    obtain ⟨p, e, k1, k2⟩ := hT ag (show T ρ _ from h)
    cases p with
    | true => exact (k1 rfl).elim
    | false =>
      refine ⟨false, e, rfl, st_mono (stx_to (hO ag (k2 rfl)) (fun _ _ _ q => q.elim fun _ z => z.2) (fun _ q => q.elim fun _ z => z.2)) fun fl l' q => by cases fl <;> exact q⟩
  | n + 1, ρ, l, ag, h => by
    obtain ⟨p, e, k1, k2⟩ := hT ag (show T ρ _ from h)
    refine ⟨p, e, fun z => ?_, fun z => ?_⟩
    · exact st_mono (stx_to (hO ag (k2 z)) (fun _ _ _ q => q.elim fun _ z => z.2) (fun _ q => q.elim fun _ z => z.2)) fun fl l' q => by cases fl <;> exact q
    · refine st_mono (stx_to (hB ag (k1 z)) (fun _ _ _ q => q.elim fun _ z => z.2) (fun _ q => q.elim fun _ z => z.2)) fun fl l'' q => ?_
      obtain ⟨ρ'', ag'', q⟩ := q
      cases fl with
      | next => exact while_of hT hB hO ag'' q
      | cont => exact while_of hT hB hO ag'' q
      | brk => exact ⟨ρ'', ag'', q⟩
      | ret v => exact ⟨ρ'', ag'', q⟩
end
end Mine
end
section
open PySem PySem.W PySem.Spec PySem.Calls PyProof.Rows
set_option Elab.async false
set_option linter.unusedVariables false
set_option maxRecDepth 100000
namespace Mine
section
variable {X : Fx} {S : Scope} {ns : List Str} {c : Cx} {l : Loc} {ρ : Env}
theorem kind_cf (cf : CF S c) {x : Str} {k : NameKind} (h : isK S x k = true) : c.env.kindOf x = some k := by rw [Env.kindOf, cf.sc]; exact isK_out h
theorem get_ag {i : Nat} {x : Str} {d : D} (ag : Agr ns ρ l) (h : uniqAt ns i x = true) (e : nth ρ i = some d) : get l x = some d := by
  obtain ⟨y, n1, g⟩ := ag i d e
  rw [(uniq_out h).1] at n1; cases n1
  exact g
theorem at_out {o : Option D} {K : D → Prop} (h : at_ o K) : ∃ d, o = some d ∧ K d := by
  cases o with
  | none => exact h.elim
  | some d => exact ⟨d, rfl, h⟩
theorem mls_out {o : Option D} {K : List D → Prop} (h : mlsAt o K) : ∃ d, o = some (.mls d) ∧ K d := by
  cases o with
  | none => exact h.elim
  | some d =>
    cases d with
    | mls l => exact ⟨l, rfl, h⟩
    | _ => exact h.elim
theorem tupD_out {d : D} {K : List D → Prop} (h : tupD d K) : ∃ b, d = .tup b ∧ K b := by
  cases d with
  | tup b => exact ⟨b, rfl, h⟩
  | _ => exact h.elim
noncomputable abbrev SNS (X : Fx) (S : Scope) (ns : List Str) (r : RS) : Prop := ∀ {c : Cx} {l : Loc} {ρ : Env} {ss : List Stmt} {Q : PQ}, CE X S c → CF S c → Agr ns ρ l → chkS S ns r ss = true → wpS X r ρ Q → STX X.cl c l (execs ss c.env) (Lift ns Q)
theorem go_on {b : Bool} {st : Stmt} {ss : List Stmt} {Q : Ov → Loc → Prop} {l' : Loc} (h : ST c l (exec st c.env) (fun fl l'' => fl = .next ∧ l'' = l')) (k : STX b c l' (execs ss c.env) Q) : STX b c l (execs (st :: ss) c.env) Q :=
  stx_cons (stx_of (st_mono h fun fl l'' q => by obtain ⟨rfl, rfl⟩ := q; exact k))
theorem seq_lift {b : Bool} {r : RS} {ss : List Stmt} {Q : PQ} (H : SNS X S ns r) (hb : X.cl = b) (ce : CE X S c) (cf : CF S c) (hc : chkS S ns r ss = true) {o : Ov} {l' : Loc} (h : Lift ns (seqQ (wpS X r) Q) o l') :
    match (generalizing := false) o with | .next => STX b c l' (execs ss c.env) (Lift ns Q) | o => Lift ns Q o l' := by
  obtain ⟨ρ', ag, q⟩ := h
  cases o with
  | next => exact hb ▸ H ce cf ag hc q
  | _ => exact ⟨ρ', ag, q⟩
theorem ite_snd {t : RE} {a b rest : RS} {t' : Expr} {as bs ss : List Stmt} {pos : Pos} {Q Q' : PQ} (ok : XOk X) (Ha : SNS X S ns a) (Hb : SNS X S ns b) (ce : CE X S c) (cf : CF S c) (ag : Agr ns ρ l) (h1 : chk ns t S true t' = true) (h2 : chkS S ns a as = true) (h3 : chkS S ns b bs = true)
    (hk : ∀ o l', Lift ns Q' o l' → match o with | .next => STX X.cl c l' (execs ss c.env) (Lift ns Q) | o => Lift ns Q o l') (hw : wp X t .t ρ fun x => ifD x (wpS X a ρ Q') (wpS X b ρ Q')) : STX X.cl c l (execs (.If t' as bs pos :: ss) c.env) (Lift ns Q) := by
  obtain ⟨p, e1, k1, k2⟩ := snd ok t ce (cg_of cf) ag h1 hw
  exact stx_cons (stx_if e1 (fun z => stx_mono (Ha ce cf ag h2 (k1 z)) fun o l' q => hk o l' q) fun z => stx_mono (Hb ce cf ag h3 (k2 z)) fun o l' q => hk o l' q)
theorem for_snd {is : List Nat} {en : Bool} {src : RE} {body orelse rest : RS} {t it : Expr} {bs os ss : List Stmt} {pos : Pos} {Q : PQ} (ok : XOk X) (HB : SNS X S ns body) (HO : SNS X S ns orelse) (HR : SNS X S ns rest) (ce : CE X S c) (cf : CF S c) (ag : Agr ns ρ l)
    (h1 : tgtAt S ns is t = true) (h2 : shp it = true) (h3 : (match (generalizing := false) en with
      | false => chk ns src S true it
      | true => match (generalizing := false) t, it with
        | .Tuple _ _ _, .Call (.Name y _) [v] [] _ => ("enumerate" : Str) == y && glob S y && nst v && chk ns src S true v
        | _, _ => false) = true) (h4 : chkS S ns body bs = true) (h5 : chkS S ns orelse os = true) (h6 : chkS S ns rest ss = true) (hb : X.cl = false)
    (hw : wp X src .v ρ fun d => (match en with
      | false => fun (K : List D → Prop) => srcD d K
      | true => fun K => tupD d fun ds => K (enumFrom 0 ds)) fun items => frozB.frozBs items = true ∧ wpFor is (wpS X body) (wpS X orelse) (seqQ (wpS X rest) Q) items ρ) : STX X.cl c l (execs (.For t it bs os pos :: ss) c.env) (Lift ns Q) := by
  have H : ∀ {items : List D}, ITER c l t it items → frozB.frozBs items = true → wpFor is (wpS X body) (wpS X orelse) (seqQ (wpS X rest) Q) items ρ → STX X.cl c l (execs (.For t it bs os pos :: ss) c.env) (Lift ns Q) := fun hi hz hf => by
    refine stx_cons (stx_of (st_mono (st_for hi (frozs_of hz) (loop_of cf h1 (fun ag' h => hb ▸ HB ce cf ag' h4 h) (fun ag' h => hb ▸ HO ce cf ag' h5 h) ag hf) (shp_fold h2)) fun fl l' q => ?_))
    have := seq_lift HR rfl ce cf h6 q
    cases fl <;> exact this
  cases en with
  | false =>
    obtain ⟨d, e1, hw⟩ := snd ok src ce (cg_of cf) ag h3 hw
    obtain ⟨items, e2, hz, hf⟩ := src_out (c := c) hw
    exact H (it_ev e1 (src_w e2)) hz hf
  | true =>
    cases t with
    | Tuple ts k p =>
      cases it with
      | Call f es kw q =>
        cases f with
        | Name y r =>
          cases es with
          | nil => exact nof h3
          | cons v es =>
            cases es with
            | cons _ _ => exact nof h3
            | nil =>
              cases kw with
              | cons _ _ => exact nof h3
              | nil =>
                obtain ⟨e0, g0, n0, c0⟩ := and4 h3
                obtain ⟨d, e1, hw⟩ := snd ok src ce (cg_of cf) ag c0 hw
                obtain ⟨ds, rfl, hz, hf⟩ := tupD_out hw
                rw [← show ("enumerate" : Str) = y from eq_of_beq e0] at g0 H ⊢
                obtain ⟨g1, g2⟩ := glob_out g0
                exact H (it_enum (ev_blt (ce.gl _ g1) (ce.K ▸ ok.en) boot_enumerate (str_ne (by decide)) g2) e1 (nst_each n0)) hz hf
        | _ => exact nof h3
      | _ => exact nof h3
    | _ => exact nof h3
theorem st_setC {x : Str} {px pos : Pos} {e : Expr} {d : D} {l' : Loc} {Q : Fl → Loc → Prop} (hx : Slot c x) (h : EV c l e d) (f : Froz d) (hl : put l x d = l') (q : Q .next l')
    (hs : swapsWith e (some (.Name x px)) pos.line c.env = pure false) : ST c l (exec (.Assign [.Name x px] e pos) c.env) Q := by
  intro av own s i R E hR
  refine wpAny_Assign_Name (h av own s i _ _ fun v s₁ k₁ r₁ => storeN (i.keeps k₁) hx r₁ f fun s' k i' => ?_) hs
  exact hR .next _ _ own s' (hl ▸ q) (by simp only [RelF]) ((Step.of k₁).trans k) i'
theorem set_swaps (cf : CF S c) {x : Str} {v : Expr} {p : Pos} {n : Nat} (h : (shp v || (lcE v && isK S x .cell)) = true) : swapsWith v (some (.Name x p)) n c.env = pure false := by
  rcases Bool.or_eq_true_iff.mp h with q | q
  · exact shp_swaps q _
  · obtain ⟨q1, q2⟩ := and2 q
    cases v with
    | ListComp elt gs sc pp =>
      have e : c.env.kindOf x = some .cell := kind_cf cf q2
      show (pure (c.env.blockKind == .function && c.env.kindOf x == some .local && p.line == pp.line && !(sc.names.any fun (n, k) => n == x && (k == .local || k == .cell))) : Sem Bool) = _
      rw [e]
      show (pure (_ && false && _ && _) : Sem Bool) = _
      rw [Bool.and_false, Bool.false_and, Bool.false_and]
    | _ => exact nof q1
theorem shp_aug {i : Expr} (h : shp i = true) (ov iv new : Value) : augStore i ov iv new = (do holding [new, ov, iv] (setItem ov iv new); release [new, ov, iv] []; pure .next) := by
  cases i <;> first | rfl | exact nof h
theorem un2_ok (ok : XOk X) {i j : Nat} {e as : RE} {rest : RS} (HR : SNS X S ns rest) (ce : CE X S c) (cf : CF S c) (ag : Agr ns ρ l) {x y : Str} {p q p' q' pl pos : Pos} {k k' : Nat} {v : Expr} {es : List Expr} {ss : List Stmt} {Q : PQ}
    (hc : (storeAt S ns i x && uniqAt ns j y && isK S y .local && nst v && swapOk [.Name x p, .Name y q] [v, .List es pl] S && chk ns e S true v && chk ns as S true (.Tuple es 0 pl) && chkS S ns rest ss) = true) (hw : wpS X (.un2 i j e as rest) ρ Q) :
    STX X.cl c l (execs (.Assign [.Tuple [.Name x p, .Name y q] k p'] (.Tuple [v, .List es pl] k' q') pos :: ss) c.env) (Lift ns Q) := by
  obtain ⟨hc, h8⟩ := and2 hc
  obtain ⟨hc, h7⟩ := and2 hc
  obtain ⟨hc, h6⟩ := and2 hc
  obtain ⟨hc, h5⟩ := and2 hc
  obtain ⟨h1, h2, h3, h4⟩ := and4 hc
  obtain ⟨g1, g2⟩ := and2 h1
  obtain ⟨d, e1, hw⟩ := snd ok e ce (cg_of cf) ag h6 (show wp X e .v ρ _ from hw)
  obtain ⟨es', pp, he, hn, ds, e2, ⟨z1, z2, z3⟩, hw⟩ := snd ok as ce (cg_of cf) ag h7 hw
  cases he
  exact go_on (st_un2 (swap_out cf.sc h5) e1 (nst_each h4) e2 z2 (froz_of z1) (frozs_of z3) cf.loc (kind_cf cf h3) (slot_of cf g2) rfl ⟨rfl, rfl⟩ (fun _ => rfl)) (HR ce cf (agr_upd (agr_upd ag h2) g1) h8 hw)
theorem un3_ok (ok : XOk X) {i j k : Nat} {as e₁ e₂ : RE} {rest : RS} (HR : SNS X S ns rest) (ce : CE X S c) (cf : CF S c) (ag : Agr ns ρ l) {x y z : Str} {p q r p' q' pl pos : Pos} {n n' : Nat} {v₁ v₂ : Expr} {es : List Expr} {ss : List Stmt} {Q : PQ}
    (hc : (uniqAt ns i x && isK S x .local && uniqAt ns j y && isK S y .local && uniqAt ns k z && isK S z .local && nst v₁ && nst v₂ && swapOk [.Name x p, .Name y q, .Name z r] [.List es pl, v₁, v₂] S && chk ns as S true (.Tuple es 0 pl) && chk ns e₁ S true v₁ && chk ns e₂ S true v₂ && chkS S ns rest ss) = true) (hw : wpS X (.un3 i j k as e₁ e₂ rest) ρ Q) :
    STX X.cl c l (execs (.Assign [.Tuple [.Name x p, .Name y q, .Name z r] n p'] (.Tuple [.List es pl, v₁, v₂] n' q') pos :: ss) c.env) (Lift ns Q) := by
  obtain ⟨hc, h13⟩ := and2 hc
  obtain ⟨hc, h12⟩ := and2 hc
  obtain ⟨hc, h11⟩ := and2 hc
  obtain ⟨hc, h10⟩ := and2 hc
  obtain ⟨hc, h9⟩ := and2 hc
  obtain ⟨hc, h8⟩ := and2 hc
  obtain ⟨hc, h7⟩ := and2 hc
  obtain ⟨hc, h6⟩ := and2 hc
  obtain ⟨hc, h5⟩ := and2 hc
  obtain ⟨h1, h2, h3, h4⟩ := and4 hc
  obtain ⟨es', pp, he, hn, ds, e0, hw⟩ := snd ok as ce (cg_of cf) ag h10 (show wp X as .l ρ _ from hw)
  cases he
  obtain ⟨d₁, e1, hw⟩ := snd ok e₁ ce (cg_of cf) ag h11 hw
  obtain ⟨d₂, e2, ⟨z1, z2, z3, z4⟩, hw⟩ := snd ok e₂ ce (cg_of cf) ag h12 hw
  exact go_on (st_un3 (swap_out cf.sc h9) e1 (nst_each h7) e2 (nst_each h8) e0 z1 (froz_of z3) (froz_of z4) (frozs_of z2) cf.loc (kind_cf cf h2) (kind_cf cf h4) (kind_cf cf h6) rfl ⟨rfl, rfl⟩ (fun _ => rfl)) (HR ce cf (agr_upd (agr_upd (agr_upd ag h5) h3) h1) h13 hw)
theorem sti_ok (ok : XOk X) {i : Nat} {k e : RE} {rest : RS} (HR : SNS X S ns rest) (ce : CE X S c) (cf : CF S c) (ag : Agr ns ρ l) {x : Str} {p q pos : Pos} {k' v : Expr} {ss : List Stmt} {Q : PQ}
    (hc : (uniqAt ns i x && !(x == ("__debug__" : Str)) && shp v && chk ns e S true v && chk ns k S true k' && chkS S ns rest ss) = true) (hw : wpS X (.sti i k e rest) ρ Q) :
    STX X.cl c l (execs (.Assign [.Subscript (.Name x p) k' q] v pos :: ss) c.env) (Lift ns Q) := by
  obtain ⟨hc, h6⟩ := and2 hc
  obtain ⟨hc, h5⟩ := and2 hc
  obtain ⟨h1, h2, h3, h4⟩ := and4 hc
  obtain ⟨its, e0, hw⟩ := mls_out (show mlsAt (nth ρ i) _ from hw)
  obtain ⟨d, e1, hw⟩ := snd ok e ce (cg_of cf) ag h4 hw
  obtain ⟨y, e2, hw⟩ := snd ok k ce (cg_of cf) ag h5 hw
  obtain ⟨n, rfl, ⟨z1, z2, z3, z4⟩, hw⟩ := intD_out hw
  exact go_on (st_setitem (get_ag ag h1 e0) e1 e2 (froz_of z1) z2 z3 z4 rfl ⟨rfl, rfl⟩ (shp_swaps h3) (by simpa using h2)) (HR ce cf (agr_upd ag h1) h6 hw)
theorem aui_ok (ok : XOk X) {i : Nat} {k e : RE} {op : Operator} {rest : RS} (HR : SNS X S ns rest) (ce : CE X S c) (cf : CF S c) (ag : Agr ns ρ l) {x : Str} {p q pos : Pos} {op' : Operator} {k' v : Expr} {ss : List Stmt} {Q : PQ}
    (hc : (uniqAt ns i x && !(x == ("__debug__" : Str)) && shp k' && op == op' && chk ns e S true v && chk ns k S true k' && chkS S ns rest ss) = true) (hw : wpS X (.aui i k op e rest) ρ Q) :
    STX X.cl c l (execs (.AugAssign (.Subscript (.Name x p) k' q) op' v pos :: ss) c.env) (Lift ns Q) := by
  obtain ⟨hc, h7⟩ := and2 hc
  obtain ⟨hc, h6⟩ := and2 hc
  obtain ⟨hc, h5⟩ := and2 hc
  obtain ⟨h1, h2, h3, h4⟩ := and4 hc
  rw [← show op = op' from eq_of_beq h4]
  obtain ⟨its, e0, hw⟩ := mls_out (show mlsAt (nth ρ i) _ from hw)
  obtain ⟨y, e1, hw⟩ := snd ok k ce (cg_of cf) ag h6 hw
  obtain ⟨n, rfl, hw⟩ := intD_out hw
  obtain ⟨d₀, e2, hw⟩ := at_out hw
  obtain ⟨d₁, e3, hw⟩ := snd ok e ce (cg_of cf) ag h5 hw
  obtain ⟨d, e4, ⟨z1, z2, z3, z4⟩, hw⟩ := aug_out (c := c) hw
  exact go_on (st_augitem (get_ag ag h1 e0) e1 e3 z2 z3 z4 e2 e4 (froz_of z1) rfl ⟨rfl, rfl⟩ (shp_aug h3) (by simpa using h2)) (HR ce cf (agr_upd ag h1) h7 hw)
theorem ext_ok (ok : XOk X) {i : Nat} {as : RE} {rest : RS} (HR : SNS X S ns rest) (ce : CE X S c) (cf : CF S c) (ag : Agr ns ρ l) {x : Str} {p pe pos : Pos} {es : List Expr} {ss : List Stmt} {Q : PQ}
    (hc : (uniqAt ns i x && isK S x .local && chk ns as S true (.Tuple es 0 pe) && chkS S ns rest ss) = true) (hw : wpS X (.ext i as rest) ρ Q) :
    STX X.cl c l (execs (.AugAssign (.Name x p) .Add (.List es pe) pos :: ss) c.env) (Lift ns Q) := by
  obtain ⟨h1, h2, h3, h4⟩ := and4 hc
  obtain ⟨its, e0, hw⟩ := mls_out (show mlsAt (nth ρ i) _ from hw)
  obtain ⟨es', pp, he, hn, ds, e1, ⟨z1, z2, z3⟩, hw⟩ := snd ok as ce (cg_of cf) ag h3 hw
  cases he
  exact go_on (st_extend cf.loc (kind_cf cf h2) (get_ag ag h1 e0) e1 z1 z2 (frozs_of z3) rfl ⟨rfl, rfl⟩) (HR ce cf (agr_upd ag h1) h4 hw)
structure Rz (X : Fx) (S : Scope) (ns : List Str) : Prop where
  rse : ∀ {c : Cx} {l : Loc} {ρ : Env} {ss : List Stmt} {Q : PQ} (x : Str) (C : Addr) (e : RE), CE X S c → CF S c → Agr ns ρ l → chkS S ns (.rse x C e) ss = true → wpS X (.rse x C e) ρ Q → STX X.cl c l (execs ss c.env) (Lift ns Q)
  seti : ∀ {c : Cx} {l : Loc} {ρ : Env} {ss : List Stmt} {Q : PQ} (i : Nat) (e : RE) (rest : RS), SNS X S ns rest → CE X S c → CF S c → Agr ns ρ l → chkS S ns (.seti i e rest) ss = true → wpS X (.seti i e rest) ρ Q → STX X.cl c l (execs ss c.env) (Lift ns Q)
set_option maxHeartbeats 4000000 in
theorem sndS (ok : XOk X) (rz : Rz X S ns) : ∀ (r : RS), SNS X S ns r
  | .done, c, l, ρ, ss, Q, ce, cf, ag, hc, hw => by
    cases ss with
    | nil => exact stx_of (st_nil ⟨ρ, ag, hw⟩)
    | cons _ _ => exact nof hc
  | .set i e rest, c, l, ρ, ss, Q, ce, cf, ag, hc, hw => by
    refine sAs_el hc fun t v pos ss hc => ?_
    refine eNm_el hc fun x p hc => ?_
    obtain ⟨h1, h2, h3, h4⟩ := and4 hc
    obtain ⟨h5, h6⟩ := and2 h1
    obtain ⟨d, e1, hz, hw⟩ := snd ok e ce (cg_of cf) ag h3 (show wp X e .v ρ _ from hw)
    exact go_on (st_setC (slot_of cf h6) e1 (froz_of hz) rfl ⟨rfl, rfl⟩ (set_swaps cf h2)) (sndS ok rz rest ce cf (agr_upd ag h5) h4 hw)
  | .setc i elt j it test ft cs rest, c, l, ρ, ss, Q, ce, cf, ag, hc, hw => by
    refine sAs_el hc fun t v pos ss hc => ?_
    refine eNm_el hc fun y q hc => ?_
    refine eLC_el hc fun elt' gs sc p hc => ?_
    refine l1_el hc fun g hc => ?_
    refine gCo_el hc fun x q' it' ifs hc => ?_
    obtain ⟨hc, g7⟩ := and2 hc
    obtain ⟨hc, g6⟩ := and2 hc
    obtain ⟨hc, g5⟩ := and2 hc
    obtain ⟨hc, g4⟩ := and2 hc
    obtain ⟨hc, g2, g3⟩ := and3 hc
    obtain ⟨hc, h8⟩ := and2 hc
    obtain ⟨hc, h7⟩ := and2 hc
    obtain ⟨hc, h6⟩ := and2 hc
    obtain ⟨hc, h5⟩ := and2 hc
    obtain ⟨h2, h3, h4⟩ := and3 hc
    obtain ⟨cl, b, lc, items, pp, f, k1, k2, k3, k4, k5, k6, k7, k8, k9, kz, kk⟩ := comp_snd (K := fun d => frozB d = true ∧ wpS X rest (upd ρ i d) Q) (fun {c S top l ρ m e K} => snd ok elt (c := c) (S := S) (top := top) (l := l) (ρ := ρ) (m := m) (e := e) (K := K)) (snd ok it) (snd ok test) ce (cg_of cf) ag h2 h3 h4 h5 h6 h7 h8 hw
    exact go_on (st_compG pp f (setc_swaps cf.sc g3 g4 g5 g6) cf.loc (kind_cf cf g3) k1 k2 k3 k4 k5 k6 k7 k8 k9 rfl ⟨rfl, rfl⟩ (shp_fold h2)) (sndS ok rz rest ce cf (agr_upd ag g2) g7 kk)
  | .new i as rest, c, l, ρ, ss, Q, ce, cf, ag, hc, hw => by
    refine sAs_el hc fun t v pos ss hc => ?_
    refine eNm_el hc fun x p hc => ?_
    refine eLi_el hc fun es q hc => ?_
    obtain ⟨h1, h2, h3, h4⟩ := and4 hc
    obtain ⟨es', p', he, hn, ds, e1, ⟨z1, z2⟩, hw⟩ := snd ok as ce (cg_of cf) ag h3 (show wp X as .l ρ _ from hw)
    cases he
    exact go_on (st_newlist cf.loc (kind_cf cf h2) e1 z1 (frozs_of z2) rfl ⟨rfl, rfl⟩) (sndS ok rz rest ce cf (agr_upd ag h1) h4 hw)
  | .aug i op e rest, c, l, ρ, ss, Q, ce, cf, ag, hc, hw => by
    refine sAu_el hc fun t op' v pos ss hc => ?_
    refine eNm_el hc fun x p hc => ?_
    obtain ⟨h1, h2, h3, h4⟩ := and4 hc
    obtain ⟨h5, h6⟩ := and2 h1
    rw [← show op = op' from eq_of_beq h2]
    obtain ⟨d₀, e0, hw⟩ := at_out (show at_ (nth ρ i) _ from hw)
    obtain ⟨d₁, e1, hw⟩ := snd ok e ce (cg_of cf) ag h3 hw
    obtain ⟨d, e2, hz, hw⟩ := aug_out (c := c) hw
    exact go_on (st_augS (slot_of cf h6) (get_ag ag h5 e0) e1 e2 (froz_of hz) rfl ⟨rfl, rfl⟩) (sndS ok rz rest ce cf (agr_upd ag h5) h4 hw)
  | .app i e rest, c, l, ρ, ss, Q, ce, cf, ag, hc, hw => by
    refine sEx_el hc fun v pos ss hc => ?_
    refine eCl_el hc fun f es kw p hc => ?_
    refine eAt_el hc fun o n apos hc => ?_
    refine eNm_el hc fun x q hc => ?_
    refine l1_el hc fun v hc => ?_
    refine l0_el hc fun hc => ?_
    obtain ⟨hc, h7⟩ := and2 hc
    obtain ⟨hc, h6⟩ := and2 hc
    obtain ⟨hc, h5⟩ := and2 hc
    obtain ⟨h1, h2, h3, h4⟩ := and4 hc
    rw [show n = ("append" : Str) from eq_of_beq h3]
    obtain ⟨its, e0, hw⟩ := mls_out (show mlsAt (nth ρ i) _ from hw)
    obtain ⟨d, e1, ⟨z1, z2⟩, hw⟩ := snd ok e ce (cg_of cf) ag h6 hw
    exact go_on (st_append (get_ag ag h1 e0) e1 (froz_of z1) z2 rfl ⟨rfl, rfl⟩ (call_shape (by exact h5) (fun y hy => by rw [List.mem_singleton.mp hy]; exact h4)) (nst_each h4) (by simpa using h2)) (sndS ok rz rest ce cf (agr_upd ag h1) h7 hw)
  | .ite t a b rest, c, l, ρ, ss, Q, ce, cf, ag, hc, hw => by
    refine sIf_el hc fun t' as bs pos ss hc => ?_
    obtain ⟨h1, h2, h3, h4⟩ := and4 hc
    exact ite_snd (rest := rest) ok (sndS ok rz a) (sndS ok rz b) ce cf ag h1 h2 h3 (fun o l' q => seq_lift (sndS ok rz rest) rfl ce cf h4 q) hw
  | .itj t a b rest, c, l, ρ, ss, Q, ce, cf, ag, hc, hw => by
    refine sIf_el hc fun t' as bs pos ss hc => ?_
    obtain ⟨h1, h2, h3, h4⟩ := and4 hc
    obtain ⟨p, e1, ρ₁, k1, k2, k3⟩ := snd ok t ce (cg_of cf) ag h1 (show wp X t .t ρ _ from hw)
    have hk : ∀ o l', Lift ns (joinQ ρ₁ Q) o l' → match o with | .next => STX X.cl c l' (execs ss c.env) (Lift ns Q) | o => Lift ns Q o l' := fun o l' q => by
      obtain ⟨ρ', ag', q⟩ := q
      cases o with
      | next => exact sndS ok rz rest ce cf (show Agr ns ρ₁ l' from (show ρ' = ρ₁ from q) ▸ ag') h4 k3
      | _ => exact ⟨ρ', ag', q⟩
    exact stx_cons (stx_if e1 (fun z => stx_mono (sndS ok rz a ce cf ag h2 (k1 z)) hk) fun z => stx_mono (sndS ok rz b ce cf ag h3 (k2 z)) hk)
  | .for_ is en src body orelse rest, c, l, ρ, ss, Q, ce, cf, ag, hc, hw => by
    cases ss with
    | nil => exact nof hc
    | cons st ss =>
      cases st with
      | For t it bs os pos =>
        obtain ⟨hc, h6⟩ := and2 hc
        obtain ⟨hc, h5⟩ := and2 hc
        obtain ⟨h1, h2, h3, h4⟩ := and4 hc
        exact for_snd ok (sndS ok rz body) (sndS ok rz orelse) (sndS ok rz rest) ce cf ag h1 h2 h3 h4 h5 h6 hw.1 hw.2
      | _ => exact nof hc
  | .while_ t body orelse rest, c, l, ρ, ss, Q, ce, cf, ag, hc, hw => by
    cases ss with
    | nil => exact nof hc
    | cons st ss =>
      cases st with
      | While t' bs os pos =>
        obtain ⟨h1, h2, h3, h4⟩ := and4 hc
        obtain ⟨hb, n, hw⟩ := hw
        refine stx_cons (stx_of (st_mono (st_whileB n (while_of (fun {ρ l K} ag' h => (show Out c l t' K .t from snd ok t ce (cg_of cf) ag' h1 h)) (fun ag' h => hb ▸ sndS ok rz body ce cf ag' h2 h) (fun ag' h => hb ▸ sndS ok rz orelse ce cf ag' h3 h) ag hw)) fun fl l' q => ?_))
        have := seq_lift (sndS ok rz rest) rfl ce cf h4 q
        cases fl <;> exact this
      | _ => exact nof hc
  | .ret e, c, l, ρ, ss, Q, ce, cf, ag, hc, hw => by
    cases ss with
    | nil => exact nof hc
    | cons st ss =>
      cases st with
      | Return v pos =>
        cases v with
        | none => exact nof hc
        | some v =>
          obtain ⟨d, e1, hz, hw⟩ := snd ok e ce (cg_of cf) ag hc (show wp X e .v ρ _ from hw)
          exact stx_cons (stx_of (st_ret e1 (froz_of hz) ⟨ρ, ag, hw⟩))
      | _ => exact nof hc
  | .brk, c, l, ρ, ss, Q, ce, cf, ag, hc, hw => by
    cases ss with
    | nil => exact nof hc
    | cons st ss =>
      cases st with
      | Break pos => exact stx_cons (stx_of (st_break ⟨ρ, ag, hw⟩))
      | _ => exact nof hc
  | .asrt t rest, c, l, ρ, ss, Q, ce, cf, ag, hc, hw => by
    cases ss with
    | nil => exact nof hc
    | cons st ss =>
      cases st with
      | Assert t' m pos =>
        obtain ⟨h1, h2⟩ := and2 hc
        obtain ⟨p, e1, hp, hw⟩ := snd ok t ce (cg_of cf) ag h1 (show wp X t .t ρ _ from hw)
        exact go_on (st_assertB e1 hp ⟨rfl, rfl⟩) (sndS ok rz rest ce cf ag h2 hw)
      | _ => exact nof hc
  | .frz i rest, c, l, ρ, ss, Q, ce, cf, ag, hc, hw => by
    obtain ⟨hu, hc⟩ := and2 hc
    obtain ⟨its, e0, hw⟩ := mls_out (show mlsAt (nth ρ i) _ from hw)
    obtain ⟨x, hx, _⟩ := ag i _ e0
    have hu' : uniqAt ns i x = true := by rw [hx] at hu; exact hu
    exact stx_freeze (get_ag ag hu' e0) (sndS ok rz rest ce cf (agr_upd ag hu') hc hw)
  | .un2 i j e as rest, c, l, ρ, ss, Q, ce, cf, ag, hc, hw => by
    refine sAs_el hc fun t u pos ss hc => ?_
    refine eTu_el hc fun ts k p' hc => ?_
    refine l2_el hc fun t1 t2 hc => ?_
    refine eNm_el hc fun x p hc => ?_
    refine eNm_el hc fun y q hc => ?_
    refine eTu_el hc fun vs k' q' hc => ?_
    refine l2_el hc fun v w hc => ?_
    refine eLi_el hc fun es pl hc => ?_
    exact un2_ok ok (sndS ok rz rest) ce cf ag hc hw
  | .un3 i j k as e₁ e₂ rest, c, l, ρ, ss, Q, ce, cf, ag, hc, hw => by
    refine sAs_el hc fun t u pos ss hc => ?_
    refine eTu_el hc fun ts n p' hc => ?_
    refine l3_el hc fun t1 t2 t3 hc => ?_
    refine eNm_el hc fun x p hc => ?_
    refine eNm_el hc fun y q hc => ?_
    refine eNm_el hc fun z r hc => ?_
    refine eTu_el hc fun vs n' q' hc => ?_
    refine l3_el hc fun w v₁ v₂ hc => ?_
    refine eLi_el hc fun es pl hc => ?_
    exact un3_ok ok (sndS ok rz rest) ce cf ag hc hw
  | .sti i k e rest, c, l, ρ, ss, Q, ce, cf, ag, hc, hw => by
    refine sAs_el hc fun t v pos ss hc => ?_
    refine eSb_el hc fun o k' q hc => ?_
    refine eNm_el hc fun x p hc => ?_
    exact sti_ok ok (sndS ok rz rest) ce cf ag hc hw
  | .aui i k op e rest, c, l, ρ, ss, Q, ce, cf, ag, hc, hw => by
    refine sAu_el hc fun t op' v pos ss hc => ?_
    refine eSb_el hc fun o k' q hc => ?_
    refine eNm_el hc fun x p hc => ?_
    exact aui_ok ok (sndS ok rz rest) ce cf ag hc hw
  | .ext i as rest, c, l, ρ, ss, Q, ce, cf, ag, hc, hw => by
    refine sAu_el hc fun t op v pos ss hc => ?_
    refine eNm_el hc fun x p hc => ?_
    refine eLi_el hc fun es pe hc => ?_
    obtain ⟨h0, hc⟩ := and2 hc
    rw [← show Operator.Add = op from eq_of_beq h0]
    exact ext_ok ok (sndS ok rz rest) ce cf ag hc hw
  | .rse x C e, c, l, ρ, ss, Q, ce, cf, ag, hc, hw => rz.rse x C e ce cf ag hc hw
  | .fls, c, l, ρ, ss, Q, ce, cf, ag, hc, hw => hw.elim
  | .seti i e rest, c, l, ρ, ss, Q, ce, cf, ag, hc, hw => rz.seti i e rest (sndS ok rz rest) ce cf ag hc hw
end
end Mine
end
section
open PySem PySem.W PySem.Spec PySem.Calls PyProof.Rows
set_option Elab.async false
set_option linter.unusedVariables false
set_option maxRecDepth 100000
namespace Mine
noncomputable def nones : Nat → Env
  | 0 => []
  | n + 1 => none :: nones n
noncomputable def ini : List D → Nat → Env
  | [], k => nones k
  | d :: ds, k => some d :: ini ds k
noncomputable def endQ (d : D) : PQ := fun o _ => match o with
  | .ret r => r = d
  | .next => d = .none
  | _ => False
noncomputable def nodupB : List Str → Bool
  | [] => true
  | x :: xs => xs.all (fun y => !(x == y)) && nodupB xs
theorem nodup_of : ∀ {xs : List Str}, nodupB xs = true → xs.Nodup
  | [], _ => List.nodup_nil
  | x :: xs, h => List.nodup_cons.mpr ⟨fun hm => by
      have := List.all_eq_true.mp (and2 h).1 x hm
      simp at this, nodup_of (and2 h).2⟩
noncomputable def fnChk (S : Scope) (names : List Str) : Bool :=
  names.all (fun x => isK S x .local || isK S x .cell) && nodupB names && !S.isCoroutine && !S.isGenerator && S.kind == .function && nodupB ((cellsFrom 0 S.names []).map (·.1))
theorem nth_nil : ∀ {k i : Nat} {d : D}, nth (nones k) i ≠ some d
  | 0, _, _, h => by cases h
  | k + 1, 0, _, h => by cases h
  | k + 1, i + 1, _, h => nth_nil (k := k) (i := i) h
theorem agr_ini {more : List Str} {k : Nat} : ∀ {names : List Str} {args : List D}, names.length = args.length → names.Nodup → Agr (names ++ more) (ini args k) (names.zip args)
  | [], [], _, _ => fun i d h => absurd h nth_nil
  | x :: xs, d :: ds, hl, hn => fun i e h => by
    cases i with
    | zero =>
      refine ⟨x, rfl, ?_⟩
      rw [← Option.some.inj (show some d = some e from h)]
      exact if_pos rfl
    | succ i =>
      obtain ⟨y, h1, h2⟩ := agr_ini (more := more) (k := k) (Nat.succ.inj hl) (List.nodup_cons.mp hn).2 i e h
      refine ⟨y, h1, ?_⟩
      have hy : y ∈ xs := by
        have : ∀ {xs : List Str} {ds : List D}, get (xs.zip ds) y = some e → y ∈ xs := by
          intro xs
          induction xs with
          | nil => intro ds h; cases h
          | cons z zs ih =>
            intro ds h
            cases ds with
            | nil => cases h
            | cons f fs =>
              simp only [List.zip_cons_cons, get] at h
              by_cases q : y = z
              · rw [q]; exact .head _
              · rw [if_neg q] at h; exact .tail _ (ih h)
        exact this h2
      simp only [List.zip_cons_cons, get]
      rw [if_neg (fun (q : y = x) => (List.nodup_cons.mp hn).1 (q ▸ hy))]; exact h2
  | [], _ :: _, hl, _ => by cases hl
  | _ :: _, [], hl, _ => by cases hl
section
variable {X : Fx} {S : Scope} {names more : List Str} {f : Addr} {args : List D} {d : D} {name qual : Str} {params : Arguments} {body : List Stmt} {dV kV doc pm cdv ct oc : Value} {an od : Option Addr} {osl : Array (Option Value)} {r : RS} {k : Nat}
theorem fnChk_out (h : fnChk S names = true) : (∀ x ∈ names, S.names.lookup x = some .local ∨ S.names.lookup x = some .cell) ∧ names.Nodup ∧ S.isCoroutine = false ∧ S.isGenerator = false ∧ S.kind = .function ∧ ((cellsFrom 0 S.names []).map (·.1)).Nodup := by
  unfold fnChk at h
  obtain ⟨h, h6⟩ := and2 h
  obtain ⟨h, h5⟩ := and2 h
  obtain ⟨h1, h2, h3, h4⟩ := and4 h
  refine ⟨fun x hx => ?_, nodup_of h2, by simpa using h3, by simpa using h4, eq_of_beq h5, nodup_of h6⟩
  exact (Bool.or_eq_true_iff.mp (List.all_eq_true.mp h1 x hx)).imp isK_out isK_out
theorem fn_okK {kn : List Str} {kd : List D} (ok : XOk X) (rz : Rz X S (names ++ more)) (hcl : X.cl = false) (ho : X.K.lookup f = some ⟨oc, od, .func (fnOf name qual params body S dV kV doc pm an cdv ct), osl⟩) (hcd : codeIn X.K cdv qual = true)
    (hb : ∀ (s : Shared) (vs ks : List Value), s.heap.NoLimit → X.K.In s.heap → vs.length = args.length → ks.length = kd.length → BindsTo s (fnOf name qual params body S dV kV doc pm an cdv ct) ⟨vs, kn.zip ks⟩ (names.zip (vs ++ ks)))
    (hl : names.length = args.length + kd.length) (hz : frozB.frozBs args = true) (hz' : frozB.frozBs kd = true) (hck : fnChk S names = true) (hc : chkS S (names ++ more) r body = true) (h : wpS X r (ini (args ++ kd) k) (endQ d)) :
    CALLK X.prog X.w X.K X.lv f args kn kd d := by
  obtain ⟨k1, k2, k3, k4, k5, k6⟩ := fnChk_out hck
  refine call_ofK ho hcd hb k1 hl k2 (frozs_of hz) (frozs_of hz') k3 k4 k5 k6 fun c e1 e2 e3 e4 e5 e6 e7 => ?_
  have ce : CE X S c := ⟨e1, e2, e3, e4, fun x hx => by rw [Env.kindOf, e5]; exact hx⟩
  have := sndS ok rz r ce ⟨e5, e6, e7⟩ (agr_ini (more := more) (k := k) (by rw [hl, List.length_append]) k2) hc h
  rw [hcl] at this
  refine st_mono (stx_to this (fun _ _ _ q => q.elim fun _ z => z.2) (fun _ q => q.elim fun _ z => z.2)) fun fl l' q => ?_
  obtain ⟨ρ', _, q⟩ := q
  cases fl <;> exact q
theorem fn_ok (ok : XOk X) (rz : Rz X S (names ++ more)) (hcl : X.cl = false) (ho : X.K.lookup f = some ⟨oc, od, .func (fnOf name qual params body S dV kV doc pm an cdv ct), osl⟩) (hcd : codeIn X.K cdv qual = true)
    (hb : ∀ (s : Shared) (vs : List Value), s.heap.NoLimit → X.K.In s.heap → vs.length = args.length → BindsTo s (fnOf name qual params body S dV kV doc pm an cdv ct) ⟨vs, []⟩ (names.zip vs))
    (hl : names.length = args.length) (hz : frozB.frozBs args = true) (hck : fnChk S names = true) (hc : chkS S (names ++ more) r body = true) (h : wpS X r (ini args k) (endQ d)) :
    CALL X.prog X.w X.K X.lv f args d := by
  refine call_K0 (fn_okK (kn := []) (kd := []) ok rz hcl ho hcd (fun s vs ks n x h1 h2 => ?_) hl hz rfl hck hc ((List.append_nil args).symm ▸ h))
  have : ks = [] := List.length_eq_zero_iff.mp h2
  subst this
  rw [List.append_nil]; exact hb s vs n x h1
noncomputable def isFn (K : Frag) (a : Addr) : Bool := match K.lookup a with
  | some o => (match o.data with | .func _ => true | _ => false)
  | .none => false
theorem isFn_out {K : Frag} {a : Addr} (h : isFn K a = true) : ∃ o fd, K.lookup a = some o ∧ o.data = .func fd := by
  unfold isFn at h
  split at h
  · next o e =>
    split at h
    · next fd e2 => exact ⟨o, fd, e, e2⟩
    · cases h
  · cases h
noncomputable def objO (K : Frag) (f : Addr) : Obj := (K.lookup f).getD default
noncomputable def fdO (o : Obj) : FuncData := match o.data with
  | .func fd => fd
  | _ => default
noncomputable def bodyO (o : Obj) : List Stmt := match (fdO o).body with
  | .stmts b => b
  | _ => []
noncomputable def fnO (o : Obj) : FuncData := fnOf (fdO o).name (fdO o).qualname (fdO o).params (bodyO o) (fdO o).scope (fdO o).defaults (fdO o).kwdefaults (fdO o).doc (fdO o).pyModule (fdO o).annotations (fdO o).code (fdO o).closureTuple
noncomputable def fnAt (K : Frag) (f : Addr) : Option Obj := some ⟨(objO K f).cls, (objO K f).dict, .func (fnO (objO K f)), (objO K f).slots⟩
theorem fn_at {prog : Program} {w : World} {K : Frag} {lv lv' : Nat} {x : Str} {ds : List D} {cl : Bool} (C : CALL prog w K lv' f ds d) (hg : nsIn K mainGlobals x = some (some (.ref f))) (ho : isFn K f = true) (hl : lv' + 1 ≤ lv) : FN ⟨prog, w, K, lv, cl⟩ x ds d := let ⟨o, fd, h1, h2⟩ := isFn_out ho; ⟨f, o, fd, lv', hg, h1, h2, C, hl⟩
theorem fnk_at {prog : Program} {w : World} {K : Frag} {lv lv' : Nat} {x kn : Str} {ds : List D} {e : D} {cl : Bool} (C : CALLK prog w K lv' f ds [kn] [e] d) (hg : nsIn K mainGlobals x = some (some (.ref f))) (ho : isFn K f = true) (hl : lv' + 1 ≤ lv) : FNK ⟨prog, w, K, lv, cl⟩ x ds kn e d := let ⟨o, fd, h1, h2⟩ := isFn_out ho; ⟨f, o, fd, lv', hg, h1, h2, C, hl⟩
theorem hb1 {s : Shared} {fd : FuncData} {names : List Str} (h : ∀ a, BindsTo s fd ⟨[a], []⟩ (names.zip [a])) : ∀ vs : List Value, vs.length = 1 → BindsTo s fd ⟨vs, []⟩ (names.zip vs)
  | [a], _ => h a
theorem hb2 {s : Shared} {fd : FuncData} {names : List Str} (h : ∀ a b, BindsTo s fd ⟨[a, b], []⟩ (names.zip [a, b])) : ∀ vs : List Value, vs.length = 2 → BindsTo s fd ⟨vs, []⟩ (names.zip vs)
  | [a, b], _ => h a b
theorem hb11 {s : Shared} {fd : FuncData} {names kn : List Str} (h : ∀ a b, BindsTo s fd ⟨[a], kn.zip [b]⟩ (names.zip ([a] ++ [b]))) : ∀ vs ks : List Value, vs.length = 1 → ks.length = 1 → BindsTo s fd ⟨vs, kn.zip ks⟩ (names.zip (vs ++ ks))
  | [a], [b], _, _ => h a b
theorem hb20 {s : Shared} {fd : FuncData} {names kn : List Str} (h : ∀ a b, BindsTo s fd ⟨[a, b], kn.zip []⟩ (names.zip ([a, b] ++ []))) : ∀ vs ks : List Value, vs.length = 2 → ks.length = 0 → BindsTo s fd ⟨vs, kn.zip ks⟩ (names.zip (vs ++ ks))
  | [a, b], [], _, _ => h a b
theorem hb1E {s : Shared} {fd : FuncData} {names : List Str} (h : ∀ a, bindArgs fd ⟨[a], []⟩ = pure (names.zip [a])) : ∀ vs : List Value, vs.length = 1 → BindsTo s fd ⟨vs, []⟩ (names.zip vs) := hb1 fun a => .of_eq (h a)
theorem hb2E {s : Shared} {fd : FuncData} {names : List Str} (h : ∀ a b, bindArgs fd ⟨[a, b], []⟩ = pure (names.zip [a, b])) : ∀ vs : List Value, vs.length = 2 → BindsTo s fd ⟨vs, []⟩ (names.zip vs) := hb2 fun a b => .of_eq (h a b)
theorem hb11E {s : Shared} {fd : FuncData} {names kn : List Str} (h : ∀ a b, bindArgs fd ⟨[a], kn.zip [b]⟩ = pure (names.zip ([a] ++ [b]))) : ∀ vs ks : List Value, vs.length = 1 → ks.length = 1 → BindsTo s fd ⟨vs, kn.zip ks⟩ (names.zip (vs ++ ks)) := hb11 fun a b => .of_eq (h a b)
theorem fn_byK {prog : Program} {w : World} {K : Frag} {lv : Nat} {kn : List Str} {kd : List D} (ok : XOk ⟨prog, w, K, lv, false⟩) (rz : Rz ⟨prog, w, K, lv, false⟩ S (names ++ more)) (ho : K.lookup f = some ⟨oc, od, .func (fnOf name qual params body S dV kV doc pm an cdv ct), osl⟩) (hcd : codeIn K cdv qual = true)
    (hb : ∀ (s : Shared) (vs ks : List Value), s.heap.NoLimit → K.In s.heap → vs.length = args.length → ks.length = kd.length → BindsTo s (fnOf name qual params body S dV kV doc pm an cdv ct) ⟨vs, kn.zip ks⟩ (names.zip (vs ++ ks)))
    (hl : names.length = args.length + kd.length) (hz : frozB.frozBs args = true) (hz' : frozB.frozBs kd = true) (hck : fnChk S names = true) (hc : chkS S (names ++ more) r body = true) (h : wpS ⟨prog, w, K, lv, false⟩ r (ini (args ++ kd) k) (endQ d)) :
    CALLK prog w K lv f args kn kd d := fn_okK ok rz rfl ho hcd hb hl hz hz' hck hc h
theorem fn_byO {prog : Program} {w : World} {K : Frag} {lv : Nat} (ok : XOk ⟨prog, w, K, lv, false⟩) (rz : ∀ S, Rz ⟨prog, w, K, lv, false⟩ S (names ++ more)) (ho : K.lookup f = fnAt K f) (hcd : codeIn K (fdO (objO K f)).code (fdO (objO K f)).qualname = true)
    (hb : ∀ (s : Shared) (vs : List Value), s.heap.NoLimit → K.In s.heap → vs.length = args.length → BindsTo s (fnO (objO K f)) ⟨vs, []⟩ (names.zip vs))
    (hl : names.length = args.length) (hz : frozB.frozBs args = true) (hck : fnChk (fdO (objO K f)).scope names = true) (hc : chkS (fdO (objO K f)).scope (names ++ more) r (bodyO (objO K f)) = true) (h : wpS ⟨prog, w, K, lv, false⟩ r (ini args k) (endQ d)) :
    CALL prog w K lv f args d := fn_ok ok (rz _) rfl ho hcd hb hl hz hck hc h
theorem fn_byKO {prog : Program} {w : World} {K : Frag} {lv : Nat} {kn : List Str} {kd : List D} (ok : XOk ⟨prog, w, K, lv, false⟩) (rz : ∀ S, Rz ⟨prog, w, K, lv, false⟩ S (names ++ more)) (ho : K.lookup f = fnAt K f) (hcd : codeIn K (fdO (objO K f)).code (fdO (objO K f)).qualname = true)
    (hb : ∀ (s : Shared) (vs ks : List Value), s.heap.NoLimit → K.In s.heap → vs.length = args.length → ks.length = kd.length → BindsTo s (fnO (objO K f)) ⟨vs, kn.zip ks⟩ (names.zip (vs ++ ks)))
    (hl : names.length = args.length + kd.length) (hz : frozB.frozBs args = true) (hz' : frozB.frozBs kd = true) (hck : fnChk (fdO (objO K f)).scope names = true) (hc : chkS (fdO (objO K f)).scope (names ++ more) r (bodyO (objO K f)) = true) (h : wpS ⟨prog, w, K, lv, false⟩ r (ini (args ++ kd) k) (endQ d)) :
    CALLK prog w K lv f args kn kd d := fn_okK ok (rz _) rfl ho hcd hb hl hz hz' hck hc h
end
end Mine
end
section
open PySem PySem.W PySem.Spec PySem.Calls PyProof.Rows
set_option Elab.async false
set_option linter.unusedVariables false
set_option maxRecDepth 100000
namespace Mine
theorem endsC {prog : Program} {w : World} {t : Sem PySem.Fin} {s : Shared} {R : Result → Shared → Prop} (hreg : s.asleep)
    (h : wpM true (model prog w) callerA t (fun fin s' => ∃ f, fin = .done f ∧ (R (.ok f) s' ∧ leftWithCleanup s'.gens = false)) (fun e s' => R (.error e) s' ∧ leftWithCleanup s'.gens = false) s) :
    ∃ n r s' s'', runN (denote table) prog w n s ⟨t, .builtin "claim.caller" {}, default, []⟩ = .halted (outcomeOf r) s' ∧ schedN (denote table) prog w n (.single s ⟨t, .builtin "claim.caller" {}, default, []⟩) = .halted (outcomeOf r) s' ∧ s'.forget = s''.forget ∧ R r s'' := by
  have h0 := h ⟨.builtin "claim.caller" {}, none, none, [], none⟩ default caller_in fun _ => .inl rfl
  obtain ⟨n, r, s₁, s₂, hs, hn, hfo, hR⟩ := wp_halts_full (M := model prog w) (R := R) hreg (Sem.wp_mono _ _ t (fun fin _ s' q => by obtain ⟨f, rfl, q⟩ := q; exact q) (fun _ _ _ q => q) default s h0)
  exact ⟨n, r, s₂, s₁, hn, hs, hfo, hR⟩
section
variable {c : ClaimW}
theorem fromC {tree : List Value → Sem PySem.Fin} {w : World} {s : Shared} {free : Addr → Prop} {gens : Prop} {kept : Heap → Prop} (hz : s.asleep) (hg : s.gens = #[])
    (spec : ∀ args, c.pre args = true → WData.layableAll args = true → ∀ ord : List DictEntry → List DictEntry, (∀ l, (ord l).Perm l) → ∃ vs s₁, layAllW c.records (classAt s.heap) w.params ord args s = some (vs, s₁) ∧
      wpM true (model c.prog w) callerA (tree vs) (fun fin s' => ∃ f, fin = .done f ∧ (c.Ends s args vs s₁ (.ok f) s' ∧ s'.os = s.os ∧ AllBare s'.gens ∧ kept s'.heap)) (fun e s' => c.Ends s args vs s₁ (.error e) s' ∧ s'.os = s.os ∧ AllBare s'.gens ∧ kept s'.heap) s₁) :
    c.CallFrom (fun vs => ⟨tree vs, .builtin "claim.caller" {}, default, []⟩) w free gens kept s := fun args h1 h2 ord h3 => by
  obtain ⟨vs, s₁, laid, run⟩ := spec args h1 h2 ord h3
  obtain ⟨_, _, _, life⟩ := layAllW_rest _ _ _ laid
  obtain ⟨k, r, s', s'', hr, hs, hf, he, ho, hk⟩ := endsC (R := fun r s' => c.Ends s args vs s₁ r s' ∧ s'.os = s.os ∧ kept s'.heap) (Shared.asleep_of_life life hz)
    (wm_mono run (fun fin s' q => by obtain ⟨f, e, q1, q2, q3, q4⟩ := q; exact ⟨f, e, ⟨q1, q2, q4⟩, leftWithCleanup_false_of_bare q3⟩) fun e s' q => ⟨⟨q.1, q.2.1, q.2.2.2⟩, leftWithCleanup_false_of_bare q.2.2.1⟩)
  obtain ⟨eh, _, _, eo, _⟩ := Shared.forget_eq hf
  have he := he.congr eh
  rw [← eh] at hk
  rw [← eo] at ho
  refine ⟨vs, s₁, laid, k, _, s', hs, ?_, (fun _ i x hx => by rw [hg] at hx; simp at hx), hk, by rw [(runN_life _ _ _ hr).trans life], Shared.rest_eq ho⟩
  exact he.imp (fun ⟨v, e, d1, d2, d3, d4, d5⟩ => ⟨v, by rw [e]; rfl, d1, d2, d3, fun b o y _ => d4 b o y, d5⟩) fun ⟨e, ob, cls, q, d1, d2, d3, d4, d5⟩ => ⟨e, ob, cls, by rw [q]; rfl, d1, d2, d3, d4, fun b o y _ => d5 b o y⟩
end
noncomputable abbrev WalkC (q : Program) (loose : List Str) (XP : (Str → Option Value) → Heap → Prop) {α : Type} (Yf : Shared → α) (Ya : World → α) (r : RowW) (d : DefRec) (kwd : List (Str × Expr)) (run : Value → List Value → Sem Value) : Prop :=
  ∀ (w : World) (s₀ s₁ : Shared) (mg mb : Str → Option Value), Ground q loose r.records XP w s₀ mg mb s₁.heap → Yf s₀ = Ya w → ∀ (a : Addr) (o : Obj) (pm cd doc dV kV : Value), s₁.heap.get? a = some o →
    o.data = .func { docDef d.name d.params d.body d.scope pm cd doc with defaults := dV, kwdefaults := kV } → s₁.heap.CodeRec cd d.name → Dflts mg s₁.heap d.params kwd dV kV → mg d.name = some (.ref a) → s₁.gens = #[] →
    ∀ (args : List WData) (vals : List Value) (as : List Addr), Laid r.records w s₀ s₁ args vals as → r.claim.pre args = true → WData.layableAll args = true → ReadsAllW r.records (classAt s₀.heap) s₁.heap vals args as → WellAll w.params s₁.heap vals args → (∀ a ∈ as, (a == sysModules) = false) →
      wpM true (model r.prog w) callerA (run (.ref a) vals) (fun v s' => GoodWG r.claim (classAt s₀.heap) (ExcName.means s₀.heap) args s₁ (.ok (.ret v)) s')
        (fun e s' => GoodWG r.claim (classAt s₀.heap) (ExcName.means s₀.heap) args s₁ (.error e) s') s₁
class Later (C : outParam Prop) : Prop where
  h : C
noncomputable abbrev By {C : Prop} (i : Later C) (P : Prop) : Prop := P
theorem PySem.W.holds_openX {r : OpenRow} {q : Program} {loose : List Str} {Xt : Shared → Bool} {XP : (Str → Option Value) → Heap → Prop} {α : Type} {Yf : Shared → α} {Ya : World → α} {d : DefRec} {kwd : List (Str × Expr)} {N : Nat} {C : Prop} [later : Later C]
    (sure : Bool) (hX : ∀ s, Xt s = true → XP (s.heap.nsMap mainGlobals) s.heap) (hXk : ∀ mg h h', XP mg h → (∀ b o, h.get? b = some o → h'.get? b = some o) → XP mg h')
    (hdef : defOf q r.name = some (d, kwd)) (hp : r.prog.theDef r.name = some (d.params, d.body, d.scope)) (hk : kwWritten? d.params.kwonlyargs d.params.kw_defaults = some kwd) (hRf : ∀ s, Xt s = true → RecFacts r.records s.heap) (hwr : (!r.writes || r.records.isEmpty) = true)
    (k1 : r.wellSaid = true) (ok : (chainsOk q && opensWell r.prog && (frees r.toRowW && r.within.isEmpty)) = true) (hb : r.prog.bare) (hw : r.toRowW.promised)
    (call : By later (LeftO r.prog q loose Xt Yf Ya N ∧ WalkC q loose XP Yf Ya r.toRowW d kwd fun f vs => PySem.call f vs)) (yes : sure = true := by change true = true; rfl) : r.Holds := by
  obtain ⟨left, call⟩ := call
  obtain ⟨ok, k5⟩ := and2 ok
  obtain ⟨hch, o1⟩ := and2 ok
  obtain ⟨k5, k6⟩ := and2 k5
  obtain ⟨hsame, hu, ha, hap, hm⟩ := frees_parts k5
  refine ⟨k1, hw, ⟨hb, o1, by show r.toRowW.makers.map _ = []; rw [hm]; rfl⟩, hw.witness, fun w => ⟨(left.behind hX hch w).1, fun s' hs' => ?_⟩⟩
  obtain ⟨s₀, hf, hg0, s, hT, hz, hgens, hg, G00, y⟩ := (left.behind (XP := fun mg h => XP mg h ∧ RecFacts r.records h) (fun s hs => ⟨hX s hs, hRf s hs⟩) hch w).2 s' hs'
  have G0 : Ground q loose [] XP w s (s.heap.nsMap mainGlobals) (s.heap.nsMap builtinsNs) s.heap := ⟨G00.T, G00.B, G00.D, G00.TE, G00.TD, G00.W, G00.X.1, G00.cls, G00.has, G00.apart, G00.once, G00.K⟩
  have RF := G00.X.2
  have hgens : s.gens = #[] := Array.eq_empty_of_size_eq_zero (beq_iff_eq.mp hgens)
  have G : Ground q loose r.toRowW.records XP w s _ _ s.heap := RF.ground G0
  refine ⟨s₀, hf, hg0, s, hT, fun n hn => ?_, RF.1, RF.2.1, fromC (c := r.toRowW.claim) hz hgens fun args hpre hlay ord hord => ?_⟩
  · obtain rfl : n = r.name := by split at hn <;> simp_all
    exact pinned_of_view hg G0 hdef hp hk
  obtain ⟨⟨vs, s₁⟩, laid⟩ := Option.isSome_iff_exists.mp (layAllW_isSome (P := w.params) (ord := ord) G.has args r.toRowW.args s (pre_splitW hpre).1)
  have keeps := layAllW_keeps _ _ _ laid
  have rest := layAllW_rest _ _ _ laid
  obtain ⟨as, hrd, hin, hold⟩ := reads_layAllW hord _ _ _ laid hlay s₁.heap (fun _ _ e => e)
  have L : Laid r.toRowW.records w s s₁ args vs as := ⟨⟨ord, hord, laid⟩, hrd, hin, hold, keeps, rest.1.trans hgens, rest.2.2.1⟩
  have G₁ := G.keeps hXk keeps
  obtain ⟨a, o, pm, cd, doc, dV, kV, h1, h2, h3, h4, h5⟩ := G₁.fn hdef
  have run := call w s s₁ _ _ G₁ y a o pm cd doc dV kV h2 h3 h4 h5 (defOf_name hdef ▸ h1) L.gens args vs as L hpre hlay L.reads L.well (L.low G.low)
  have hi := ident_freeW hu ha hap
  have hwi : r.toRowW.claim.within = [] := List.isEmpty_iff.mp k6
  refine ⟨vs, s₁, laid, wm_seq (wpAny_nsGet G₁.T.g ?_)⟩
  rw [h1]
  refine wm_bind (wm_mono run (fun v s' g => wm_pure ⟨_, rfl, ?_⟩) fun e s' g => ?_)
  · have z := g.laid (c := r.toRowW.claim) hsame hwi hi L
    exact ⟨z.1, z.2.1, z.2.2, fun q => ⟨namesKept_of hT hg _ keeps g.2.1.old, noTable hwr q⟩⟩
  · have z := g.laid (c := r.toRowW.claim) hsame hwi hi L
    exact ⟨z.1, z.2.1, z.2.2, fun q => ⟨namesKept_of hT hg _ keeps g.2.1.old, noTable hwr q⟩⟩
end Mine
end
section
open PySem PySem.W PySem.Spec PySem.Calls PyProof.Rows PySem.NumText
set_option Elab.async false
set_option linter.unusedVariables false
set_option maxRecDepth 100000
namespace Mine
theorem sp_none {x : Str} {t : Tok} {n : Str} (h : typeLookup (.type "str") n = pure none) : specialOf (.str x t) n = pure none := by
  unfold specialOf
  simp only [show typeOf (.str x t) = pure (.type "str") from rfl, pure_bind, h]
theorem cs_none {x : Str} {t : Tok} {n : Str} (h : typeLookup (.type "str") n = pure none) : callSpecial? (.str x t) n = pure none := by
  unfold callSpecial?
  rw [sp_none h, pure_bind]
theorem io_shape (x : Str) (t : Tok) : (int_private% "intFromObject") (.str x t) = (int_private% "intFromText") (.str x t) (numTextOf x) 10 := by
  show (callSpecial? (.str x t) "__int__" >>= _) = _
  rw [cs_none KIN.str_int, pure_bind]
  show (specialOf (.str x t) "__index__" >>= _) = _
  rw [sp_none KIN.str_idx, pure_bind]
  show (specialOf (.str x t) "__trunc__" >>= _) = _
  rw [sp_none KIN.str_trunc, pure_bind]
  rfl
theorem isType_int : isType (.type "int") = pure true := by first | rfl | kernel_rfl
theorem in_shape (x : Str) (t : Tok) : Builtin.«int.__new__» ⟨[.type "int", .str x t], []⟩ = ((int_private% "intFromText") (.str x t) (numTextOf x) 10 >>= fun v => ret v) := by
  show (isType (.type "int") >>= _) = _
  rw [isType_int, pure_bind]
  show (isSubtype (.type "int") (.type "int") >>= _) = _
  rw [F.conv_sub_int, pure_bind]
  show (Bind.madeHere "int.__new__" (.type "int") >>= _) = _
  rw [F.madeHere_int, pure_bind]
  show ((int_private% "intFromObject") (.str x t) >>= _) = _
  rw [io_shape]
  rfl
theorem tc_shape (x : Str) (t : Tok) : ∃ k, Builtin.«type.__call__» ⟨[.type "int", .str x t], []⟩ = (holding [.builtin "int.__new__"] (call (.builtin "int.__new__") [.type "int", .str x t] []) >>= k) := by
  have ft := F.called_int
  obtain ⟨c, tl, hmro⟩ := ft.mro
  have hmade := ft.made
  have h1 := ft.notType
  have h2 := ft.canCreate
  have hct := F.typeCall_int_1 (.str x t)
  unfold Builtin.«type.__call__»
  simp only [h1, h2, hct, hmro, hmade, pure_bind, Bool.false_eq_true, if_false, List.isEmpty_cons]
  exact ⟨_, rfl⟩
noncomputable def complaint (shown : Str) : Str := ((s!"invalid literal for int() with base {10}: " : String) ++ ⟨shown.cps.extract 0 200⟩ : Str)
noncomputable def refusal (x : Str) (t : Tok) : Sem Value := do
  rule "int.__new__.invalid-literal"
  let shown ← pyRepr (.str x t)
  let m ← mkStr (complaint shown)
  let r ← newExc (.type "ValueError") [m]
  markTheRefusal ["int.__new__"] r
  raiseNew r
theorem ft_shape {x : Str} {t : Tok} (hl : x.length ≤ 640) (h : PySem.intText? x = none) : (int_private% "intFromText") (.str x t) (numTextOf x) 10 = refusal x t := by
  have hs : (numSeenOf x).length ≤ 640 := Nat.le_trans (seen_length x) hl
  rcases read0 x hs with ⟨n, h1, _⟩ | ⟨_, h2 | ⟨i, h2, h3⟩⟩
  · rw [h] at h1; cases h1
  · show (ite ((numSeenOf x).length ≤ 640) _ _) = _
    rw [if_pos hs, pure_bind]
    simp only [h2]
    rfl
  · show (ite ((numSeenOf x).length ≤ 640) _ _) = _
    rw [if_pos hs, pure_bind]
    simp only [h2, h3]
    rfl
section
variable {prog : Program} {w : World} {A : Around} {E : Value → Shared → Prop} {s : Shared}
theorem no_mark {M : Model} {own : List String} {e : Value} {Q : Unit → Shared → Prop} (h : Q () s) : wpM true M A (markTheRefusal own e) Q E s := fun Γ p hΓ hu => by
  have e1 : pythonCodeMadeTheCall own (((Γ.code, p) :: Γ.below).map (·.1)) = false := by
    have : ((((Γ.code, p) :: Γ.below).map (·.1)).any Code.isCaller) = true := by
      have := under_cons (p := p) (hu rfl)
      unfold under at this
      rw [List.any_map]; exact this
    show (!((((Γ.code, p) :: Γ.below).map (·.1)).any Code.isCaller) && _ && _) = false
    rw [this]; rfl
  unfold markTheRefusal
  rw [Sem.wp_bind']
  show Sem.wp M Γ (if pythonCodeMadeTheCall own (((Γ.code, p) :: Γ.below).map (·.1)) = true then _ else _) _ _ p s
  rw [e1]
  exact h
theorem refuses {x : Str} {t : Tok} {Q : Value → Shared → Prop} (hr : (reprText x).length ≤ sizeLine) (hh : A.handled = none) (h : ∀ h' tk e, Heap.NewExc s.heap h' e "ValueError" → E (.ref e) { s with heap := h', toks := tk }) : wpM true (model prog w) A (refusal x t) Q E s := by
  unfold refusal
  refine wm_seq (wpAny_rule (wm_seq (wpAny_pyRepr_str ?_ hr)))
  refine wm_seq (wpAny_mkStr ?_ ?_)
  · refine wm_seq (wpAny_newExc_plain plainExc_ValueError (fun h' e hm => ?_) (by show 1 ≤ sizeLine; decide))
    refine wm_bind (no_mark ?_)
    exact wm_of (wpAny_raiseNew_none hh (h _ _ _ hm.newExc))
  · unfold complaint
    have : ((⟨(reprText x).cps.extract 0 200⟩ : Str)).length ≤ 200 := by
      show ((reprText x).cps.extract 0 200).size ≤ 200
      rw [Array.size_extract]; omega
    rw [len_app]
    have e1 : (Str.ofString (s!"invalid literal for int() with base {10}: " : String)).length = 40 := by decide +kernel
    have := szl
    show (Str.ofString _).length + _ ≤ _
    omega
theorem cm_builtin {b : Bool} {id : String} {args : Args} {B : Builtin} {R : Result → Shared → Prop} (hb : entryFor table id = some B)
    (h : wpM b (model prog w) (A.under (.builtin id args)) (B args) (fun fin s' => match fin with | .done f => R (.ok f) s' | .again c' => c'.quiet = true ∧ codeM b (model prog w) A c' R s') (fun e s' => R (.error e) s') s) : codeM b (model prog w) A (.builtin id args) R s := by
  refine cm_tree ?_
  show wpM b _ _ (match entryFor table id with | some B => B args | none => unsupported ((withoutEnding? id "#data").getD id)) _ _ s
  rw [hb]; exact h
theorem cm_callBuiltin {b : Bool} {id : String} {args : Args} {B : Builtin} {R : Result → Shared → Prop} (hq : (Code.builtin id args).quiet = true) (hb : entryFor table id = some B) (hk : checkBuiltinCall id args = pure ())
    (h : wpM b (model prog w) (A.under (.builtin id args)) (B args) (fun fin s' => match fin with | .done f => R (.ok f) s' | .again c' => c'.quiet = true ∧ codeM b (model prog w) A c' R s') (fun e s' => R (.error e) s') s) : codeM b (model prog w) A (.call (.builtin id) args) R s := by
  refine cm_tree ?_
  show wpM b _ A.in1 (do checkBuiltinCall id args; again (.builtin id args)) _ _ s
  rw [hk, pure_bind]
  exact wm_pure ⟨hq, cm_builtin hb h⟩
theorem int_refuses {x : Str} {t : Tok} {Q : Value → Shared → Prop} (hl : x.length ≤ 640) (hn : PySem.intText? x = none) (hr : (reprText x).length ≤ sizeLine) (hh : A.handled = none)
    (h : ∀ h' tk e, Heap.NewExc s.heap h' e "ValueError" → E (.ref e) { s with heap := h', toks := tk }) : wpM true (model prog w) A (call (.type "int") [.str x t]) Q E s := by
  refine wm_call (cm_tree ?_)
  show wpM true _ _ (callAny (.type "int") _) _ _ _
  refine wm_pure ⟨Code.quiet_builtin _ (by decide +kernel), cm_builtin F.entry_type_call ?_⟩
  obtain ⟨k, e⟩ := tc_shape x t
  rw [Around.under_plain (weight_type_call_type "int" _ []) (units_type_call_type "int" _ [])]
  show wpM true _ _ (Builtin.«type.__call__» ⟨[.type "int", .str x t], []⟩) _ _ _
  rw [e]
  refine wm_bind (wm_holding (wm_call (cm_callBuiltin (plainId_quiet F.called_int.plain _) F.entry_int_new (F.newCall_int_1 _) ?_)))
  rw [Around.under_plainId F.called_int.plain]
  rw [in_shape, ft_shape hl hn]
  exact wm_bind (refuses hr hh h)
end
end Mine
end
section
open PySem PySem.W PySem.Spec PySem.Calls PyProof.Rows
set_option Elab.async false
set_option linter.unusedVariables false
set_option maxRecDepth 100000
namespace Mine
section
variable {prog : Program} {w : World} {A : Around} {E : Value → Shared → Prop} {s : Shared} {b : Bool}
theorem wm_callType {pos : Pos} {T : String} {first : List Value} {args : List (Bool × Sem Value)} {Q : Value → Shared → Prop} (hp : args.any (·.1) = false)
    (h : wpAny (model prog w) A (evalArgs (.type T) true args []) (fun a s₁ => wpM b (model prog w) A (call (.type T) (first ++ a.pos) a.kw) Q E s₁) E s) : wpM b (model prog w) A (callWith pos (.type T) first args []) Q E s := by
  unfold callWith
  refine wm_seq (wpAny_holding (wpAny_mono h (fun a s₁ h₁ => wm_seq (wpAny_standAt ?_)) fun _ _ x => x))
  simp only [hp, List.any_nil, Bool.or_false]
  refine wm_seq (wpAny_pure ?_)
  exact wm_bind (wm_mono h₁ (fun r s₂ hr => wm_seq (wpAny_holding (wpAny_point (wm_pure hr)))) fun _ _ x => x)
end
section
variable {X : Fx} {S : Scope} {ns : List Str}
theorem seti_snd (ok : XOk X) {c : Cx} {l : Loc} {ρ : Env} {ss : List Stmt} {Q : PQ} (i : Nat) (e : RE) (rest : RS) (H : SNS X S ns rest) (ce : CE X S c) (cf : CF S c) (ag : Agr ns ρ l) (hc : chkS S ns (.seti i e rest) ss = true) (hw : wpS X (.seti i e rest) ρ Q) : STX X.cl c l (execs ss c.env) (Lift ns Q) := by
  refine sAs_el hc fun tg cl pos ss hc => ?_
  refine eNm_el hc fun x p hc => ?_
  refine eCl_el hc fun f es kw q hc => ?_
  refine eNm_el hc fun y r hc => ?_
  refine l1_el hc fun v hc => ?_
  refine l0_el hc fun hc => ?_
  obtain ⟨hc, h6⟩ := and2 hc
  obtain ⟨hc, h5⟩ := and2 hc
  obtain ⟨h1, h2, h3, h4⟩ := and4 hc
  obtain ⟨h7, h8⟩ := and2 h1
  obtain ⟨hcl, hw⟩ := hw
  rw [← show ("int" : Str) = y from eq_of_beq h2] at h3 ⊢
  obtain ⟨d, e1, hw⟩ := snd ok e ce (cg_of cf) ag h5 hw
  obtain ⟨t, rfl, ⟨hl, hr⟩, hw⟩ := strD_out hw
  refine stx_cons ?_
  rw [hcl]
  intro av own s inv R E hR hX
  refine wm_Assign ?_ (by rfl)
  rw [show eval (.Call (.Name ("int" : Str) r) [v] [] q) c.env = (do callWith q (← eval (.Name ("int" : Str) r) c.env) [] (backTo q (starEach [v] c.env)) []) from rfl]
  refine wm_seq (ev_b ok ce (f := .int) h3 av own s inv _ _ fun v₁ s₁ k₁ r₁ => ?_)
  simp only [Rel] at r₁
  subst r₁
  have i₁ := inv.keeps k₁
  refine wm_callType (nst_any (fun z hz => by rw [List.mem_singleton.mp hz]; exact h4)) ?_
  rw [show backTo q (starEach [v] c.env) = (false, eval v c.env) :: backTo q (starEach [] c.env) from by rw [nst_each h4]; rfl]
  refine evalArgs_plain ?_
  rw [show ((false, eval v c.env) :: backTo q (starEach [] c.env) : List (Bool × Sem Value)) = backTo q (starEach [v] c.env) from by rw [nst_each h4]; rfl]
  refine spliced_more (e1 av own s₁ i₁ _ _ fun v₂ s₂ k₂ r₂ => spliced_none ?_) (nst_each h4 _)
  simp only [Rel] at r₂
  obtain ⟨tk, rfl⟩ := r₂
  have i₂ := i₁.keeps k₂
  have k12 := kp_trans k₁ k₂
  rcases hw with ⟨n, hn, hw⟩ | ⟨hn, hw⟩
  · refine wm_of (KIN.call_text hn hl ?_)
    have kt : Keeps s₂ { s₂ with toks := s₂.toks + 1 } := kp_tok _
    refine storeN (i₂.keeps kt) (slot_of cf h8) (d := .int n) (by simp only [Rel]; exact ⟨_, rfl⟩) (by simp only [Froz]) fun s' k i' => ?_
    exact hR .next _ _ own s' (hcl ▸ H ce cf (agr_upd ag h7) h6 hw) (by simp only [RelF]) ((Step.of (kp_trans k12 kt)).trans k) i'
  · refine int_refuses hl hn hr rfl fun h' tk' e hx => ?_
    obtain ⟨m, F⟩ := i₂.fr
    obtain ⟨hh, tt, e2, _⟩ := k12
    refine hX.ve e s₂.heap m _ ⟨l, ?_⟩ F hx ⟨tk', by rw [e2]⟩
    exact ⟨ρ, ag, hw⟩
theorem rse_snd (ok : XOk X) {c : Cx} {l : Loc} {ρ : Env} {ss : List Stmt} {Q : PQ} (x : Str) (C : Addr) (e : RE) (ce : CE X S c) (cf : CF S c) (ag : Agr ns ρ l) (hc : chkS S ns (.rse x C e) ss = true) (hw : wpS X (.rse x C e) ρ Q) : STX X.cl c l (execs ss c.env) (Lift ns Q) := by
  refine sRa_el hc fun cl pos ss hc => ?_
  refine eCl_el hc fun f es kw q hc => ?_
  refine eNm_el hc fun y r hc => ?_
  refine l1_el hc fun v hc => ?_
  refine l0_el hc fun hc => ?_
  obtain ⟨h1, h2, h3, h4⟩ := and4 hc
  rw [← show x = y from eq_of_beq h1] at h2 ⊢
  obtain ⟨g1, g2⟩ := glob_out h2
  obtain ⟨d, e1, hw⟩ := snd ok e ce (cg_of cf) ag h4 (show wp X e .v ρ _ from hw)
  obtain ⟨t, rfl, ⟨ex, q2⟩, hw⟩ := strD_out hw
  refine stx_cons ?_
  intro av own s inv R E hR hX
  have hk : c.K.In c.h₀ := inv.ok.inK
  obtain ⟨m, F⟩ := inv.fr
  obtain ⟨tl, N, nm, qn, bs, hdct, sn, sub, ab, col, dd, k0, k1, k2, k3, k5, mN, hC, hN, hni, T⟩ := (own_of_in (x := x) (C := C) hk (topRead_of inv.ok.top) (by rw [ce.K]; exact ex) (by rw [ce.K]; exact q2)).obj
  refine wm_of (wpAny_Raise_call_subT (C := C) (nm := nm) (q := qn) (N := N) (bs := bs) (bm := tl) (hdct := hdct) (sn := sn) (sub := sub) (ab := ab) (col := col) (dd := dd) (k0 := k0) (k1 := k1) (k2 := k2) (k3 := k3) (k5 := k5)
    PySem.F.excBase_Exception (mN := mN) (T.hasType PySem.F.excBase_Exception.hasBase) rfl (nst_any (fun z hz => by rw [List.mem_singleton.mp hz]; exact h3)) hni ?_)
  refine ev_globV (ce.gl _ g1) (by rw [ce.K]; exact ex) g2 av own s inv _ _ fun v₁ s₁ k₁ r₁ => ?_
  simp only [Rel] at r₁
  subst r₁
  refine ⟨rfl, ?_⟩
  have i₁ := inv.keeps k₁
  rw [show backTo q (starEach [v] c.env) = (false, eval v c.env) :: backTo q (starEach [] c.env) from by rw [nst_each h3]; rfl]
  refine evalArgs_plain ?_
  rw [show ((false, eval v c.env) :: backTo q (starEach [] c.env) : List (Bool × Sem Value)) = backTo q (starEach [v] c.env) from by rw [nst_each h3]; rfl]
  refine spliced_more (e1 av own s₁ i₁ _ _ fun v₂ s₂ k₂ r₂ => spliced_none ?_) (nst_each h3 _)
  simp only [Rel] at r₂
  obtain ⟨tk, rfl⟩ := r₂
  have i₂ := i₁.keeps k₂
  obtain ⟨m₂, F₂⟩ := i₂.fr
  obtain ⟨hh, tt, e2, _⟩ := kp_trans k₁ k₂
  refine ⟨rfl, (by show 1 ≤ sizeLine; decide), F₂.keep _ _ hC, hN.keeps F₂.keep, T.keeps F₂.keep, fun h' ee hm => ?_⟩
  exact hX.own C t tk ee s₂.heap m₂ _ ⟨l, ρ, ag, hw⟩ F₂ hm ⟨s₂.toks, by rw [e2]⟩
theorem rz_of (ok : XOk X) : Rz X S ns := ⟨fun x C e ce cf ag hc hw => rse_snd ok x C e ce cf ag hc hw, fun i e rest H ce cf ag hc hw => seti_snd ok i e rest H ce cf ag hc hw⟩
end
end Mine
end
section
open PySem PySem.W PySem.Spec PySem.Calls PyProof.Rows
set_option Elab.async false
set_option linter.unusedVariables false
set_option maxRecDepth 100000
namespace Mine
structure XP (base : Heap) (outer : List PySem.Env) (s : Shared) (E : Value → Shared → Prop) (Q : Ov → Prop) : Prop where
  own : ∀ C x tx e t h' tk, Q (.exc C x) → RaisedS base s.heap outer e (.ref C) t [.str x tx] [] h' → s.heap.UpToSlots h' → E (.ref e) { s with heap := h', toks := tk }
  ve : ∀ e h' tk, Q .ve → RaisedSN base s.heap outer e (.type "ValueError") [] h' → s.heap.UpToSlots h' → E (.ref e) { s with heap := h', toks := tk }
noncomputable def CALLX (prog : Program) (w : World) (K : Frag) (lv : Nat) (f : Addr) (args : List D) (Q : Ov → Prop) : Prop :=
  ∀ dp un gd outer base (s : Shared) p loose mean mg mb av vs (R E : Value → Shared → Prop), dp + 1 + lv < recursionLimit → un + 3 + 20 * lv + 60 < cLine → Below (aTop dp un gd outer) base outer s.heap → K.In s.heap → Top p loose mean mg mb s.heap →
    (∀ a ∈ av, (s.heap.get? a).isSome = true ∧ K.lookup a = none) → RelL av s.heap args vs → (∀ d v s', Q (.ret d) → Keeps s s' → Rel av s'.heap d v → R v s') → XP base outer s E Q → wpM true (model prog w) (aTop dp un gd outer) (call (.ref f) vs) R E s
noncomputable def endX (Q : Ov → Prop) : PQ := fun o _ => match o with
  | .next => Q (.ret .none)
  | .brk => False
  | .cont => False
  | o => Q o
theorem news_nil {g : Heap} {L : Addr} {h : Heap} : News g L h [] := fun q hq => nomatch hq
theorem nocells : ∀ {names : List (Str × NameKind)} {n : Nat} {acc : List (Str × Addr)}, (∀ x ∈ names, x.2 ≠ .cell) → cellsFrom n names acc = acc
  | [], _, _, _ => rfl
  | (x, k) :: r, n, acc, h => by
    unfold cellsFrom
    rw [if_neg (by simpa using h (x, k) (.head _))]
    exact nocells fun y hy => h y (.tail _ hy)
theorem fn_byX {prog : Program} {w : World} {K : Frag} {lv : Nat} {S : Scope} {names more : List Str} {f : Addr} {args : List D} {Q : Ov → Prop} {name qual : Str} {params : Arguments} {body : List Stmt} {dV kV doc pm cdv ct oc : Value} {an od : Option Addr} {osl : Array (Option Value)} {r : RS} {k : Nat}
    (ok : XOk ⟨prog, w, K, lv, true⟩) (ho : K.lookup f = some ⟨oc, od, .func (fnOf name qual params body S dV kV doc pm an cdv ct), osl⟩) (hcd : codeIn K cdv qual = true)
    (hb : ∀ (s : Shared) (vs : List Value), vs.length = args.length → BindsTo s (fnOf name qual params body S dV kV doc pm an cdv ct) ⟨vs, []⟩ (names.zip vs))
    (hl : names.length = args.length) (hz : frozB.frozBs args = true) (hck : fnChk S names = true) (hnc : (S.names.all fun x => !(x.2 == .cell)) = true) (hc : chkS S (names ++ more) r body = true) (h : wpS ⟨prog, w, K, lv, true⟩ r (ini args k) (endX Q)) :
    CALLX prog w K lv f args Q := by
  obtain ⟨k1, k2, k3, k4, k5, k6⟩ := fnChk_out hck
  have hnc' : ∀ x ∈ S.names, x.2 ≠ .cell := fun x hx => by simpa using List.all_eq_true.mp hnc x hx
  have hloc : ∀ x ∈ names, S.names.lookup x = some .local := fun x hx => (k1 x hx).resolve_right fun e => hnc' _ (mem_of_lookup e) rfl
  intro dp un gd outer base s p loose mean mg mb av vs R E hD hU B X T hav rl hR hX
  refine wm_call (cm_call (o := _) (fd := fnOf name qual params body S dV kV doc pm an cdv ct) (body := body) (Nat.lt_of_le_of_lt (by show dp ≤ dp + 1 + lv; omega) hD) (X _ _ ho) rfl k3 k4 rfl (codeRec_of X hcd) (hb s vs rl.length _ _ _ _ ?_))
  refine wpAny_newFunctionEnv hnc' (fun x hx => hloc _ (List.of_mem_zip (show (x.1, x.2) ∈ names.zip vs from hx)).1) (fun h₀ hns₀ hsb₀ => ⟨T.nolimit.fresh _ hsb₀, cm_func ?_⟩) k5
  have hk₀ : Kept s.heap h₀ := fun b o e => hsb₀.extBut b o (Nat.ne_of_lt (Heap.lt_size e)) (Heap.get?_push_of_some _ e)
  have i := start (prog := prog) (w := w) (lv := lv) (qual := qual) (f := f) (cdv := cdv) (tk := s.toks + (names.zip vs).length) hD hU B X T hav rl (frozs_of hz) k5 hnc' hloc hl k2 hns₀ hk₀
  have ce : CE ⟨prog, w, K, lv, true⟩ S ⟨prog, w, K, p, loose, mean, mg, mb, dp, un, lv, gd, outer, base, s.heap, s.heap.objs.size, envOf qual S s.heap.objs.size f cdv, envOf qual S s.heap.objs.size f cdv⟩ := ⟨rfl, rfl, rfl, rfl, fun x hx => hx⟩
  have := sndS ok (rz_of ok) r ce ⟨rfl, rfl, (nocells hnc').symm⟩ (agr_ini (more := more) (k := k) hl k2) hc h
  refine this av _ _ i _ _ (fun fl fw l' own' s' q rf st i' => ?_) ⟨fun C x tx e h m s' q F hm hs => ?_, fun e h m s' q F hx hs => ?_⟩
  · obtain ⟨h', tk', rfl⟩ := st.same
    have kp : Keeps s { s with heap := h', toks := tk' } := ⟨h', tk', rfl, fun b o e => by obtain ⟨m, F⟩ := i'.fr; exact F.keep b o e⟩
    obtain ⟨ρ', _, q⟩ := q
    cases fl with
    | next =>
      simp only [RelF] at rf
      subst rf
      exact hR _ _ _ q kp (by simp only [Rel])
    | brk => exact q.elim
    | cont => exact q.elim
    | ret e =>
      simp only [RelF] at rf
      obtain ⟨v, rfl, rv, _⟩ := rf
      exact hR _ _ _ q kp (Rel.sub (fun a ha => .inl (List.mem_append_right _ ha)) rv)
  · obtain ⟨l', ρ', _, q⟩ := q
    obtain ⟨tk, e1⟩ := hs
    refine leave_raiseS B hm F news_nil (fun h' t hr _ hu => ?_) k5
    rw [e1]
    exact hX.own C x tx e t h' tk q hr hu
  · obtain ⟨l', ρ', _, q⟩ := q
    obtain ⟨tk, e1⟩ := hs
    refine leave_newS B hx F news_nil (fun h' hr _ hu => ?_) k5
    rw [e1]
    exact hX.ve e h' tk q hr hu
theorem fn_byXO {prog : Program} {w : World} {K : Frag} {lv : Nat} {names more : List Str} {f : Addr} {args : List D} {Q : Ov → Prop} {r : RS} {k : Nat}
    (ok : XOk ⟨prog, w, K, lv, true⟩) (ho : K.lookup f = fnAt K f) (hcd : codeIn K (fdO (objO K f)).code (fdO (objO K f)).qualname = true)
    (hb : ∀ (s : Shared) (vs : List Value), vs.length = args.length → BindsTo s (fnO (objO K f)) ⟨vs, []⟩ (names.zip vs))
    (hl : names.length = args.length) (hz : frozB.frozBs args = true) (hck : fnChk (fdO (objO K f)).scope names = true) (hnc : ((fdO (objO K f)).scope.names.all fun x => !(x.2 == .cell)) = true) (hc : chkS (fdO (objO K f)).scope (names ++ more) r (bodyO (objO K f)) = true) (h : wpS ⟨prog, w, K, lv, true⟩ r (ini args k) (endX Q)) :
    CALLX prog w K lv f args Q := fn_byX ok ho hcd hb hl hz hck hnc hc h
end Mine
end
section
open PySem PySem.W PySem.Spec PySem.Calls PyProof.Rows
set_option Elab.async false
set_option linter.unusedVariables false
set_option maxRecDepth 100000
namespace Mine
section
variable {prog : Program} {w : World} {A : Around} {E : Value → Shared → Prop} {s : Shared} {b : Bool} {env : PySem.Env}
theorem wm_Try {body orelse : List Stmt} {h₀ : ExceptHandler} {hs : List ExceptHandler} {pos : Pos} {Q : Flow → Shared → Prop}
    (h : wpM b (model prog w) A (execs body env) (fun f s₁ => match f with | .next => wpAny (model prog w) A (execs orelse env) Q E s₁ | f => Q f s₁)
      (fun e s₁ => wpAny (model prog w) A (noteFrame e env) (fun _ s₂ => wpAny (model prog w) A (setFlight e none) (fun _ s₃ => wpAny (model prog w) A (handleBy e env (h₀ :: hs)) Q E s₃) E s₂) E s₁) s) :
    wpM b (model prog w) A (exec (.Try body (h₀ :: hs) orelse [] pos) env) Q E s := by
  rw [arm_exec_Try]
  refine wm_seq (wpAny_standAt ?_)
  unfold tryStmt
  simp only [List.isEmpty_nil, if_true, List.isEmpty_cons, Bool.false_eq_true, if_false, Bool.false_and]
  refine wm_bind (wm_attempt (wm_mono h (fun f s₁ q => ?_) fun e s₁ q => wm_of (wpAny_bind (wpAny_mono q (fun _ _ q => wpAny_bind q) fun _ _ z => z))))
  cases f with
  | next => exact wm_of q
  | _ => exact wm_pure q
theorem wm_Return {M : Model} {e : Expr} {pos : Pos} {Q : Flow → Shared → Prop} (h : wpM b M A (eval e env) (fun v s' => Q (.ret v) s') E s) : wpM b M A (exec (.Return (some e) pos) env) Q E s := fun Γ p hΓ hu => by
  simp only [exec_Return_some, Sem.wp_bind', Sem.wp_cmd_standAt, Sem.wp_pure']
  exact h Γ _ hΓ hu
theorem cm_expr {e : Expr} {R : Result → Shared → Prop} (h : wpM b (model prog w) (A.deeper env) (eval e env) (fun v s' => R (.ok (.ret v)) s') (fun e' s' => wpAny (model prog w) (A.deeper env) (leaving env e') (fun _ s'' => R (.error e') s'') (fun e'' s'' => R (.error e'') s'') s') s) :
    codeM b (model prog w) A (.expr e env) R s := by
  refine cm_tree ?_
  show wpM b _ (A.deeper env) (do point; ret (← (eval e env).onRaise (leaving env))) _ _ s
  exact wm_seq (wpAny_point (wm_bind (wm_onRaise (wm_mono h (fun v s' q => wm_pure q) fun _ _ q => wm_of q))))
theorem cm_callE {a : Addr} {args : Args} {o : Obj} {fd : FuncData} {body : Expr} {R : Result → Shared → Prop} (hroom : A.depth < recursionLimit) (ho : s.heap.get? a = some o)
    (hd' : o.data = .func fd) (hco : fd.scope.isCoroutine = false) (hgen : fd.scope.isGenerator = false) (hbody : fd.body = .expr body) (hcd : s.heap.CodeRec fd.code fd.qualname)
    (h : wpAny (model prog w) A.in1 (bindArgs fd args) (fun binds s₁ => wpAny (model prog w) A.in1 (newFunctionEnv fd.scope fd.globals fd.closure binds (fd.qualname ++ ".<locals>.") (some a) fd.code none fd.builtins)
        (fun env s₂ => s₂.heap.NoLimit ∧ codeM b (model prog w) A (.expr body env) R s₂) (fun e s' => R (.error e) s') s₁) (fun e s' => R (.error e) s') s) : codeM b (model prog w) A (.call (.ref a) args) R s := by
  refine cm_tree ?_
  show wpM b _ A.in1 (callAny (.ref a) args) _ _ s
  simp only [callAny]
  refine wm_seq (wpAny_load ho ?_)
  obtain ⟨c, oc, vs, tq, hc, hoc, hdc, hq⟩ := hcd
  simp only [hd', callFunction, hco, hgen, hbody, hc]
  rw [hc] at h
  refine wm_seq (m := field (.ref c) 1) (wpAny_field hoc hdc hq (wm_seq (wpAny_pure ?_)))
  refine wm_seq (wpAny_mono h (fun binds s₁ h₁ => wm_seq (wpAny_mono h₁ (fun env s₂ h₂ => wm_seq (wpAny_enterFrame h₂.1 hroom (wm_pure (And.intro rfl h₂.2)))) fun _ _ h' => h')) fun _ _ h' => h')
end
section
variable {M : Model} {A : Around} {E : Value → Shared → Prop} {s' : Shared} {base g g₂ : Heap} {outer : List PySem.Env} {env : PySem.Env} {L e t : Addr} {cls : Value} {vs : List Value} {m : Str → Option Value} {Q : Unit → Shared → Prop}
theorem mem_env {b : Addr} (hf : env.frame = some L) (hm : b ∈ (env :: outer).filterMap (·.frame)) : b = L ∨ b ∈ outer.filterMap (·.frame) := by
  rw [List.filterMap_cons, hf] at hm
  exact List.mem_cons.mp hm
theorem bg_env {B : Heap} (F : Fr g L g₂ m) (hf : env.frame = some L) (h : ∀ b o, g₂.get? b = some o → b ∉ (env :: outer).filterMap (·.frame) → B.get? b = some o) : ∀ b o, g.get? b = some o → b ∉ outer.filterMap (·.frame) → B.get? b = some o := fun b o q nm => h b o (F.keep b o q) fun hm => by
  rcases mem_env hf hm with z | z
  · rw [z, kts_self F] at q; cases q
  · exact nm z
theorem leaveS_any (hA : A.frames = some (env :: outer)) (hf : env.frame = some L) (F : Fr g L g₂ m) (R : RaisedS base g₂ (env :: outer) e cls t vs [] s'.heap) (hQ : ∀ h', RaisedS base g outer e cls t vs [] h' → s'.heap.UpToSlots h' → Q () { s' with heap := h' }) : wpAny M A (leaving env (.ref e)) Q E s' := by
  obtain ⟨⟨B, hB, hBG, hl, hfl, hnew⟩, htup⟩ := R
  exact wpAny_leaves_onW hA hf hfl fun h' x1 x2 => hQ h' ⟨⟨B, hB, bg_env F hf hBG, (fun q hq => absurd hq List.not_mem_nil), x1, hnew⟩, htup.of_slots x2⟩ x2
theorem leaveSN_any (hA : A.frames = some (env :: outer)) (hf : env.frame = some L) (F : Fr g L g₂ m) (R : RaisedSN base g₂ (env :: outer) e cls [] s'.heap) (hQ : ∀ h', RaisedSN base g outer e cls [] h' → s'.heap.UpToSlots h' → Q () { s' with heap := h' }) : wpAny M A (leaving env (.ref e)) Q E s' := by
  obtain ⟨B, a0, hB, hBG, hl, hfl⟩ := R
  exact wpAny_leaves_onW hA hf hfl fun h' x1 x2 => hQ h' ⟨B, a0, hB, bg_env F hf hBG, (fun q hq => absurd hq List.not_mem_nil), x1⟩ x2
end
theorem callX_ev {c : Cx} {l : Loc} {prog : Program} {w : World} {K : Frag} {lv lv' : Nat} {f : Str} {fa : Addr} {xs : List Expr} {x : Expr} {px pos : Pos} {ds : List D} {o : Obj} {fd : FuncData} {Qo : Ov → Prop} (e1 : c.prog = prog) (e2 : c.w = w) (e3 : c.K = K) (e4 : c.lv = lv)
    (hx : c.env.kindOf f = some .globalImplicit) (hdb : (f == ("__debug__" : Str)) = false) (hg : nsIn K mainGlobals f = some (some (.ref fa))) (ho : K.lookup fa = some o) (hd : o.data = .func fd) (hn : ∀ y ∈ x :: xs, nst y = true) (ha : EVL c l (x :: xs) ds) (C : CALLX prog w K lv' fa ds Qo) (hlv : lv' + 1 ≤ lv)
    {av own : List Addr} {s : Shared} (i : Inv c av own l s) {R E : Value → Shared → Prop} (hR : ∀ d v s', Qo (.ret d) → Keeps s s' → Rel (own ++ av) s'.heap d v → R v s') (hX : ∀ s', Keeps s s' → (∃ m, Fr c.h₀ c.L s'.heap m) → XP c.base (c.fenv :: c.outer) s' E Qo) :
    wpM true c.M c.A (eval (.Call (.Name f px) (x :: xs) [] pos) c.env) R E s := by
  subst e1; subst e2; subst e3
  rw [show eval (.Call (.Name f px) (x :: xs) [] pos) c.env = (do callWith pos (← eval (.Name f px) c.env) [] (backTo pos (starEach (x :: xs) c.env)) []) from rfl]
  refine wm_seq (ev_globV hx hg hdb av own s i _ _ fun vv s₁ k₁ r₁ => ?_)
  simp only [Rel] at r₁
  subst r₁
  have i₁ := i.keeps k₁
  have hE : backTo pos (starEach (x :: xs) c.env) = (false, eval x c.env) :: backTo pos (starEach xs c.env) := by rw [nst_each (hn _ (.head _))]; rfl
  refine wm_callWith (o := o) (fd := fd) (by rw [nst_any hn]; rfl) ?_
  rw [hE]
  refine evalArgs_plain ?_
  rw [← hE]
  refine ha av own s₁ i₁ pos _ _ fun vs s₂ k₂ r₂ => ⟨⟨(i₁.keeps k₂).keepK _ _ ho, hd⟩, ?_⟩
  have i₂ := i₁.keeps k₂
  obtain ⟨m, F⟩ := i₂.fr
  have hD := i₂.ok.roomD
  have hU := i₂.ok.roomU
  refine C (c.dp + 1) (c.un + 3) c.gd (c.fenv :: c.outer) c.base s₂ c.p c.loose c.mean c.mg c.mb (own ++ av) vs R E (by omega) (by omega) (pushX i₂.ok.below F i₂.ok.frame i₂.ok.fkind) i₂.keepK (i₂.ok.top.keeps F.keep) (fun a ha => ⟨i₂.alive a ha, notK i₂ a ha⟩) r₂ (fun d v s' q k r => hR d v s' q (kp_trans k₁ (kp_trans k₂ k)) r) (hX s₂ (kp_trans k₁ k₂) ⟨m, F⟩)
end Mine
end
section
open PySem PySem.W PySem.Spec PySem.Calls PyProof.Rows
set_option Elab.async false
set_option linter.unusedVariables false
set_option maxRecDepth 100000
namespace Mine
noncomputable abbrev noP : Arguments := { posonlyargs := [], args := [], vararg := none, kwonlyargs := [], kw_defaults := [], kwarg := none, defaults := [] }
structure Clos (h : Heap) (cl : List (Str × Addr)) (l : Loc) : Prop where
  inj : ∀ x y a, cl.lookup x = some a → cl.lookup y = some a → x = y
  cell : ∀ q ∈ cl, ∃ v, h.IsCell q.2 v
  val : ∀ x d, get l x = some d → ∃ y t a, d = .str y ∧ cl.lookup x = some a ∧ h.IsCell a (some (.str y t))
theorem startL {prog : Program} {w : World} {K : Frag} {p : Program} {loose : List Str} {mean : ExcName → Option Value} {mg mb : Str → Option Value} {dp un lv : Nat} {gd : Option (List Code)} {outer : List PySem.Env} {base : Heap} {s : Shared} {av : List Addr} {h₁ : Heap} {tk : Nat}
    {qual : Str} {scope : Scope} {f : Addr} {cdv : Value} {cl : List (Str × Addr)} {l : Loc}
    (hD : dp + 1 + lv < recursionLimit) (hU : un + 3 + 20 * lv + 60 < cLine) (B : Below (aTop dp un gd outer) base outer s.heap) (X : K.In s.heap) (T : Top p loose mean mg mb s.heap) (hav : ∀ a ∈ av, (s.heap.get? a).isSome = true ∧ K.lookup a = none)
    (hc : Clos s.heap cl l) (hca : ∀ x a, cl.lookup x = some a → a ∉ av) (hk : scope.kind = .function) (hcell : ∀ x ∈ scope.names, x.2 ≠ .cell) (hfree : ∀ x d, get l x = some d → scope.names.lookup x = some .free ∧ (x == ("__classdict__" : Str)) = false)
    (hn : h₁.Ns s.heap.objs.size fun _ => none) (k : Kept s.heap h₁) :
    Inv ⟨prog, w, K, p, loose, mean, mg, mb, dp, un, lv, gd, outer, base, s.heap, s.heap.objs.size, envX qual scope s.heap.objs.size f cdv cl, envX qual scope s.heap.objs.size f cdv cl⟩ av [s.heap.objs.size] l { s with heap := h₁, toks := tk } := by
  have live₁ : (h₁.get? s.heap.objs.size).isSome = true := by obtain ⟨o, _, _, ho, _⟩ := hn; rw [ho]; rfl
  have alive : ∀ a, (s.heap.get? a).isSome = true → (h₁.get? a).isSome = true := fun a h => by
    obtain ⟨o, ho⟩ := Option.isSome_iff_exists.mp h
    rw [k a o ho]; rfl
  refine ⟨⟨B, T, X, hk, hk, rfl, rfl, rfl, hD, hU⟩, fun a ha => ⟨alive a (hav a ha).1, (hav a ha).2, fun q => ?_⟩, ⟨_, ⟨hn, k, Nat.le_refl _⟩⟩, fun a ha => ?_, ⟨.head _, _, hn⟩, fun x a h1 _ => ?_, hc.inj, fun x a h1 => ?_, fun q => ?_, fun x d e => ?_, fun x y dx dy a h1 _ _ _ => ?_⟩
  · have := (hav a ha).1
    rw [List.mem_singleton.mp q, dead_size] at this; cases this
  · rw [List.mem_singleton.mp ha]
    exact ⟨dead_size _, live₁⟩
  · exact absurd rfl (hcell _ (mem_of_lookup (show scope.names.lookup x = some .cell from h1)))
  · obtain ⟨v, o, ho, _⟩ := hc.cell _ (mem_of_lookup h1)
    exact ⟨alive a (by rw [show s.heap.get? a = some o from ho]; rfl), hca x a h1⟩
  · have := (hav _ q).1
    rw [dead_size] at this; cases this
  · obtain ⟨y, t, a, rfl, h1, h2⟩ := hc.val x d e
    exact ⟨.str y t, .inr ⟨.inr ⟨(hfree x _ e).1, (hfree x _ e).2⟩, a, h1, h2.keeps k⟩, by simp only [Rel]; exact ⟨t, rfl⟩, by simp only [Froz]⟩
  · obtain ⟨_, _, _, h2, _⟩ := hc.val x _ h1
    cases h2
theorem lamX {prog : Program} {w : World} {K : Frag} {lv lv' : Nat} {fn : Str} {fa : Addr} {xs : List Expr} {x : Expr} {px pos : Pos} {ds : List D} {ofn : Obj} {fdn : FuncData} {Qo : Ov → Prop} {l : Loc} {qual : Str} {scope : Scope} {cl : List (Str × Addr)} {pm cv ctv : Value}
    (hg : nsIn K mainGlobals fn = some (some (.ref fa))) (hfo : K.lookup fa = some ofn) (hfd : ofn.data = .func fdn) (hdb : (fn == ("__debug__" : Str)) = false) (hx : scope.names.lookup fn = some .globalImplicit) (hns : ∀ y ∈ x :: xs, nst y = true) (C : CALLX prog w K lv' fa ds Qo) (hlv : lv' + 1 ≤ lv)
    (hk : scope.kind = .function) (hcell : ∀ x ∈ scope.names, x.2 ≠ .cell) (hco : scope.isCoroutine = false) (hgen : scope.isGenerator = false) (hfree : ∀ x d, get l x = some d → scope.names.lookup x = some .free ∧ (x == ("__classdict__" : Str)) = false)
    (ha : ∀ c : Cx, EVL c l (x :: xs) ds) (hshape : ∀ d, Qo (.ret d) → ∃ y n, d = .tup [.str y, .int n])
    {dp un : Nat} {gd : Option (List Code)} {outer : List PySem.Env} {base : Heap} {s : Shared} {p : Program} {loose : List Str} {mean : ExcName → Option Value} {mg mb : Str → Option Value} {av : List Addr} {f : Addr} {o : Obj} {R E : Value → Shared → Prop}
    (hD : dp + 1 + lv < recursionLimit) (hU : un + 3 + 20 * lv + 60 < cLine) (B : Below (aTop dp un gd outer) base outer s.heap) (X : K.In s.heap) (T : Top p loose mean mg mb s.heap) (hav : ∀ a ∈ av, (s.heap.get? a).isSome = true ∧ K.lookup a = none)
    (ho : s.heap.get? f = some o) (hd : o.data = .func (kla_fn "<lambda>" qual noP (.Call (.Name fn px) (x :: xs) [] pos) scope cl pm cv ctv)) (hcd : s.heap.CodeRec cv qual) (hc : Clos s.heap cl l)
    (hR : ∀ d v s', Qo (.ret d) → Keeps s s' → Rel av s'.heap d v → R v s') (hX : XP base outer s E Qo) : wpM true (model prog w) (aTop dp un gd outer) (call (.ref f) []) R E s := by
  refine wm_call (cm_callE (o := o) (fd := kla_fn "<lambda>" qual noP (.Call (.Name fn px) (x :: xs) [] pos) scope cl pm cv ctv) (Nat.lt_of_le_of_lt (by show dp ≤ dp + 1 + lv; omega) hD) ho hd hco hgen rfl hcd ?_)
  rw [show bindArgs (kla_fn "<lambda>" qual noP (.Call (.Name fn px) (x :: xs) [] pos) scope cl pm cv ctv) ⟨[], []⟩ = pure [] from rfl]
  refine wpAny_pure (wpAny_newFunctionEnv (binds := []) hcell (fun y hy => nomatch hy) (fun h₁ hns₁ hsb => ⟨T.nolimit.fresh _ hsb, ?_⟩) hk)
  show codeM _ _ _ (.expr _ (envX qual scope s.heap.objs.size f cv cl)) _ _
  have hk₁ : Kept s.heap h₁ := fun b o e => hsb.extBut b o (Nat.ne_of_lt (Heap.lt_size e)) (Heap.get?_push_of_some _ e)
  let cells := cl.map (·.2)
  have cellOf : ∀ a ∈ av, a ∈ av.filter (fun a => !(cells.contains a)) ∨ ∃ v, s.heap.IsCell a v := fun a ha => by
    by_cases q : a ∈ cells
    · obtain ⟨⟨y, b⟩, hm, rfl⟩ := List.mem_map.mp q
      exact .inr (hc.cell _ hm)
    · left
      rw [List.mem_filter]
      exact ⟨ha, by simpa using q⟩
  have hca : ∀ x a, cl.lookup x = some a → a ∉ av.filter (fun a => !(cells.contains a)) := fun x a e q => by
    have := (List.mem_filter.mp q).2
    have hm : a ∈ cells := List.mem_map.mpr ⟨(x, a), mem_of_lookup e, rfl⟩
    simp [hm] at this
  have i := startL (prog := prog) (w := w) (lv := lv) (qual := qual) (f := f) (cdv := cv) (tk := s.toks + 0) hD hU B X T (av := av.filter (fun a => !(cells.contains a))) (fun a ha => hav a (List.mem_filter.mp ha).1) hc hca hk hcell hfree hns₁ hk₁
  refine cm_expr (callX_ev (c := ⟨prog, w, K, p, loose, mean, mg, mb, dp, un, lv, gd, outer, base, s.heap, s.heap.objs.size, envX qual scope s.heap.objs.size f cv cl, envX qual scope s.heap.objs.size f cv cl⟩) rfl rfl rfl rfl hx hdb hg hfo hfd hns (ha _) C hlv i (fun d v s' q kk r => ?_) fun s' kk ff => ⟨fun Cc y ty e t h' tk q r u => ?_, fun e h' tk q r u => ?_⟩)
  · obtain ⟨hh, tt, rfl, k2⟩ := kk
    have kp : Keeps s { s with heap := hh, toks := tt } := ⟨hh, tt, rfl, fun b o e => k2 b o (hk₁ b o e)⟩
    obtain ⟨y, n, rfl⟩ := hshape d q
    refine hR _ _ _ q kp ?_
    simp only [Rel] at r ⊢
    obtain ⟨a, vs, e, hna, hT, hr⟩ := r
    refine ⟨a, vs, e, fun hm => ?_, hT, ?_⟩
    · rcases cellOf a hm with z | ⟨v', z⟩
      · exact hna (List.mem_append_right _ z)
      · have z' := z.keeps (kp_kept kp)
        obtain ⟨o1, ho1, hc1⟩ := z'
        obtain ⟨o2, ho2, _, m, hd2⟩ := hT
        rw [ho1] at ho2; cases ho2; rw [hc1] at hd2; cases hd2
    · simp only [RelL, Rel] at hr ⊢; exact hr
  · obtain ⟨hh, tt, rfl, k2⟩ := kk
    obtain ⟨mm, F⟩ := ff
    refine leaveS_any (Around.frames_deeper B.stack) rfl F r fun h'' r' u' => ?_
    exact hX.own Cc y ty e t h'' tk q r' ((Heap.UpToSlots.of_keeps fun b o e => k2 b o (hk₁ b o e)).trans (u.trans u'))
  · obtain ⟨hh, tt, rfl, k2⟩ := kk
    obtain ⟨mm, F⟩ := ff
    refine leaveSN_any (Around.frames_deeper B.stack) rfl F r fun h'' r' u' => ?_
    exact hX.ve e h'' tk q r' ((Heap.UpToSlots.of_keeps fun b o e => k2 b o (hk₁ b o e)).trans (u.trans u'))
end Mine
end
section
open PySem PySem.W PySem.Spec PySem.Calls PyProof.Rows
set_option Elab.async false
set_option linter.unusedVariables false
set_option maxRecDepth 100000
namespace Mine
structure OwnExc (K : Frag) (h : Heap) (e C t : Addr) (m : Str) (tk : Tok) : Prop where
  inK : K.In h
  obj : ∃ oe ws, h.get? e = some oe ∧ oe.cls = .ref C ∧ oe.data = .fields ws ∧ ws[0]? = some (.ref t)
  tup : h.TupAt t [.str m tk]
  str : findIn K (.ref C) "__str__" = some (some (.builtin "BaseException.__str__"))
  sub : subIn K (.ref C) (.type "BaseException") = some true
section
variable {prog : Program} {w : World} {A : Around} {E : Value → Shared → Prop} {s : Shared} {K : Frag} {e C t : Addr} {m : Str} {tk : Tok}
end
end Mine
end
section
open PySem PySem.W PySem.Spec PySem.Calls PyProof.Rows
set_option Elab.async false
set_option linter.unusedVariables false
set_option maxRecDepth 100000
namespace Mine
section
variable {prog : Program} {w : World} {A : Around} {E : Value → Shared → Prop} {s : Shared} {K : Frag} {g : Heap} {L a e t C : Addr} {m mg mb : Str → Option Value} {cd : Value} {p : Program} {loose : List Str} {qual n word x : Str} {scope : Scope} {tx : Tok} {k k2 : Nat} {p1 p2 p3 p4 p5 p6 : Pos} {Q : Flow → Shared → Prop}
theorem suite_one (hQ : ∀ v s', Keeps s s' → (∃ q vs, v = .ref q ∧ s.heap.get? q = none ∧ IsTup s'.heap q vs.toArray ∧ ∃ t1, vs = [.str word t1]) → Q (.ret v) s') :
    wpAny (model prog w) A (execs [.Return (some (.Tuple [.Constant (.str word) k p1] k2 p5)) p6] (envOf qual scope L a cd)) Q E s := by
  refine wpAny_execs_cons (wpAny_Return_some (wpAny_Tuple (wpAny_items_cons (wpAny_Constant_str (wpAny_items_nil ?_)))))
  exact ⟨by show 1 ≤ sizeLine; decide, hQ _ _ (kp_trans (kp_tok _) (kp_push _)) ⟨_, _, rfl, dead_size _, ⟨_, Heap.get?_push_size _ rfl, rfl, _, rfl⟩, _, rfl⟩⟩
end
noncomputable def Moved (fs : List Addr) (h h' : Heap) : Prop := ∃ g', KtsTurn fs h g' ∧ ∀ b o, g'.get? b = some o → h'.get? b = some o
theorem moved_of {fs : List Addr} {h h' : Heap} (k : Kept h h') : Moved fs h h' := ⟨h, .refl, k⟩
noncomputable def THK (prog : Program) (w : World) (K : Frag) (lv : Nat) (f : Addr) (P : Heap → Prop) (Qo : Ov → Prop) : Prop :=
  ∀ {dp un : Nat} {gd : Option (List Code)} {outer : List PySem.Env} {base : Heap} {s : Shared} {p : Program} {loose : List Str} {mean : ExcName → Option Value} {mg mb : Str → Option Value} {av : List Addr} {R E : Value → Shared → Prop},
    dp + 1 + lv < recursionLimit → un + 3 + 20 * lv + 60 < cLine → Below (aTop dp un gd outer) base outer s.heap → K.In s.heap → Top p loose mean mg mb s.heap → (∀ a ∈ av, (s.heap.get? a).isSome = true ∧ K.lookup a = none) →
    P s.heap → (∀ d v s', Qo (.ret d) → Keeps s s' → Rel av s'.heap d v → R v s') → XP base outer s E Qo → wpM true (model prog w) (aTop dp un gd outer) (call (.ref f) []) R E s
noncomputable def caughtQ (Cr Cp : Addr) (Qo : Ov → Prop) (d : D) : Prop :=
  Qo (.ret d) ∨ (Qo .ve ∧ d = .tup [.str "unread"])
structure CKn (K : Frag) (Cr Cp : Addr) : Prop where
  nr : nsIn K mainGlobals "error_reply" = some (some (.ref Cr))
  np : nsIn K mainGlobals "error_proto" = some (some (.ref Cp))
  nv : nsIn K mainGlobals "ValueError" = some none
  ns : nsIn K mainGlobals "str" = some none
  rr : exmOne K (.ref Cr) (.ref Cr) = some true
  pr : exmOne K (.ref Cp) (.ref Cr) = some false
  pp : exmOne K (.ref Cp) (.ref Cp) = some true
  vr : exmOne K (.type "ValueError") (.ref Cr) = some false
  vp : exmOne K (.type "ValueError") (.ref Cp) = some false
  vv : exmOne K (.type "ValueError") (.type "ValueError") = some true
  sr : findIn K (.ref Cr) "__str__" = some (some (.builtin "BaseException.__str__"))
  sp : findIn K (.ref Cp) "__str__" = some (some (.builtin "BaseException.__str__"))
  br : subIn K (.ref Cr) (.type "BaseException") = some true
  bp : subIn K (.ref Cp) (.type "BaseException") = some true
noncomputable abbrev hPlain (cls word : Str) (q1 q2 q3 q4 q5 : Pos) : ExceptHandler := .ExceptHandler (some (.Name cls q1)) none [.Return (some (.Tuple [.Constant (.str word) 0 q2] 0 q3)) q4] q5
structure CSc (S : Scope) : Prop where
  k : S.kind = .function
  co : S.isCoroutine = false
  ge : S.isGenerator = false
  nc : ∀ x ∈ S.names, x.2 ≠ .cell
  d : S.names.lookup ("deed" : Str) = some .local
  r : S.names.lookup ("error_reply" : Str) = some .globalImplicit
  p : S.names.lookup ("error_proto" : Str) = some .globalImplicit
  v : S.names.lookup ("ValueError" : Str) = some .globalImplicit
section
variable {prog : Program} {w : World} {K : Frag} {lv lv' : Nat} {S : Scope} {ca f Cr Cp : Addr} {P : Heap → Prop} {Qo : Ov → Prop} {name qual : Str} {params : Arguments} {dV kV doc pm cdv ct oc : Value} {an od : Option Addr} {osl : Array (Option Value)}
  {a1 a2 a3 a4 b1 b2 b3 b4 b5 b6 b7 b8 c1 c2 c3 c4 c5 c6 c7 c8 d1 d2 d3 d4 d5 : Pos}
  {dp un : Nat} {gd : Option (List Code)} {outer : List PySem.Env} {base : Heap} {s : Shared} {p : Program} {loose : List Str} {mean : ExcName → Option Value} {mg mb : Str → Option Value} {av : List Addr} {R E : Value → Shared → Prop}
theorem rel_new {fs : List Addr} {ds : List D} {h₀ g₄ h₄ h₅ : Heap} {q : Addr} {vs : List Value} (T : KtsTurn fs h₀ g₄) (k : Kept g₄ h₄) (hq : h₄.get? q = none) (hT : IsTup h₅ q vs.toArray) (hr : ∀ mu h, RelL mu h ds vs) (hav : ∀ a ∈ av, (h₀.get? a).isSome = true) : Rel av h₅ (.tup ds) (.ref q) := by
  simp only [Rel]
  refine ⟨q, vs, rfl, fun hm => ?_, hT, hr _ _⟩
  obtain ⟨o, ho⟩ := Option.isSome_iff_exists.mp (hav q hm)
  obtain ⟨sl, h1⟩ := T.up ho
  have := k _ _ h1
  rw [hq] at this; cases this
theorem caughtX (hex : ∀ C x, ¬ Qo (.exc C x)) (ck : CKn K Cr Cp) (sc : CSc S) (hPk : ∀ h h', Kept h h' → P h → P h') (hPo : ∀ h, P h → ∃ o fd, h.get? f = some o ∧ o.data = .func fd)
    (ho : K.lookup ca = some ⟨oc, od, .func (fnOf name qual params [.Try [.Return (some (.Call (.Name "deed" a1) [] [] a2)) a3] [hPlain "error_reply" "refused" b1 b2 b3 b4 b5, hPlain "error_proto" "spoiled" c1 c2 c3 c4 c5, hPlain "ValueError" "unread" d1 d2 d3 d4 d5] [] [] a4] S dV kV doc pm an cdv ct), osl⟩) (hcd : codeIn K cdv qual = true)
    (hb : ∀ (s : Shared) (v : Value), BindsTo s (fnOf name qual params [.Try [.Return (some (.Call (.Name "deed" a1) [] [] a2)) a3] [hPlain "error_reply" "refused" b1 b2 b3 b4 b5, hPlain "error_proto" "spoiled" c1 c2 c3 c4 c5, hPlain "ValueError" "unread" d1 d2 d3 d4 d5] [] [] a4] S dV kV doc pm an cdv ct) ⟨[v], []⟩ [("deed", v)])
    (TH : THK prog w K lv' f P Qo) (hlv : lv' + 1 ≤ lv)
    (hD : dp + 1 + lv < recursionLimit) (hU : un + 3 + 20 * lv + 60 < cLine) (B : Below (aTop dp un gd outer) base outer s.heap) (X : K.In s.heap) (XB : K.In base) (T : Top p loose mean mg mb s.heap) (TB : Top p loose mean mg mb base) (DD : KtsDicts (outer.filterMap (·.frame)) s.heap)
    (hav : ∀ a ∈ av, (s.heap.get? a).isSome = true ∧ K.lookup a = none) (hP : P s.heap)
    (hR : ∀ d v s', caughtQ Cr Cp Qo d → Moved (outer.filterMap (·.frame)) s.heap s'.heap → SamS s s' → Rel av s'.heap d v → R v s') : wpM true (model prog w) (aTop dp un gd outer) (call (.ref ca) [.ref f]) R E s := by
  have hav' : ∀ a ∈ av, (s.heap.get? a).isSome = true := fun a ha => (hav a ha).1
  refine wm_call (cm_call (o := _) (fd := fnOf name qual params _ S dV kV doc pm an cdv ct) (Nat.lt_of_le_of_lt (by show dp ≤ dp + 1 + lv; omega) hD) (X _ _ ho) rfl sc.co sc.ge rfl (codeRec_of X hcd) (hb s (.ref f) _ _ _ _ ?_))
  refine wpAny_newFunctionEnv sc.nc (fun x hx => by rw [List.mem_singleton.mp hx]; exact sc.d) (fun h₀ hns₀ hsb₀ => ⟨T.nolimit.fresh _ hsb₀, cm_func ?_⟩) sc.k
  have hk₀ : Kept s.heap h₀ := fun b o e => hsb₀.extBut b o (Nat.ne_of_lt (Heap.lt_size e)) (Heap.get?_push_of_some _ e)
  have i := start (prog := prog) (w := w) (lv := lv) (qual := qual) (f := ca) (cdv := cdv) (tk := s.toks + 1) (names := [("deed" : Str)]) (args := [.val (.ref f)]) (vs := [.ref f]) hD hU B X T hav (by simp only [RelL, Rel]; exact ⟨_, _, rfl, rfl, rfl⟩) (by simp only [FrozL, Froz]; trivial) sc.k sc.nc (fun x hx => by rw [List.mem_singleton.mp hx]; exact sc.d) rfl (by decide) hns₀ hk₀
  refine wm_execs_cons (wm_Try (wm_execs_cons (wm_Return ?_)))
  rw [show ∀ env, eval (.Call (.Name "deed" a1) [] [] a2) env = (do callWith a2 (← eval (.Name "deed" a1) env) [] (backTo a2 (starEach [] env)) []) from fun _ => rfl]
  refine wm_seq (ev_name (d := .val (.ref f)) rfl (by decide) av _ _ i _ _ fun v s₂ k₂ r₂ => ?_)
  simp only [Rel] at r₂
  subst r₂
  have i₂ := i.keeps k₂
  obtain ⟨m, F⟩ := i₂.fr
  have hP₂ : P s₂.heap := hPk _ _ (kp_kept k₂) (hPk _ _ hk₀ hP)
  obtain ⟨of, fdf, hof, hdf⟩ := hPo _ hP₂
  refine wm_callWith (o := of) (fd := fdf) rfl (evalArgs_nil3 ⟨⟨hof, hdf⟩, ?_⟩)
  obtain ⟨hh, tt, rfl, kk⟩ := k₂
  have kS : Kept s.heap hh := fun b o e => kk b o (hk₀ b o e)
  have sS : SamS s { s with heap := hh, toks := tt } := ⟨tt, rfl⟩
  have hu : ((((aTop dp un gd outer).deeper (envOf qual S s.heap.objs.size ca cdv)).mark none).units) + 2 < cLine := by show un + 3 + 2 < cLine; omega
  refine TH (dp := dp + 1) (un := un + 3) (gd := gd) (outer := envOf qual S s.heap.objs.size ca cdv :: outer) (base := base) (av := [s.heap.objs.size] ++ av) (by omega) (by omega) (pushX i₂.ok.below F i₂.ok.frame i₂.ok.fkind) i₂.keepK (i₂.ok.top.keeps F.keep) (fun a ha => ⟨i₂.alive a ha, notK i₂ a ha⟩) hP₂ (fun d v s' q k r => ?_) ⟨fun C x tx e t h' tk q r u => ?_, fun e h' tk q r u => ?_⟩
  · obtain ⟨h3, t3, rfl, k3⟩ := k
    exact hR d v _ (.inl q) (moved_of fun b o e => k3 b o (kS b o e)) ⟨t3, rfl⟩ (Rel.sub (fun a ha => .inl (List.mem_append_right _ ha)) r)
  · exact absurd q (hex C x)
  · refine kts_lookSN r F B u DD fun h₃ r₃ u₃ => ?_
    refine pass_SN r₃ F B u₃ XB TB DD (test_name (.inl ck.nr) ck.vr sc.k sc.r (by decide)) fun h₃ r₃ u₃ => ?_
    refine pass_SN r₃ F B u₃ XB TB DD (test_name (.inl ck.np) ck.vp sc.k sc.p (by decide)) fun h₃ r₃ u₃ => ?_
    refine hit_SN0 r₃ F B u₃ XB TB DD .refl (test_name (.inr ⟨ck.nv, PyProof.Rows.Boot.«ValueError», by decide⟩) ck.vv sc.k sc.v (by decide)) (fun h₄ g₄ T₄ F₄ N₄ B₄ X₄ P₄ D₄ => ?_)
    refine suite_one fun v s5 k5 hv => ?_
    obtain ⟨q5, vs, rfl, h2, h3, t1, rfl⟩ := hv
    obtain ⟨h5, t5, rfl, k5⟩ := k5
    exact hR (.tup [.str "unread"]) _ _ (.inr ⟨q, rfl⟩) ⟨g₄, T₄, fun b o z => k5 b o (F₄.keep b o z)⟩ ⟨t5, rfl⟩ (rel_new (fs := outer.filterMap (·.frame)) T₄ F₄.keep h2 h3 (fun mu h => by simp only [RelL, Rel]; exact ⟨_, _, rfl, ⟨_, rfl⟩, rfl⟩) hav')
end
end Mine
end
section
open PySem PySem.W PySem.Spec PySem.Calls PyProof.Rows
set_option Elab.async false
set_option linter.unusedVariables false
set_option maxRecDepth 100000
namespace Mine
theorem Inv.chg {c : Cx} {av own : List Addr} {l : Loc} {s : Shared} (i : Inv c av own l s) {g : Heap} {h' : Heap} {tk : Nat} (ch : List Addr) (ok' : Cx.Ok { c with h₀ := g }) (fr' : ∃ m, Fr g c.L h' m) (none' : ∀ b, c.h₀.get? b = none → g.get? b = none)
    (hch : ∀ a ∈ ch, a = c.env.locals ∨ a ∈ av) (k : KeptBut ch s.heap h') (alive : ∀ a, (s.heap.get? a).isSome = true → (h'.get? a).isSome = true) (hns : ∀ m, s.heap.Ns c.env.locals m → h'.Ns c.env.locals m) :
    Inv { c with h₀ := g } av own l { s with heap := h', toks := tk } := by
  have hsub : ∀ a ∈ ch, a ∈ own ++ av := fun a ha => (hch a ha).elim (fun e => List.mem_append_left _ (e ▸ i.loc.1)) (List.mem_append_right _)
  have kB : KeptBut (own ++ av) s.heap h' := fun b o hb e => k b o (fun z => hb (hsub b z)) e
  have nd : ∀ {a : Addr} {o : Obj}, s.heap.get? a = some o → (∀ es n, o.data ≠ .dict es n) → a ∉ av → h'.get? a = some o := fun {a} {o} ho hd hv => k a o (fun z => by
    rcases hch a z with e | e
    · obtain ⟨_, o', es, ep, h1, h2, _⟩ := i.loc.2
      rw [e] at ho
      rw [ho] at h1; cases h1
      exact hd _ _ h2
    · exact hv e) ho
  have kc : ∀ {a : Addr} {v : Option Value}, a ∉ av → s.heap.IsCell a v → h'.IsCell a v := fun {a v} hv ⟨o, ho, hd⟩ => ⟨o, nd ho (fun es n q => by rw [hd] at q; cases q) hv, hd⟩
  have kn : ∀ {x : Str} {v : Value}, NameIs c.env s.heap x v → NameIs c.env h' x v := fun {x v} n => by
    rcases n with ⟨q, m, hn, e⟩ | ⟨q, a, ha, hc⟩
    · exact .inl ⟨q, m, hns m hn, e⟩
    · exact .inr ⟨q, a, ha, kc (i.cel x a ha).2 hc⟩
  refine ⟨ok', fun a ha => ⟨alive a (i.keep a ha).1, (i.keep a ha).2⟩, fr', fun a ha => ⟨none' a (i.mine a ha).1, alive a (i.mine a ha).2⟩, ⟨i.loc.1, ?_⟩, fun x a h1 h2 => ?_, i.inj, fun x a h1 => ⟨alive a (i.cel x a h1).1, (i.cel x a h1).2⟩, i.off, fun x d h1 => ?_, fun x y dx dy a h1 h2 n1 n2 => ?_⟩
  · obtain ⟨m, hm⟩ := i.loc.2
    exact ⟨m, hns m hm⟩
  · obtain ⟨h3, v, h4⟩ := i.cell x a h1 h2
    exact ⟨h3, v, kc (i.cel x a h2).2 h4⟩
  · obtain ⟨v, n, r, q⟩ := i.val x d h1
    refine ⟨v, kn n, ?_, q⟩
    cases d with
    | mls its =>
      obtain ⟨hf, a, rfl, ha⟩ := q
      simp only [Rel] at r ⊢
      obtain ⟨a', vs, e, hp, hr⟩ := r
      cases e
      refine ⟨a, vs, rfl, ?_, RelL.but kB hf hr⟩
      obtain ⟨dx, e⟩ := hp
      exact ⟨dx, nd e (fun es n q => by cases q) (fun z => (i.keep a z).2.2 ha)⟩
    | _ => exact Rel.but kB q r
  · obtain ⟨v, m1, _, _⟩ := i.val x _ h1
    obtain ⟨w, m2, _, _⟩ := i.val y _ h2
    have e1 := (kn m1).agree n1
    have e2 := (kn m2).agree n2
    subst e1; subst e2
    exact i.apart x y dx dy _ h1 h2 m1 m2
end Mine
end
section
open PySem PySem.W PySem.Spec PySem.Calls PyProof.Rows
set_option Elab.async false
set_option linter.unusedVariables false
set_option maxRecDepth 100000
namespace Mine
noncomputable def Tab (ps₀ : Array Value) (P : Addr) (lpos : Pos) (q : Str) (own : List Addr) (h : Heap) : Prop :=
  ∃ ps : Array Value, (∃ more, ps = ps₀ ++ more) ∧ h.get? P = some (tabObj ps) ∧ TriplesOk ps.toList ∧ (codeAmong lpos ps.toList = none ∨ ∃ c', codeAmong lpos ps.toList = some (.ref c') ∧ h.CodeRec (.ref c') q ∧ c' ≠ P ∧ c' ∉ own)
theorem codeRec_but {h h' : Heap} {c' P : Addr} {q : Str} (k : KeptBut [P] h h') (x : h.CodeRec (.ref c') q) (hne : c' ≠ P) : h'.CodeRec (.ref c') q := by
  obtain ⟨c, oc, vs, tq, e, h1, h2, h3⟩ := x
  cases e
  exact ⟨_, oc, vs, tq, rfl, k _ _ (by simpa using hne) h1, h2, h3⟩
theorem Tab.step {ps₀ : Array Value} {P : Addr} {lpos : Pos} {q : Str} {own own' av : List Addr} {s s' : Shared} (x : Tab ps₀ P lpos q (own ++ av) s.heap) (st : Step own s own' s') (hP : P ∉ own) : Tab ps₀ P lpos q (own' ++ av) s'.heap := by
  obtain ⟨ps, h0, h1, h2, h3⟩ := x
  refine ⟨ps, h0, st.kept _ _ hP h1, h2, h3.imp id fun ⟨c', e1, ⟨c2, oc, vs, tq, z1, z2, z3, z4⟩, e3, e4⟩ => ?_⟩
  cases z1
  refine ⟨c', e1, ⟨c', oc, vs, tq, rfl, st.kept _ _ (fun q => e4 (List.mem_append_left _ q)) z2, z3, z4⟩, e3, fun hm => ?_⟩
  rcases List.mem_append.mp hm with hm | hm
  · rcases st.new _ hm with z | z
    · exact e4 (List.mem_append_left _ z)
    · rw [z2] at z; cases z
  · exact e4 (List.mem_append_right _ hm)
theorem Tab.sub {ps₀ : Array Value} {P : Addr} {lpos : Pos} {q : Str} {own own' : List Addr} {h : Heap} (x : Tab ps₀ P lpos q own h) (k : ∀ a ∈ own', a ∈ own ∨ h.get? a = none) : Tab ps₀ P lpos q own' h := by
  obtain ⟨ps, h0, h1, h2, h3⟩ := x
  refine ⟨ps, h0, h1, h2, h3.imp id fun ⟨c', e1, e2, e3, e4⟩ => ⟨c', e1, e2, e3, fun hm => ?_⟩⟩
  obtain ⟨c2, oc, vs, tq, z1, z2, z3, z4⟩ := e2
  cases z1
  rcases k _ hm with z | z
  · exact e4 z
  · rw [z2] at z; cases z
theorem Tab.kept {ps₀ : Array Value} {P : Addr} {lpos : Pos} {q : Str} {own : List Addr} {h h' : Heap} (x : Tab ps₀ P lpos q own h) (k : Kept h h') : Tab ps₀ P lpos q own h' := by
  obtain ⟨ps, h0, h1, h2, h3⟩ := x
  exact ⟨ps, h0, k _ _ h1, h2, h3.imp id fun ⟨c', e1, e2, e3⟩ => ⟨c', e1, codeRec_but (fun b o _ e => k b o e) e2 e3.1, e3⟩⟩
noncomputable def LamAt (h : Heap) (f : Addr) (q : Str) (body : Expr) (sc : Scope) (cells : List (Str × Addr)) : Prop :=
  ∃ o pm cv ctv cl, h.get? f = some o ∧ o.data = .func (kla_fn "<lambda>" q noP body sc cl pm cv ctv) ∧ h.CodeRec cv q ∧ (∀ q ∈ cl, cells.lookup q.1 = some q.2) ∧ ∀ y, (y, NameKind.free) ∈ sc.names → ∃ a, cl.lookup y = some a
theorem mkLam {c : Cx} {av own : List Addr} {l : Loc} {s : Shared} {ps₀ : Array Value} {P cc : Addr} {lpos : Pos} {body : Expr} {lsc : Scope} {Q E : Value → Shared → Prop} (i : Inv c av own l s) (T : Tab ps₀ P lpos (c.env.qual ++ "<lambda>") (own ++ av) s.heap) (hP : c.h₀.get? P = none) (hPa : P ∈ av) (hcode : c.env.code = .ref cc) (C : CodeHd c.h₀ cc P)
    (hfree : ∀ y ∈ lsc.names, y.2 = .free → ∃ a, c.env.cells.lookup y.1 = some a)
    (hQ : ∀ f s', Inv c av own l s' → Tab ps₀ P lpos (c.env.qual ++ "<lambda>") (own ++ av) s'.heap → LamAt s'.heap f (c.env.qual ++ "<lambda>") body lsc c.env.cells → KeptBut [P] s.heap s'.heap → SamS s s' → Q (.ref f) s') :
    wpAny c.M c.A (eval (.Lambda noP body lsc lpos) c.env) Q E s := by
  refine kla_eval rfl ?_
  obtain ⟨clos, hcl, e2, e3⟩ := clos_ok hfree
  obtain ⟨ps, ⟨more, hmore⟩, hPs, ht, hc⟩ := T
  obtain ⟨m, F⟩ := i.fr
  have hgs := i.ok.top.g.keeps F.keep
  obtain ⟨bm, ob, b1, b2, b3, b4, b5, b6⟩ := i.ok.top.bmain
  have hgP : mainGlobals ≠ P := fun q => by
    obtain ⟨o, es, ep, e, hd, _⟩ := hgs
    rw [q, hPs] at e; cases e; cases hd
  have hbP : bm ≠ P := fun q => by
    have e := F.keep _ _ b3
    rw [q, hPs] at e; cases e; cases b4
  have hbG : bm ≠ mainGlobals := fun q => by
    obtain ⟨o, es, ep, e, hd, _⟩ := i.ok.top.g
    rw [q, e] at b3; cases b3; rw [hd] at b6; cases b6
  have hb : s.heap.BuiltinsAt c.mg P := ⟨bm, ob, b1, b2, hbG, hbP, F.keep _ _ b3, b4, b5, b6⟩
  have hge : c.env.globals = mainGlobals := i.ok.glob
  have hLP : c.env.locals ≠ P := fun z => (i.keep P hPa).2.2 (z ▸ i.loc.1)
  have hL : c.L ≠ P := fun z => i.off (z ▸ hPa)
  rcases hc with hnf | ⟨c', hf, hrec, hne⟩
  · have nown : ∀ c' : Addr, s.heap.objs.size ≤ c' → c' ∉ own ++ av := fun c' hge hm => by
      obtain ⟨o, ho⟩ := Option.isSome_iff_exists.mp (i.alive c' hm)
      exact absurd (Heap.lt_size ho) (Nat.not_lt.mpr hge)
    refine kla_makeFunction (mg := c.mg) hcl hge hgs hcode (C.keeps F.keep) hPs ht hnf hgP hb fun c' ctv h' tk hx hge hlt hrec htb => ?_
    have kb : KeptBut [P] s.heap (h'.push (kla_obj "<lambda>" (c.env.qual ++ "<lambda>") noP body lsc clos ((c.mg "__name__").getD .none) c' ctv)) := fun b o hb' e => Heap.get?_push_of_some _ (hx b o (by simpa using hb') e)
    have hcP : c' ≠ P := fun z => absurd (z ▸ hge) (Nat.not_le.mpr (Heap.lt_size hPs))
    refine hQ h'.objs.size _ (i.chg (g := c.h₀) [P] i.ok ⟨m, (F.ns.extBut hx hL).push _, fun b o e => kb b o (fun z => by rw [List.mem_singleton.mp z, hP] at e; cases e) (F.keep b o e), F.above⟩ (fun _ e => e) (fun a ha => .inr (List.mem_singleton.mp ha ▸ hPa)) kb (fun a ha => ?_) (fun m' hn => (hn.extBut hx hLP).push _)) ?_ ?_ kb ⟨tk, rfl⟩
    · by_cases z : a = P
      · rw [z, Heap.get?_push_of_some _ htb]; rfl
      · obtain ⟨o, ho⟩ := Option.isSome_iff_exists.mp ha
        rw [kb a o (by simpa using z) ho]; rfl
    · refine ⟨_, ⟨more ++ #[rawInt lpos.line, rawInt lpos.col, .ref c'], by rw [hmore, Array.append_assoc]⟩, Heap.get?_push_of_some _ htb, ?_, .inr ⟨c', ?_, ?_, hcP, nown c' hge⟩⟩
      · rw [Array.toList_append]; exact TriplesOk_snoc _ _ _ _ ht
      · rw [Array.toList_append]; exact codeAmong_snoc _ ht hnf
      · exact codeRec_but (fun b o _ e => Heap.get?_push_of_some _ e) hrec hcP
    · exact ⟨_, _, _, _, clos, Heap.get?_push_size _ rfl, rfl, codeRec_but (P := P) (fun b o _ e => Heap.get?_push_of_some _ e) hrec hcP, e2, e3⟩
  · refine kla_makeFunctionHit (mg := c.mg) hcl hge hgs hcode (C.keeps F.keep) hPs ht hf hb fun ctv h' tk kp hsz => ?_
    have kp' : Kept s.heap (h'.push { cls := .type "function", data := .func (kla_fn "<lambda>" (c.env.qual ++ "<lambda>") noP body lsc clos ((c.mg "__name__").getD .none) (.ref c') ctv) }) := fun b o e => Heap.get?_push_of_some _ (kp b o e)
    refine hQ h'.objs.size _ (i.kept (s' := { s with heap := _, toks := tk }) kp') (Tab.kept ⟨ps, ⟨more, hmore⟩, hPs, ht, .inr ⟨c', hf, hrec, hne⟩⟩ kp') ⟨_, _, _, _, clos, Heap.get?_push_size _ rfl, rfl, codeRec_but (P := P) (fun b o _ e => kp' b o e) hrec hne.1, e2, e3⟩ (fun b o _ e => kp' b o e) ⟨tk, rfl⟩
end Mine
end
section
open PySem PySem.W PySem.Spec PySem.Calls PyProof.Rows
set_option Elab.async false
set_option linter.unusedVariables false
set_option maxRecDepth 100000
namespace Mine
noncomputable def CAUGHT (prog : Program) (w : World) (K : Frag) (lv : Nat) (ca Cr Cp : Addr) : Prop :=
  ∀ {lv' : Nat} {f : Addr} {P : Heap → Prop} {Qo : Ov → Prop} {dp un : Nat} {gd : Option (List Code)} {outer : List PySem.Env} {base : Heap} {s : Shared} {p : Program} {loose : List Str} {mean : ExcName → Option Value} {mg mb : Str → Option Value} {av : List Addr} {R E : Value → Shared → Prop},
    (∀ C x, ¬ Qo (.exc C x)) → (∀ h h', Kept h h' → P h → P h') → (∀ h, P h → ∃ o fd, h.get? f = some o ∧ o.data = .func fd) → THK prog w K lv' f P Qo → lv' + 1 ≤ lv →
    dp + 1 + lv < recursionLimit → un + 3 + 20 * lv + 60 < cLine → Below (aTop dp un gd outer) base outer s.heap → K.In s.heap → K.In base → Top p loose mean mg mb s.heap → Top p loose mean mg mb base → KtsDicts (outer.filterMap (·.frame)) s.heap →
    (∀ a ∈ av, (s.heap.get? a).isSome = true ∧ K.lookup a = none) → P s.heap →
    (∀ d v s', caughtQ Cr Cp Qo d → Moved (outer.filterMap (·.frame)) s.heap s'.heap → SamS s s' → Rel av s'.heap d v → R v s') → wpM true (model prog w) (aTop dp un gd outer) (call (.ref ca) [.ref f]) R E s
structure LamOK (prog : Program) (w : World) (K : Frag) (lv' lv : Nat) (fn : Str) (fa : Addr) (xs : List Expr) (x : Expr) (ds : List D) (lam : Loc) (lsc : Scope) (Qo : Ov → Prop) : Prop where
  g : nsIn K mainGlobals fn = some (some (.ref fa))
  o : ∃ ofn fdn, K.lookup fa = some ofn ∧ ofn.data = .func fdn
  db : (fn == ("__debug__" : Str)) = false
  xg : lsc.names.lookup fn = some .globalImplicit
  ns : ∀ y ∈ x :: xs, nst y = true
  C : CALLX prog w K lv' fa ds Qo
  lv : lv' + 1 ≤ lv
  k : lsc.kind = .function
  cell : ∀ x ∈ lsc.names, x.2 ≠ .cell
  co : lsc.isCoroutine = false
  ge : lsc.isGenerator = false
  free : ∀ x d, get lam x = some d → lsc.names.lookup x = some .free ∧ (x == ("__classdict__" : Str)) = false
  ha : ∀ c : Cx, EVL c lam (x :: xs) ds
  shape : ∀ d, Qo (.ret d) → ∃ y n, d = .tup [.str y, .int n]
theorem Clos.kept {h h' : Heap} {cl : List (Str × Addr)} {l : Loc} (x : Clos h cl l) (k : Kept h h') : Clos h' cl l :=
  ⟨x.inj, fun q hq => let ⟨v, hv⟩ := x.cell q hq; ⟨v, hv.keeps k⟩, fun y d e => let ⟨z, t, a, h1, h2, h3⟩ := x.val y d e; ⟨z, t, a, h1, h2, h3.keeps k⟩⟩
theorem lamTHK {prog : Program} {w : World} {K : Frag} {lv' lv : Nat} {fn : Str} {fa : Addr} {xs : List Expr} {x : Expr} {ds : List D} {lam : Loc} {lsc : Scope} {Qo : Ov → Prop} {px pos : Pos} {f : Addr} {o : Obj} {q : Str} {cl : List (Str × Addr)} {pm cv ctv : Value} (hd : o.data = .func (kla_fn "<lambda>" q noP (.Call (.Name fn px) (x :: xs) [] pos) lsc cl pm cv ctv)) (H : LamOK prog w K lv' lv fn fa xs x ds lam lsc Qo) :
    THK prog w K lv f (fun h => h.get? f = some o ∧ h.CodeRec cv q ∧ Clos h cl lam) Qo := fun hD hU B X T hav hp hR hX => by
  obtain ⟨ofn, fdn, h1, h2⟩ := H.o
  exact lamX H.g h1 h2 H.db H.xg H.ns H.C H.lv H.k H.cell H.co H.ge H.free H.ha H.shape hD hU B X T hav hp.1 hd hp.2.1 hp.2.2 hR hX
theorem Inv.moved {c : Cx} {av own : List Addr} {l : Loc} {s s' : Shared} (i : Inv c av own l s) (hs : SamS s s') (hm : Moved ((c.fenv :: c.outer).filterMap (·.frame)) s.heap s'.heap) (hloc : c.env.locals = c.L) (hfs : ∀ b ∈ c.outer.filterMap (·.frame), b ∈ av) (XB : c.K.In c.base) (TB : Top c.p c.loose c.mean c.mg c.mb c.base) :
    ∃ g, KtsTurn (c.outer.filterMap (·.frame)) c.h₀ g ∧ Inv { c with h₀ := g } av own l s' := by
  obtain ⟨tk, es⟩ := hs
  obtain ⟨m, F⟩ := i.fr
  obtain ⟨g₃, T, k⟩ := hm
  have K₀ := i.ok.below
  have up : ∀ b o, s.heap.get? b = some o → ∃ sl, s'.heap.get? b = some { o with slots := sl } := fun b o e => by
    obtain ⟨sl, h⟩ := T.up e
    exact ⟨sl, k _ _ h⟩
  have hfm : (c.fenv :: c.outer).filterMap (·.frame) = c.L :: c.outer.filterMap (·.frame) := by rw [List.filterMap_cons, i.ok.frame]
  rw [hfm] at T
  have oth : ∀ b o, s.heap.get? b = some o → b ∉ c.L :: c.outer.filterMap (·.frame) → s'.heap.get? b = some o := fun b o e n => k _ _ (T.other b o e n)
  obtain ⟨T', S'⟩ := kts_turn_at (h := s'.heap) (fs := c.outer.filterMap (·.frame)) (g := c.h₀)
    (fun b hb => by
      obtain ⟨_, o, ho, _⟩ := K₀.frames.mem hb
      exact ⟨o, ho⟩)
    (fun b o e nm => oth b o (F.keep b o e) (fun z => by
      rcases List.mem_cons.mp z with z | z
      · rw [z, kts_self F] at e; cases e
      · exact nm z))
    (fun b o e _ => up b o (F.keep b o e))
  have us : s.heap.UpToSlots s'.heap := fun b o e _ => up b o e
  refine ⟨_, T', ?_⟩
  have B' : Below (aTop c.dp c.un c.gd c.outer) c.base c.outer (ktsHeap s'.heap (c.outer.filterMap (·.frame)) c.h₀) := ⟨K₀.stack, fun b o e => T'.other b o (K₀.stays b o e) (fun hm => by
    rw [(K₀.frames.mem hm).1] at e; cases e), K₀.frames.of_keeps fun b o e _ => by
      obtain ⟨sl, hs⟩ := T'.up e
      exact ⟨_, hs, rfl⟩⟩
  rw [es]
  refine i.chg (c.L :: c.outer.filterMap (·.frame)) ⟨B', TB.keeps B'.stays, XB.keeps B'.stays, i.ok.kind, i.ok.fkind, i.ok.frame, i.ok.glob, i.ok.blt, i.ok.roomD, i.ok.roomU⟩ ⟨m, us.ns F.ns, S', by rw [T'.size]; exact F.above⟩ T'.none_ (fun a ha => ?_) (fun b o n e => oth b o e n) (fun a ha => ?_) fun m' hn => us.ns hn
  · rcases List.mem_cons.mp ha with z | z
    · exact .inl (z.trans hloc.symm)
    · exact .inr (hfs a z)
  · obtain ⟨o, ho⟩ := Option.isSome_iff_exists.mp ha
    obtain ⟨sl, h⟩ := up a o ho
    rw [h]; rfl
end Mine
end
section
open PySem PySem.W PySem.Spec PySem.Calls PyProof.Rows
set_option Elab.async false
set_option linter.unusedVariables false
set_option maxRecDepth 100000
namespace Mine
theorem callLam {c : Cx} {av own : List Addr} {l : Loc} {s : Shared} {prog : Program} {w : World} {K : Frag} {lv lvc lv' : Nat} {ps₀ : Array Value} {P cc ca Cr Cp fa : Addr} {cn fn : Str} {q1 q2 px pos lpos : Pos} {xs : List Expr} {x : Expr} {ds : List D} {lam : Loc} {lsc : Scope} {Qo : Ov → Prop} {R E : Value → Shared → Prop}
    (e1 : c.prog = prog) (e2 : c.w = w) (e3 : c.K = K) (e4 : c.lv = lv) (hC : CAUGHT prog w K lvc ca Cr Cp) (hlvc : lvc + 1 ≤ lv) (H : LamOK prog w K lv' lv0 fn fa xs x ds lam lsc Qo) (hlv0 : lv0 + 1 ≤ lvc) (hex : ∀ C x, ¬ Qo (.exc C x))
    (hx : c.env.kindOf cn = some .globalImplicit) (hdb : (cn == ("__debug__" : Str)) = false) (hg : nsIn K mainGlobals cn = some (some (.ref ca))) (ho : ∃ o fd, K.lookup ca = some o ∧ o.data = .func fd)
    (hcells : ∀ x a, c.env.cells.lookup x = some a → c.env.kindOf x = some .cell) (hfree : ∀ y ∈ lsc.names, y.2 = .free → ∃ a, c.env.cells.lookup y.1 = some a) (hlam : ∀ x d, get lam x = some d → ∃ y, d = .str y ∧ get l x = some (.str y))
    (hP : c.h₀.get? P = none) (hPa : P ∈ av) (hcode : c.env.code = .ref cc) (C : CodeHd c.h₀ cc P) (hloc : c.env.locals = c.L) (hfs : ∀ b ∈ c.outer.filterMap (·.frame), b ∈ av) (XB : c.K.In c.base) (TB : Top c.p c.loose c.mean c.mg c.mb c.base) (DD : KtsDicts (c.outer.filterMap (·.frame)) c.h₀)
    (i : Inv c av own l s) (Tb : Tab ps₀ P lpos (c.env.qual ++ "<lambda>") (own ++ av) s.heap)
    (hR : ∀ d v s' g, caughtQ Cr Cp Qo d → KtsTurn (c.outer.filterMap (·.frame)) c.h₀ g → Inv { c with h₀ := g } av own l s' → Tab ps₀ P lpos (c.env.qual ++ "<lambda>") (own ++ av) s'.heap → SamS s s' → Rel (own ++ av) s'.heap d v → R v s') :
    wpM true c.M c.A (eval (.Call (.Name cn q1) [.Lambda noP (.Call (.Name fn px) (x :: xs) [] pos) lsc lpos] [] q2) c.env) R E s := by
  subst e1; subst e2; subst e3; subst e4
  rw [show eval (.Call (.Name cn q1) [.Lambda noP (.Call (.Name fn px) (x :: xs) [] pos) lsc lpos] [] q2) c.env = (do callWith q2 (← eval (.Name cn q1) c.env) [] (backTo q2 (starEach [.Lambda noP (.Call (.Name fn px) (x :: xs) [] pos) lsc lpos] c.env)) []) from rfl]
  refine wm_seq (ev_globV hx hg hdb av own s i _ _ fun vv s₁ k₁ r₁ => ?_)
  simp only [Rel] at r₁
  subst r₁
  have i₁ := i.keeps k₁
  obtain ⟨oc, fdc, ho, hd⟩ := ho
  refine wm_callWith (o := oc) (fd := fdc) rfl ?_
  refine evalArgs_plain (wpAny_items_cons (mkLam (P := P) i₁ (Tb.kept (kp_kept k₁)) hP hPa hcode C hfree fun f s₂ i₂ T₂ L₂ kb₂ ss₂ => wpAny_items_nil ⟨⟨i₂.keepK _ _ ho, hd⟩, ?_⟩))
  obtain ⟨o, pm, cv, ctv, cl, f1, f2, f3, f4, f5⟩ := L₂
  obtain ⟨m, F⟩ := i₂.fr
  have hclos : Clos s₂.heap cl lam := by
    refine ⟨fun x y a h1 h2 => i₂.inj x y a (f4 _ (mem_of_lookup h1)) (f4 _ (mem_of_lookup h2)), fun q hq => ?_, fun y d hy => ?_⟩
    · have := f4 q hq
      obtain ⟨_, v, hv⟩ := i₂.cell q.1 q.2 (hcells _ _ this) this
      exact ⟨v, hv⟩
    · obtain ⟨z, rfl, hz⟩ := hlam y d hy
      obtain ⟨v, n, r, _⟩ := i₂.val y _ hz
      simp only [Rel] at r
      obtain ⟨t, rfl⟩ := r
      obtain ⟨hfr, _⟩ := H.free y _ hy
      obtain ⟨a, ha⟩ := f5 y (mem_of_lookup hfr)
      have hca := f4 _ (mem_of_lookup ha)
      refine ⟨z, t, a, rfl, ha, ?_⟩
      rcases n with ⟨q, _⟩ | ⟨_, a', ha', hc⟩
      · rw [hcells _ _ hca] at q; cases q
      · have : a' = a := Option.some.inj (ha'.symm.trans hca)
        subst this
        exact hc
  have hfm : (c.fenv :: c.outer).filterMap (·.frame) = c.L :: c.outer.filterMap (·.frame) := by rw [List.filterMap_cons, i.ok.frame]
  have DD' : KtsDicts ((c.fenv :: c.outer).filterMap (·.frame)) s₂.heap := fun b hb => by
    rw [hfm] at hb
    rcases List.mem_cons.mp hb with z | z
    · obtain ⟨o', es, ep, h1, h2, _⟩ := F.ns
      exact ⟨o', es, ep, z ▸ h1, h2⟩
    · obtain ⟨o', es, n, h1, h2⟩ := DD b z
      exact ⟨o', es, n, F.keep _ _ h1, h2⟩
  have hD := i.ok.roomD
  have hU := i.ok.roomU
  refine hC (lv' := lv0) (P := fun h => h.get? f = some o ∧ h.CodeRec cv (c.env.qual ++ "<lambda>") ∧ Clos h cl lam) (Qo := Qo) (dp := c.dp + 1) (un := c.un + 3) (gd := c.gd) (outer := c.fenv :: c.outer) (base := c.base) (av := own ++ av) hex (fun h h' k hp => ⟨k _ _ hp.1, hp.2.1.keeps k, hp.2.2.kept k⟩) (fun h hp => ⟨o, _, hp.1, f2⟩) (lamTHK f2 H) hlv0 (by omega) (by omega) (pushX i₂.ok.below F i₂.ok.frame i₂.ok.fkind) i₂.keepK XB (i₂.ok.top.keeps F.keep) TB DD' (fun a ha => ⟨i₂.alive a ha, notK i₂ a ha⟩) ⟨f1, f3, hclos⟩ fun d v s₃ cq mv ss rl => ?_
  obtain ⟨g, T', i₃⟩ := i₂.moved ss mv hloc hfs XB TB
  have s12 : SamS s s₃ := by
    obtain ⟨h1, t1, rfl, _⟩ := k₁
    obtain ⟨t2, e2⟩ := ss₂
    obtain ⟨t3, e3⟩ := ss
    exact ⟨t3, by rw [e3, e2]⟩
  refine hR d v s₃ g cq T' i₃ ?_ s12 rl
  obtain ⟨ps, h0, h1, h2, h3⟩ := T₂
  obtain ⟨g₃, T3, k3⟩ := mv
  have hother : ∀ b o, s₂.heap.get? b = some o → (∀ es n, o.data ≠ .dict es n) → s₃.heap.get? b = some o := fun b o e hn => k3 _ _ (T3.other b o e fun hb => by
    obtain ⟨o', es, n, h1', h2'⟩ := DD' b hb
    rw [e] at h1'; cases h1'
    exact hn _ _ h2')
  refine ⟨ps, h0, hother _ _ h1 (fun es n q => by cases q), h2, h3.imp id fun ⟨c', y1, ⟨c2, oc, vs, tq, z1, z2, z3, z4⟩, y3⟩ => ⟨c', y1, ⟨c2, oc, vs, tq, z1, hother _ _ z2 (fun es n q => by rw [z3] at q; cases q), z3, z4⟩, y3⟩⟩
end Mine
end
section
open PySem PySem.W PySem.Spec PySem.Calls PyProof.Rows
set_option Elab.async false
set_option linter.unusedVariables false
set_option maxRecDepth 100000
namespace Mine
theorem execs_app {env : PySem.Env} {ts : List Stmt} : ∀ {ss : List Stmt}, execs (ss ++ ts) env = (execs ss env >>= fun f => match f with | .next => execs ts env | f => pure f)
  | [] => by rw [List.nil_append, execs_nil, pure_bind]
  | st :: ss => by
    rw [List.cons_append, execs_cons, execs_cons, bind_assoc]
    congr 1
    funext f
    cases f with
    | next => exact execs_app
    | _ => exact (pure_bind _ _).symm
theorem wm_execs_app {b : Bool} {M : Model} {A : Around} {env : PySem.Env} {ss ts : List Stmt} {Q : Flow → Shared → Prop} {E : Value → Shared → Prop} {s : Shared} (h : wpM b M A (execs ss env) (fun f s' => match f with | .next => wpM b M A (execs ts env) Q E s' | f => Q f s') E s) : wpM b M A (execs (ss ++ ts) env) Q E s := by
  rw [execs_app]
  refine wm_bind (wm_mono h (fun f s' q => ?_) fun _ _ z => z)
  cases f with
  | next => exact q
  | _ => exact wm_pure q
structure Chg (P : Addr) (fs : List Addr) (h h' : Heap) : Prop where
  other : ∀ b o, h.get? b = some o → b ≠ P → b ∉ fs → h'.get? b = some o
  frame : ∀ b o, h.get? b = some o → b ∈ fs → b ≠ P → ∃ sl, h'.get? b = some { o with slots := sl }
theorem hide_get {h : Heap} {P b : Addr} {o : Obj} (e : h.get? b = some o) (n : b ≠ P) : (hideAll h [P]).get? b = some o := hideAll_get _ e (by simpa using n)
theorem below_hide {A : Around} {base h : Heap} {outer : List PySem.Env} {P : Addr} (B : Below A base outer h) (hb : base.get? P = none) (hf : P ∉ outer.filterMap (·.frame)) : Below A base outer (hideAll h [P]) :=
  ⟨B.stack, fun b o e => hide_get (B.stays b o e) (fun z => by rw [z, hb] at e; cases e), funFrames_hideAll B.frames fun env he a ha q => hf (List.mem_filterMap.mpr ⟨env, he, by rw [q, List.mem_singleton.mp ha]⟩)⟩
noncomputable def RIGHT (prog : Program) (w : World) (K : Frag) (lv : Nat) (f P : Addr) (ps₀ : Array Value) (lpos : Pos) (lq : Str) (args : List D) (res : D) : Prop :=
  ∀ dp un gd outer base (s : Shared) p loose mean mg mb av vs (R E : Value → Shared → Prop), dp + 1 + lv < recursionLimit → un + 3 + 20 * lv + 60 < cLine → Below (aTop dp un gd outer) base outer s.heap → K.In base → Top p loose mean mg mb base → base.get? P = none → KtsDicts (outer.filterMap (·.frame)) s.heap →
    (∀ a ∈ av, (s.heap.get? a).isSome = true ∧ K.lookup a = none) → P ∈ av → (∀ b ∈ outer.filterMap (·.frame), b ∈ av) → Tab ps₀ P lpos lq av s.heap → RelL av s.heap args vs →
    (∀ v s', Chg P (outer.filterMap (·.frame)) s.heap s'.heap → Tab ps₀ P lpos lq av s'.heap → SamS s s' → Rel av s'.heap res v → R v s') → wpM true (model prog w) (aTop dp un gd outer) (call (.ref f) vs) R E s
noncomputable def rightQ (X : Fx) (lv lvc lv' : Nat) (Cr Cp fa : Addr) (fn : Str) (xs : List Expr) (x : Expr) (lsc : Scope) (ns : List Str) (ig : Nat) (r₂ : RS) (res : D) : PQ := fun o ρ => match o with
  | .next => ∃ lam ds Qo lv0, LamOK X.prog X.w X.K lv' lv0 fn fa xs x ds lam lsc Qo ∧ lv0 + 1 ≤ lvc ∧ (∀ C x, ¬ Qo (.exc C x)) ∧ (∀ z d, get lam z = some d → ∃ j y, d = .str y ∧ ns[j]? = some z ∧ nth ρ j = some (.str y)) ∧
      ∀ d, caughtQ Cr Cp Qo d → frozB d = true ∧ wpS X r₂ (upd ρ ig d) (endQ res)
  | .ret d => d = res
  | _ => False
theorem rightX {prog : Program} {w : World} {K : Frag} {lv lvc lv' k ig : Nat} {f ca Cr Cp fa P cc : Addr} {S lsc : Scope} {names more : List Str} {args : List D} {res : D} {name qual gn cn fn : Str} {params : Arguments} {body b₁ b₂ : List Stmt} {dV kV doc pm ct oc : Value} {an od : Option Addr} {osl : Array (Option Value)} {ps₀ : Array Value} {q1 q2 q3 q4 px pos lpos : Pos} {xs : List Expr} {x : Expr} {r₁ r₂ : RS}
    (hC : CAUGHT prog w K lvc ca Cr Cp) (hlvc : lvc + 1 ≤ lv) (ok : XOk ⟨prog, w, K, lv, true⟩)
    (ho : K.lookup f = some ⟨oc, od, .func (fnOf name qual params body S dV kV doc pm an (.ref cc) ct), osl⟩) (hcd : codeIn K (.ref cc) qual = true)
    (hb : ∀ (s : Shared) (vs : List Value), vs.length = args.length → BindsTo s (fnOf name qual params body S dV kV doc pm an (.ref cc) ct) ⟨vs, []⟩ (names.zip vs))
    (hbody : body = b₁ ++ (.Assign [.Name gn q3] (.Call (.Name cn q1) [.Lambda noP (.Call (.Name fn px) (x :: xs) [] pos) lsc lpos] [] q2) q4 :: b₂))
    (hl : names.length = args.length) (hz : frozB.frozBs args = true) (hck : fnChk S names = true) (hc1 : chkS S (names ++ more) r₁ b₁ = true) (hc2 : chkS S (names ++ more) r₂ b₂ = true)
    (hgn : storeAt S (names ++ more) ig gn = true) (hcn : glob S cn = true) (hcg : nsIn K mainGlobals cn = some (some (.ref ca))) (hco : ∃ o fd, K.lookup ca = some o ∧ o.data = .func fd)
    (hcellsS : ∀ n x a, (cellsFrom n S.names []).lookup x = some a → S.names.lookup x = some .cell) (hfree : ∀ y ∈ lsc.names, y.2 = .free → S.names.lookup y.1 = some .cell)
    (hCC : ∀ h, K.In h → CodeHd h cc P) (hKP : K.lookup P = none)
    (h : wpS ⟨prog, w, K, lv, true⟩ r₁ (ini args k) (rightQ ⟨prog, w, K, lv, true⟩ lv lvc lv' Cr Cp fa fn xs x lsc (names ++ more) ig r₂ res)) : RIGHT prog w K lv f P ps₀ lpos (qual ++ ".<locals>." ++ "<lambda>") args res := by
  intro dp un gd outer base s p loose mean mg mb av vs R E hD hU B XB TB hbP DD hav hPa hfs Tb rl hR
  obtain ⟨k1, k2, k3, k4, k5, k6⟩ := fnChk_out hck
  have X : K.In s.heap := XB.keeps B.stays
  have hPt : ∃ ps, s.heap.get? P = some (tabObj ps) := by obtain ⟨ps, _, h1, _⟩ := Tb; exact ⟨ps, h1⟩
  have hPf : P ∉ outer.filterMap (·.frame) := fun z => by
    obtain ⟨o, es, n, h1, h2⟩ := DD P z
    obtain ⟨ps, h3⟩ := hPt
    rw [h1] at h3; cases h3; cases h2
  have B' := below_hide B hbP hPf
  have X' : K.In (hideAll s.heap [P]) := XB.keeps B'.stays
  have T' := TB.keeps B'.stays
  have T : Top p loose mean mg mb s.heap := TB.keeps B.stays
  subst hbody
  refine wm_call (cm_call (o := _) (fd := fnOf name qual params _ S dV kV doc pm an (.ref cc) ct) (Nat.lt_of_le_of_lt (by show dp ≤ dp + 1 + lv; omega) hD) (X _ _ ho) rfl k3 k4 rfl (codeRec_of X hcd) (hb s vs rl.length _ _ _ _ ?_))
  have hkind : ∀ x ∈ names, S.names.lookup x = some .local ∨ (S.names.lookup x = some .cell ∧ ((cellsFrom (s.heap.objs.size + 1) S.names []).lookup x).isSome = true) := fun x hx => (k1 x hx).imp id fun q => ⟨q, cellsFrom_some S.names _ [] (.inl q)⟩
  refine wpAny_newFunctionEnv_cells k5 (fun x hx => hkind x.1 (List.of_mem_zip (show (x.1, x.2) ∈ names.zip vs from hx)).1) fun env' he s₁ xc => ?_
  subst he
  refine ⟨T.nolimit.keeps xc.toInCall.keep, cm_func ?_⟩
  have i := startC (prog := prog) (w := w) (lv := lv) (qual := qual) (f := f) (cdv := .ref cc) hD hU (fun b o e => of_hideAll _ e) (hideAll_size _ _) B' X' T' hav rl (frozs_of hz) k5 hkind hl k2 k6 xc
  have ce : CE ⟨prog, w, K, lv, true⟩ S ⟨prog, w, K, p, loose, mean, mg, mb, dp, un, lv, gd, outer, base, hideAll s.heap [P], s.heap.objs.size, envOfC qual S s.heap.objs.size f (.ref cc), envOfC qual S s.heap.objs.size f (.ref cc)⟩ := ⟨rfl, rfl, rfl, rfl, fun x hx => hx⟩
  have cf : CF S ⟨prog, w, K, p, loose, mean, mg, mb, dp, un, lv, gd, outer, base, hideAll s.heap [P], s.heap.objs.size, envOfC qual S s.heap.objs.size f (.ref cc), envOfC qual S s.heap.objs.size f (.ref cc)⟩ := ⟨rfl, rfl, rfl⟩
  refine wm_execs_app ?_
  refine sndS ok (rz_of ok) r₁ ce cf (agr_ini (more := more) (k := k) hl k2) hc1 h av _ _ i _ _ (fun fl fw l' own' s' q rf st i' => ?_) ⟨fun C y ty e hh m s' q => q.elim fun l' q => q.elim fun ρ' q => q.2.elim, fun e hh m s' q => q.elim fun l' q => q.elim fun ρ' q => q.2.elim⟩
  have hP₀ : (hideAll s.heap [P]).get? P = none := hideAll_none _ (.head _)
  have fresh : ∀ a ∈ s.heap.objs.size :: (cellsFrom (s.heap.objs.size + 1) S.names []).map (·.2), s.heap.get? a = none := fun a ha => by
    cases e : s.heap.get? a with
    | none => rfl
    | some o =>
      have h1 := (i.mine a ha).1
      rw [hide_get e (fun (z : a = P) => (i.keep P hPa).2.2 (z ▸ ha))] at h1; cases h1
  have hPown : P ∉ s.heap.objs.size :: (cellsFrom (s.heap.objs.size + 1) S.names []).map (·.2) := (i.keep P hPa).2.2
  have Tb₁ := ((Tb.sub (own' := (s.heap.objs.size :: (cellsFrom (s.heap.objs.size + 1) S.names []).map (·.2)) ++ av) fun a ha => (List.mem_append.mp ha).elim (fun z => .inr (fresh a z)) .inl).kept xc.toInCall.keep).step st hPown
  obtain ⟨h₁, tk₁, e₁⟩ := xc.toInCall.same
  obtain ⟨h', tk', e'⟩ := st.same
  have sm' : SamS s s' := ⟨tk', by rw [e', e₁]⟩
  have chg : ∀ {g : Heap} {l₄ : Loc} {own₄ : List Addr} {s₄ : Shared}, KtsTurn (outer.filterMap (·.frame)) (hideAll s.heap [P]) g → Inv ⟨prog, w, K, p, loose, mean, mg, mb, dp, un, lv, gd, outer, base, g, s.heap.objs.size, envOfC qual S s.heap.objs.size f (.ref cc), envOfC qual S s.heap.objs.size f (.ref cc)⟩ av own₄ l₄ s₄ → Chg P (outer.filterMap (·.frame)) s.heap s₄.heap := fun T i₄ => by
    obtain ⟨m₄, F₄⟩ := i₄.fr
    exact ⟨fun b o e n hf => F₄.keep _ _ (T.other b o (hide_get e n) hf), fun b o e hf n => let ⟨sl, h⟩ := T.frame b o (hide_get e n) hf; ⟨sl, F₄.keep _ _ h⟩⟩
  obtain ⟨ρ', ag, q⟩ := q
  cases fl with
  | brk => exact q.elim
  | cont => exact q.elim
  | ret d =>
    simp only [RelF] at rf
    obtain ⟨v, rfl, rv, _⟩ := rf
    have hd : d = res := q
    subst hd
    exact hR _ _ (chg .refl i') (Tb₁.sub fun a ha => .inl (List.mem_append_right _ ha)) sm' (Rel.sub (fun a ha => .inl (List.mem_append_right _ ha)) rv)
  | next =>
    simp only [RelF] at rf
    subst rf
    obtain ⟨lam, ds, Qo, lv0, HL, h0, hex, hlam, hq⟩ := q
    obtain ⟨hg1, hg2⟩ := and2 hgn
    obtain ⟨hcn1, hcn2⟩ := glob_out hcn
    refine wm_execs_cons (wm_Assign (callLam (c := ⟨prog, w, K, p, loose, mean, mg, mb, dp, un, lv, gd, outer, base, hideAll s.heap [P], s.heap.objs.size, envOfC qual S s.heap.objs.size f (.ref cc), envOfC qual S s.heap.objs.size f (.ref cc)⟩) (P := P) (prog := prog) (w := w) (K := K) (lv := lv) rfl rfl rfl rfl hC hlvc HL h0 hex hcn1 hcn2 hcg hco (fun x a h => hcellsS _ x a h) (fun y hy e => Option.isSome_iff_exists.mp (cellsFrom_some S.names _ [] (.inl (hfree y hy e)))) (fun z d hz => by
      obtain ⟨j, y, e1, e2, e3⟩ := hlam z d hz
      obtain ⟨z', e4, e5⟩ := ag j _ e3
      rw [e2] at e4; cases e4
      exact ⟨y, e1, e5⟩) hP₀ hPa rfl (hCC _ X') rfl hfs XB TB ?_ i' Tb₁ fun d v s₃ g cq T₃ i₃ Tb₃ ss₃ rl₃ => ?_) (by rfl))
    · intro b hb
      obtain ⟨o, es, n, h1, h2⟩ := DD b hb
      exact ⟨o, es, n, hide_get h1 (fun z => hPf (z ▸ hb)), h2⟩
    · obtain ⟨hz2, hw2⟩ := hq d cq
      have ce' : CE ⟨prog, w, K, lv, true⟩ S ⟨prog, w, K, p, loose, mean, mg, mb, dp, un, lv, gd, outer, base, g, s.heap.objs.size, envOfC qual S s.heap.objs.size f (.ref cc), envOfC qual S s.heap.objs.size f (.ref cc)⟩ := ⟨rfl, rfl, rfl, rfl, fun x hx => hx⟩
      have cf' : CF S ⟨prog, w, K, p, loose, mean, mg, mb, dp, un, lv, gd, outer, base, g, s.heap.objs.size, envOfC qual S s.heap.objs.size f (.ref cc), envOfC qual S s.heap.objs.size f (.ref cc)⟩ := ⟨rfl, rfl, rfl⟩
      refine storeN i₃ (slot_of cf' hg2) (d := d) rl₃ (froz_of hz2) fun s₄ k₄ i₄ => ?_
      refine sndS ok (rz_of ok) r₂ ce' cf' (agr_upd ag hg1) hc2 hw2 av _ _ i₄ _ _ (fun fl fw l5 own5 s5 q rf st5 i5 => ?_) ⟨fun C y ty e hh m s' q => q.elim fun l' q => q.elim fun ρ' q => q.2.elim, fun e hh m s' q => q.elim fun l' q => q.elim fun ρ' q => q.2.elim⟩
      have Tb₅ := (Tb₃.step k₄ (i'.keep P hPa).2.2).step st5 (i₄.keep P hPa).2.2
      obtain ⟨t3, e3⟩ := ss₃
      obtain ⟨h4, t4, e4⟩ := k₄.same
      obtain ⟨h5, t5, e5⟩ := st5.same
      have sm5 : SamS s s5 := ⟨t5, by rw [e5, e4, e3, e', e₁]⟩
      obtain ⟨ρ5, _, q⟩ := q
      cases fl with
      | brk => exact q.elim
      | cont => exact q.elim
      | next =>
        simp only [RelF] at rf
        subst rf
        have hd : res = .none := q
        subst hd
        exact hR _ _ (chg T₃ i5) (Tb₅.sub fun a ha => .inl (List.mem_append_right _ ha)) sm5 (by simp only [Rel])
      | ret d =>
        simp only [RelF] at rf
        obtain ⟨v, rfl, rv, _⟩ := rf
        have hd : d = res := q
        subst hd
        exact hR _ _ (chg T₃ i5) (Tb₅.sub fun a ha => .inl (List.mem_append_right _ ha)) sm5 (Rel.sub (fun a ha => .inl (List.mem_append_right _ ha)) rv)
end Mine
end
section
open PySem PySem.W PySem.Spec PySem.Calls PyProof.Rows
set_option Elab.async false
set_option linter.unusedVariables false
set_option maxRecDepth 100000
namespace Mine
section
variable {M : Model} {A : Around} {E : Value → Shared → Prop} {s : Shared} {b : Bool} {env : PySem.Env}
theorem wm_run {c : Code} {Q : Flow → Shared → Prop} (hc : codeM b M A c (fun r s' => match r with | .ok f => Q f s' | .error e => E e s') s) : wpM b M A (run c none) Q E s := fun Γ p hΓ hu => by
  rw [Sem.wp_run]
  exact hc _ p rfl (hΓ.enter c none p (by intro x; cases x)) fun q => under_cons (hu q)
theorem wm_runOwn {c : Code} {Q : Flow → Shared → Prop} (hc : codeM b M A c (fun r s' => match r with | .ok f => Q f s' | .error e => cameBackBy M A env E e s') s) : wpM b M A (runOwn c env none) Q E s := by
  unfold runOwn
  exact wm_onRaise (wm_run (cm_mono hc fun r s' h => by cases r with | ok f => exact h | error e => exact wm_of h))
theorem wm_For {target iter body orelse pos} {Q : Flow → Shared → Prop}
    (h : wpAny M A (eval iter env) (fun x s₁ => wpAny M A (pyIter x) (fun it s₂ =>
      codeM b M A (.forLoop target it body orelse env) (fun r s' => match r with | .ok f => Q f s' | .error e => cameBackBy M A env E e s') s₂) E s₁) E s)
    (hs : ∀ x, foldedSetIterable iter env x = pure x := by intro _; rfl) : wpM b M A (exec (.For target iter body orelse pos) env) Q E s := by
  rw [exec_For]
  refine wm_seq (wpAny_standAt (wm_seq (wpAny_mono h (fun x s₁ h₁ => wm_seq (wpAny_of_eq (hs x) (wm_seq (wpAny_standAt (wm_seq (wpAny_holding (wpAny_mono h₁ (fun it s₂ h₂ => wm_runOwn h₂) fun _ _ h' => h'))))))) fun _ _ h' => h')))
end
section
variable {prog : Program} {w : World} {A : Around} {E : Value → Shared → Prop} {s : Shared} {b : Bool} {env : PySem.Env}
theorem cm_forLoop {R : Result → Shared → Prop} {target : Expr} {it : Value} {body orelse : List Stmt} (I : Nat → Shared → Prop)
    (turn : ∀ n s, I n s → wpAny (model prog w) A (pyNext it) (fun r s₁ => match r with
      | none => wpAny (model prog w) A (execs orelse env) (fun f s₃ => R (.ok f) s₃) (notedBy (model prog w) A env fun e s' => R (.error e) s') s₁
      | some v => wpAny (model prog w) A (letOwnedTupleGo target it v) (fun _ s₁' =>
          wpAny (model prog w) A (assign target env v) (fun _ s₂ => wpM b (model prog w) A (execs body env) (fun f s₃ => match f with
            | .next => ∃ m, m < n ∧ I m s₃
            | .cont => ∃ m, m < n ∧ I m s₃
            | .brk => R (.ok .next) s₃
            | .ret v => R (.ok (.ret v)) s₃) (notedBy (model prog w) A env fun e s' => R (.error e) s') s₂) (notedBy (model prog w) A env fun e s' => R (.error e) s') s₁') (notedBy (model prog w) A env fun e s' => R (.error e) s') s₁) (notedBy (model prog w) A env fun e s' => R (.error e) s') s)
    (n : Nat) (h : I n s) : codeM b (model prog w) A (.forLoop target it body orelse env) R s := by
  refine cm_loop rfl I (fun n s hI => ?_) n h
  show wpM b _ A ((forTurn target it body orelse env).onRaise (fun x => do noteFrame x env; theTreesLotGoes x)) _ _ s
  refine wm_onRaise (wm_mono (E := notedBy (model prog w) A env fun e s' => R (.error e) s') ?_ (fun _ _ q => q) fun _ _ hx => wm_of (wpAny_bind (wpAny_mono hx (fun _ _ e => wpAny_theTreesLotGoes e) fun _ _ e => e)))
  simp only [forTurn]
  refine wm_seq (wpAny_standAt (wm_seq (wpAny_onRaise (wpAny_mono (turn n s hI) (fun r s₁ h₁ => ?_) fun _ _ h' => wpAny_standAt h'))))
  cases r with
  | none => exact wm_pure (.inr ⟨rfl, cm_of (codeAny_block h₁)⟩)
  | some v =>
    refine wm_seq (wpAny_mono h₁ (fun _ s₁' h₁' => ?_) fun _ _ h' => h')
    refine wm_seq (wpAny_mono h₁' (fun _ s₂ h₂ => wm_bind (wm_mono h₂ (fun f s₃ h₃ => ?_) fun _ _ h' => h')) fun _ _ h' => h')
    cases f with
    | next => exact wm_pure (.inl ⟨rfl, h₃⟩)
    | cont => exact wm_pure (.inl ⟨rfl, h₃⟩)
    | brk => exact wm_pure h₃
    | ret v => exact wm_pure h₃
end
end Mine
end
section
open PySem PySem.W PySem.Spec PySem.Calls PyProof.Rows
set_option Elab.async false
set_option linter.unusedVariables false
set_option maxRecDepth 100000
namespace Mine
theorem callRight {c : Cx} {l : Loc} {lv' : Nat} {f : Str} {fa P : Addr} {ps₀ : Array Value} {lpos px pos : Pos} {lq : Str} {xs : List Expr} {x : Expr} {ds : List D} {res : D} {av own : List Addr} {s : Shared} {R E : Value → Shared → Prop}
    (H : RIGHT c.prog c.w c.K lv' fa P ps₀ lpos lq ds res) (hlv : lv' + 1 ≤ c.lv) (hx : c.env.kindOf f = some .globalImplicit) (hdb : (f == ("__debug__" : Str)) = false) (hg : nsIn c.K mainGlobals f = some (some (.ref fa))) (ho : ∃ o fd, c.K.lookup fa = some o ∧ o.data = .func fd) (hn : ∀ y ∈ x :: xs, nst y = true) (ha : EVL c l (x :: xs) ds)
    (hP : c.h₀.get? P = none) (hPa : P ∈ av) (hloc : c.env.locals = c.L) (hout : c.outer = []) (XB : c.K.In c.base) (TB : Top c.p c.loose c.mean c.mg c.mb c.base) (hbP : c.base.get? P = none)
    (i : Inv c av own l s) (Tb : Tab ps₀ P lpos lq (own ++ av) s.heap)
    (hR : ∀ v s', Inv c av own l s' → Tab ps₀ P lpos lq (own ++ av) s'.heap → KeptBut (P :: own) s.heap s'.heap → SamS s s' → Rel (own ++ av) s'.heap res v → R v s') :
    wpM true c.M c.A (eval (.Call (.Name f px) (x :: xs) [] pos) c.env) R E s := by
  rw [show eval (.Call (.Name f px) (x :: xs) [] pos) c.env = (do callWith pos (← eval (.Name f px) c.env) [] (backTo pos (starEach (x :: xs) c.env)) []) from rfl]
  refine wm_seq (ev_globV hx hg hdb av own s i _ _ fun vv s₁ k₁ r₁ => ?_)
  simp only [Rel] at r₁
  subst r₁
  have i₁ := i.keeps k₁
  obtain ⟨o, fd, ho, hd⟩ := ho
  have hE : backTo pos (starEach (x :: xs) c.env) = (false, eval x c.env) :: backTo pos (starEach xs c.env) := by rw [nst_each (hn _ (.head _))]; rfl
  refine wm_callWith (o := o) (fd := fd) (by rw [nst_any hn]; rfl) ?_
  rw [hE]
  refine evalArgs_plain ?_
  rw [← hE]
  refine ha av own s₁ i₁ pos _ _ fun vs s₂ k₂ r₂ => ⟨⟨(i₁.keeps k₂).keepK _ _ ho, hd⟩, ?_⟩
  have i₂ := i₁.keeps k₂
  obtain ⟨m, F⟩ := i₂.fr
  have hD := i₂.ok.roomD
  have hU := i₂.ok.roomU
  have hfm : (c.fenv :: c.outer).filterMap (·.frame) = [c.L] := by rw [List.filterMap_cons, i.ok.frame, hout]; rfl
  have hLP : c.L ≠ P := fun z => i.off (z ▸ hPa)
  have hLo : c.L ∈ own := hloc ▸ i.loc.1
  refine H (c.dp + 1) (c.un + 3) c.gd (c.fenv :: c.outer) c.base s₂ c.p c.loose c.mean c.mg c.mb (own ++ av) vs R E (by omega) (by omega) (pushX i₂.ok.below F i₂.ok.frame i₂.ok.fkind) XB TB hbP (fun b hb => ?_) (fun a ha => ⟨i₂.alive a ha, notK i₂ a ha⟩) (List.mem_append_right _ hPa) (fun b hb => ?_) ((Tb.kept (kp_kept k₁)).kept (kp_kept k₂)) r₂ fun v s' cg tb sm rl => ?_
  · rw [hfm] at hb
    obtain ⟨o', es, ep, h1, h2, _⟩ := F.ns
    exact ⟨o', es, ep, List.mem_singleton.mp hb ▸ h1, h2⟩
  · rw [hfm] at hb
    exact List.mem_append_left _ (List.mem_singleton.mp hb ▸ hLo)
  · rw [hfm] at cg
    have oth : ∀ b o, s₂.heap.get? b = some o → b ≠ P → b ≠ c.L → s'.heap.get? b = some o := fun b o e n1 n2 => cg.other b o e n1 (by simpa using n2)
    have ns : ∀ m', s₂.heap.Ns c.L m' → s'.heap.Ns c.L m' := fun m' hn => by
      obtain ⟨o, es, ep, h1, h2, r⟩ := hn
      obtain ⟨sl, h⟩ := cg.frame c.L o h1 (.head _) hLP
      exact ⟨_, es, ep, h, h2, r⟩
    obtain ⟨tk, es⟩ := sm
    have i₃ : Inv c av own l s' := by
      rw [es]
      refine i₂.chg (g := c.h₀) [P, c.L] i.ok ⟨m, ns m F.ns, fun b o e => oth b o (F.keep b o e) (fun z => by rw [z, hP] at e; cases e) (fun z => by rw [z, kts_self F] at e; cases e), F.above⟩ (fun _ e => e) (fun a ha => ?_) (fun b o hb e => ?_) (fun a ha => ?_) (fun m' hn => by rw [hloc] at hn ⊢; exact ns m' hn)
      · rcases List.mem_cons.mp ha with z | z
        · exact .inr (z ▸ hPa)
        · exact .inl ((List.mem_singleton.mp z).trans hloc.symm)
      · exact oth b o e (fun z => hb (z ▸ .head _)) (fun z => hb (z ▸ .tail _ (.head _)))
      · by_cases z : a = P
        · obtain ⟨ps, _, h1, _⟩ := tb
          rw [z, h1]; rfl
        · obtain ⟨o, ho⟩ := Option.isSome_iff_exists.mp ha
          by_cases z' : a = c.L
          · rw [z'] at ho ⊢
            obtain ⟨sl, h⟩ := cg.frame c.L o ho (.head _) hLP
            rw [h]; rfl
          · rw [oth a o ho z z']; rfl
    have ks : Kept s.heap s₂.heap := fun b o e => kp_kept k₂ b o (kp_kept k₁ b o e)
    refine hR v s' i₃ tb (fun b o hb e => oth b o (ks b o e) (fun z => hb (z ▸ .head _)) (fun z => hb (.tail _ (z ▸ hLo)))) ?_ rl
    obtain ⟨h1, t1, rfl, _⟩ := k₁
    obtain ⟨h2, t2, rfl, _⟩ := k₂
    exact ⟨tk, es⟩
end Mine
end
section
open PySem PySem.W PySem.Spec PySem.Calls PyProof.Rows
set_option Elab.async false
set_option linter.unusedVariables false
set_option maxRecDepth 100000
namespace Mine
theorem Tab.but {ps₀ : Array Value} {P : Addr} {lpos : Pos} {q : Str} {own wr : List Addr} {h h' : Heap} (x : Tab ps₀ P lpos q own h) (k : KeptBut wr h h') (hP : P ∉ wr) (hw : ∀ a ∈ wr, a ∈ own) : Tab ps₀ P lpos q own h' := by
  obtain ⟨ps, h0, h1, h2, h3⟩ := x
  refine ⟨ps, h0, k _ _ hP h1, h2, h3.imp id fun ⟨c', e1, ⟨c2, oc, vs, tq, z1, z2, z3, z4⟩, e3, e4⟩ => ?_⟩
  cases z1
  exact ⟨c', e1, ⟨c', oc, vs, tq, rfl, k _ _ (fun z => e4 (hw _ z)) z2, z3, z4⟩, e3, e4⟩
theorem forR {c : Cx} {l : Loc} {target iter : Expr} {body : List Stmt} {pos : Pos} {items : List D} {ps₀ : Array Value} {P : Addr} {lpos : Pos} {lq : Str} {av own : List Addr} {s : Shared} {R : Flow → Shared → Prop} {E : Value → Shared → Prop} (h : ITER c l target iter items) (fz : FrozL items) (J : Loc → Prop) (hJ : J l)
    (turn : ∀ l' d, J l' → d ∈ items → ∃ l'', ASG c target l' d l'' ∧ J l'' ∧ ∀ av own s, P ∈ av → Inv c av own l'' s → Tab ps₀ P lpos lq (own ++ av) s.heap → ∀ (R : Flow → Shared → Prop) (E : Value → Shared → Prop), (∀ s', Inv c av own l'' s' → Tab ps₀ P lpos lq (own ++ av) s'.heap → KeptBut (P :: own) s.heap s'.heap → SamS s s' → R .next s') → wpM true c.M c.A (execs body c.env) R E s)
    (i : Inv c av own l s) (hPa : P ∈ av) (Tb : Tab ps₀ P lpos lq (own ++ av) s.heap) (hs : ∀ env x, foldedSetIterable iter env x = pure x)
    (hR : ∀ l' s', J l' → Inv c av own l' s' → Tab ps₀ P lpos lq (own ++ av) s'.heap → KeptBut (P :: own) s.heap s'.heap → SamS s s' → R .next s') : wpM true c.M c.A (exec (.For target iter body [] pos) c.env) R E s := by
  refine wm_For (h av own s i _ _ fun s₁ I fp wr Pp Md St s₂ k₁ k₂ W hst hfp hwr hlive hP => ?_) (hs _)
  have i₁ := i.keeps k₁
  have wrLive : ∀ b ∈ wr, (s₂.heap.get? b).isSome = true := fun b hb => (hfp b (W.sub b hb)).2
  have i₂ : Inv c (wr ++ av) own l s₂ := i₁.more (kp_kept k₂) fun b hb => ⟨hwr b hb, wrLive b hb⟩
  have wr₀ : ∀ b ∈ wr, c.h₀.get? b = none := fun b hb => by
    obtain ⟨m, F⟩ := i₁.fr
    cases e : c.h₀.get? b with
    | none => rfl
    | some o => have := F.keep b o e; rw [hwr b hb] at this; cases this
  have hPo : P ∉ own := (i.keep P hPa).2.2
  have hPw : P ∉ wr := fun z => by
    have := (i₁.keep P hPa).1
    rw [hwr P z] at this; cases this
  have Tb₂ : Tab ps₀ P lpos lq (own ++ (wr ++ av)) s₂.heap := ((Tb.kept (kp_kept k₁)).sub (fun a ha => by
    rcases List.mem_append.mp ha with z | z
    · exact .inl (List.mem_append_left _ z)
    · rcases List.mem_append.mp z with z | z
      · exact .inr (hwr a z)
      · exact .inl (List.mem_append_right _ z))).kept (kp_kept k₂)
  refine cm_forLoop
    (fun k s' => ∃ j l' tk h', j ≤ items.length ∧ k = items.length + 1 - j ∧ s' = { s₂ with heap := h', toks := tk } ∧ St j h' ∧ KeptBut (P :: (wr ++ own)) s₂.heap h' ∧ (∀ b ∈ wr, (h'.get? b).isSome = true) ∧ Inv c (wr ++ av) own l' s' ∧ J l' ∧ Tab ps₀ P lpos lq (own ++ (wr ++ av)) h') ?_ (items.length + 1)
    ⟨0, l, s₂.toks, s₂.heap, Nat.zero_le _, rfl, rfl, hst, fun _ _ _ e => e, wrLive, i₂, hJ, Tb₂⟩
  rintro k s' ⟨j, l', tk, h', hj, rfl, rfl, hst', hk', hwl', i', hJ', Tb'⟩
  have avLive : ∀ {h₂ : Heap}, KeptBut wr h' h₂ → ∀ b ∈ av, (h₂.get? b).isSome = true := fun kb b hb => by
    obtain ⟨o, ho⟩ := Option.isSome_iff_exists.mp (i'.keep b (List.mem_append_right _ hb)).1
    have nb : b ∉ wr := fun z => by
      have := (i₁.keep b hb).1
      rw [hwr b z] at this; cases this
    rw [kb b o nb ho]; rfl
  by_cases hlt : j < items.length
  · refine W.item j _ _ _ hlt hst' fun v' h₁ tk₁ hMd hk₁ => ?_
    refine W.go j v' _ _ _ hMd fun h₂ hPv hst₂ hk₂ => ?_
    have hd : items[j]? = some items[j] := List.getElem?_eq_getElem hlt
    obtain ⟨l₁, hasg, hJ₁, hbody⟩ := turn l' items[j] hJ' (List.getElem_mem hlt)
    have kb : KeptBut wr h' h₂ := fun b o hb e => hk₂ b o hb (hk₁ b o hb e)
    have wl₂ : ∀ b ∈ wr, (h₂.get? b).isSome = true := fun b hb => hlive (j + 1) h₂ hst₂ b (W.sub b hb)
    have i₃ : Inv c (wr ++ av) own l' { s₂ with heap := h₂, toks := tk₁ } := Inv.butAv (wr := wr) (s := { s₂ with heap := h', toks := tk }) i' (fun b hb => List.mem_append_left _ hb) wr₀ kb (fun b hb => ⟨hb, by
      rcases List.mem_append.mp hb with z | z
      · exact wl₂ b z
      · exact avLive kb b z⟩)
    have Tb₃ : Tab ps₀ P lpos lq (own ++ (wr ++ av)) h₂ := Tb'.but kb hPw fun a ha => List.mem_append_right _ (List.mem_append_left _ ha)
    have fd : Froz items[j] := fz.get hd
    have hk₂' : KeptBut (P :: (wr ++ own)) s₂.heap h₂ := fun b o hb e => kb b o (fun z => hb (.tail _ (List.mem_append_left _ z))) (hk' b o hb e)
    have it : ItemAt (own ++ (wr ++ av)) h₂ h₂ items[j] v' := by
      refine ItemAt.step (mu := own ++ av) (own := P :: (wr ++ own)) (h₂ := s₁.heap) fd (fun b o hb e => hk₂' b o hb (kp_kept k₂ b o e)) (fun a z => ?_) (fun a z => ?_) (hP j v' h₂ _ hPv hd)
      · rcases List.mem_cons.mp z with z | z
        · exact .inl (List.mem_append_right _ (z ▸ hPa))
        · rcases List.mem_append.mp z with z | z
          · exact .inr (hwr a z)
          · exact .inl (List.mem_append_left _ z)
      · rcases List.mem_append.mp z with z | z
        · exact .inl (List.mem_append_left _ z)
        · rcases List.mem_append.mp z with z | z
          · exact .inr (hwr a z)
          · exact .inl (List.mem_append_right _ z)
    refine hasg (wr ++ av) own _ v' _ _ i₃ it fd fun s₄ st₄ i₄ => ?_
    refine hbody (wr ++ av) own s₄ (List.mem_append_right _ hPa) i₄ (Tb₃.step st₄ hPo) _ _ fun s₅ i₅ tb₅ kb₅ sm₅ => ?_
    obtain ⟨h4, tk4, e₄⟩ := st₄.same
    obtain ⟨tk₅, e₅⟩ := sm₅
    have e₅' : s₅ = { s₂ with heap := s₅.heap, toks := tk₅ } := by rw [e₅, e₄]
    refine ⟨items.length + 1 - (j + 1), by omega, j + 1, l₁, tk₅, s₅.heap, hlt, rfl, e₅', W.frame (j + 1) h₂ s₅.heap hst₂ (fun b hb o e => ?_), fun b o hb e => ?_, fun b hb => (i₅.keep b (List.mem_append_left _ hb)).1, i₅, hJ₁, tb₅⟩
    · have nb := (hfp b hb).1
      exact kb₅ b o (fun z => (List.mem_cons.mp z).elim (fun z => nb (List.mem_append_right _ (z ▸ hPa))) fun z => nb (List.mem_append_left _ z)) (st₄.kept b o (fun z => nb (List.mem_append_left _ z)) e)
    · have no : b ∉ own := fun z => hb (.tail _ (List.mem_append_right _ z))
      exact kb₅ b o (fun z => (List.mem_cons.mp z).elim (fun z => hb (z ▸ .head _)) no) (st₄.kept b o no (hk₂' b o hb e))
  · have hje : j = items.length := by omega
    subst hje
    refine W.done _ _ _ hst' fun h₁ tk₁ hk₁ => ?_
    have i₃ : Inv c av own l' { s₂ with heap := h₁, toks := tk₁ } := Inv.butAv (wr := wr) (s := { s₂ with heap := h', toks := tk }) i' (fun b hb => List.mem_append_left _ hb) wr₀ hk₁ (fun b hb => ⟨List.mem_append_right _ hb, avLive hk₁ b hb⟩)
    refine wpAny_pure (hR l' _ hJ' i₃ ?_ (fun b o hb e => ?_) ?_)
    · exact (Tb'.but hk₁ hPw fun a ha => List.mem_append_right _ (List.mem_append_left _ ha)).sub fun a ha => .inl ((List.mem_append.mp ha).elim (List.mem_append_left _) fun z => List.mem_append_right _ (List.mem_append_right _ z))
    · have e1 := kp_kept k₁ b o e
      have nb : b ∉ wr := fun z => by rw [hwr b z] at e1; cases e1
      exact hk₁ b o nb (hk' b o (fun z => (List.mem_cons.mp z).elim (fun z => hb (z ▸ .head _)) fun z => (List.mem_append.mp z).elim nb fun z => hb (.tail _ z)) (kp_kept k₂ b o e1))
    · obtain ⟨h1, t1, rfl, _⟩ := k₁
      obtain ⟨h2, t2, rfl, _⟩ := k₂
      exact ⟨tk₁, rfl⟩
end Mine
end
section
open PySem PySem.W PySem.Spec PySem.Calls PyProof.Rows
set_option Elab.async false
set_option linter.unusedVariables false
set_option maxRecDepth 100000
namespace Mine
theorem wm_isTrue_notCall {b : Bool} {prog : Program} {w : World} {A : Around} {E : Value → Shared → Prop} {s : Shared} {env : PySem.Env} {f : Expr} {xs : List Expr} {pos pos' : Pos} {whole : Sem Value} {Q : Bool → Shared → Prop} (h : wpM b (model prog w) A (eval (.Call f xs [] pos) env) (fun v s' => v = .bool true ∧ Q false s') E s) :
    wpM b (model prog w) A (isTrue (.UnaryOp .Not (.Call f xs [] pos) pos') env whole) Q E s := by
  rw [arm_isTrue_UnaryOp]
  show wpM b _ A (do let v ← (do let v ← eval (.Call f xs [] pos) env; standAt (Expr.pos (.Call f xs [] pos)); holding [v] (truthy v)); pure (!v)) Q E s
  refine wm_bind (wm_bind (wm_mono h (fun v s' q => ?_) fun _ _ z => z))
  obtain ⟨rfl, q⟩ := q
  exact wm_seq (wpAny_standAt (wm_holding (wm_of (wpAny_truthy_bool (wm_pure q)))))
theorem lawY {prog : Program} {w : World} {K : Frag} {lv lvr : Nat} {f fr P : Addr} {S : Scope} {ns : List Str} {sn vn rn name qual : Str} {params : Arguments} {ea eb ec : Expr} {ra rb rc : RE} {script items : List D} {fig : D → D} {dV kV doc pm cdv ct oc : Value} {an od : Option Addr} {osl : Array (Option Value)} {ps₀ : Array Value} {lpos : Pos} {lq : Str} {k1 k2 : Nat} {q2 q4 q6 q7 q8 q9 q10 q11 q12 q13 q14 : Pos}
    (ok : XOk ⟨prog, w, K, lv, true⟩) (hlv : lvr + 1 ≤ lv)
    (ho : K.lookup f = some ⟨oc, od, .func (fnOf name qual params [.For (.Name vn q4) (.BinOp ea .Add eb q2) [.If (.UnaryOp .Not (.Call (.Name rn q6) [ec] [] q7) q8) [.Return (some (.Constant (.bool false) k1 q9)) q10] [] q11] [] q12, .Return (some (.Constant (.bool true) k2 q13)) q14] S dV kV doc pm an cdv ct), osl⟩) (hcd : codeIn K cdv qual = true)
    (hb : ∀ (s : Shared) (v : Value), BindsTo s (fnOf name qual params [.For (.Name vn q4) (.BinOp ea .Add eb q2) [.If (.UnaryOp .Not (.Call (.Name rn q6) [ec] [] q7) q8) [.Return (some (.Constant (.bool false) k1 q9)) q10] [] q11] [] q12, .Return (some (.Constant (.bool true) k2 q13)) q14] S dV kV doc pm an cdv ct) ⟨[v], []⟩ [(sn, v)])
    (hns : ns = sn :: ns.drop 1) (hck : fnChk S [sn] = true) (hz : frozB.frozBs script = true) (hzi : frozB.frozBs items = true)
    (ca : chk ns ra S true ea = true) (cb : chk ns rb S true eb = true) (cc : chk ns rc S true ec = true) (hvn : storeAt S ns 1 vn = true) (hrn : glob S rn = true) (hrg : nsIn K mainGlobals rn = some (some (.ref fr))) (hro : ∃ o fd, K.lookup fr = some o ∧ o.data = .func fd) (hec : nst ec = true)
    (hKP : K.lookup P = none)
    (hab : ∃ xs ys, wp ⟨prog, w, K, lv, true⟩ ra .v [some (.lst script), none] (fun d => d = .lst xs) ∧ wp ⟨prog, w, K, lv, true⟩ rb .v [some (.lst script), none] (fun d => d = .lst ys) ∧ xs.length ≤ 1000 ∧ ys.length ≤ 1000 ∧ items = xs ++ ys)
    (hc : ∀ d ∈ items, (∀ ds, d ≠ .tup ds) ∧ wp ⟨prog, w, K, lv, true⟩ rc .v [some (.lst script), some d] (fun r => r = fig d) ∧ RIGHT prog w K lvr fr P ps₀ lpos lq [fig d] (.bool true))
    {dp un : Nat} {gd : Option (List Code)} {s : Shared} {p : Program} {loose : List Str} {mean : ExcName → Option Value} {mg mb : Str → Option Value} {v : Value} {R E : Value → Shared → Prop} (hD : dp + 1 + lv < recursionLimit) (hU : un + 3 + 20 * lv + 60 < cLine) (B : Below (aTop dp un gd []) (hideAll s.heap [P]) [] (hideAll s.heap [P])) (X : K.In s.heap) (T : Top p loose mean mg mb (hideAll s.heap [P])) (nl : s.heap.NoLimit)
    (Tb : Tab ps₀ P lpos lq [P] s.heap) (r : Rel [P] s.heap (.lst script) v)
    (hR : ∀ s', KeptBut [P] s.heap s'.heap → Tab ps₀ P lpos lq [P] s'.heap → SamS s s' → R (.bool true) s') : wpM true (model prog w) (aTop dp un gd []) (call (.ref f) [v]) R E s := by
  obtain ⟨h1, h2, h3, h4, h5, h6⟩ := fnChk_out hck
  have hPt : ∃ ps, s.heap.get? P = some (tabObj ps) := by obtain ⟨ps, _, h1, _⟩ := Tb; exact ⟨ps, h1⟩
  have X' : K.In (hideAll s.heap [P]) := fun a o e => hide_get (X a o e) (fun z => by rw [z, hKP] at e; cases e)
  refine wm_call (cm_call (o := _) (fd := fnOf name qual params _ S dV kV doc pm an cdv ct) (Nat.lt_of_le_of_lt (by show dp ≤ dp + 1 + lv; omega) hD) (X _ _ ho) rfl h3 h4 rfl (codeRec_of X hcd) (hb s v _ _ _ _ ?_))
  have hkind : ∀ x ∈ [sn], S.names.lookup x = some .local ∨ (S.names.lookup x = some .cell ∧ ((cellsFrom (s.heap.objs.size + 1) S.names []).lookup x).isSome = true) := fun x hx => (h1 x hx).imp id fun q => ⟨q, cellsFrom_some S.names _ [] (.inl q)⟩
  refine wpAny_newFunctionEnv_cells h5 (fun x hx => hkind x.1 (by rw [List.mem_singleton.mp hx]; exact .head _)) fun env' he s₁ xc => ?_
  subst he
  refine ⟨nl.keeps xc.toInCall.keep, cm_func ?_⟩
  have i := startC (prog := prog) (w := w) (lv := lv) (qual := qual) (f := f) (cdv := cdv) (names := [sn]) (args := [.lst script]) (vs := [v]) (av := [P]) hD hU (fun b o e => of_hideAll _ e) (hideAll_size _ _) B X' T (fun a ha => by
    obtain ⟨ps, e⟩ := hPt
    rw [List.mem_singleton.mp ha, e]; exact ⟨rfl, hKP⟩) (by simp only [RelL]; exact ⟨v, [], rfl, r, rfl⟩) (frozs_of (show frozB.frozBs [.lst script] = true by show (frozB.frozBs script && true) = true; rw [hz]; rfl)) h5 hkind rfl h2 h6 xc
  have ce : CE ⟨prog, w, K, lv, true⟩ S ⟨prog, w, K, p, loose, mean, mg, mb, dp, un, lv, gd, [], hideAll s.heap [P], hideAll s.heap [P], s.heap.objs.size, envOfC qual S s.heap.objs.size f cdv, envOfC qual S s.heap.objs.size f cdv⟩ := ⟨rfl, rfl, rfl, rfl, fun x hx => hx⟩
  have cf : CF S ⟨prog, w, K, p, loose, mean, mg, mb, dp, un, lv, gd, [], hideAll s.heap [P], hideAll s.heap [P], s.heap.objs.size, envOfC qual S s.heap.objs.size f cdv, envOfC qual S s.heap.objs.size f cdv⟩ := ⟨rfl, rfl, rfl⟩
  have ag : Agr ns [some (.lst script), none] ([sn].zip [.lst script]) := fun j d h => by
    cases j with
    | zero => exact ⟨sn, by rw [hns]; rfl, by rw [← Option.some.inj (show some (D.lst script) = some d from h)]; exact if_pos rfl⟩
    | succ j => exact absurd h (nth_nil (k := 1))
  obtain ⟨xs, ys, wa, wb, l1, l2, rfl⟩ := hab
  obtain ⟨_, e1, rfl⟩ := snd ok ra ce (cg_of cf) ag ca wa
  obtain ⟨_, e2, rfl⟩ := snd ok rb ce (cg_of cf) ag cb wb
  obtain ⟨hv1, hv2⟩ := and2 hvn
  obtain ⟨hr1, hr2⟩ := glob_out hrn
  have hP₀ : (hideAll s.heap [P]).get? P = none := hideAll_none _ (.head _)
  have fresh : ∀ a ∈ s.heap.objs.size :: (cellsFrom (s.heap.objs.size + 1) S.names []).map (·.2), s.heap.get? a = none := fun a ha => by
    cases e : s.heap.get? a with
    | none => rfl
    | some o =>
      have h1 := (i.mine a ha).1
      rw [hide_get e (fun (z : a = P) => (i.keep P (.head _)).2.2 (z ▸ ha))] at h1; cases h1
  have hPo := (i.keep P (.head _)).2.2
  have Tb₁ := (Tb.sub (own' := (s.heap.objs.size :: (cellsFrom (s.heap.objs.size + 1) S.names []).map (·.2)) ++ [P]) fun a ha => (List.mem_append.mp ha).elim (fun z => .inr (fresh a z)) .inl).kept xc.toInCall.keep
  obtain ⟨_, hsrc, rfl⟩ := src_out (c := ⟨prog, w, K, p, loose, mean, mg, mb, dp, un, lv, gd, [], hideAll s.heap [P], hideAll s.heap [P], s.heap.objs.size, envOfC qual S s.heap.objs.size f cdv, envOfC qual S s.heap.objs.size f cdv⟩) (x := .lst (xs ++ ys)) (K := fun ds => ds = xs ++ ys) rfl
  refine wm_execs_cons (forR (it_ev (ev_bin e1 e2 (bin_addL l1 l2)) (src_w hsrc)) (frozs_of hzi) (fun l' => ∃ o, Agr ns [some (.lst script), o] l') ⟨none, ag⟩ (fun l' d hJ hd => ?_) i (.head _) Tb₁ (fun _ _ => rfl) fun l' s₃ _ i₃ tb₃ kb₃ sm₃ => ?_)
  · obtain ⟨o, agl⟩ := hJ
    obtain ⟨hnt, wc, HR⟩ := hc d hd
    have agd : Agr ns [some (.lst script), some d] (put l' vn d) := agr_upd agl hv1
    refine ⟨put l' vn d, asg_name (slot_of cf hv2) hnt rfl, ⟨some d, agd⟩, fun av own s₄ hPa i₄ tb₄ R' E' hR' => ?_⟩
    obtain ⟨_, e3, rfl⟩ := snd ok rc ce (cg_of cf) agd cc wc
    refine wm_execs_cons (wm_If (wm_isTrue_notCall (callRight HR hlv hr1 hr2 hrg hro (fun y hy => by rw [List.mem_singleton.mp hy]; exact hec) (evl_cons e3 evl_nil (nst_each hec)) hP₀ hPa rfl rfl X' T hP₀ i₄ tb₄ fun v₅ s₅ i₅ tb₅ kb₅ sm₅ rl₅ => ⟨by simpa only [Rel] using rl₅, ?_⟩)))
    exact wm_pure (wm_pure (hR' s₅ i₅ tb₅ kb₅ sm₅))
  · refine wm_execs_cons (wm_Return (wm_of (wpAny_Constant_bool (hR s₃ (fun b o hb e => ?_) (tb₃.sub fun a ha => .inl (List.mem_append_right _ ha)) ?_))))
    · have nb : b ∉ s.heap.objs.size :: (cellsFrom (s.heap.objs.size + 1) S.names []).map (·.2) := fun z => by rw [fresh b z] at e; cases e
      exact kb₃ b o (fun z => (List.mem_cons.mp z).elim (fun z => hb (z ▸ .head _)) nb) (xc.toInCall.keep b o e)
    · obtain ⟨h₁, tk₁, e₁⟩ := xc.toInCall.same
      obtain ⟨t3, e3⟩ := sm₃
      exact ⟨t3, by rw [e3, e₁]⟩
end Mine
end
section
open PySem PySem.W PyProof.Rows
set_option Elab.async false
namespace Mine
set_option maxRecDepth 100000 in
set_option maxHeartbeats 0 in
noncomputable def hz : { C : Prop // Later C → PySem.Challenge.rw_op0036_02.Holds } := by
  refine ⟨?C, fun hc => ?f⟩
  case f =>
    w_on; refine holds_law (by kernel_rfl) fun said => ?_; z_head
    (case hw => w_witness2)
    exact hc.h
end Mine
end
section
open PySem PySem.W PySem.Spec PySem.Calls PyProof.Rows
set_option Elab.async false
set_option maxRecDepth 100000
namespace Mine
noncomputable def KF (P : Params) : Frag :=
  (nat_lit 0, hz.zo_1 P) :: (nat_lit 1, hz.zo_2 P) :: (nat_lit 2, hz.zo_3 P) :: (nat_lit 3, hz.zo_4 P) :: (nat_lit 4, hz.zo_5 P) :: (nat_lit 5, hz.zo_6 P) :: (nat_lit 6, hz.zo_7 P) :: (nat_lit 7, hz.zo_8 P) :: (nat_lit 8, hz.zo_9 P) :: (nat_lit 9, hz.zo_10 P) :: (nat_lit 10, hz.zo_11 P) :: (nat_lit 11, hz.zo_12 P) :: (nat_lit 12, hz.zo_13 P) :: (nat_lit 13, hz.zo_14 P) :: (nat_lit 14, hz.zo_15 P) :: (nat_lit 15, hz.zo_16 P) :: (nat_lit 16, hz.zo_17 P) :: (nat_lit 17, hz.zo_18 P) :: (nat_lit 18, hz.zo_19 P) :: (nat_lit 19, hz.zo_20 P) :: (nat_lit 20, hz.zo_21 P) :: (nat_lit 21, hz.zo_22 P) :: (nat_lit 22, hz.zo_23 P) :: (nat_lit 23, hz.zo_24 P) :: (nat_lit 24, hz.zo_25 P) :: (nat_lit 25, hz.zo_26 P) :: (nat_lit 26, hz.zo_27 P) :: (nat_lit 27, hz.zo_28 P) :: (nat_lit 28, hz.zo_29 P) :: (nat_lit 29, hz.zo_30 P) :: (nat_lit 30, hz.zo_31 P) :: (nat_lit 31, hz.zo_32 P) :: (nat_lit 32, hz.zo_33 P) :: (nat_lit 33, hz.zo_34 P) :: (nat_lit 34, hz.zo_35 P) :: (nat_lit 35, hz.zo_36 P) :: (nat_lit 36, hz.zo_37 P) :: (nat_lit 37, hz.zo_38 P) :: (nat_lit 38, hz.zo_39 P) :: (nat_lit 39, hz.zo_40 P) :: (nat_lit 40, hz.zo_41 P) :: (nat_lit 41, hz.zo_42 P) :: (nat_lit 42, hz.zo_43 P) :: (nat_lit 43, hz.zo_44 P) :: (nat_lit 44, hz.zo_45 P) :: (nat_lit 45, hz.zo_46 P) :: (nat_lit 46, hz.zo_47 P) :: (nat_lit 47, hz.zo_48 P) :: (nat_lit 48, hz.zo_49 P) :: (nat_lit 49, hz.zo_50 P) :: (nat_lit 50, hz.zo_51 P) :: (nat_lit 51, hz.zo_52 P) :: (nat_lit 52, hz.zo_53 P) :: (nat_lit 53, hz.zo_54 P) :: (nat_lit 54, hz.zo_55 P) :: (nat_lit 55, hz.zo_56 P) :: (nat_lit 56, hz.zo_57 P) :: (nat_lit 57, hz.zo_58 P) :: (nat_lit 58, hz.zo_59 P) :: (nat_lit 59, hz.zo_60 P) :: (nat_lit 60, hz.zo_61 P) :: (nat_lit 61, hz.zo_62 P) :: (nat_lit 62, hz.zo_63 P) :: (nat_lit 63, hz.zo_64 P) :: (nat_lit 64, hz.zo_65 P) :: (nat_lit 65, hz.zo_66 P) :: (nat_lit 66, hz.zo_67 P) :: (nat_lit 67, hz.zo_68 P) :: (nat_lit 68, hz.zo_69 P) :: (nat_lit 69, hz.zo_70 P) :: (nat_lit 70, hz.zo_71 P) :: (nat_lit 71, hz.zo_72 P) :: (nat_lit 72, hz.zo_73 P) :: (nat_lit 73, hz.zo_74 P) :: (nat_lit 74, hz.zo_75 P) :: (nat_lit 75, hz.zo_76 P) :: (nat_lit 76, hz.zo_77 P) :: (nat_lit 77, hz.zo_78 P) :: (nat_lit 78, hz.zo_79 P) :: (nat_lit 79, hz.zo_80 P) :: (nat_lit 80, hz.zo_81 P) :: (nat_lit 81, hz.zo_82 P) :: (nat_lit 82, hz.zo_83 P) :: (nat_lit 83, hz.zo_84 P) :: (nat_lit 84, hz.zo_85 P) :: (nat_lit 85, hz.zo_86 P) :: (nat_lit 86, hz.zo_87 P) :: (nat_lit 87, hz.zo_88 P) :: (nat_lit 88, hz.zo_89 P) :: (nat_lit 89, hz.zo_90 P) :: (nat_lit 90, hz.zo_91 P) :: (nat_lit 91, hz.zo_92 P) :: (nat_lit 92, hz.zo_93 P) :: (nat_lit 93, hz.zo_94 P) :: (nat_lit 94, hz.zo_95 P) :: (nat_lit 95, hz.zo_96 P) :: (nat_lit 96, hz.zo_97 P) :: (nat_lit 97, hz.zo_98 P) :: (nat_lit 98, hz.zo_99 P) :: (nat_lit 99, hz.zo_100 P) :: (nat_lit 106, hz.zo_101 P) :: (nat_lit 107, hz.zo_102 P) :: (nat_lit 108, hz.zo_103 P) :: (nat_lit 109, hz.zo_104 P) :: (nat_lit 112, hz.zo_105 P) :: (nat_lit 119, hz.zo_106 P) :: (nat_lit 120, hz.zo_107 P) :: (nat_lit 121, hz.zo_108 P) :: (nat_lit 124, hz.zo_109 P) :: (nat_lit 131, hz.zo_110 P) :: (nat_lit 132, hz.zo_111 P) :: (nat_lit 133, hz.zo_112 P) :: (nat_lit 136, hz.zo_113 P) :: (nat_lit 137, hz.zo_114 P) :: (nat_lit 138, hz.zo_115 P) :: (nat_lit 139, hz.zo_116 P) :: (nat_lit 140, hz.zo_117 P) :: (nat_lit 141, hz.zo_118 P) :: (nat_lit 142, hz.zo_119 P) :: (nat_lit 143, hz.zo_120 P) :: (nat_lit 144, hz.zo_121 P) :: (nat_lit 145, hz.zo_122 P) :: (nat_lit 146, hz.zo_123 P) :: (nat_lit 147, hz.zo_124 P) :: (nat_lit 148, hz.zo_125 P) :: (nat_lit 149, hz.zo_126 P) :: (nat_lit 150, hz.zo_127 P) :: (nat_lit 151, hz.zo_128 P) :: (nat_lit 152, hz.zo_129 P) :: (nat_lit 153, hz.zo_130 P) :: (nat_lit 154, hz.zo_131 P) :: (nat_lit 155, hz.zo_132 P) :: (nat_lit 156, hz.zo_133 P) :: (nat_lit 157, hz.zo_134 P) :: (nat_lit 158, hz.zo_135 P) :: (nat_lit 159, hz.zo_136 P) :: (nat_lit 160, hz.zo_137 P) :: (nat_lit 161, hz.zo_138 P) :: (nat_lit 162, hz.zo_139 P) :: (nat_lit 163, hz.zo_140 P) :: (nat_lit 164, hz.zo_141 P) :: (nat_lit 165, hz.zo_142 P) :: (nat_lit 166, hz.zo_143 P) :: (nat_lit 167, hz.zo_144 P) :: (nat_lit 168, hz.zo_145 P) :: (nat_lit 169, hz.zo_146 P) :: (nat_lit 170, hz.zo_147 P) :: (nat_lit 171, hz.zo_148 P) :: (nat_lit 172, hz.zo_149 P) :: (nat_lit 173, hz.zo_150 P) :: (nat_lit 174, hz.zo_151 P) :: (nat_lit 175, hz.zo_152 P) :: (nat_lit 176, hz.zo_153 P) :: (nat_lit 177, hz.zo_154 P) :: (nat_lit 178, hz.zo_155 P) :: (nat_lit 179, hz.zo_156 P) :: (nat_lit 180, hz.zo_157 P) :: (nat_lit 181, hz.zo_158 P) :: (nat_lit 182, hz.zo_159 P) :: (nat_lit 183, hz.zo_160 P) :: (nat_lit 184, hz.zo_161 P) :: (nat_lit 185, hz.zo_162 P) :: (nat_lit 186, hz.zo_163 P) :: (nat_lit 187, hz.zo_164 P) :: (nat_lit 188, hz.zo_165 P) :: (nat_lit 190, hz.zo_167 P) :: (nat_lit 191, hz.zo_168 P) :: (nat_lit 192, hz.zo_169 P) :: (nat_lit 193, hz.zo_170 P) :: (nat_lit 194, hz.zo_171 P) :: (nat_lit 195, hz.zo_172 P) :: (nat_lit 196, hz.zo_173 P) :: (nat_lit 197, hz.zo_174 P) :: (nat_lit 198, hz.zo_175 P) :: (nat_lit 199, hz.zo_176 P) :: []
theorem KF_eq (P : Params) : KF P = (hz.heap_176 P).filter fun q => !(Nat.beq q.1 189) := by kernel_rfl
theorem lookup_filter {p : Addr × Obj → Bool} {a : Addr} {o : Obj} : ∀ {l : List (Addr × Obj)}, (l.filter p).lookup a = some o → (∀ x y, p (a, x) = p (a, y)) → p (a, o) = true ∧ (l.lookup a = some o)
  | [], h, _ => by cases h
  | (b, x) :: r, h, hp => by
    rw [List.filter_cons] at h
    by_cases q : a = b
    · subst q
      by_cases hx : p (a, x) = true
      · rw [if_pos hx, List.lookup_cons, beq_self_eq_true] at h
        rw [List.lookup_cons, beq_self_eq_true]
        exact ⟨(hp _ _).trans hx, h⟩
      · rw [if_neg hx] at h
        have := (lookup_filter h hp).1
        rw [hp o x] at this
        exact absurd this hx
    · have e : (a == b) = false := by simpa using q
      rw [List.lookup_cons, e]
      by_cases hx : p (b, x) = true
      · rw [if_pos hx, List.lookup_cons, e] at h
        exact lookup_filter h hp
      · rw [if_neg hx] at h
        exact lookup_filter h hp
theorem KF_in {P : Params} {h : Heap} (X : (hz.heap_176 P).In h) : (KF P).In h := fun a o e => by
  rw [KF_eq] at e
  exact X a o (lookup_filter e fun _ _ => rfl).2
theorem KF_off {P : Params} : (KF P).lookup 189 = none := by
  cases e : (KF P).lookup 189 with
  | none => rfl
  | some o =>
    rw [KF_eq] at e
    exact absurd (lookup_filter e fun _ _ => rfl).1 Bool.false_ne_true
end Mine
end
section
open PySem PySem.W PySem.Spec PySem.Calls PyProof.Rows
set_option Elab.async false
set_option linter.unusedVariables false
set_option maxRecDepth 100000
namespace Mine
noncomputable abbrev X1 (w : World) (lv : Nat) : Fx := ⟨PySem.Challenge.rw_op0036_02.row.prog, w, KF w.params, lv, false⟩
noncomputable def a_error_reply : Addr := 121
noncomputable def a_error_proto : Addr := 133
noncomputable def d_B64 : D := .bytes b64tab.toArray
noncomputable def rows (l : List (Int × String)) : D := .tup (l.map fun p => .tup [.int p.1, .str (Str.ofString p.2)])
noncomputable def d_table : D := .tup [rows [(40960, "l"), (49152, "s"), (32768, "-"), (24576, "b"), (16384, "d"), (8192, "c"), (4096, "p")], rows [(256, "r")], rows [(128, "w")], rows [(2112, "s"), (2048, "S"), (64, "x")], rows [(32, "r")], rows [(16, "w")], rows [(1032, "s"), (1024, "S"), (8, "x")], rows [(4, "r")], rows [(2, "w")], rows [(513, "t"), (512, "T"), (1, "x")]]
noncomputable def r_S_IFMT : RS :=
  (.ret (.bin .BitAnd (.v 0) (.int 61440)))
noncomputable def ns_filemode : List Str := ["mode", "perm", "index", "table", "bit", "char"]
noncomputable def r_filemode : RS :=
  (.new 1 .nil
  (.for_ [2, 3] true (.g "_filemode_table" d_table)
  (.for_ [4, 5] false (.v 3)
  (.ite (.cmp .Eq (.v 2) (.int 0))
  (.ite (.cmp .Eq (.fc "S_IFMT" (.cons (.v 0) .nil)) (.v 4))
  (.app 1 (.v 5)
  .brk)
  .done
  .done)
  (.ite (.cmp .Eq (.bin .BitAnd (.v 0) (.v 4)) (.v 4))
  (.app 1 (.v 5)
  .brk)
  .done
  .done)
  .done)
  (.ite (.cmp .Eq (.v 2) (.int 0))
  (.app 1 (.str "?")
  .done)
  (.app 1 (.str "-")
  .done)
  .done)
  .done)
  .done
  (.frz 1 (.ret (.me .join (.str "") (.cons (.v 1) .nil))))))
noncomputable def ns_buffer : List Str := ["data", "t"]
noncomputable def r_buffer : RS :=
  (.set 1 (.bc .type (.cons (.v 0) .nil))
  (.ite (.cmp .Is (.v 1) (.b .bytes))
  (.ret (.v 0))
  .done
  (.ite (.cmp .Is (.v 1) (.b .bytearray))
  (.ret (.bc .bytes (.cons (.v 0) .nil)))
  .done
  .fls)))
noncomputable def ns_truth : List Str := ["x", "t"]
noncomputable def r_truth : RS :=
  (.set 1 (.bc .type (.cons (.v 0) .nil))
  (.ite (.or (.cons (.cmp .Is (.v 0) .none) (.cons (.cmp .Is (.v 1) (.b .bool)) (.cons (.cmp .Is (.v 1) (.b .int)) (.cons (.cmp .Is (.v 1) (.b .float)) (.cons (.cmp .Is (.v 1) (.b .complex)) (.cons (.cmp .Is (.v 1) (.b .str)) (.cons (.cmp .Is (.v 1) (.b .bytes)) (.cons (.cmp .Is (.v 1) (.b .bytearray)) (.cons (.cmp .Is (.v 1) (.b .list)) (.cons (.cmp .Is (.v 1) (.b .tuple)) (.cons (.cmp .Is (.v 1) (.b .dict)) (.cons (.cmp .Is (.v 1) (.b .set)) (.cons (.cmp .Is (.v 1) (.b .frozenset)) (.cons (.cmp .Is (.v 1) (.b .range)) .nil)))))))))))))))
  (.ret (.ite (.v 0) (.bool true) (.bool false)))
  .done
  .fls))
noncomputable def ns_b2a_base64 : List Str := ["data", "newline", "bin_data", "out", "leftbits", "leftchar", "b"]
noncomputable def r_b2a_base64 : RS :=
  (.set 2 (.fc "_buffer" (.cons (.v 0) .nil))
  (.set 1 (.fc "_truth" (.cons (.v 1) .nil))
  (.new 3 .nil
  (.set 4 (.int 0)
  (.set 5 (.int 0)
  (.for_ [6] false (.v 2)
  (.set 5 (.bin .BitAnd (.bin .BitOr (.bin .LShift (.v 5) (.int 8)) (.v 6)) (.int 65535))
  (.set 4 (.bin .Add (.v 4) (.int 8))
  (.while_ (.cmp .GtE (.v 4) (.int 6))
  (.app 3 (.sub (.g "_B64" d_B64) (.bin .BitAnd (.bin .RShift (.v 5) (.bin .Sub (.v 4) (.int 6))) (.int 63)))
  (.set 4 (.bin .Sub (.v 4) (.int 6))
  .done))
  .done
  .done)))
  .done
  (.ite (.cmp .Eq (.v 4) (.int 2))
  (.app 3 (.sub (.g "_B64" d_B64) (.bin .LShift (.bin .BitAnd (.v 5) (.int 3)) (.int 4)))
  (.app 3 (.int 61)
  (.app 3 (.int 61)
  .done)))
  (.ite (.cmp .Eq (.v 4) (.int 4))
  (.app 3 (.sub (.g "_B64" d_B64) (.bin .LShift (.bin .BitAnd (.v 5) (.int 15)) (.int 2)))
  (.app 3 (.int 61)
  .done))
  .done
  .done)
  (.ite (.v 1)
  (.app 3 (.int 10)
  .done)
  .done
  (.frz 3 (.ret (.bc .bytes (.cons (.v 3) .nil))))))))))))
noncomputable def ns_b64encode : List Str := ["s", "altchars", "encoded"]
noncomputable def r_b64encode : RS :=
  (.set 2 (.fk "b2a_base64" (.cons (.v 0) .nil) "newline" (.bool false))
  (.ite (.cmp .IsNot (.v 1) .none)
  (.asrt (.cmp .Eq (.bc .len (.cons (.v 1) .nil)) (.int 2))
  (.ret (.me .translate (.v 2) (.cons (.mt (.cons (.byt [43, 47]) (.cons (.v 1) .nil))) .nil))))
  .done
  (.ret (.v 2))))
noncomputable def ns_parse229 : List Str := ["resp", "peer", "left", "right", "parts", "host", "port"]
noncomputable def r_parse229 : RS :=
  (.ite (.cmp .NotEq (.cut (.v 0) .none (.int 3) false true) (.str "229"))
  (.rse "error_reply" a_error_reply (.v 0))
  .done
  (.set 2 (.me .find (.v 0) (.cons (.str "(") .nil))
  (.ite (.cmp .Lt (.v 2) (.int 0))
  (.rse "error_proto" a_error_proto (.v 0))
  .done
  (.set 3 (.me .find (.v 0) (.cons (.str ")") (.cons (.bin .Add (.v 2) (.int 1)) .nil)))
  (.ite (.cmp .Lt (.v 3) (.int 0))
  (.rse "error_proto" a_error_proto (.v 0))
  .done
  (.ite (.cmp .NotEq (.sub (.v 0) (.bin .Add (.v 2) (.int 1))) (.sub (.v 0) (.bin .Sub (.v 3) (.int 1))))
  (.rse "error_proto" a_error_proto (.v 0))
  .done
  (.set 4 (.me .split (.cut (.v 0) (.bin .Add (.v 2) (.int 1)) (.v 3) true true) (.cons (.sub (.v 0) (.bin .Add (.v 2) (.int 1))) .nil))
  (.ite (.cmp .NotEq (.bc .len (.cons (.v 4) .nil)) (.int 5))
  (.rse "error_proto" a_error_proto (.v 0))
  .done
  (.set 5 (.sub (.v 1) (.int 0))
  (.seti 6 (.sub (.v 4) (.int 3))
  (.ret (.tup (.cons (.v 5) (.cons (.v 6) .nil))))))))))))))
noncomputable def ns_law_drawn : List Str := ["n", "j", "modes", "more", "taker", "one", "figure", "takers"]
noncomputable def r_law_drawn : RS :=
  (.un3 2 3 4 (.cons (.int 0) (.cons (.int 0) (.cons (.int 0) (.cons (.int 0) (.cons (.int 0) .nil))))) (.bin .Mod (.bin .Add (.bin .Mod (.bin .FloorDiv (.v 0) (.bin .Pow (.int 10) (.int 12))) (.int 100)) (.int 12)) (.int 16)) (.bin .Mod (.bin .FloorDiv (.v 0) (.bin .Pow (.int 10) (.int 14))) (.int 3))
  (.for_ [1] false (.bc .range (.cons (.int 12) .nil))
  (.un2 6 7 (.bin .Mod (.bin .FloorDiv (.v 0) (.bin .Pow (.int 10) (.v 1))) (.int 10)) .nil
  (.itj (.cmp .Gt (.v 6) (.int 3))
  (.app 7 (.bin .Mod (.bin .Sub (.v 6) (.int 4)) (.int 3))
  .done)
  .done
  (.itj (.and (.cmp .Eq (.v 1) (.v 3)) (.cmp .NotIn (.v 4) (.v 7)))
  (.app 7 (.v 4)
  .done)
  .done
  (.itj (.cmp .Gt (.v 6) (.int 1))
  (.aui 2 (.int 0) .Add (.bin .Pow (.int 2) (.v 1))
  .done)
  .done
  (.frz 7 (.for_ [5] false (.v 7)
  (.aui 2 (.bin .Add (.v 5) (.int 1)) .Add (.bin .Pow (.int 2) (.v 1))
  .done)
  .done
  (.itj (.and (.cmp .Gt (.v 6) (.int 1)) (.not (.v 7)))
  (.aui 2 (.int 4) .Add (.bin .Pow (.int 2) (.v 1))
  .done)
  .done
  .done)))))))
  .done
  (.frz 2 (.ret (.v 2)))))
noncomputable def ns_law_figures : List Str := ["mode", "k", "listing", "figures", "ends", "rights"]
noncomputable def r_law_figures : RS :=
  (.un2 2 3 (.fc "filemode" (.cons (.v 0) .nil)) (.cons (.int 0) (.cons (.int 0) (.cons (.int 0) (.cons (.int 0) .nil))))
  (.ite (.or (.cons (.cmp .NotEq (.bc .len (.cons (.v 2) .nil)) (.int 10)) (.cons (.cmp .NotEq (.sub (.v 2) (.int 0)) (.sub (.str "?pc?d?b?-?l?s???") (.bin .FloorDiv (.v 0) (.int 4096)))) .nil)))
  (.ret (.lst .nil))
  .done
  (.for_ [1] false (.bc .range (.cons (.int 3) .nil))
  (.set 4 (.itj (.cmp .Eq (.v 1) (.int 2)) (.str "-xTt") (.str "-xSs"))
  (.set 5 (.lst (.cons (.me .find (.str "-r") (.cons (.sub (.v 2) (.bin .Add (.bin .Mult (.int 3) (.v 1)) (.int 1))) .nil)) (.cons (.me .find (.str "-w") (.cons (.sub (.v 2) (.bin .Add (.bin .Mult (.int 3) (.v 1)) (.int 2))) .nil)) (.cons (.me .find (.v 4) (.cons (.sub (.v 2) (.bin .Add (.bin .Mult (.int 3) (.v 1)) (.int 3))) .nil)) .nil))))
  (.ite (.cmp .Lt (.bc .min (.cons (.v 5) .nil)) (.int 0))
  (.ret (.lst .nil))
  .done
  (.aui 3 (.int 0) .Add (.bin .Mult (.bin .FloorDiv (.sub (.v 5) (.int 2)) (.int 2)) (.bin .Pow (.int 2) (.bin .Sub (.int 2) (.v 1))))
  (.sti 3 (.bin .Add (.v 1) (.int 1)) (.bin .Add (.bin .Add (.bin .Mult (.int 4) (.sub (.v 5) (.int 0))) (.bin .Mult (.int 2) (.sub (.v 5) (.int 1)))) (.bin .Mod (.sub (.v 5) (.int 2)) (.int 2)))
  .done)))))
  .done
  (.frz 3 (.ret (.v 3))))))
noncomputable def ns_law_reply : List Str := ["figures", "letter", "sixes", "octets", "i", "packed", "octet", "figure"]
noncomputable def r_law_reply : RS :=
  (.set 2 (.bin .Add (.bin .Add (.lst (.cons (.int 54) (.cons (.int 54) (.cons (.int 61) (.cons (.v 1) (.cons (.int 62) (.cons (.v 1) (.cons (.v 1) (.cons (.v 1) .nil))))))))) (.comp (.bin .Add (.int 52) (.v 7)) 7 (.v 0) .none false [])) (.lst (.cons (.v 1) (.cons (.int 63) (.cons (.int 25) (.cons (.v 1) .nil))))))
  (.new 3 .nil
  (.for_ [4] false (.bc .range (.cons (.int 0) (.cons (.int 16) (.cons (.int 4) .nil))))
  (.set 5 (.bin .Add (.bin .Mult (.bin .Add (.bin .Mult (.bin .Add (.bin .Mult (.int 64) (.sub (.v 2) (.v 4))) (.sub (.v 2) (.bin .Add (.v 4) (.int 1)))) (.int 64)) (.sub (.v 2) (.bin .Add (.v 4) (.int 2)))) (.int 64)) (.sub (.v 2) (.bin .Add (.v 4) (.int 3))))
  (.ext 3 (.cons (.bin .FloorDiv (.v 5) (.int 65536)) (.cons (.bin .Mod (.bin .FloorDiv (.v 5) (.int 256)) (.int 256)) (.cons (.bin .Mod (.v 5) (.int 256)) .nil)))
  .done))
  .done
  (.frz 3 (.ret (.me .join (.str "") (.cons (.comp (.bc .chr (.cons (.v 6) .nil)) 6 (.fc "b64encode" (.cons (.bc .bytes (.cons (.v 3) .nil)) (.cons (.byt [40, 41]) .nil))) .none false []) .nil)))))))
noncomputable def ns_law_halved : List Str := ["number", "found"]
noncomputable def r_law_halved : RS :=
  (.set 1 (.int 0)
  (.while_ (.v 0)
  (.aug 0 .FloorDiv (.int 2)
  (.aug 1 .Add (.v 0)
  .done))
  .done
  (.ret (.v 1))))
noncomputable def ns_law_odd : List Str := ["mode", "masks", "rest", "mask"]
noncomputable def r_law_odd : RS :=
  (.set 2 (.bin .Sub (.v 0) (.bc .sum (.cons (.v 1) .nil)))
  (.ret (.and (.cmp .GtE (.v 2) (.int 0)) (.cmp .Eq (.fc "_law_halved" (.cons (.v 0) .nil)) (.bin .Add (.bc .sum (.cons (.comp (.fc "_law_halved" (.cons (.v 3) .nil)) 3 (.v 1) .none false []) .nil)) (.fc "_law_halved" (.cons (.v 2) .nil)))))))
noncomputable def ns_law_number : List Str := ["figures"]
noncomputable def r_law_number : RS :=
  (.ret (.bin .Add (.bin .Add (.bin .Add (.bin .Mult (.int 1000) (.sub (.v 0) (.int 0))) (.bin .Mult (.int 100) (.sub (.v 0) (.int 1)))) (.bin .Mult (.int 10) (.sub (.v 0) (.int 2)))) (.sub (.v 0) (.int 3))))
noncomputable def ns_law_right : List Str := ["n", "modes", "shown", "less", "due", "reply", "got", "i", "c", "mode"]
noncomputable def r_right1 : RS :=
  (.set 1 (.fc "_law_drawn" (.cons (.v 0) .nil))
  (.set 2 (.comp (.fc "_law_figures" (.cons (.bin .Add (.bin .Mult (.int 4096) (.bin .Mod (.bin .Add (.bin .FloorDiv (.v 0) (.int 100)) (.bin .Mult (.int 2) (.v 7))) (.int 16))) (.sub (.v 1) (.v 7))) .nil)) 7 (.bc .range (.cons (.int 5) .nil)) .none false [0, 1])
  (.ite (.cmp .In (.lst .nil) (.v 2))
  (.ret (.bool false))
  .done
  (.setc 3 (.bin .Sub (.bin .Sub (.bin .Sub (.sub (.sub (.v 2) (.int 0)) (.v 8)) (.sub (.sub (.v 2) (.int 1)) (.v 8))) (.sub (.sub (.v 2) (.int 2)) (.v 8))) (.sub (.sub (.v 2) (.int 3)) (.v 8))) 8 (.bc .range (.cons (.int 4) .nil)) .none false [2]
  (.set 4 (.comp (.comp (.bin .Mod (.bin .FloorDiv (.v 9) (.bin .Pow (.int 8) (.bin .Sub (.int 3) (.v 8)))) (.int 8)) 8 (.bc .range (.cons (.int 4) .nil)) .none false [9]) 9 (.cut (.v 1) .none (.int 4) false true) .none false [])
  (.set 4 (.comp (.bin .Sub (.bin .Sub (.bin .Sub (.sub (.sub (.v 4) (.int 0)) (.v 8)) (.sub (.sub (.v 4) (.int 1)) (.v 8))) (.sub (.sub (.v 4) (.int 2)) (.v 8))) (.sub (.sub (.v 4) (.int 3)) (.v 8))) 8 (.bc .range (.cons (.int 4) .nil)) .none false [4])
  (.set 5 (.fc "_law_reply" (.cons (.v 3) (.cons (.bin .Mod (.v 0) (.int 26)) .nil)))
  .done)))))))
noncomputable def r_right2 : RS :=
  (.ite (.cmp .NotEq (.v 6) (.itj (.cmp .Lt (.bc .min (.cons (.v 4) .nil)) (.int 0)) (.tup (.cons (.str "unread") .nil)) (.tup (.cons (.str "10.0.0.7") (.cons (.fc "_law_number" (.cons (.v 4) .nil)) .nil)))))
  (.ret (.bool false))
  .done
  (.ret (.cmp .Eq (.cmp .Eq (.v 6) (.tup (.cons (.str "10.0.0.7") (.cons (.fc "_law_number" (.cons (.sub (.v 2) (.int 4)) .nil)) .nil)))) (.fc "_law_odd" (.cons (.sub (.v 1) (.int 0)) (.cons (.cut (.v 1) (.int 1) (.int 4) true true) .nil))))))
noncomputable def ns_law : List Str := ["script", "n"]
noncomputable def r_lawA : RE := (.cut (.v 0) .none (.int 2) false true)
noncomputable def r_lawB : RE := (.lst (.cons (.int 202250624205) (.cons (.int 4222222222225) (.cons (.int 5402250624000) .nil))))
noncomputable def r_lawC : RE := (.bin .Mod (.v 1) (.bin .Pow (.int 10) (.int 15)))
end Mine
end
section
open PySem PySem.W PySem.Spec PySem.Calls PyProof.Rows
set_option Elab.async false
set_option linter.unusedVariables false
set_option maxRecDepth 100000
namespace Mine
theorem ok1 (w : World) (lv : Nat) : XOk (X1 w lv) := by
  have h : PySem.Challenge.rw_op0036_02.row.prog = PySem.Challenge.rw_op0036_02.row.prog ∧ KF w.params = KF w.params := ⟨rfl, rfl⟩
  suffices H : (∀ f : BF, nsIn (KF w.params) mainGlobals f.nm = some none) ∧ nsIn (KF w.params) mainGlobals "enumerate" = some none ∧ findCls (KF w.params) (.type "bytes") (.type "type") "maketrans" = some (.val (.builtin "bytes.maketrans")) ∧ PySem.Challenge.rw_op0036_02.row.prog = PySem.Challenge.rw_op0036_02.row.prog from ⟨H.1, H.2.1, H.2.2.1⟩
  k_fill
  refine ⟨fun f => ?_, ?_, ?_, rfl⟩
  · cases f <;> (unfold BF.nm; k_is)
  · k_is
  · k_is
theorem rz1 {w : World} {lv : Nat} {S : Scope} {ns : List Str} : Rz (X1 w lv) S ns := rz_of (ok1 w lv)
theorem c_ifmt (w : World) (m : Int) (lv : Nat) : CALL PySem.Challenge.rw_op0036_02.row.prog w (KF w.params) lv 28 [.int m] (.int (Builtin.bitAnd m 61440)) := by
  k_fill
  refine' fn_byO (names := ["mode"]) (more := []) (r := r_S_IFMT) (k := 0) (ok1 w lv) (fun _ => rz1) ?ho ?hcd ?hb ?hl ?hz ?hck ?hc ?h
  (case ho => kernel_rfl)
  (case hcd => kernel_rfl)
  (case hb => intro s vs _ _ h; exact hb1E (fun a => by kernel_rfl) vs h)
  (case hl => exact rfl)
  (case hz => exact rfl)
  (case hck => kernel_rfl)
  (case hc => kernel_rfl)
  case h =>
    dsimp only [r_S_IFMT, wpS, wp, ini, nones, nth, binD, arD, intD, fin, frozB, endQ]
    exact ⟨rfl, rfl⟩
end Mine
end
section
open PySem PySem.W PySem.Spec PySem.Calls PyProof.Rows
set_option Elab.async false
set_option linter.unusedVariables false
set_option maxRecDepth 100000
namespace Mine
theorem ckn (w : World) : CKn (KF w.params) 121 133 := by
  suffices H : CKn (KF w.params) 121 133 ∧ PySem.Challenge.rw_op0036_02.row.prog = PySem.Challenge.rw_op0036_02.row.prog from H.1
  k_fill
  refine ⟨⟨by k_is, by k_is, by k_is, by k_is, ?_, ?_, ?_, ?_, ?_, ?_, ?_, ?_, by k_is, by k_is⟩, rfl⟩
  all_goals first | k_is | exact rfl
end Mine
end
section
open PySem PySem.W PySem.Spec PySem.Calls PyProof.Rows
set_option Elab.async false
set_option linter.unusedVariables false
set_option maxRecDepth 100000
namespace Mine
noncomputable def txt2 (a b : Str) (k : Int) : Str := if k = 0 then a else b
noncomputable def three (f a : Int) (p : Bool) : Str := Txt.item "-r" (f / 4) ++ Txt.item "-w" (f / 2 % 2) ++ Txt.item (txt2 "-x" (if p then "Tt" else "Ss") a) (f % 2)
noncomputable def listed (m : Int) : Str := Txt.item "?pc?d?b?-?l?s???" (m / 4096 % 16) ++ three (m / 64 % 8) (m / 2048 % 2) false ++ three (m / 8 % 8) (m / 1024 % 2) false ++ three (m / 1 % 8) (m / 512 % 2) true
end Mine
end
section
open PySem PySem.W PySem.Spec PySem.Calls PyProof.Rows
set_option Elab.async false
set_option linter.unusedVariables false
set_option maxRecDepth 100000
namespace Mine
mutual
noncomputable def relIn (K : Frag) : Nat → D → Value → Bool
  | 0, _, _ => false
  | n + 1, d, v => match d, v with
    | .int i, .int j _ => i == j
    | .str x, .str y _ => x == y
    | .bytes x, .bytes y _ => x == y
    | .tup l, .ref a => (match K.lookup a with
      | some ⟨.type t, _, .seq vs _, _⟩ => t == "tuple" && relInL K n l vs.toList
      | _ => false)
    | _, _ => false
noncomputable def relInL (K : Frag) : Nat → List D → List Value → Bool
  | _, [], [] => true
  | n, d :: ds, v :: vs => relIn K n d v && relInL K n ds vs
  | _, _, _ => false
end
theorem relIn_ok {K : Frag} {mu : List Addr} {h : Heap} (X : K.In h) (hm : ∀ a ∈ mu, K.lookup a = none) : ∀ (n : Nat), (∀ d v, relIn K n d v = true → Rel mu h d v) ∧ ∀ ds vs, relInL K n ds vs = true → RelL mu h ds vs
  | n => by
    have step : (∀ d v, relIn K n d v = true → Rel mu h d v) → ∀ ds vs, relInL K n ds vs = true → RelL mu h ds vs := fun hd ds => by
      induction ds with
      | nil => intro vs e; cases vs with
        | nil => simp only [RelL]
        | cons _ _ => unfold relInL at e; cases e
      | cons d ds ih => intro vs e; cases vs with
        | nil => unfold relInL at e; cases e
        | cons v vs =>
          unfold relInL at e
          obtain ⟨e1, e2⟩ := and2 e
          simp only [RelL]
          exact ⟨v, vs, rfl, hd d v e1, ih vs e2⟩
    suffices H : ∀ d v, relIn K n d v = true → Rel mu h d v from ⟨H, step H⟩
    cases n with
    | zero => intro d v e; unfold relIn at e; cases e
    | succ n =>
      intro d v e
      unfold relIn at e
      split at e
      · simp only [Rel]; exact ⟨_, by rw [eq_of_beq e]⟩
      · simp only [Rel]; exact ⟨_, by rw [eq_of_beq e]⟩
      · simp only [Rel]; exact ⟨_, by rw [eq_of_beq e]⟩
      · split at e
        · rename_i ho
          obtain ⟨e1, e2⟩ := and2 e
          have ht := eq_of_beq e1
          subst ht
          simp only [Rel]
          exact ⟨_, _, rfl, fun z => (by rw [hm _ z] at ho; cases ho), ⟨_, X _ _ ho, rfl, _, rfl⟩, (relIn_ok X hm n).2 _ _ e2⟩
        · cases e
      · cases e
theorem gv_in {X : Fx} {x : Str} {d : D} {v : Value} (n : Nat) (h1 : nsIn X.K mainGlobals x = some (some v)) (h2 : relIn X.K n d v = true) : GV X x d := ⟨v, h1, fun mu h hk hm => (relIn_ok hk hm n).1 d v h2⟩
theorem gv_B64 (w : World) (lv : Nat) : GV (X1 w lv) "_B64" d_B64 := by
  suffices H : GV (X1 w lv) "_B64" d_B64 ∧ nsIn (KF w.params) mainGlobals "len" = some none ∧ PySem.Challenge.rw_op0036_02.row.prog = PySem.Challenge.rw_op0036_02.row.prog from H.1
  k_fill
  refine ⟨?_, by k_is, rfl⟩
  refine' gv_in 3 ?h1 ?h2
  case h1 => show nsIn (KF w.params) mainGlobals "_B64" = _; k_is
  case h2 => show relIn (KF w.params) 3 _ _ = true; kernel_rfl
theorem gv_table (w : World) (lv : Nat) : GV (X1 w lv) "_filemode_table" d_table := by
  suffices H : GV (X1 w lv) "_filemode_table" d_table ∧ nsIn (KF w.params) mainGlobals "len" = some none ∧ PySem.Challenge.rw_op0036_02.row.prog = PySem.Challenge.rw_op0036_02.row.prog from H.1
  k_fill
  refine ⟨?_, by k_is, rfl⟩
  refine' gv_in 6 ?h1 ?h2
  case h1 => show nsIn (KF w.params) mainGlobals "_filemode_table" = _; k_is
  case h2 => show relIn (KF w.params) 6 _ _ = true; kernel_rfl
end Mine
end
section
open PySem PySem.W PySem.Spec PySem.Calls PyProof.Rows
set_option Elab.async false
set_option linter.unusedVariables false
set_option maxRecDepth 100000
namespace Mine
noncomputable def pick (p : Int → Bool) (d : Str) : List (Int × String) → Str
  | [] => d
  | (b, x) :: r => bif p b then Str.ofString x else pick p d r
noncomputable def isB (m : Int) (i : Int) (b : Int) : Bool := bif i == 0 then Builtin.bitAnd m 61440 == b else Builtin.bitAnd m b == b
noncomputable def dflt (i : Int) : Str := bif i == 0 then "?" else "-"
noncomputable def fm2 : RS :=
  (.ite (.cmp .Eq (.v 2) (.int 0))
  (.ite (.cmp .Eq (.fc "S_IFMT" (.cons (.v 0) .nil)) (.v 4))
  (.app 1 (.v 5)
  .brk)
  .done
  .done)
  (.ite (.cmp .Eq (.bin .BitAnd (.v 0) (.v 4)) (.v 4))
  (.app 1 (.v 5)
  .brk)
  .done
  .done)
  .done)
noncomputable def fmE : RS :=
  (.ite (.cmp .Eq (.v 2) (.int 0))
  (.app 1 (.str "?")
  .done)
  (.app 1 (.str "-")
  .done)
  .done)
section
variable {X : Fx} {m i : Int} {acc : List D} {row : D} {Q : PQ}
theorem fm_in (hF : FN X "S_IFMT" [.int m] (.int (Builtin.bitAnd m 61440))) (hl : acc.length ≤ 1000) : ∀ (l : List (Int × String)) (o4 o5 : Option D), (∀ o4 o5, Q .next [some (.int m), some (.mls (acc ++ [.str (pick (isB m i) (dflt i) l)])), some (.int i), some row, o4, o5]) →
    wpFor [4, 5] (wpS X fm2) (wpS X fmE) Q (l.map fun p => .tup [.int p.1, .str (Str.ofString p.2)]) [some (.int m), some (.mls acc), some (.int i), some row, o4, o5]
  | [], o4, o5, h => by
    have h := h o4 o5
    show wpS X fmE _ (noX Q)
    refine ⟨fun a => ?_, fun a => ?_⟩
    · refine ⟨⟨rfl, by omega⟩, ?_⟩
      have e : pick (isB m i) (dflt i) [] = Str.ofString "?" := by show dflt i = _; unfold dflt; rw [a]; rfl
      rw [e] at h; exact h
    · refine ⟨⟨rfl, by omega⟩, ?_⟩
      have e : pick (isB m i) (dflt i) [] = Str.ofString "-" := by show dflt i = _; unfold dflt; rw [a]; rfl
      rw [e] at h; exact h
  | (b, x) :: l, o4, o5, h => by
    refine ⟨rfl, ?_⟩
    have hit : isB m i b = true → Q .next [some (.int m), some (.mls (acc ++ [.str (Str.ofString x)])), some (.int i), some row, some (.int b), some (.str (Str.ofString x))] := fun e => by
      have h := h (some (.int b)) (some (.str (Str.ofString x)))
      have e' : pick (isB m i) (dflt i) ((b, x) :: l) = Str.ofString x := by show (bif isB m i b then _ else _) = _; rw [e]; rfl
      rw [e'] at h; exact h
    have miss : isB m i b = false → wpFor [4, 5] (wpS X fm2) (wpS X fmE) Q (l.map fun p => .tup [.int p.1, .str (Str.ofString p.2)]) [some (.int m), some (.mls acc), some (.int i), some row, some (.int b), some (.str (Str.ofString x))] := fun e => fm_in hF hl l _ _ fun o4 o5 => by
      have h := h o4 o5
      have e' : pick (isB m i) (dflt i) ((b, x) :: l) = pick (isB m i) (dflt i) l := by show (bif isB m i b then _ else _) = _; rw [e]; rfl
      rw [e'] at h; exact h
    show wpS X fm2 _ (loopQ _ Q)
    refine ⟨fun a => ⟨_, hF, fun c => ⟨⟨rfl, by omega⟩, hit ?_⟩, fun c => miss ?_⟩, fun a => ⟨fun c => ⟨⟨rfl, by omega⟩, hit ?_⟩, fun c => miss ?_⟩⟩
    all_goals (unfold isB; rw [a]; exact c)
theorem frozRows : ∀ (l : List (Int × String)), frozB.frozBs (l.map fun p => .tup [.int p.1, .str (Str.ofString p.2)]) = true
  | [] => rfl
  | p :: l => frozRows l
theorem frozTable (k : Nat) : ∀ (ts : List (List (Int × String))), frozB.frozBs (enumFrom k (ts.map rows)) = true
  | [] => rfl
  | l :: ts => by
    show ((true && (frozB.frozBs (l.map fun p => .tup [.int p.1, .str (Str.ofString p.2)]) && true)) && frozB.frozBs (enumFrom (k + 1) (ts.map rows))) = true
    rw [frozRows l, frozTable (k + 1) ts]; rfl
noncomputable def signs (m : Int) : Nat → List (List (Int × String)) → List Str
  | _, [] => []
  | k, l :: r => pick (isB m k) (dflt k) l :: signs m (k + 1) r
noncomputable def fm1 : RS := .for_ [4, 5] false (.v 3) fm2 fmE .done
theorem fm_out (hcl : X.cl = false) (hF : FN X "S_IFMT" [.int m] (.int (Builtin.bitAnd m 61440))) : ∀ (ts : List (List (Int × String))) (k : Nat) (acc : List D) (o2 o3 o4 o5 : Option D), acc.length + ts.length ≤ 1000 → (∀ o2 o3 o4 o5, Q .next [some (.int m), some (.mls (acc ++ (signs m k ts).map .str)), o2, o3, o4, o5]) →
    wpFor [2, 3] (wpS X fm1) (wpS X .done) Q (enumFrom k (ts.map rows)) [some (.int m), some (.mls acc), o2, o3, o4, o5]
  | [], k, acc, o2, o3, o4, o5, _, h => by
    have h := h o2 o3 o4 o5
    rw [show (signs m k []).map D.str = [] from rfl, List.append_nil] at h
    exact h
  | l :: ts, k, acc, o2, o3, o4, o5, hl, h => by
    simp only [List.length_cons] at hl
    refine ⟨rfl, hcl, ?_⟩
    refine And.intro (frozRows l) ?_
    refine fm_in hF (by omega) l _ _ fun o4 o5 => ?_
    refine fm_out hcl hF ts (k + 1) _ _ _ _ _ (by rw [List.length_append, List.length_singleton]; omega) fun o2 o3 o4 o5 => ?_
    have h := h o2 o3 o4 o5
    rw [List.append_assoc]
    exact h
end
noncomputable def fmT : List (List (Int × String)) := [[(40960, "l"), (49152, "s"), (32768, "-"), (24576, "b"), (16384, "d"), (8192, "c"), (4096, "p")], [(256, "r")], [(128, "w")], [(2112, "s"), (2048, "S"), (64, "x")], [(32, "r")], [(16, "w")], [(1032, "s"), (1024, "S"), (8, "x")], [(4, "r")], [(2, "w")], [(513, "t"), (512, "T"), (1, "x")]]
noncomputable def shown (m : Int) : Str := Txt.join (Str.ofString "") (signs m 0 fmT)
theorem dflt_len (i : Int) : (dflt i).length = 1 := by
  unfold dflt
  cases (i == 0) <;> decide +kernel
theorem pick_len {p : Int → Bool} {d : Str} (hd : d.length = 1) : ∀ (l : List (Int × String)), (∀ q ∈ l, (Str.ofString q.2).length = 1) → (pick p d l).length = 1
  | [], _ => hd
  | (b, x) :: r, h => by
    show (bif p b then Str.ofString x else pick p d r).length = 1
    cases p b with
    | true => exact h _ (.head _)
    | false => exact pick_len hd r fun q hq => h q (.tail _ hq)
theorem signs_len (m : Int) : ∀ (ts : List (List (Int × String))) (k : Nat), (∀ l ∈ ts, ∀ q ∈ l, (Str.ofString q.2).length = 1) → ∀ y ∈ signs m k ts, y.length = 1
  | [], _, _, y, hy => nomatch hy
  | l :: ts, k, h, y, hy => by
    rcases List.mem_cons.mp hy with rfl | hy
    · exact pick_len (dflt_len _) l (h l (.head _))
    · exact signs_len m ts (k + 1) (fun l' hl => h l' (.tail _ hl)) y hy
theorem fmT_len : ∀ l ∈ fmT, ∀ q ∈ l, (Str.ofString q.2).length = 1 := by
  have : (fmT.all fun l => l.all fun q => (Str.ofString q.2).length == 1) = true := by decide +kernel
  intro l hl q hq
  exact eq_of_beq (List.all_eq_true.mp (List.all_eq_true.mp this l hl) q hq)
theorem fold_ones : ∀ (ys : List Str) (n : Nat), (∀ y ∈ ys, y.length = 1) → ys.foldl (fun a y => a + y.length + (Str.ofString "").length) n = n + ys.length
  | [], n, _ => rfl
  | y :: ys, n, h => by
    rw [List.foldl_cons, fold_ones ys _ fun z hz => h z (.tail _ hz), h y (.head _), show (Str.ofString "").length = 0 from by decide +kernel, List.length_cons]
    omega
theorem joinOk_ones (ys : List Str) (h : ∀ y ∈ ys, y.length = 1) (hl : ys.length ≤ 1000) : JoinOk (Str.ofString "") ys = true := by
  unfold JoinOk
  rw [List.foldl_toArray, fold_ones ys 0 h]
  unfold Builtin.Str.tooLong
  have := szl
  simp only [Bool.not_eq_true', decide_eq_false_iff_not]
  omega
theorem c_filemode (w : World) (m : Int) (lv : Nat) : CALL PySem.Challenge.rw_op0036_02.row.prog w (KF w.params) (lv + 1) 68 [.int m] (.str (shown m)) := by
  k_fill
  refine' fn_byO (names := ["mode"]) (more := ns_filemode.drop 1) (r := r_filemode) (k := 5) (ok1 w _) (fun _ => rz1) ?ho ?hcd ?hb ?hl ?hz ?hck ?hc ?h
  (case ho => kernel_rfl)
  (case hcd => kernel_rfl)
  (case hb => intro s vs _ _ h; exact hb1E (fun v0 => by kernel_rfl) vs h)
  (case hl => exact rfl)
  (case hz => exact rfl)
  (case hck => kernel_rfl)
  (case hc => kernel_rfl)
  case h =>
    have hF : FN (X1 w (lv + 1)) "S_IFMT" [.int m] (.int (Builtin.bitAnd m 61440)) := by
      refine' fn_at (c_ifmt w m lv) ?hg ?ho (Nat.le_refl _)
      ((case hg => k_is); (case ho => kernel_rfl))
    unfold r_filemode
    refine And.intro ⟨by decide, rfl⟩ ?_
    refine And.intro rfl (And.intro (gv_table w _) ?_)
    refine And.intro (frozTable 0 fmT) ?_
    refine fm_out rfl hF fmT 0 [] _ _ _ _ (by decide) fun o2 o3 o4 o5 => ?_
    refine ⟨signs m 0 fmT, rfl, ?_, rfl, rfl⟩
    exact joinOk_ones _ (signs_len m fmT 0 fmT_len) (by show (signs m 0 fmT).length ≤ 1000; exact Nat.le_of_ble_eq_true rfl)
end Mine
end
section
open PySem PySem.W PySem.Spec PySem.Calls PyProof.Rows
set_option Elab.async false
set_option linter.unusedVariables false
set_option maxRecDepth 100000
namespace Mine
theorem c_buffer (w : World) (b : Array UInt8) (lv : Nat) : CALL PySem.Challenge.rw_op0036_02.row.prog w (KF w.params) lv 75 [.bytes b] (.bytes b) := by
  k_fill
  refine' fn_byO (names := ["data"]) (more := ns_buffer.drop 1) (r := r_buffer) (k := 1) (ok1 w _) (fun _ => rz1) ?ho ?hcd ?hb ?hl ?hz ?hck ?hc ?h
  (case ho => kernel_rfl)
  (case hcd => kernel_rfl)
  (case hb => intro s vs _ _ h; exact hb1E (fun v0 => by kernel_rfl) vs h)
  (case hl => exact rfl)
  (case hz => exact rfl)
  (case hck => kernel_rfl)
  (case hc => kernel_rfl)
  case h =>
    unfold r_buffer
    exact ⟨rfl, by decide +kernel, fun _ => ⟨rfl, rfl⟩, fun a => nomatch a⟩
theorem c_truth (w : World) (b : Bool) (lv : Nat) : CALL PySem.Challenge.rw_op0036_02.row.prog w (KF w.params) lv 82 [.bool b] (.bool b) := by
  k_fill
  refine' fn_byO (names := ["x"]) (more := ns_truth.drop 1) (r := r_truth) (k := 1) (ok1 w _) (fun _ => rz1) ?ho ?hcd ?hb ?hl ?hz ?hck ?hc ?h
  (case ho => kernel_rfl)
  (case hcd => kernel_rfl)
  (case hb => intro s vs _ _ h; exact hb1E (fun v0 => by kernel_rfl) vs h)
  (case hl => exact rfl)
  (case hz => exact rfl)
  (case hck => kernel_rfl)
  (case hc => kernel_rfl)
  case h =>
    unfold r_truth
    refine ⟨rfl, (fun a => nomatch a), fun _ => ⟨by decide +kernel, fun _ => ⟨fun _ => ⟨fun a => ⟨rfl, ?_⟩, fun a => ⟨rfl, ?_⟩⟩, fun a => nomatch a⟩, fun a => nof (show true = false from a).symm⟩⟩
    · rw [a]; rfl
    · rw [a]; rfl
end Mine
end
section
open PySem PySem.W PySem.Spec PySem.Calls PyProof.Rows
set_option Elab.async false
set_option linter.unusedVariables false
set_option maxRecDepth 100000
namespace Mine
noncomputable abbrev X2 (w : World) (lv : Nat) : Fx := ⟨PySem.Challenge.rw_op0036_02.row.prog, w, KF w.params, lv, true⟩
theorem ok2 (w : World) (lv : Nat) : XOk (X2 w lv) := ⟨(ok1 w lv).1, (ok1 w lv).2, (ok1 w lv).3⟩
noncomputable def pParts (R : Str) (n : Nat) : List Str := Txt.split (Txt.slice R (some 5) (some (5 + n))) (Txt.item R 5)
noncomputable def pOut (R : Str) (n : Nat) (host : Str) : Ov :=
  bif Txt.slice R none (some 3) != Str.ofString "229" then .exc 121 R else
  bif Txt.item R 5 != Txt.item R (5 + n - 1) then .exc 133 R else
  bif ((pParts R n).length : Int) != 5 then .exc 133 R else
  match intOf ((pParts R n).getD 3 Str.empty) with
  | some k => .ret (.tup [.str host, .int k])
  | none => .ve
theorem froz_strs : ∀ l : List Str, frozB.frozBs (l.map .str) = true
  | [] => rfl
  | x :: xs => froz_strs xs
theorem getD_mem {e : Str} : ∀ {l : List Str} {i : Nat}, i < l.length → l.getD i e ∈ l
  | [], _, h => absurd h (Nat.not_lt_zero _)
  | x :: xs, 0, _ => .head _
  | x :: xs, i + 1, h => .tail _ (getD_mem (l := xs) (Nat.succ_lt_succ_iff.mp h))
theorem getD_map {e : Str} : ∀ {l : List Str} {i : Nat}, i < l.length → (l.map D.str)[i]? = some (.str (l.getD i e))
  | [], _, h => absurd h (Nat.not_lt_zero _)
  | x :: xs, 0, _ => rfl
  | x :: xs, i + 1, h => getD_map (l := xs) (Nat.succ_lt_succ_iff.mp h)
theorem c_parse (w : World) (R host : Str) (n lv : Nat) (hf : Txt.find R (Str.ofString "(") = 4) (hr : Txt.find3 R (Str.ofString ")") 5 = 5 + n) (h1 : 5 + n < R.length) (h2 : R.length ≤ 100) (h0 : 1 ≤ n)
    (hp : ∀ p ∈ pParts R n, p.length ≤ 100 ∧ (reprText p).length ≤ sizeLine)
    (hb : (Builtin.Str.partsBetween (Txt.slice R (some 5) (some (5 + n))) (Builtin.Str.occurrences (Txt.slice R (some 5) (some (5 + n))) (Txt.item R 5) 0 (Txt.slice R (some 5) (some (5 + n))).length ((Txt.slice R (some 5) (some (5 + n))).length + 1)) (Txt.item R 5).length).length ≤ sizeLine)
    (hlen : (pParts R n).length ≤ 2 ^ 60) (hs : (Txt.slice R (some 5) (some (5 + n))).length ≤ 100) : CALLX PySem.Challenge.rw_op0036_02.row.prog w (KF w.params) lv 142 [.str R, .tup [.str host, .int 21]] (fun o => o = pOut R n host) := by
  have sz := szl
  k_fill
  refine' fn_byXO (names := ["resp", "peer"]) (more := ns_parse229.drop 2) (r := r_parse229) (k := 5) (ok2 w lv) ?ho ?hcd ?hb ?hl ?hz ?hck ?hnc ?hc ?h
  (case ho => kernel_rfl)
  (case hcd => kernel_rfl)
  (case hb => intro s vs h; exact hb2E (fun a b => by kernel_rfl) vs h)
  (case hl => exact rfl)
  (case hz => exact rfl)
  (case hck => kernel_rfl)
  (case hnc => kernel_rfl)
  (case hc => kernel_rfl)
  case h =>
    have xr1 : nsIn (KF w.params) mainGlobals (Str.ofString "error_reply") = some (some (Value.ref a_error_reply)) := by unfold a_error_reply; k_is
    have xr2 : excIn (KF w.params) a_error_reply [Value.type "Exception", Value.type "BaseException", Value.type "object"] "Exception.__new__" = true := by unfold a_error_reply; k_exc
    have xp1 : nsIn (KF w.params) mainGlobals (Str.ofString "error_proto") = some (some (Value.ref a_error_proto)) := by unfold a_error_proto; k_is
    have xp2 : excIn (KF w.params) a_error_proto [Value.type "Exception", Value.type "BaseException", Value.type "object"] "Exception.__new__" = true := by unfold a_error_proto; k_exc
    unfold r_parse229
    dsimp only [wpS, wp, ini, nones, nth, upd, updAll, capE, binD, addLD, addD, arD, intD, strD, bytD, valD, boolD, lstD, nilD, hdD, oneD, twoD, truD, fin, augD, noneD, eqD, neD, isD, isnD, inD, ninD, cmD, atD, itD, partD, cuD, lenD, typeD, rangeD, bcD, findD, meD, mtD, srcD, ifD, m0, m1, m01, m23, at_, mlsAt, tupD, asgE, wpFor, seqQ, joinQ, loopQ, noX, endQ, frozB, frozB.frozBs, enumFrom, BF.vl, List.reverseAux, List.nil_append, List.cons_append, Int.reduceSub, Int.reduceAdd, Int.reduceMul, Int.reduceToNat, Int.reducePow, Int.reduceNeg, Int.reduceBEq, Int.reduceBNe, Bool.and_true, Bool.not_true, Bool.not_false]
    simp only [hf, Int.reduceAdd, hr]
    refine ⟨by omega, fun a1 => ⟨⟨xr1, xr2⟩, ?_⟩, fun a1 => ⟨trivial, fun a2 => ?_, fun _ => ⟨trivial, fun a3 => ?_, fun _ => ⟨⟨by omega, by omega, by omega⟩, ⟨by omega, by omega, by omega⟩, fun a4 => ⟨⟨xp1, xp2⟩, ?_⟩, fun a4 => ⟨by omega, ⟨by omega, by omega, by omega⟩, ?_⟩⟩⟩⟩⟩
    · show Ov.exc 121 R = pOut R n host
      unfold pOut; rw [a1]; rfl
    · exact absurd a2 (by decide)
    · have := of_decide_eq_true a3; omega
    · show Ov.exc 133 R = pOut R n host
      unfold pOut; rw [a1, a4]; rfl
    · refine ⟨⟨rfl, by omega, hb⟩, froz_strs _, by rw [List.length_map]; exact hlen, fun a5 => ⟨⟨xp1, xp2⟩, ?_⟩, fun a5 => ?_⟩
      · show Ov.exc 133 R = pOut R n host
        rw [List.length_map] at a5
        have a5 : (((pParts R n).length : Int) != 5) = true := a5
        unfold pOut; rw [a1, a4, a5]; rfl
      · rw [List.length_map] at a5
        have a5 : (((pParts R n).length : Int) != 5) = false := a5
        have e0 : pOut R n host = (match intOf ((pParts R n).getD 3 Str.empty) with | some k => .ret (.tup [.str host, .int k]) | none => .ve) := by unfold pOut; rw [a1, a4, a5]; simp only [cond_false]
        rw [e0]
        have ep : Txt.split (Txt.slice R (some 5) (some (5 + ↑n))) (Txt.item R 5) = pParts R n := rfl
        rw [ep]
        generalize pParts R n = ps at *
        have l5 : 3 < ps.length := by have := bne_eq_false_iff_eq.mp a5; omega
        obtain ⟨b1, b2⟩ := hp _ (getD_mem (e := Str.empty) l5)
        refine ⟨by decide, _, rfl, rfl, trivial, by decide, _, getD_map (e := Str.empty) l5, ⟨Nat.le_trans b1 (by decide), b2⟩, ?_⟩
        generalize ps.getD 3 Str.empty = t at *
        cases hi : intOf t with
        | none => exact .inr ⟨rfl, rfl⟩
        | some k => exact .inl ⟨k, rfl, by exact Nat.le_of_ble_eq_true rfl, rfl, rfl⟩
end Mine
end
section
open PySem PySem.W PySem.Spec PySem.Calls PyProof.Rows
open PySem.Builtin PySem.Builtin.Str
set_option Elab.async false
set_option linter.unusedVariables false
namespace Mine
noncomputable def cl (x : Str) : List Nat := x.cps.toList
theorem cl_len (x : Str) : (cl x).length = x.length := Array.length_toList
theorem cl_app (a b : Str) : cl (a ++ b) = cl a ++ cl b := by
  unfold cl; rw [Str.cps_append, Array.toList_append]
theorem cl_ext {a b : Str} (h : cl a = cl b) : a = b := Str.ext' (Array.toList_inj.mp h)
theorem cl_one (c : Nat) : cl ⟨#[c]⟩ = [c] := rfl
theorem charAt_nat {x : Str} {i : Nat} (h : i < x.length) : Txt.charAt x i = (cl x)[i]? := by
  unfold Txt.charAt
  rw [StrLaws.seqIndex_nonneg (by omega) (by omega)]
  show x.cps[((i : Int)).toNat]? = _
  unfold cl
  rw [Array.getElem?_toList]; rfl
theorem item_at {x : Str} {i c : Nat} (h : (cl x)[i]? = some c) : Txt.item x i = ⟨#[c]⟩ := by
  unfold Txt.item
  have hl : i < x.length := by
    obtain ⟨h, _⟩ := List.getElem?_eq_some_iff.mp h
    rw [← cl_len]; exact h
  rw [charAt_nat hl, h]; rfl
theorem cl_cut {x : Str} {a b : Nat} (hab : a ≤ b) (hb : b ≤ x.length) : cl (Txt.slice x (some (a : Int)) (some (b : Int))) = ((cl x).drop a).take (b - a) := by
  show cl (StrLaws.sliceText x (some (a : Int)) (some (b : Int))) = _
  rw [StrLaws.sliceText_nat x hab hb]; rfl
theorem cl_to {x : Str} {b : Nat} (hb : b ≤ x.length) : cl (Txt.slice x none (some (b : Int))) = (cl x).take b := by
  show cl (StrLaws.sliceText x none (some (b : Int))) = _
  have hl : x.cps.toList.length = x.length := cl_len x
  rw [StrLaws.sliceText_to ⟨by omega, by omega⟩]
  show (x.cps.toList.drop 0).take ((b : Int) - 0).toNat = _
  rw [List.drop_zero, show ((b : Int) - 0).toNat = b from by omega]; rfl
theorem at_one {x : Str} {c i : Nat} : StrLaws.At x ⟨#[c]⟩ x.length i ↔ (cl x)[i]? = some c := StrLaws.subAt_one x c i
theorem occ_at {x : Str} {c k : Nat} (h : (cl x)[k]? = some c) (hn : ∀ j, j < k → (cl x)[j]? ≠ some c) : ∃ r, occurrences x ⟨#[c]⟩ 0 x.length 1 = k :: r := by
  rcases StrLaws.occ_head x ⟨#[c]⟩ 1 (Nat.le_refl 1) with ⟨_, hno⟩ | ⟨i, r, e, hi, hb⟩
  · exact absurd (at_one.mpr h) (hno k)
  · have h1 : ¬ i < k := fun z => hn i z (at_one.mp hi)
    have h2 : ¬ k < i := fun z => hb k z (at_one.mpr h)
    exact ⟨r, by rw [e, show i = k from by omega]⟩
theorem find_at {x : Str} {c k : Nat} (h : (cl x)[k]? = some c) (hn : ∀ j, j < k → (cl x)[j]? ≠ some c) : Txt.find x ⟨#[c]⟩ = (k : Int) := by
  obtain ⟨r, e⟩ := occ_at h hn
  unfold Txt.find; rw [e]
theorem getD_cl {x : Str} {i c : Nat} (hi : i < x.length) : x.cps.getD i 0 = c ↔ (cl x)[i]? = some c := by
  constructor
  · exact StrLaws.getElem?_of_getD hi
  · exact StrLaws.getD_of_getElem?
theorem find3_at {x : Str} {c a k : Nat} (ha : a ≤ k) (h : (cl x)[k]? = some c) (hn : ∀ j, a ≤ j → j < k → (cl x)[j]? ≠ some c) : Txt.find3 x ⟨#[c]⟩ (a : Int) = (k : Int) := by
  have hk : k < x.length := by
    obtain ⟨h, _⟩ := List.getElem?_eq_some_iff.mp h
    rw [← cl_len]; exact h
  have hf : fromIndex x.length (a : Int) = a := by unfold fromIndex; rw [if_neg (by omega)]; omega
  rcases StrLaws.find3_spec x c (a : Int) with ⟨_, hno⟩ | ⟨i, e, h1, h2, h3, h4⟩
  · exact absurd ((getD_cl hk).mpr h) (hno k (by rw [hf]; exact ha) hk)
  · rw [hf] at h1 h4
    have n1 : ¬ i < k := fun z => hn i h1 z ((getD_cl h2).mp h3)
    have n2 : ¬ k < i := fun z => h4 k ha z ((getD_cl hk).mpr h)
    rw [e, show i = k from by omega]
noncomputable def glueL (c : Nat) : List (List Nat) → List Nat
  | [] => []
  | [p] => p
  | p :: q :: r => p ++ c :: glueL c (q :: r)
theorem cl_join (c : Nat) : ∀ ps : List Str, cl (Str.join ⟨#[c]⟩ ps) = glueL c (ps.map cl)
  | [] => rfl
  | [p] => rfl
  | p :: q :: r => by
    show cl (p ++ ⟨#[c]⟩ ++ Str.join ⟨#[c]⟩ (q :: r)) = _
    rw [cl_app, cl_app, cl_join c (q :: r), cl_one, List.append_assoc]; rfl
theorem split_glue (x : Str) (c : Nat) : glueL c ((Txt.split x ⟨#[c]⟩).map cl) = cl x := by
  rw [← cl_join, StrLaws.join_split]
theorem split_frees (x : Str) (c : Nat) : ∀ p ∈ (Txt.split x ⟨#[c]⟩).map cl, c ∉ p := by
  intro p hp
  obtain ⟨q, hq, rfl⟩ := List.mem_map.mp hp
  exact StrLaws.split_free x c q hq
theorem split_ne (x y : Str) : Txt.split x y ≠ [] := by
  unfold Txt.split
  split
  · exact List.cons_ne_nil _ _
  · split
    · exact List.cons_ne_nil _ _
    · rw [StrLaws.partsBetween_eq]
      obtain ⟨p, r, e⟩ := StrLaws.partsFrom_ne x y.length 0 (occurrences x y 0 x.length (x.length + 1))
      rw [e]; exact List.cons_ne_nil _ _
theorem partsFrom_len (x : Str) (w : Nat) : ∀ (cuts : List Nat) (a : Nat), (StrLaws.partsFrom x w a cuts).length = cuts.length + 1
  | [], a => rfl
  | b :: cuts, a => congrArg (· + 1) (partsFrom_len x w cuts (b + w))
theorem between_len (x y : Str) : (partsBetween x (occurrences x y 0 x.length (x.length + 1)) y.length).length ≤ x.length + 2 := by
  rw [StrLaws.partsBetween_eq, partsFrom_len]
  exact Nat.succ_le_succ (StrLaws.occ_length_le _ _ _ _ _)
theorem split_len (x y : Str) : (Txt.split x y).length ≤ x.length + 2 := by
  unfold Txt.split
  split
  · simp
  · split
    · simp
    · exact between_len x y
theorem glueL_mem {c : Nat} {p : List Nat} : ∀ {ps : List (List Nat)}, p ∈ ps → p.length ≤ (glueL c ps).length ∧ ∀ a ∈ p, a ∈ glueL c ps
  | [q], h => by
    rw [List.mem_singleton.mp h]
    exact ⟨Nat.le_refl _, fun a z => z⟩
  | q :: q' :: r, h => by
    show p.length ≤ (q ++ c :: glueL c (q' :: r)).length ∧ ∀ a ∈ p, a ∈ q ++ c :: glueL c (q' :: r)
    rw [List.length_append, List.length_cons]
    rcases List.mem_cons.mp h with rfl | h
    · exact ⟨by omega, fun a z => List.mem_append_left _ z⟩
    · obtain ⟨h1, h2⟩ := glueL_mem (c := c) h
      exact ⟨by omega, fun a z => List.mem_append_right _ (.tail _ (h2 a z))⟩
theorem split_part {x p : Str} {c : Nat} (h : p ∈ Txt.split x ⟨#[c]⟩) : p.length ≤ x.length ∧ ∀ a ∈ cl p, a ∈ cl x := by
  have := glueL_mem (c := c) (List.mem_map_of_mem (f := cl) h)
  rw [split_glue, cl_len, cl_len] at this
  exact this
end Mine
end
section
open PySem PySem.W PySem.Spec PySem.Calls PyProof.Rows
open PySem.Builtin.Str
set_option Elab.async false
set_option linter.unusedVariables false
namespace Mine
theorem bit_is (m : Int) (k : Nat) (b : Int) (hb : b = 2 ^ k) : (Builtin.bitAnd m b == b) = (m / b % 2 == 1) := by
  subst hb
  rw [kbt_bit, Bool.eq_iff_iff, beq_iff_eq, beq_iff_eq]
  have hp := kbt_pos k
  rcases (by omega : m / 2 ^ k % 2 = 0 ∨ m / 2 ^ k % 2 = 1) with h | h
  · rw [h]; omega
  · rw [h]; omega
theorem low_is (m : Int) (j : Nat) : (Builtin.bitAnd m (2 * 2 ^ j + 1) == 2 * 2 ^ j + 1) = (m / 2 / 2 ^ j % 2 == 1 && m % 2 == 1) := by
  have hp := kbt_pos j
  rw [kbt_halves]
  generalize hz : (2 : Int) ^ j = z at hp
  have ee : (2 * z + 1 : Int) / 2 = z := by clear hz; omega
  have e : (2 * z + 1 : Int) % 2 = 1 := by clear hz; omega
  rw [ee, ← hz, kbt_bit, hz, Bool.eq_iff_iff, beq_iff_eq, Bool.and_eq_true, beq_iff_eq, beq_iff_eq, e]
  clear hz ee e
  generalize m / 2 / z = u
  rcases Int.emod_two_eq u with h | h <;> rcases Int.emod_two_eq m with h' | h' <;> rw [h, h'] <;> simp <;> omega
theorem two_is (m : Int) (k j : Nat) (b : Int) (hb : b = 2 ^ k * (2 * 2 ^ j + 1)) : (Builtin.bitAnd m b == b) = (m / 2 ^ k / 2 / 2 ^ j % 2 == 1 && m / 2 ^ k % 2 == 1) := by
  subst hb
  rw [band_shift, ← low_is, Bool.eq_iff_iff, beq_iff_eq, beq_iff_eq]
  have hp := kbt_pos k
  exact ⟨fun h => Int.eq_of_mul_eq_mul_left (by omega) h, fun h => by rw [h]⟩
theorem ifmt_is (m : Int) : Builtin.bitAnd m 61440 = 4096 * (m / 4096 % 16) := by
  have h := band_shift 12 m 15
  have h2 := kbt_mask (m / 2 ^ 12) 4
  rw [show (61440 : Int) = 2 ^ 12 * 15 from rfl, h, show (15 : Int) = 2 ^ 4 - 1 from rfl, h2]
  rfl
noncomputable def trL (r w x a : Bool) (p : Bool) : List Nat := [bif r then 114 else 45, bif w then 119 else 45, bif a && x then (bif p then 116 else 115) else bif a then (bif p then 84 else 83) else bif x then 120 else 45]
theorem three_eq {f a : Int} {p : Bool} (h0 : 0 ≤ f) (h1 : f < 8) (h2 : 0 ≤ a) (h3 : a < 2) : cl (three f a p) = trL (f / 4 == 1) (f / 2 % 2 == 1) (f % 2 == 1) (a == 1) p :=
  fin_all (P := fun f => cl (three f a p) = trL (f / 4 == 1) (f / 2 % 2 == 1) (f % 2 == 1) (a == 1) p) (fin_all (n := 2) (P := fun a => ∀ j : Fin 8, cl (three (j.1 : Int) a p) = trL ((j.1 : Int) / 4 == 1) ((j.1 : Int) / 2 % 2 == 1) ((j.1 : Int) % 2 == 1) (a == 1) p) (by revert p; decide +kernel) h2 h3) h0 h1
theorem pick_kind {k : Int} (h0 : 0 ≤ k) (h1 : k < 16) : cl (pick (fun b => 4096 * k == b) "?" [(40960, "l"), (49152, "s"), (32768, "-"), (24576, "b"), (16384, "d"), (8192, "c"), (4096, "p")]) = cl (Txt.item "?pc?d?b?-?l?s???" k) :=
  fin_all (n := 16) (P := fun k => cl (pick (fun b => 4096 * k == b) "?" [(40960, "l"), (49152, "s"), (32768, "-"), (24576, "b"), (16384, "d"), (8192, "c"), (4096, "p")]) = cl (Txt.item "?pc?d?b?-?l?s???" k)) (by decide +kernel) h0 h1
theorem cl_join0 : ∀ ys : List Str, cl (Txt.join "" ys) = (ys.map cl).flatten := by
  intro ys
  show cl (Builtin.Str.glued _ ys) = _
  rw [StrLaws.glued_eq_join]
  induction ys with
  | nil => rfl
  | cons y ys ih =>
    cases ys with
    | nil => show cl y = cl y ++ []; rw [List.append_nil]
    | cons z r =>
      show cl (y ++ Str.ofString "" ++ Str.join _ (z :: r)) = cl y ++ ((z :: r).map cl).flatten
      rw [cl_app, cl_app, ih, show cl (Str.ofString "") = [] from by decide +kernel, List.append_nil]
theorem pick_one {m i b : Int} {x : String} {r : Bool} (h : isB m i b = r) (hi : (i == 0) = false) : cl (pick (isB m i) (dflt i) [(b, x)]) = bif r then cl (Str.ofString x) else [45] := by
  show cl (bif isB m i b then Str.ofString x else dflt i) = _
  rw [h]
  unfold dflt
  rw [hi]
  cases r
  · exact (by decide +kernel : cl (Str.ofString "-") = [45])
  · rfl
theorem pick_three {m i b1 b2 b3 : Int} {x1 x2 x3 : String} {r1 r2 r3 : Bool} (h1 : isB m i b1 = r1) (h2 : isB m i b2 = r2) (h3 : isB m i b3 = r3) (hi : (i == 0) = false) : cl (pick (isB m i) (dflt i) [(b1, x1), (b2, x2), (b3, x3)]) = bif r1 then cl (Str.ofString x1) else bif r2 then cl (Str.ofString x2) else bif r3 then cl (Str.ofString x3) else [45] := by
  show cl (bif isB m i b1 then Str.ofString x1 else bif isB m i b2 then Str.ofString x2 else bif isB m i b3 then Str.ofString x3 else dflt i) = _
  rw [h1, h2, h3]
  unfold dflt
  rw [hi]
  cases r1 <;> cases r2 <;> cases r3 <;> first | rfl | exact (by decide +kernel : cl (Str.ofString "-") = [45])
theorem isB_one {m i b : Int} (hi : (i == 0) = false) (k : Nat) (hb : b = 2 ^ k) : isB m i b = (m / 2 ^ k % 2 == 1) := by
  unfold isB
  rw [hi, hb]
  exact bit_is m k _ rfl
theorem isB_two {m i b : Int} (hi : (i == 0) = false) (k j : Nat) (hb : b = 2 ^ k * (2 * 2 ^ j + 1)) : isB m i b = (m / 2 ^ k / 2 / 2 ^ j % 2 == 1 && m / 2 ^ k % 2 == 1) := by
  unfold isB
  rw [hi]
  exact two_is m k j b hb
theorem tri_nums (x : Int) : (x % 8 / 4 = x / 4 % 2 ∧ x % 8 / 2 % 2 = x / 2 % 2) ∧ x % 8 % 2 = x % 2 ∧ 0 ≤ x % 8 ∧ x % 8 < 8 := ⟨⟨by omega, by omega⟩, Int.emod_emod_of_dvd x (by decide), Int.emod_nonneg x (by decide), Int.emod_lt_of_pos x (by decide)⟩
theorem bit_num (x : Int) : 0 ≤ x % 2 ∧ x % 2 < 2 := ⟨Int.emod_nonneg x (by decide), Int.emod_lt_of_pos x (by decide)⟩
theorem div_up (m : Int) (k j : Nat) : m / 2 ^ (k + j) = m / 2 ^ k / 2 ^ j := by
  rw [Int.ediv_ediv_of_nonneg (Int.le_of_lt (kbt_pos k)), Int.pow_add]
theorem tri_fit {m i j l : Int} {b1 b2 b4 b5 b6 : Int} {x5 x6 x7 : String} {p : Bool} (k s : Nat) (h1 : b1 = 2 ^ (k + 2)) (h2 : b2 = 2 ^ (k + 1)) (h4 : b4 = 2 ^ k * (2 * 2 ^ s + 1)) (h5 : b5 = 2 ^ (k + 1 + s)) (h6 : b6 = 2 ^ k) (hi : (i == 0) = false) (hj : (j == 0) = false) (hl : (l == 0) = false)
    (q5 : cl (Str.ofString x5) = [bif p then 116 else 115]) (q6 : cl (Str.ofString x6) = [bif p then 84 else 83]) (q7 : cl (Str.ofString x7) = [120]) :
    [cl (pick (isB m i) (dflt i) [(b1, "r")]), cl (pick (isB m j) (dflt j) [(b2, "w")]), cl (pick (isB m l) (dflt l) [(b4, x5), (b5, x6), (b6, x7)])].flatten = cl (three (m / b6 % 8) (m / b5 % 2) p) := by
  have e1 := isB_one (m := m) hi _ h1
  have e2 := isB_one (m := m) hj _ h2
  have e4 := isB_two (m := m) hl _ _ h4
  have e5 := isB_one (m := m) hl _ h5
  have e6 := isB_one (m := m) hl _ h6
  subst h5 h6
  rw [div_up] at e1 e2
  have hs : m / 2 ^ (k + 1 + s) = m / 2 ^ k / 2 / 2 ^ s := by rw [div_up, div_up]; rfl
  rw [hs] at e5 ⊢
  generalize m / 2 ^ k / 2 / 2 ^ s = a at *
  generalize m / 2 ^ k = x at *
  obtain ⟨⟨n1, n2⟩, n3, n4, n5⟩ := tri_nums x
  rw [three_eq n4 n5 (bit_num a).1 (bit_num a).2, pick_one e1 hi, pick_one e2 hj, pick_three e4 e5 e6 hl, q5, q6, q7, n1, n2, n3]
  rw [show cl (Str.ofString "r") = [114] from by decide +kernel, show cl (Str.ofString "w") = [119] from by decide +kernel]
  unfold trL
  rw [show (2 : Int) ^ 2 = 4 from rfl, show (2 : Int) ^ 1 = 2 from rfl]
  clear e1 e2 e4 e5 e6 q5 q6 q7 hs n1 n2 n3 n4 n5 h1 h2 h4 hi hj hl
  generalize (x / 4 % 2 == 1) = b1
  generalize (x / 2 % 2 == 1) = b2
  generalize (x % 2 == 1) = b3
  generalize (a % 2 == 1) = b4
  revert b1 b2 b3 b4 p
  decide +kernel
theorem shown_listed (m : Int) : shown m = listed m := by
  refine cl_ext ?_
  unfold shown listed
  rw [cl_join0, cl_app, cl_app, cl_app]
  have t1 := tri_fit (m := m) (i := 1) (j := 2) (l := 3) (b1 := 256) (b2 := 128) (b4 := 2112) (b5 := 2048) (b6 := 64) (x5 := "s") (x6 := "S") (x7 := "x") (p := false) 6 4 rfl rfl rfl rfl rfl rfl rfl rfl (by decide +kernel) (by decide +kernel) (by decide +kernel)
  have t2 := tri_fit (m := m) (i := 4) (j := 5) (l := 6) (b1 := 32) (b2 := 16) (b4 := 1032) (b5 := 1024) (b6 := 8) (x5 := "s") (x6 := "S") (x7 := "x") (p := false) 3 6 rfl rfl rfl rfl rfl rfl rfl rfl (by decide +kernel) (by decide +kernel) (by decide +kernel)
  have t3 := tri_fit (m := m) (i := 7) (j := 8) (l := 9) (b1 := 4) (b2 := 2) (b4 := 513) (b5 := 512) (b6 := 1) (x5 := "t") (x6 := "T") (x7 := "x") (p := true) 0 8 rfl rfl rfl rfl rfl rfl rfl rfl (by decide +kernel) (by decide +kernel) (by decide +kernel)
  have t0 : cl (pick (isB m 0) (dflt 0) [(40960, "l"), (49152, "s"), (32768, "-"), (24576, "b"), (16384, "d"), (8192, "c"), (4096, "p")]) = cl (Txt.item "?pc?d?b?-?l?s???" (m / 4096 % 16)) := by
    rw [← pick_kind (by omega) (by omega), ← ifmt_is]
    rfl
  rw [← t1, ← t2, ← t3, ← t0]
  show [_, _, _, _, _, _, _, _, _, _].flatten = _
  simp only [List.flatten_cons, List.flatten_nil, List.append_nil, List.append_assoc]
  rfl
end Mine
end
section
open PySem PySem.W PySem.Spec PySem.Calls PyProof.Rows
set_option Elab.async false
set_option linter.unusedVariables false
set_option maxRecDepth 100000
namespace Mine
noncomputable def numOf (a b c d : Int) : Int := 1000 * a + 100 * b + 10 * c + d
theorem c_number (w : World) (a b c d : Int) (lv : Nat) : CALL PySem.Challenge.rw_op0036_02.row.prog w (KF w.params) lv 187 [.lst [.int a, .int b, .int c, .int d]] (.int (numOf a b c d)) := by
  k_fill
  refine' fn_byO (names := ["figures"]) (more := ns_law_number.drop 1) (r := r_law_number) (k := 0) (ok1 w _) (fun _ => rz1) ?ho ?hcd ?hb ?hl ?hz ?hck ?hc ?h
  (case ho => kernel_rfl)
  (case hcd => kernel_rfl)
  (case hb => intro s vs _ _ h; exact hb1E (fun a => by kernel_rfl) vs h)
  (case hl => exact rfl)
  (case hz => exact rfl)
  (case hck => kernel_rfl)
  (case hc => kernel_rfl)
  case h =>
    unfold r_law_number
    exact ⟨⟨by decide, by decide⟩, _, rfl, ⟨by decide, by decide⟩, ⟨by decide, by decide⟩, _, rfl, ⟨by decide, by decide⟩, ⟨by decide, by decide⟩, _, rfl, ⟨by decide, by decide⟩, ⟨by decide, by decide⟩, _, rfl, rfl, rfl⟩
noncomputable def hv : Nat → Int → Int
  | 0, _ => 0
  | m + 1, a => a / 2 + hv m (a / 2)
theorem hv_zero : ∀ m, hv m 0 = 0
  | 0 => rfl
  | m + 1 => by show (0 : Int) / 2 + hv m (0 / 2) = 0; rw [show (0 : Int) / 2 = 0 from rfl, hv_zero m]; rfl
theorem halved_loop {X : Fx} {Q : PQ} : ∀ (m : Nat) (a f : Int), 0 ≤ a → a < 2 ^ m → Q .next [some (.int 0), some (.int (f + hv m a))] →
    wpWh (wp X (.v 0) .t) (wpS X (.aug 0 .FloorDiv (.int 2) (.aug 1 .Add (.v 0) .done))) (wpS X .done) Q m [some (.int a), some (.int f)]
  | 0, a, f, h0, h1, h => by
    have : a = 0 := by omega
    subst this
    refine ⟨fun q => nof q, fun _ => ?_⟩
    rw [show f + hv 0 0 = f from by show f + 0 = f; omega] at h
    exact h
  | m + 1, a, f, h0, h1, h => by
    refine ⟨fun _ => ?_, fun q => ?_⟩
    · refine ⟨⟨by decide, by decide⟩, rfl, rfl, ?_⟩
      refine halved_loop m (a / 2) (f + a / 2) (by omega) (by rw [Int.pow_succ] at h1; omega) ?_
      rw [Int.add_assoc]
      exact h
    · have : a = 0 := by
        have q : (a != 0) = false := q
        simpa using q
      subst this
      rw [hv_zero, Int.add_zero] at h
      exact h
theorem c_halved (w : World) (a : Int) (lv : Nat) (h0 : 0 ≤ a) (h1 : a < 2 ^ 13) : CALL PySem.Challenge.rw_op0036_02.row.prog w (KF w.params) lv 175 [.int a] (.int (hv 13 a)) := by
  k_fill
  refine' fn_byO (names := ["number"]) (more := ns_law_halved.drop 1) (r := r_law_halved) (k := 1) (ok1 w _) (fun _ => rz1) ?ho ?hcd ?hb ?hl ?hz ?hck ?hc ?h
  (case ho => kernel_rfl)
  (case hcd => kernel_rfl)
  (case hb => intro s vs _ _ h; exact hb1E (fun a => by kernel_rfl) vs h)
  (case hl => exact rfl)
  (case hz => exact rfl)
  (case hck => kernel_rfl)
  (case hc => kernel_rfl)
  case h =>
    unfold r_law_halved
    refine ⟨rfl, rfl, 13, halved_loop 13 a 0 h0 h1 ?_⟩
    rw [Int.zero_add]
    exact ⟨rfl, rfl⟩
noncomputable def oddOf (a b c d : Int) : Bool := decide (0 ≤ a - (b + (c + (d + 0)))) && (hv 13 a == (hv 13 b + (hv 13 c + (hv 13 d + 0))) + hv 13 (a - (b + (c + (d + 0)))))
noncomputable def hvD : D → D
  | .int a => .int (hv 13 a)
  | _ => .none
theorem c_odd (w : World) (a b c d : Int) (lv : Nat) (ha : 0 ≤ a ∧ a < 4096) (hb : 0 ≤ b ∧ b < 4096) (hc : 0 ≤ c ∧ c < 4096) (hd : 0 ≤ d ∧ d < 4096) : CALL PySem.Challenge.rw_op0036_02.row.prog w (KF w.params) (lv + 1) 180 [.int a, .lst [.int b, .int c, .int d]] (.bool (oddOf a b c d)) := by
  have hn : ∀ x : Int, 0 ≤ x → x < 4096 → FN (X1 w (lv + 1)) "_law_halved" [.int x] (.int (hv 13 x)) := fun x h0 h1 => by
    refine' fn_at (c_halved w x lv h0 (Int.lt_trans h1 (by decide))) ?hg ?ho (Nat.le_refl _)
    ((case hg => k_is); (case ho => kernel_rfl))
  k_fill
  refine' fn_byO (names := ["mode", "masks"]) (more := ns_law_odd.drop 2) (r := r_law_odd) (k := 2) (ok1 w _) (fun _ => rz1) ?ho ?hcd ?hb ?hl ?hz ?hck ?hc ?h
  (case ho => kernel_rfl)
  (case hcd => kernel_rfl)
  (case hb => intro s vs _ _ h; exact hb2E (fun a b => by kernel_rfl) vs h)
  (case hl => exact rfl)
  (case hz => exact rfl)
  (case hck => kernel_rfl)
  (case hc => kernel_rfl)
  case h =>
    unfold r_law_odd
    refine ⟨rfl, rfl, fun q => ?_, fun q => ⟨rfl, ?_⟩⟩
    · have q : decide (0 ≤ a - (b + (c + (d + 0)))) = true := q
      have q' := of_decide_eq_true q
      refine ⟨_, hn a ha.1 ha.2, ?_⟩
      refine And.intro ⟨rfl, Nat.le_of_ble_eq_true rfl, rfl⟩ ⟨hvD, fa1 ⟨_, hn b hb.1 hb.2, rfl, rfl⟩ (fa1 ⟨_, hn c hc.1 hc.2, rfl, rfl⟩ (fa1 ⟨_, hn d hd.1 hd.2, rfl, rfl⟩ fa0)), ?_⟩
      refine ⟨rfl, _, hn (a - (b + (c + (d + 0)))) q' (by omega), rfl, ?_⟩
      show D.bool _ = D.bool (oddOf a b c d)
      unfold oddOf; rw [q]; rfl
    · have q : decide (0 ≤ a - (b + (c + (d + 0)))) = false := q
      show D.bool false = D.bool (oddOf a b c d)
      unfold oddOf; rw [q]; rfl
end Mine
end
section
open PySem PySem.W PySem.Spec PySem.Calls PyProof.Rows
set_option Elab.async false
set_option linter.unusedVariables false
set_option maxRecDepth 100000
namespace Mine
noncomputable def fig (N : Int) (k : Nat) : Int := N / 10 ^ k % 10
noncomputable def bump (ms : List Int) (i : Nat) (v : Int) : List Int := ms.set i (ms.getD i 0 + v)
noncomputable def tk1 (f : Int) : List Int := bif decide (3 < f) then [(f - 4) % 3] else []
noncomputable def tk2 (t : List Int) (c : Bool) (taker : Int) : List Int := bif c then t ++ [taker] else t
noncomputable def has1 (ms : List Int) (c : Bool) (i : Nat) (v : Int) : List Int := bif c then bump ms i v else ms
noncomputable def takes (ms : List Int) (T : List Int) (v : Int) : List Int := T.foldl (fun ms x => bump ms (x + 1).toNat v) ms
theorem bump_len (ms : List Int) (i : Nat) (v : Int) : (bump ms i v).length = ms.length := List.length_set
theorem takes_len (v : Int) : ∀ (T ms : List Int), (takes ms T v).length = ms.length
  | [], _ => rfl
  | x :: T, ms => by show (takes (bump ms _ v) T v).length = _; rw [takes_len v T, bump_len]
theorem has1_len (ms : List Int) (c : Bool) (i : Nat) (v : Int) : (has1 ms c i v).length = ms.length := by
  unfold has1; cases c
  · rfl
  · exact bump_len ms i v
theorem froz_nums : ∀ l : List Int, frozB.frozBs (l.map .int) = true
  | [] => rfl
  | _ :: l => froz_nums l
theorem at_map {ms : List Int} {i : Nat} {K : D → Prop} (h : i < ms.length) (k : K (.int (ms.getD i 0))) : at_ (ms.map D.int)[i]? K := by
  rw [List.getElem?_map, List.getElem?_eq_getElem h]
  rw [List.getD_eq_getElem?_getD, List.getElem?_eq_getElem h] at k
  exact k
theorem set_map (ms : List Int) (i : Nat) (v : Int) : (ms.map D.int).set i (.int v) = (ms.set i v).map .int := List.map_set.symm
noncomputable def dPow : RE := .bin .Pow (.int 2) (.v 1)
noncomputable def dTake : RS := .aui 2 (.bin .Add (.v 5) (.int 1)) .Add dPow .done
noncomputable def dEnd : RS := .itj (.and (.cmp .Gt (.v 6) (.int 1)) (.not (.v 7))) (.aui 2 (.int 4) .Add dPow .done) .done .done
noncomputable def dLast : RS := .itj (.cmp .Gt (.v 6) (.int 1)) (.aui 2 (.int 0) .Add dPow .done) .done (.frz 7 (.for_ [5] false (.v 7) dTake .done dEnd))
noncomputable def dTurn : RS :=
  (.un2 6 7 (.bin .Mod (.bin .FloorDiv (.v 0) (.bin .Pow (.int 10) (.v 1))) (.int 10)) .nil
  (.itj (.cmp .Gt (.v 6) (.int 3)) (.app 7 (.bin .Mod (.bin .Sub (.v 6) (.int 4)) (.int 3)) .done) .done
  (.itj (.and (.cmp .Eq (.v 1) (.v 3)) (.cmp .NotIn (.v 4) (.v 7))) (.app 7 (.v 4) .done) .done dLast)))
section
variable {X : Fx} {N more taker f : Int} {k : Nat}
theorem add_at {ms : List Int} {i : Int} {o5 o6 o7 o3 o4 : Option D} {Q : PQ} (hk : k < 12) (h0 : 0 ≤ i) (hi : i.toNat < ms.length) (hl : ms.length ≤ 100) (h : Q .next [some (.int N), some (.int k), some (.mls ((bump ms i.toNat (2 ^ k)).map .int)), o3, o4, o5, o6, o7]) :
    wpS X (.aui 2 (.int i) .Add dPow .done) [some (.int N), some (.int k), some (.mls (ms.map .int)), o3, o4, o5, o6, o7] Q := by
  refine at_map hi ?_
  refine ⟨⟨Int.natCast_nonneg k, by omega, .inl rfl⟩, ⟨rfl, h0, ?_, ?_⟩, ?_⟩
  · rw [List.length_map]; omega
  · rw [List.length_map]; omega
  · show Q .next [_, _, some (.mls ((ms.map D.int).set i.toNat (.int (ms.getD i.toNat 0 + 2 ^ k)))), _, _, _, _, _]
    rw [set_map]; exact h
theorem takers_loop {T₀ : D} {o3 o4 o6 : Option D} {Q : PQ} (hk : k < 12) : ∀ (L ms : List Int) (o5 : Option D), (∀ x ∈ L, 0 ≤ x ∧ x ≤ 2) → ms.length = 5 → (∀ o5, Q .next [some (.int N), some (.int k), some (.mls ((takes ms L (2 ^ k)).map .int)), o3, o4, o5, o6, some T₀]) →
    wpFor [5] (wpS X dTake) (wpS X .done) Q (L.map .int) [some (.int N), some (.int k), some (.mls (ms.map .int)), o3, o4, o5, o6, some T₀]
  | [], ms, o5, _, _, h => h o5
  | x :: L, ms, o5, hx, hl, h => by
    have hx0 := hx x (.head _)
    show wpS X dTake [some (.int N), some (.int k), some (.mls (ms.map .int)), o3, o4, some (.int x), o6, some T₀] (loopQ (wpFor [5] (wpS X dTake) (wpS X .done) Q (L.map .int)) Q)
    refine at_map (by omega) ?_
    refine ⟨⟨Int.natCast_nonneg k, by omega, .inl rfl⟩, ⟨rfl, by omega, ?_, ?_⟩, ?_⟩
    · rw [List.length_map]; omega
    · rw [List.length_map]; omega
    · show wpFor [5] (wpS X dTake) (wpS X .done) Q (L.map .int) [_, _, some (.mls ((ms.map D.int).set (x + 1).toNat (.int (ms.getD (x + 1).toNat 0 + 2 ^ k)))), _, _, _, _, _]
      rw [set_map]
      exact takers_loop hk L (bump ms (x + 1).toNat (2 ^ k)) _ (fun y hy => hx y (.tail _ hy)) (by rw [bump_len]; exact hl) h
theorem d_end {T ms : List Int} {o3 o4 o5 : Option D} {Q : PQ} (hk : k < 12) (hl : ms.length = 5) (hT : T.length ≤ 100)
    (h : Q .next [some (.int N), some (.int k), some (.mls ((has1 ms (decide (1 < f) && T.isEmpty) 4 (2 ^ k)).map .int)), o3, o4, o5, some (.int f), some (.lst (T.map .int))]) :
    wpS X dEnd [some (.int N), some (.int k), some (.mls (ms.map .int)), o3, o4, o5, some (.int f), some (.lst (T.map .int))] Q := by
  have go : ∀ c : Bool, c = (decide (1 < f) && T.isEmpty) → ∃ ρ₁, (c = true → wpS X (.aui 2 (.int 4) .Add dPow .done) [some (.int N), some (.int k), some (.mls (ms.map .int)), o3, o4, o5, some (.int f), some (.lst (T.map .int))] (joinQ ρ₁ Q)) ∧ (c = false → wpS X .done [some (.int N), some (.int k), some (.mls (ms.map .int)), o3, o4, o5, some (.int f), some (.lst (T.map .int))] (joinQ ρ₁ Q)) ∧ wpS X .done ρ₁ Q := fun c hc => by
    rw [← hc] at h
    refine ⟨_, fun e => add_at hk (by decide) (by rw [hl]; decide) (by rw [hl]; decide) ?_, fun e => ?_, h⟩
    · subst e; rfl
    · subst e; rfl
  refine ⟨fun p => ⟨by rw [List.length_map]; omega, ?_⟩, fun p => ?_⟩
  · have p : decide (1 < f) = true := p
    refine go _ ?_
    rw [p, Bool.true_and, Bool.not_not]
    cases T <;> rfl
  · have p : decide (1 < f) = false := p
    exact go false (by rw [p]; rfl)
theorem d_last {T ms : List Int} {o3 o4 o5 : Option D} {Q : PQ} (hcl : X.cl = false) (hk : k < 12) (hl : ms.length = 5) (hT : T.length ≤ 100) (hx : ∀ x ∈ T, 0 ≤ x ∧ x ≤ 2)
    (h : ∀ o5, Q .next [some (.int N), some (.int k), some (.mls ((has1 (takes (has1 ms (decide (1 < f)) 0 (2 ^ k)) T (2 ^ k)) (decide (1 < f) && T.isEmpty) 4 (2 ^ k)).map .int)), o3, o4, o5, some (.int f), some (.lst (T.map .int))]) :
    wpS X dLast [some (.int N), some (.int k), some (.mls (ms.map .int)), o3, o4, o5, some (.int f), some (.mls (T.map .int))] Q := by
  refine ⟨[some (.int N), some (.int k), some (.mls ((has1 ms (decide (1 < f)) 0 (2 ^ k)).map .int)), o3, o4, o5, some (.int f), some (.mls (T.map .int))], fun e => add_at hk (by decide) (by rw [hl]; decide) (by rw [hl]; decide) ?_, fun e => ?_, ?_⟩
  · have e : decide (1 < f) = true := e
    show (_ : Env) = _
    rw [e]; rfl
  · have e : decide (1 < f) = false := e
    show (_ : Env) = _
    rw [e]; rfl
  · refine ⟨hcl, froz_nums T, ?_⟩
    refine takers_loop hk T _ _ hx (by rw [has1_len]; exact hl) fun o5 => ?_
    exact d_end hk (by rw [takes_len, has1_len]; exact hl) hT (h o5)
end
theorem plains_ints : ∀ l : List Int, Plains (l.map .int) = true
  | [] => rfl
  | _ :: l => plains_ints l
theorem lays_ints : ∀ l : List Int, PyData.canLayAll0 (toPys (l.map .int)) = true
  | [] => rfl
  | _ :: l => lays_ints l
noncomputable def inL (t : Int) (l : List Int) : Bool := l.any fun x => x == t
theorem any_ints (t : Int) : ∀ l : List Int, ((toPys (l.map .int)).any fun y => PyData.eqv y (toPy (.int t))) = inL t l
  | [] => rfl
  | x :: l => by
    show ((x == t) || ((toPys (l.map .int)).any fun y => PyData.eqv y (toPy (.int t)))) = ((x == t) || inL t l)
    rw [any_ints t l]
noncomputable def tkOf (f : Int) (k : Nat) (more taker : Int) : List Int := tk2 (tk1 f) (((k : Int) == more) && !inL taker (tk1 f)) taker
noncomputable def stepM (N more taker : Int) (ms : List Int) (k : Nat) : List Int :=
  has1 (takes (has1 ms (decide (1 < fig N k)) 0 (2 ^ k)) (tkOf (fig N k) k more taker) (2 ^ k)) (decide (1 < fig N k) && (tkOf (fig N k) k more taker).isEmpty) 4 (2 ^ k)
theorem tk1_in {f : Int} : ∀ x ∈ tk1 f, 0 ≤ x ∧ x ≤ 2 := fun x hx => by
  unfold tk1 at hx
  cases h : decide (3 < f) <;> rw [h] at hx
  · cases hx
  · rw [List.mem_singleton.mp hx]; omega
theorem tk1_len (f : Int) : (tk1 f).length ≤ 1 := by unfold tk1; cases decide (3 < f) <;> exact Nat.le_of_ble_eq_true rfl
theorem tk2_in {t : List Int} {c : Bool} {taker : Int} (h : ∀ x ∈ t, 0 ≤ x ∧ x ≤ 2) (ht : 0 ≤ taker ∧ taker ≤ 2) : ∀ x ∈ tk2 t c taker, 0 ≤ x ∧ x ≤ 2 := fun x hx => by
  cases c
  · exact h x hx
  · rcases List.mem_append.mp hx with q | q
    · exact h x q
    · rw [List.mem_singleton.mp q]; exact ht
theorem tk2_len {t : List Int} {c : Bool} {taker : Int} : (tk2 t c taker).length ≤ t.length + 1 := by
  cases c
  · exact Nat.le_succ _
  · show (t ++ [taker]).length ≤ _; rw [List.length_append]; exact Nat.le_refl _
section
variable {X : Fx} {N more taker : Int} {k : Nat}
theorem p10 : ∀ k : Fin 12, (0 : Int) < 10 ^ k.1 ∧ (10 : Int) ^ k.1 < 1000000000000000000000000000000 := by decide +kernel
theorem d_turn {ms : List Int} {o5 o6 o7 : Option D} {Nn : Env → Prop} {Q : PQ} (hcl : X.cl = false) (hk : k < 12) (hl : ms.length = 5) (ht : 0 ≤ taker ∧ taker ≤ 2)
    (h : ∀ o5 o6 o7, Nn [some (.int N), some (.int k), some (.mls ((stepM N more taker ms k).map .int)), some (.int more), some (.int taker), o5, o6, o7]) :
    wpS X dTurn [some (.int N), some (.int k), some (.mls (ms.map .int)), some (.int more), some (.int taker), o5, o6, o7] (loopQ Nn Q) := by
  have hp := p10 ⟨k, hk⟩
  have hk0 : (0 : Int) ≤ (k : Int) := Int.natCast_nonneg k
  refine ⟨⟨hk0, by omega, .inr (.inr rfl)⟩, hp, by decide, ⟨rfl, Nat.le_of_ble_eq_true rfl, rfl⟩, ?_⟩
  refine ⟨[some (.int N), some (.int k), some (.mls (ms.map .int)), some (.int more), some (.int taker), o5, some (.int (fig N k)), some (.mls ((tk1 (fig N k)).map .int))], fun e => ?_, fun e => ?_, ?_⟩
  · refine ⟨by decide, ⟨rfl, Nat.le_of_ble_eq_true rfl⟩, ?_⟩
    have e : decide (3 < fig N k) = true := e
    show (_ : Env) = _
    unfold tk1; rw [e]; rfl
  · have e : decide (3 < fig N k) = false := e
    show (_ : Env) = _
    unfold tk1; rw [e]; rfl
  have go : ∀ c : Bool, c = (((k : Int) == more) && !inL taker (tk1 (fig N k))) → ∃ ρ₁, (c = true → wpS X (.app 7 (.v 4) .done) [some (.int N), some (.int k), some (.mls (ms.map .int)), some (.int more), some (.int taker), o5, some (.int (fig N k)), some (.mls ((tk1 (fig N k)).map .int))] (joinQ ρ₁ (loopQ Nn Q))) ∧ (c = false → wpS X .done [some (.int N), some (.int k), some (.mls (ms.map .int)), some (.int more), some (.int taker), o5, some (.int (fig N k)), some (.mls ((tk1 (fig N k)).map .int))] (joinQ ρ₁ (loopQ Nn Q))) ∧ wpS X dLast ρ₁ (loopQ Nn Q) := fun c hc => by
    refine ⟨[some (.int N), some (.int k), some (.mls (ms.map .int)), some (.int more), some (.int taker), o5, some (.int (fig N k)), some (.mls ((tk2 (tk1 (fig N k)) c taker).map .int))], fun e => ?_, fun e => ?_, ?_⟩
    · subst e
      refine ⟨⟨rfl, by rw [List.length_map]; have := tk1_len (fig N k); omega⟩, ?_⟩
      show (_ : Env) = _
      show [_, _, _, _, _, _, _, some (D.mls ((tk1 (fig N k)).map D.int ++ [D.int taker]))] = [_, _, _, _, _, _, _, some (D.mls (((tk1 (fig N k)) ++ [taker]).map D.int))]
      rw [List.map_append]; rfl
    · subst e; rfl
    · refine d_last hcl hk hl ?_ (tk2_in tk1_in ht) fun o5 => ?_
      · have h1 := tk1_len (fig N k)
        have h2 := tk2_len (t := tk1 (fig N k)) (c := c) (taker := taker)
        omega
      · subst hc
        exact h o5 _ _
  refine ⟨fun p => ⟨⟨⟨rfl, rfl, Nat.le_of_ble_eq_true rfl⟩, plains_ints _, lays_ints _⟩, ?_⟩, fun p => ?_⟩
  · have p : ((k : Int) == more) = true := p
    rw [any_ints]
    exact go _ (by rw [p]; rfl)
  · have p : ((k : Int) == more) = false := p
    exact go false (by rw [p]; rfl)
noncomputable def drawnFrom (N more taker : Int) : List Int → Nat → Nat → List Int
  | ms, _, 0 => ms
  | ms, k, m + 1 => drawnFrom N more taker (stepM N more taker ms k) (k + 1) m
theorem stepM_len {ms : List Int} (h : ms.length = 5) : (stepM N more taker ms k).length = 5 := by
  unfold stepM; rw [has1_len, takes_len, has1_len]; exact h
theorem drawn_loop {Q : PQ} (hcl : X.cl = false) (ht : 0 ≤ taker ∧ taker ≤ 2) : ∀ (m k : Nat) (ms : List Int) (o1 o5 o6 o7 : Option D), k + m = 12 → ms.length = 5 →
    (∀ o1 o5 o6 o7, Q .next [some (.int N), o1, some (.mls ((drawnFrom N more taker ms k m).map .int)), some (.int more), some (.int taker), o5, o6, o7]) →
    wpFor [1] (wpS X dTurn) (wpS X .done) Q ((List.range' k m).map fun (i : Nat) => D.int (i : Int)) [some (.int N), o1, some (.mls (ms.map .int)), some (.int more), some (.int taker), o5, o6, o7]
  | 0, k, ms, o1, o5, o6, o7, _, _, h => h o1 o5 o6 o7
  | m + 1, k, ms, o1, o5, o6, o7, hk, hl, h => by
    show wpS X dTurn [some (.int N), some (.int k), some (.mls (ms.map .int)), some (.int more), some (.int taker), o5, o6, o7] (loopQ (wpFor [1] (wpS X dTurn) (wpS X .done) Q ((List.range' (k + 1) m).map fun (i : Nat) => D.int (i : Int))) Q)
    exact d_turn hcl (by omega) hl ht fun o5 o6 o7 => drawn_loop hcl ht m (k + 1) _ _ _ _ _ (by omega) (stepM_len hl) h
end
noncomputable def moreOf (N : Int) : Int := (N / 10 ^ 12 % 100 + 12) % 16
noncomputable def takerOf (N : Int) : Int := N / 10 ^ 14 % 3
noncomputable def drawn (N : Int) : List Int := drawnFrom N (moreOf N) (takerOf N) [0, 0, 0, 0, 0] 0 12
theorem c_drawn (w : World) (N : Int) (lv : Nat) : CALL PySem.Challenge.rw_op0036_02.row.prog w (KF w.params) lv 149 [.int N] (.lst ((drawn N).map .int)) := by
  k_fill
  refine' fn_byO (names := ["n"]) (more := ns_law_drawn.drop 1) (r := r_law_drawn) (k := 7) (ok1 w _) (fun _ => rz1) ?ho ?hcd ?hb ?hl ?hz ?hck ?hc ?h
  (case ho => kernel_rfl)
  (case hcd => kernel_rfl)
  (case hb => intro s vs _ _ h; exact hb1E (fun a => by kernel_rfl) vs h)
  (case hl => exact rfl)
  (case hz => exact rfl)
  (case hck => kernel_rfl)
  (case hc => kernel_rfl)
  case h =>
    unfold r_law_drawn
    refine ⟨⟨by decide, by decide, .inr (.inr rfl)⟩, ⟨by decide, by decide⟩, by decide, by decide, ⟨by decide, by decide, .inr (.inr rfl)⟩, ⟨by decide, by decide⟩, by decide, ⟨Nat.le_of_ble_eq_true rfl, rfl, rfl, rfl⟩, rfl, rfl, 12, rfl, rfl, ?_⟩
    show wpFor [1] (wpS _ dTurn) (wpS _ .done) _ ((List.range' 0 12).map fun (i : Nat) => D.int (i : Int)) [some (.int N), none, some (.mls (([0, 0, 0, 0, 0] : List Int).map .int)), some (.int (moreOf N)), some (.int (takerOf N)), none, none, none]
    refine drawn_loop rfl ⟨by unfold takerOf; omega, by unfold takerOf; omega⟩ 12 0 _ _ _ _ _ rfl rfl fun o1 o5 o6 o7 => ?_
    exact ⟨froz_nums _, rfl⟩
theorem bit2 {b q : Int} (h : 0 ≤ b ∧ b ≤ 1) : (b + 2 * q) % 2 = b ∧ (b + 2 * q) / 2 = q := by
  have e : b / 2 = 0 := Int.ediv_eq_zero_of_lt h.1 (Int.lt_of_le_of_lt h.2 (by decide))
  rw [Int.add_mul_emod_self_left, Int.emod_eq_of_lt h.1 (Int.lt_of_le_of_lt h.2 (by decide)), Int.add_mul_ediv_left _ _ (by decide), e, Int.zero_add]
  exact ⟨rfl, rfl⟩
theorem oct_bits {x y z r : Int} (hx : 0 ≤ x ∧ x ≤ 1) (hy : 0 ≤ y ∧ y ≤ 1) (hz : 0 ≤ z ∧ z ≤ 1) : (x + 2 * (y + 2 * (z + 2 * r))) % 8 = x + 2 * y + 4 * z ∧ (x + 2 * (y + 2 * (z + 2 * r))) / 8 = r := by
  have e : (x + 2 * (y + 2 * (z + 2 * r))) / 8 = (x + 2 * (y + 2 * (z + 2 * r))) / 2 / 2 / 2 := by rw [Int.ediv_ediv_of_nonneg (by decide), Int.ediv_ediv_of_nonneg (by decide)]; rfl
  have e2 : x + 2 * (y + 2 * (z + 2 * r)) = (x + 2 * y + 4 * z) + 8 * r := by clear hx hy hz e; omega
  refine ⟨?_, by rw [e, (bit2 hx).2, (bit2 hy).2, (bit2 hz).2]⟩
  rw [e2, Int.add_mul_emod_self_left, Int.emod_eq_of_lt] <;> (clear e e2; omega)
theorem bit_of2 (y : Int) : ∃ b q : Int, (b = 0 ∨ b = 1) ∧ y = b + 2 * q := ⟨y % 2, y / 2, Int.emod_two_eq y, (Int.emod_add_mul_ediv y 2).symm⟩
theorem b01 : (0 : Int) ≤ 0 ∧ (0 : Int) ≤ 1 := by decide
theorem b11 : (0 : Int) ≤ 1 ∧ (1 : Int) ≤ 1 := by decide
end Mine
end
section
open PySem PySem.W PySem.Spec PySem.Calls PyProof.Rows
set_option Elab.async false
set_option linter.unusedVariables false
set_option maxRecDepth 100000
namespace Mine
noncomputable def endsOf (k : Int) : Str := bif k == 2 then Str.ofString "-xTt" else Str.ofString "-xSs"
noncomputable def fA : RE := .bin .Mult (.bin .FloorDiv (.sub (.v 5) (.int 2)) (.int 2)) (.bin .Pow (.int 2) (.bin .Sub (.int 2) (.v 1)))
noncomputable def fS : RE := .bin .Add (.bin .Add (.bin .Mult (.int 4) (.sub (.v 5) (.int 0))) (.bin .Mult (.int 2) (.sub (.v 5) (.int 1)))) (.bin .Mod (.sub (.v 5) (.int 2)) (.int 2))
noncomputable def fRest : RS :=
  (.ite (.cmp .Lt (.bc .min (.cons (.v 5) .nil)) (.int 0))
  (.ret (.lst .nil))
  .done
  (.aui 3 (.int 0) .Add fA
  (.sti 3 (.bin .Add (.v 1) (.int 1)) fS
  .done)))
noncomputable def fTurn : RS :=
  (.set 4 (.itj (.cmp .Eq (.v 1) (.int 2)) (.str "-xTt") (.str "-xSs"))
  (.set 5 (.lst (.cons (.me .find (.str "-r") (.cons (.sub (.v 2) (.bin .Add (.bin .Mult (.int 3) (.v 1)) (.int 1))) .nil)) (.cons (.me .find (.str "-w") (.cons (.sub (.v 2) (.bin .Add (.bin .Mult (.int 3) (.v 1)) (.int 2))) .nil)) (.cons (.me .find (.v 4) (.cons (.sub (.v 2) (.bin .Add (.bin .Mult (.int 3) (.v 1)) (.int 3))) .nil)) .nil))))
  fRest))
theorem it10 {L : Str} {k : Int} (h : L.length = 10) (h0 : 0 ≤ k) (h1 : k < 10) : -(L.length : Int) ≤ k ∧ k < L.length ∧ L.length ≤ 2 ^ 60 := by
  rw [h]; exact ⟨by omega, h1, by decide⟩
section
variable {X : Fx} {m k r v x : Int} {L : Str}
theorem fig_rest {ms : List Int} {o4 : Option D} {N : Env → Prop} {Q : PQ} (hk : 0 ≤ k ∧ k ≤ 2) (hl : ms.length = 4) (b1 : 0 ≤ r) (b2 : 0 ≤ v) (b3 : 0 ≤ x ∧ x < 4)
    (h : ∀ o4 o5, N [some (.int m), some (.int k), some (.str L), some (.mls (((bump ms 0 (x / 2 * 2 ^ (2 - k).toNat)).set (k + 1).toNat (4 * r + 2 * v + x % 2)).map .int)), o4, o5]) :
    wpS X fRest [some (.int m), some (.int k), some (.str L), some (.mls (ms.map .int)), o4, some (.lst [.int r, .int v, .int x])] (loopQ N Q) := by
  have hm : ¬ least [r, v, x] < 0 := by
    have := (least_spec [r, v, x] (List.cons_ne_nil _ _)).1
    rcases List.mem_cons.mp this with e | e
    · rw [e]; omega
    · rcases List.mem_cons.mp e with e | e
      · rw [e]; omega
      · rw [List.mem_singleton.mp e]; omega
  refine ⟨⟨rfl, List.cons_ne_nil _ _⟩, fun a => absurd (of_decide_eq_true a) hm, fun _ => ?_⟩
  refine at_map (by omega) ?_
  refine ⟨⟨by decide, by decide⟩, _, rfl, ⟨by decide, by decide⟩, ⟨by omega, by omega, .inl rfl⟩, ⟨by omega, by omega⟩, ⟨rfl, by decide, by rw [List.length_map, hl]; decide, by rw [List.length_map, hl]; decide⟩, ?_⟩
  have e1 : (ms.map D.int).set (0 : Int).toNat (.int (ms.getD (0 : Int).toNat 0 + x / 2 * 2 ^ (2 - k).toNat)) = (bump ms 0 (x / 2 * 2 ^ (2 - k).toNat)).map .int := set_map _ _ _
  show wpS X (.sti 3 (.bin .Add (.v 1) (.int 1)) fS .done) [some (.int m), some (.int k), some (.str L), some (.mls ((ms.map D.int).set (0 : Int).toNat (.int (ms.getD (0 : Int).toNat 0 + x / 2 * 2 ^ (2 - k).toNat)))), o4, some (.lst [.int r, .int v, .int x])] (loopQ N Q)
  rw [e1]
  have hl' : (bump ms 0 (x / 2 * 2 ^ (2 - k).toNat)).length = 4 := by rw [bump_len]; exact hl
  refine ⟨⟨by decide, by decide⟩, _, rfl, ⟨by decide, by decide⟩, ⟨by decide, by decide⟩, _, rfl, ⟨by decide, by decide⟩, ⟨by decide, by decide⟩, _, rfl, by decide, ⟨rfl, by omega, by rw [List.length_map, hl']; omega, by rw [List.length_map, hl']; decide⟩, ?_⟩
  show N [some (.int m), some (.int k), some (.str L), some (.mls (((bump ms 0 (x / 2 * 2 ^ (2 - k).toNat)).map D.int).set (k + 1).toNat (.int (4 * r + 2 * v + x % 2)))), o4, some (.lst [.int r, .int v, .int x])]
  rw [set_map]
  exact h _ _
theorem fig_turn {ms : List Int} {o4 o5 : Option D} {N : Env → Prop} {Q : PQ} (hk : 0 ≤ k ∧ k ≤ 2) (hL : L.length = 10) (hl : ms.length = 4)
    (e1 : Txt.find (Str.ofString "-r") (Txt.item L (3 * k + 1)) = r) (e2 : Txt.find (Str.ofString "-w") (Txt.item L (3 * k + 2)) = v) (e3 : Txt.find (endsOf k) (Txt.item L (3 * k + 3)) = x) (b1 : 0 ≤ r) (b2 : 0 ≤ v) (b3 : 0 ≤ x ∧ x < 4)
    (h : ∀ o4 o5, N [some (.int m), some (.int k), some (.str L), some (.mls (((bump ms 0 (x / 2 * 2 ^ (2 - k).toNat)).set (k + 1).toNat (4 * r + 2 * v + x % 2)).map .int)), o4, o5]) :
    wpS X fTurn [some (.int m), some (.int k), some (.str L), some (.mls (ms.map .int)), o4, o5] (loopQ N Q) := by
  refine ⟨.str (endsOf k), fun a => ?_, fun a => ?_, rfl, ?_⟩
  · have a : (k == 2) = true := a
    show D.str _ = _
    unfold endsOf; rw [a]; rfl
  · have a : (k == 2) = false := a
    show D.str _ = _
    unfold endsOf; rw [a]; rfl
  refine ⟨⟨by decide, by decide⟩, it10 hL (by omega) (by omega), ⟨by decide, by decide⟩, it10 hL (by omega) (by omega), ⟨by decide, by decide⟩, it10 hL (by omega) (by omega), Nat.le_of_ble_eq_true rfl, rfl, ?_⟩
  show wpS X fRest [some (.int m), some (.int k), some (.str L), some (.mls (ms.map .int)), some (.str (endsOf k)), some (.lst [.int (Txt.find (Str.ofString "-r") (Txt.item L (3 * k + 1))), .int (Txt.find (Str.ofString "-w") (Txt.item L (3 * k + 2))), .int (Txt.find (endsOf k) (Txt.item L (3 * k + 3)))])] (loopQ N Q)
  rw [e1, e2, e3]
  exact fig_rest hk hl b1 b2 b3 h
end
end Mine
end
section
open PySem PySem.W PySem.Spec PySem.Calls PyProof.Rows
set_option Elab.async false
set_option linter.unusedVariables false
set_option maxRecDepth 100000
namespace Mine
noncomputable def b2 (c : Bool) : Int := bif c then 1 else 0
theorem find_r : ∀ c : Bool, Txt.find (Str.ofString "-r") ⟨#[bif c then 114 else 45]⟩ = b2 c := by decide +kernel
theorem find_w : ∀ c : Bool, Txt.find (Str.ofString "-w") ⟨#[bif c then 119 else 45]⟩ = b2 c := by decide +kernel
theorem find_s : ∀ a x : Bool, Txt.find (Str.ofString "-xSs") ⟨#[bif a && x then (bif false then 116 else 115) else bif a then (bif false then 84 else 83) else bif x then 120 else 45]⟩ = 2 * b2 a + b2 x := by decide +kernel
theorem find_t : ∀ a x : Bool, Txt.find (Str.ofString "-xTt") ⟨#[bif a && x then (bif true then 116 else 115) else bif a then (bif true then 84 else 83) else bif x then 120 else 45]⟩ = 2 * b2 a + b2 x := by decide +kernel
theorem b2_rng (c : Bool) : 0 ≤ b2 c ∧ b2 c ≤ 1 := by cases c <;> decide
theorem b2_bit {a : Int} (h : 0 ≤ a ∧ a < 2) : b2 (a == 1) = a := by
  rcases (by omega : a = 0 ∨ a = 1) with rfl | rfl <;> rfl
theorem oct_sum {f : Int} (h0 : 0 ≤ f) (h1 : f < 8) : 4 * b2 (f / 4 == 1) + 2 * b2 (f / 2 % 2 == 1) + b2 (f % 2 == 1) = f :=
  fin_all (n := 8) (P := fun f => 4 * b2 (f / 4 == 1) + 2 * b2 (f / 2 % 2 == 1) + b2 (f % 2 == 1) = f) (by decide +kernel) h0 h1
theorem x_parts {a : Int} (c : Bool) (h : 0 ≤ a ∧ a < 2) : (2 * b2 (a == 1) + b2 c) / 2 = a ∧ (2 * b2 (a == 1) + b2 c) % 2 = b2 c ∧ 0 ≤ 2 * b2 (a == 1) + b2 c ∧ 2 * b2 (a == 1) + b2 c < 4 := by
  obtain ⟨c0, c1⟩ := b2_rng c
  rw [b2_bit h, Int.add_comm, (bit2 ⟨c0, c1⟩).1, (bit2 ⟨c0, c1⟩).2]
  refine ⟨rfl, rfl, ?_, ?_⟩ <;> omega
theorem listed_cl (m : Int) : cl (listed m) = cl (Txt.item "?pc?d?b?-?l?s???" (m / 4096 % 16)) ++ (trL (m / 64 % 8 / 4 == 1) (m / 64 % 8 / 2 % 2 == 1) (m / 64 % 8 % 2 == 1) (m / 2048 % 2 == 1) false ++ (trL (m / 8 % 8 / 4 == 1) (m / 8 % 8 / 2 % 2 == 1) (m / 8 % 8 % 2 == 1) (m / 1024 % 2 == 1) false ++ trL (m / 1 % 8 / 4 == 1) (m / 1 % 8 / 2 % 2 == 1) (m / 1 % 8 % 2 == 1) (m / 512 % 2 == 1) true)) := by
  have m8 : ∀ x : Int, 0 ≤ x % 8 ∧ x % 8 < 8 := fun x => ⟨Int.emod_nonneg x (by decide), Int.emod_lt_of_pos x (by decide)⟩
  have h1 := three_eq (f := m / 64 % 8) (a := m / 2048 % 2) (p := false) (m8 _).1 (m8 _).2 (bit_num _).1 (bit_num _).2
  have h2 := three_eq (f := m / 8 % 8) (a := m / 1024 % 2) (p := false) (m8 _).1 (m8 _).2 (bit_num _).1 (bit_num _).2
  have h3 := three_eq (f := m / 1 % 8) (a := m / 512 % 2) (p := true) (m8 _).1 (m8 _).2 (bit_num _).1 (bit_num _).2
  unfold listed
  rw [cl_app, cl_app, cl_app, h1, h2, h3, List.append_assoc, List.append_assoc]
theorem kind_one (k : Int) : ∃ c, Txt.item "?pc?d?b?-?l?s???" k = ⟨#[c]⟩ ∨ ¬ (0 ≤ k ∧ k < 16) := by
  by_cases h : 0 ≤ k ∧ k < 16
  · have : ∀ j : Fin 16, (cl (Txt.item "?pc?d?b?-?l?s???" (j.1 : Int))).length = 1 := by decide +kernel
    have := fin_all (P := fun k => (cl (Txt.item "?pc?d?b?-?l?s???" k)).length = 1) this h.1 h.2
    obtain ⟨c, hc⟩ := List.length_eq_one_iff.mp this
    exact ⟨c, .inl (cl_ext hc)⟩
  · exact ⟨0, .inr h⟩
theorem listed_items (m : Int) : ∃ c, Txt.item "?pc?d?b?-?l?s???" (m / 4096 % 16) = ⟨#[c]⟩ ∧ cl (listed m) = c :: (trL (m / 64 % 8 / 4 == 1) (m / 64 % 8 / 2 % 2 == 1) (m / 64 % 8 % 2 == 1) (m / 2048 % 2 == 1) false ++ (trL (m / 8 % 8 / 4 == 1) (m / 8 % 8 / 2 % 2 == 1) (m / 8 % 8 % 2 == 1) (m / 1024 % 2 == 1) false ++ trL (m / 1 % 8 / 4 == 1) (m / 1 % 8 / 2 % 2 == 1) (m / 1 % 8 % 2 == 1) (m / 512 % 2 == 1) true)) := by
  obtain ⟨c, h⟩ := kind_one (m / 4096 % 16)
  have h : Txt.item "?pc?d?b?-?l?s???" (m / 4096 % 16) = ⟨#[c]⟩ := h.resolve_right (fun n => n ⟨Int.emod_nonneg _ (by decide), Int.emod_lt_of_pos _ (by decide)⟩)
  exact ⟨c, h, by rw [listed_cl, h]; rfl⟩
theorem item_of {L : Str} {l : List Nat} (e : cl L = l) {i c : Nat} (h : l[i]? = some c) : Txt.item L i = ⟨#[c]⟩ := item_at (by rw [e]; exact h)
theorem kind16 {m : Int} (h0 : 0 ≤ m) (h1 : m < 65536) : 0 ≤ m / 4096 ∧ m / 4096 < 16 := ⟨Int.ediv_nonneg h0 (by decide), Int.ediv_lt_of_lt_mul (by decide) h1⟩
theorem oct3 (u : Int) : ((0 + u / 4 % 2 * 4) + u / 2 % 2 * 2) + u % 2 * 1 = u % 8 := by
  obtain ⟨a, q, ha, rfl⟩ := bit_of2 u
  obtain ⟨b, q, hb, rfl⟩ := bit_of2 q
  obtain ⟨c, q, hc, rfl⟩ := bit_of2 q
  have h : ∀ {x : Int}, x = 0 ∨ x = 1 → 0 ≤ x ∧ x ≤ 1 := fun h => by rcases h with rfl | rfl <;> decide
  have e : (a + 2 * (b + 2 * (c + 2 * q))) / 4 = (a + 2 * (b + 2 * (c + 2 * q))) / 2 / 2 := by rw [Int.ediv_ediv_of_nonneg (by decide)]; rfl
  rw [(oct_bits (h ha) (h hb) (h hc)).1, e, (bit2 (h ha)).1, (bit2 (h ha)).2, (bit2 (h hb)).1, (bit2 (h hb)).2, (bit2 (h hc)).1]
  clear e h ha hb hc; omega
theorem oct3m (m : Int) : ((0 + m / 2048 % 2 * 4) + m / 1024 % 2 * 2) + m / 512 % 2 * 1 = m / 512 % 8 := by
  rw [← oct3, Int.ediv_ediv_of_nonneg (by decide), Int.ediv_ediv_of_nonneg (by decide)]; rfl
noncomputable def figs (m : Int) : D := .lst [.int (m / 512 % 8), .int (m / 64 % 8), .int (m / 8 % 8), .int (m % 8)]
theorem c_figures (w : World) (m : Int) (lv : Nat) (h0 : 0 ≤ m) (h1 : m < 65536) : CALL PySem.Challenge.rw_op0036_02.row.prog w (KF w.params) (lv + 2) 156 [.int m] (figs m) := by
  k_fill
  have fF : FN (X1 w (lv + 2)) "filemode" [.int m] (.str (listed m)) := by
    have C := c_filemode w m lv
    rw [shown_listed] at C
    refine' fn_at C ?hg ?ho (Nat.le_refl _)
    ((case hg => k_is); (case ho => kernel_rfl))
  obtain ⟨c, ek, el⟩ := listed_items m
  have hL : (listed m).length = 10 := by rw [← cl_len, el]; rfl
  have i0 : Txt.item (listed m) 0 = ⟨#[c]⟩ := item_at (i := 0) (by rw [el]; rfl)
  have m8 : ∀ x : Int, 0 ≤ x % 8 ∧ x % 8 < 8 := fun x => ⟨Int.emod_nonneg x (by decide), Int.emod_lt_of_pos x (by decide)⟩
  have p0 := x_parts (m / 64 % 8 % 2 == 1) (bit_num (m / 2048))
  have p1 := x_parts (m / 8 % 8 % 2 == 1) (bit_num (m / 1024))
  have p2 := x_parts (m / 1 % 8 % 2 == 1) (bit_num (m / 512))
  refine' fn_byO (names := ["mode"]) (more := ns_law_figures.drop 1) (r := r_law_figures) (k := 5) (ok1 w _) (fun _ => rz1) ?ho ?hcd ?hb ?hl ?hz ?hck ?hc ?h
  (case ho => kernel_rfl)
  (case hcd => kernel_rfl)
  (case hb => intro s vs _ _ h; exact hb1E (fun a => by kernel_rfl) vs h)
  (case hl => exact rfl)
  (case hz => exact rfl)
  (case hck => kernel_rfl)
  (case hc => kernel_rfl)
  case h =>
    unfold r_law_figures
    have k16 := kind16 h0 h1
    have l16 : (Str.ofString "?pc?d?b?-?l?s???").length = 16 := by decide +kernel
    refine ⟨_, fF, ⟨rfl, Nat.le_of_ble_eq_true rfl, rfl⟩, by rw [hL]; decide, fun p => absurd p (by rw [hL]; decide), fun _ => ⟨it10 hL (by decide) (by decide), ⟨by decide, by decide⟩, ⟨by rw [l16]; exact Int.le_trans (by decide) k16.1, by rw [l16]; exact k16.2, by rw [l16]; decide⟩, fun p => absurd p ?_, fun _ => ⟨fun p => absurd p (by decide), fun _ => ?_⟩⟩⟩
    · rw [show m / 4096 = m / 4096 % 16 from (Int.emod_eq_of_lt k16.1 k16.2).symm]
      show ¬ (Txt.item (listed m) 0 != Txt.item (Str.ofString "?pc?d?b?-?l?s???") (m / 4096 % 16)) = true
      rw [i0, show Txt.item (Str.ofString "?pc?d?b?-?l?s???") (m / 4096 % 16) = _ from ek, bne_self_eq_false]
      exact Bool.false_ne_true
    refine ⟨rfl, rfl, 3, rfl, rfl, ?_⟩
    show wpFor [1] (wpS _ fTurn) (wpS _ .done) _ [.int 0, .int 1, .int 2] [some (.int m), none, some (.str (listed m)), some (.mls (([0, 0, 0, 0] : List Int).map .int)), none, none]
    refine fig_turn (by decide) hL rfl ((congrArg _ (item_of el (i := 1) rfl)).trans (find_r _)) ((congrArg _ (item_of el (i := 2) rfl)).trans (find_w _)) ((congrArg _ (item_of el (i := 3) rfl)).trans (find_s (m / 2048 % 2 == 1) (m / 64 % 8 % 2 == 1))) (b2_rng _).1 (b2_rng _).1 ⟨p0.2.2.1, p0.2.2.2⟩ fun o4 o5 => ?_
    refine fig_turn (by decide) hL rfl ((congrArg _ (item_of el (i := 4) rfl)).trans (find_r _)) ((congrArg _ (item_of el (i := 5) rfl)).trans (find_w _)) ((congrArg _ (item_of el (i := 6) rfl)).trans (find_s (m / 1024 % 2 == 1) (m / 8 % 8 % 2 == 1))) (b2_rng _).1 (b2_rng _).1 ⟨p1.2.2.1, p1.2.2.2⟩ fun o4 o5 => ?_
    refine fig_turn (by decide) hL rfl ((congrArg _ (item_of el (i := 7) rfl)).trans (find_r _)) ((congrArg _ (item_of el (i := 8) rfl)).trans (find_w _)) ((congrArg _ (item_of el (i := 9) rfl)).trans (find_t (m / 512 % 2 == 1) (m / 1 % 8 % 2 == 1))) (b2_rng _).1 (b2_rng _).1 ⟨p2.2.2.1, p2.2.2.2⟩ fun o4 o5 => ?_
    rw [p0.1, p0.2.1, p1.1, p1.2.1, p2.1, p2.2.1, oct_sum (m8 _).1 (m8 _).2, oct_sum (m8 _).1 (m8 _).2, oct_sum (m8 _).1 (m8 _).2]
    refine ⟨froz_nums _, ?_⟩
    show D.lst [.int (((0 + m / 2048 % 2 * 4) + m / 1024 % 2 * 2) + m / 512 % 2 * 1), .int (m / 64 % 8), .int (m / 8 % 8), .int (m / 1 % 8)] = figs m
    rw [oct3m, Int.ediv_one]
    rfl
end Mine
end
section
open PySem PySem.W PySem.Spec PySem.Calls PyProof.Rows
set_option Elab.async false
set_option linter.unusedVariables false
set_option maxRecDepth 100000
namespace Mine
noncomputable def emB : RS :=
  (.app 3 (.sub (.g "_B64" d_B64) (.bin .BitAnd (.bin .RShift (.v 5) (.bin .Sub (.v 4) (.int 6))) (.int 63)))
  (.set 4 (.bin .Sub (.v 4) (.int 6))
  .done))
theorem and63 (x : Int) : Builtin.bitAnd x 63 = x % 64 := kbt_mask x 6
section
variable {X : Fx} {o0 o1 o2 o6 : Option D} {out : List D} {lb lc : Int} {Q : PQ}
theorem em_turn {N : Env → Prop} (gB : GV X "_B64" d_B64) (h6 : 6 ≤ lb) (hl : out.length ≤ 1000) (h : N [o0, o1, o2, some (.mls (out ++ [.int (b64 (lc / 2 ^ (lb - 6).toNat % 64))])), some (.int (lb - 6)), some (.int lc), o6]) :
    wpS X emB [o0, o1, o2, some (.mls out), some (.int lb), some (.int lc), o6] (loopQ N Q) := by
  rw [← and63] at h
  exact ⟨gB, by omega, ⟨m6_lo _, m6_hi _, by exact Nat.le_of_ble_eq_true rfl⟩, ⟨rfl, by omega⟩, rfl, h⟩
noncomputable def byB : RS :=
  (.set 5 (.bin .BitAnd (.bin .BitOr (.bin .LShift (.v 5) (.int 8)) (.v 6)) (.int 65535))
  (.set 4 (.bin .Add (.v 4) (.int 8))
  (.while_ (.cmp .GtE (.v 4) (.int 6)) emB .done .done)))
theorem by_turn {N : Env → Prop} {b : Int} (n : Nat) (hcl : X.cl = false) (h0 : 0 ≤ b) (h1 : b < 256) (l0 : 0 ≤ lc) (l1 : lc < 65536)
    (h : wpWh (wp X (.cmp .GtE (.v 4) (.int 6)) .t) (wpS X emB) (wpS X .done) (seqQ (wpS X .done) (loopQ N Q)) n [o0, o1, o2, some (.mls out), some (.int (lb + 8)), some (.int ((lc * 256 + b) % 65536)), some (.int b)]) :
    wpS X byB [o0, o1, o2, some (.mls out), some (.int lb), some (.int lc), some (.int b)] (loopQ N Q) := by
  rw [← step_lc h0 h1] at h
  exact ⟨⟨by decide, by decide, by omega, by omega⟩, rfl, rfl, hcl, n, h⟩
theorem w_done {T : Env → (D → Prop) → Prop} {B O : Env → PQ → Prop} {ρ : Env} (hT : T ρ fun x => ifD x False (O ρ (noX Q))) : wpWh T B O Q 0 ρ := hT
theorem w_more {T : Env → (D → Prop) → Prop} {B O : Env → PQ → Prop} {ρ : Env} {n : Nat} (hT : T ρ fun x => ifD x (B ρ (loopQ (wpWh T B O Q n) Q)) (O ρ (noX Q))) : wpWh T B O Q (n + 1) ρ := hT
end
theorem b64_range (k : Int) : 0 ≤ b64 k ∧ b64 k < 256 := by
  unfold b64
  have := (b64tab.getD k.toNat 0).toNat_lt
  omega
noncomputable def packOf (a b d e : Int) : Int := ((64 * a + b) * 64 + d) * 64 + e
noncomputable def octs (p : Int) : List Int := [p / 65536, p / 256 % 256, p % 256]
theorem pack_rng {a b d e : Int} (h1 : 0 ≤ a ∧ a < 64) (h2 : 0 ≤ b ∧ b < 64) (h3 : 0 ≤ d ∧ d < 64) (h4 : 0 ≤ e ∧ e < 64) : 0 ≤ packOf a b d e ∧ packOf a b d e < 16777216 := by
  unfold packOf; omega
theorem oct_a {p : Int} (h : 0 ≤ p ∧ p < 16777216) : 0 ≤ p / 65536 ∧ p / 65536 < 256 := by omega
theorem oct_b (p : Int) : 0 ≤ p % 256 ∧ p % 256 < 256 := by omega
theorem octs_ok {a b d e : Int} (h1 : 0 ≤ a ∧ a < 64) (h2 : 0 ≤ b ∧ b < 64) (h3 : 0 ≤ d ∧ d < 64) (h4 : 0 ≤ e ∧ e < 64) : ∀ n ∈ octs (packOf a b d e), 0 ≤ n ∧ n < 256 :=
  fa1 (oct_a (pack_rng h1 h2 h3 h4)) (fa1 (oct_b _) (fa1 (oct_b _) fa0))
theorem lc_parts {p : Int} (h : 0 ≤ p ∧ p < 16777216) : (0 * 256 + p / 65536) % 65536 = p / 65536 ∧ (p / 65536 * 256 + p / 256 % 256) % 65536 = p / 256 ∧ (p / 256 * 256 + p % 256) % 65536 = p % 65536 := by
  have e : ∀ q : Int, q / 256 * 256 + q % 256 = q := fun q => by omega
  refine ⟨?_, ?_, by rw [e]⟩
  · rw [Int.zero_mul, Int.zero_add]; exact Int.emod_eq_of_lt (oct_a h).1 (Int.lt_trans (oct_a h).2 (by decide))
  · have k : p / 256 / 256 = p / (256 * 256) := Int.ediv_ediv_of_nonneg (by decide)
    rw [show p / 65536 = p / 256 / 256 from k.symm, e]
    exact Int.emod_eq_of_lt (Int.ediv_nonneg h.1 (by decide)) (Int.ediv_lt_of_lt_mul (by decide) h.2)
theorem pack_a {a b d e : Int} (ha : 0 ≤ a ∧ a < 64) (hb : 0 ≤ b ∧ b < 64) (hd : 0 ≤ d ∧ d < 64) (he : 0 ≤ e ∧ e < 64) : packOf a b d e / 65536 / 4 % 64 = a := by unfold packOf; omega
theorem pack_b {a b d e : Int} (hb : 0 ≤ b ∧ b < 64) (hd : 0 ≤ d ∧ d < 64) (he : 0 ≤ e ∧ e < 64) : packOf a b d e / 256 / 16 % 64 = b := by unfold packOf; omega
theorem pack_d {a b d e : Int} (hd : 0 ≤ d ∧ d < 64) (he : 0 ≤ e ∧ e < 64) : packOf a b d e % 65536 / 64 % 64 = d := by unfold packOf; omega
theorem pack_e {a b d e : Int} (he : 0 ≤ e ∧ e < 64) : packOf a b d e % 65536 / 1 % 64 = e := by unfold packOf; omega
theorem lc_first {p lc : Int} (h : 0 ≤ p ∧ p < 16777216) : (lc * 256 + p / 65536) % 65536 / 4 % 64 = p / 65536 / 4 % 64 ∧ ((lc * 256 + p / 65536) % 65536 * 256 + p / 256 % 256) % 65536 = p / 256 := by
  have := oct_a h
  refine ⟨by omega, ?_⟩
  have e : (lc * 256 + p / 65536) % 65536 % 256 = p / 65536 := by omega
  have e2 : p / 65536 * 256 + p / 256 % 256 = p / 256 := by omega
  omega
section
variable {X : Fx} {o0 o1 o2 : Option D} {Q : PQ}
theorem triple_turn {rest out : List D} {lc a b d e : Int} {o6 : Option D} (hcl : X.cl = false) (gB : GV X "_B64" d_B64) (ha : 0 ≤ a ∧ a < 64) (hb : 0 ≤ b ∧ b < 64) (hd : 0 ≤ d ∧ d < 64) (he : 0 ≤ e ∧ e < 64) (l0 : 0 ≤ lc) (l1 : lc < 65536) (hl : out.length ≤ 900)
    (h : wpFor [6] (wpS X byB) (wpS X .done) Q rest [o0, o1, o2, some (.mls (out ++ [.int (b64 a)] ++ [.int (b64 b)] ++ [.int (b64 d)] ++ [.int (b64 e)])), some (.int 0), some (.int (packOf a b d e % 65536)), some (.int (packOf a b d e % 256))]) :
    wpFor [6] (wpS X byB) (wpS X .done) Q (.int (packOf a b d e / 65536) :: .int (packOf a b d e / 256 % 256) :: .int (packOf a b d e % 256) :: rest) [o0, o1, o2, some (.mls out), some (.int 0), some (.int lc), o6] := by
  have hp := pack_rng ha hb hd he
  obtain ⟨f1, f2⟩ := lc_first (lc := lc) hp
  obtain ⟨_, _, f3⟩ := lc_parts hp
  have oa := oct_a hp
  have ob := oct_b (packOf a b d e / 256)
  have oc := oct_b (packOf a b d e)
  have m1 := Int.emod_nonneg (lc * 256 + packOf a b d e / 65536) (show (65536 : Int) ≠ 0 by decide)
  have m2 := Int.emod_lt_of_pos (lc * 256 + packOf a b d e / 65536) (show (0 : Int) < 65536 by decide)
  have g1 : (lc * 256 + packOf a b d e / 65536) % 65536 / 2 ^ (0 + 8 - 6 : Int).toNat % 64 = a := f1.trans (pack_a ha hb hd he)
  have g2 : packOf a b d e / 256 / 2 ^ (0 + 8 - 6 + 8 - 6 : Int).toNat % 64 = b := pack_b hb hd he
  have g3 : packOf a b d e % 65536 / 2 ^ (0 + 8 - 6 + 8 - 6 + 8 - 6 : Int).toNat % 64 = d := pack_d hd he
  have g4 : packOf a b d e % 65536 / 2 ^ (0 + 8 - 6 + 8 - 6 + 8 - 6 - 6 : Int).toNat % 64 = e := pack_e he
  refine by_turn 1 hcl oa.1 oa.2 l0 l1 (w_more ⟨fun _ => em_turn gB (by decide) (by omega) (w_done ⟨(fun a => nomatch a), fun _ => ?_⟩), (fun a => nomatch a)⟩)
  rw [g1]
  refine by_turn 1 hcl ob.1 ob.2 m1 m2 (w_more ⟨fun _ => em_turn gB (by decide) (by rw [List.length_append]; show out.length + 1 ≤ 1000; omega) (w_done ⟨(fun a => nomatch a), fun _ => ?_⟩), (fun a => nomatch a)⟩)
  rw [f2, g2]
  refine by_turn 2 hcl oc.1 oc.2 (Int.ediv_nonneg hp.1 (by decide)) (Int.ediv_lt_of_lt_mul (by decide) hp.2) (w_more ⟨fun _ => em_turn gB (by decide) (by rw [List.length_append, List.length_append]; show out.length + 1 + 1 ≤ 1000; omega) (w_more ⟨fun _ => em_turn gB (by decide) (by rw [List.length_append, List.length_append, List.length_append]; show out.length + 1 + 1 + 1 ≤ 1000; omega) (w_done ⟨(fun a => nomatch a), fun _ => ?_⟩), (fun a => nomatch a)⟩), (fun a => nomatch a)⟩)
  rw [f3, g3, g4]
  exact h
end
end Mine
end
section
open PySem PySem.W PySem.Spec PySem.Calls PyProof.Rows
set_option Elab.async false
set_option linter.unusedVariables false
set_option maxRecDepth 100000
namespace Mine
structure Q4 where
  a : Int
  b : Int
  d : Int
  e : Int
structure Q4.Ok (t : Q4) : Prop where
  a : 0 ≤ t.a ∧ t.a < 64
  b : 0 ≤ t.b ∧ t.b < 64
  d : 0 ≤ t.d ∧ t.d < 64
  e : 0 ≤ t.e ∧ t.e < 64
noncomputable def Q4.oct (t : Q4) : List Int := octs (packOf t.a t.b t.d t.e)
noncomputable def Q4.sig (t : Q4) : List Int := [b64 t.a, b64 t.b, b64 t.d, b64 t.e]
noncomputable def octL : List Q4 → List Int
  | [] => []
  | t :: r => t.oct ++ octL r
noncomputable def sigL : List Q4 → List Int
  | [] => []
  | t :: r => t.sig ++ sigL r
theorem octL_rng : ∀ {q : List Q4}, (∀ t ∈ q, t.Ok) → ∀ n ∈ octL q, 0 ≤ n ∧ n < 256
  | [], _, n, hn => nomatch hn
  | t :: r, h, n, hn => by
    rcases List.mem_append.mp hn with z | z
    · have o := h t (.head _)
      exact octs_ok o.a o.b o.d o.e n z
    · exact octL_rng (fun t ht => h t (.tail _ ht)) n z
theorem sigL_rng : ∀ {q : List Q4}, ∀ n ∈ sigL q, 0 ≤ n ∧ n < 256
  | [], n, hn => nomatch hn
  | t :: r, n, hn => by
    rcases List.mem_append.mp hn with z | z
    · have : ∀ n ∈ t.sig, 0 ≤ n ∧ n < 256 := fa1 (b64_range _) (fa1 (b64_range _) (fa1 (b64_range _) (fa1 (b64_range _) fa0)))
      exact this n z
    · exact sigL_rng n z
theorem sigL_len : ∀ (q : List Q4), (sigL q).length = 4 * q.length
  | [] => rfl
  | t :: r => by
    show (t.sig ++ sigL r).length = _
    rw [List.length_append, sigL_len r, List.length_cons, show t.sig.length = 4 from rfl]; omega
theorem unI_map : ∀ l : List Int, (l.map D.int).map unI = l
  | [] => rfl
  | n :: l => congrArg (n :: ·) (unI_map l)
section
variable {X : Fx} {o0 o1 o2 : Option D} {Q : PQ}
theorem quads_loop (hcl : X.cl = false) (gB : GV X "_B64" d_B64) : ∀ (q : List Q4) (out : List D) (lc : Int) (o6 : Option D), (∀ t ∈ q, t.Ok) → out.length + 4 * q.length ≤ 900 → 0 ≤ lc → lc < 65536 →
    (∀ lc o6, Q .next [o0, o1, o2, some (.mls (out ++ (sigL q).map .int)), some (.int 0), some (.int lc), o6]) →
    wpFor [6] (wpS X byB) (wpS X .done) Q ((octL q).map .int) [o0, o1, o2, some (.mls out), some (.int 0), some (.int lc), o6]
  | [], out, lc, o6, _, _, _, _, h => by
    have h := h lc o6
    rw [show (sigL []).map D.int = [] from rfl, List.append_nil] at h
    exact h
  | t :: r, out, lc, o6, ht, hl, l0, l1, h => by
    have o := ht t (.head _)
    rw [List.length_cons] at hl
    have m := oct_b (packOf t.a t.b t.d t.e)
    refine triple_turn hcl gB o.a o.b o.d o.e l0 l1 (by omega) ?_
    refine quads_loop hcl gB r _ _ _ (fun t h => ht t (.tail _ h)) ?_ (Int.emod_nonneg _ (by decide)) (Int.emod_lt_of_pos _ (by decide)) fun lc o6 => ?_
    · rw [List.length_append, List.length_append, List.length_append, List.length_append]
      show out.length + 1 + 1 + 1 + 1 + 4 * r.length ≤ 900
      omega
    · have h := h lc o6
      have e : out ++ [.int (b64 t.a)] ++ [.int (b64 t.b)] ++ [.int (b64 t.d)] ++ [.int (b64 t.e)] ++ (sigL r).map D.int = out ++ (sigL (t :: r)).map .int := by
        show _ = out ++ (t.sig ++ sigL r).map .int
        rw [List.map_append]
        simp only [Q4.sig, List.map_cons, List.map_nil, List.append_assoc, List.cons_append, List.nil_append]
      rw [e]
      exact h
end
theorem c_b2aQ (w : World) (q : List Q4) (lv : Nat) (hq : ∀ t ∈ q, t.Ok) (hl : q.length ≤ 100) : CALLK PySem.Challenge.rw_op0036_02.row.prog w (KF w.params) (lv + 1) 90 [.bytes (byteArr (octL q))] ["newline"] [.bool false] (.bytes (byteArr (sigL q))) := by
  k_fill
  refine' fn_byKO (names := ["data", "newline"]) (more := ns_b2a_base64.drop 2) (r := r_b2a_base64) (k := 5) (ok1 w _) (fun _ => rz1) ?ho ?hcd ?hb ?hl ?hz ?hz' ?hck ?hc ?h
  (case ho => kernel_rfl)
  (case hcd => kernel_rfl)
  (case hb => intro s vs ks _ _ h h'; exact hb11E (fun a b => by kernel_rfl) vs ks h h')
  (case hl => exact rfl)
  (case hz => exact rfl)
  (case hz' => exact rfl)
  (case hck => kernel_rfl)
  (case hc => kernel_rfl)
  case h =>
    have fb : FN (X1 w (lv + 1)) "_buffer" [.bytes (byteArr (octL q))] (.bytes (byteArr (octL q))) := by
      refine' fn_at (c_buffer w _ lv) ?hg ?ho (Nat.le_refl _)
      ((case hg => k_is); (case ho => kernel_rfl))
    have ft : FN (X1 w (lv + 1)) "_truth" [.bool false] (.bool false) := by
      refine' fn_at (c_truth w false lv) ?hg ?ho (Nat.le_refl _)
      ((case hg => k_is); (case ho => kernel_rfl))
    have gB := gv_B64 w (lv + 1)
    have hr := octL_rng hq
    unfold r_b2a_base64
    refine ⟨_, fb, rfl, _, ft, rfl, ⟨by decide, rfl⟩, rfl, rfl, rfl, ?_⟩
    show frozB.frozBs (bytesOf (byteArr (octL q))) = true ∧ wpFor [6] (wpS _ byB) (wpS _ .done) _ (bytesOf (byteArr (octL q))) [some (.bytes (byteArr (octL q))), some (.bool false), some (.bytes (byteArr (octL q))), some (.mls []), some (.int 0), some (.int 0), none]
    rw [bytesOf_arr hr]
    refine ⟨froz_nums _, quads_loop rfl gB q [] 0 none hq (by show 0 + 4 * q.length ≤ 900; omega) (by decide) (by decide) fun lc o6 => ?_⟩
    rw [List.nil_append]
    refine And.intro (fun a => nomatch a) fun _ => And.intro (fun a => nomatch a) fun _ => And.intro (fun a => nomatch a) fun _ => ?_
    refine ⟨⟨congrArg _ (unI_map _), ?_, ?_⟩, rfl, ?_⟩
    · rw [unI_map]; exact sigL_rng
    · rw [unI_map, sigL_len]; omega
    · show D.bytes (byteArr ((sigL q).map D.int |>.map unI)) = _
      rw [unI_map]
noncomputable def encQ (q : List Q4) : Array UInt8 := transBy (transOf [43, 47] [40, 41]) (byteArr (sigL q))
theorem encQ_len (q : List Q4) : (encQ q).toList.length = 4 * q.length := by
  unfold encQ transBy
  rw [Array.length_toList, Array.size_map]
  show (byteArr (sigL q)).size = _
  unfold byteArr
  rw [List.size_toArray, List.length_map, sigL_len]
theorem c_b64Q (w : World) (q : List Q4) (lv : Nat) (hq : ∀ t ∈ q, t.Ok) (hl : q.length ≤ 100) : CALL PySem.Challenge.rw_op0036_02.row.prog w (KF w.params) (lv + 2) 98 [.bytes (byteArr (octL q)), .bytes #[40, 41]] (.bytes (encQ q)) := by
  have C := c_b2aQ w q lv hq hl
  k_fill
  have fb : FNK (X1 w (lv + 2)) "b2a_base64" [.bytes (byteArr (octL q))] "newline" (.bool false) (.bytes (byteArr (sigL q))) := by
    refine' fnk_at C ?hg ?ho (Nat.le_refl _)
    ((case hg => k_is); (case ho => kernel_rfl))
  refine' call_K0 (fn_byK (kn := []) (kd := []) (names := ["s", "altchars"]) (more := ns_b64encode.drop 2) (r := r_b64encode) (k := 1) (ok1 w _) rz1 ?ho ?hcd ?hb ?hl ?hz ?hz' ?hck ?hc ?h)
  (case ho => k_is)
  (case hcd => k_is)
  (case hb => intro s vs ks _ X h h'; refine hb20 (fun a b => ?_) vs ks h h'; exact binds_K X rfl (by k_is) rfl rfl rfl)
  (case hl => exact rfl)
  (case hz => exact rfl)
  (case hz' => exact rfl)
  (case hck => kernel_rfl)
  (case hc => kernel_rfl)
  case h =>
    unfold r_b64encode
    refine ⟨_, fb, rfl, fun _ => ?_, fun a => nomatch a⟩
    refine ⟨Nat.le_of_ble_eq_true rfl, rfl, rfl, ⟨transOf_size _ _, ?_⟩, rfl, rfl⟩
    unfold byteArr
    rw [List.size_toArray, List.length_map, sigL_len]; omega
end Mine
end
section
open PySem PySem.W PySem.Spec PySem.Calls PyProof.Rows
set_option Elab.async false
set_option linter.unusedVariables false
set_option maxRecDepth 100000
namespace Mine
noncomputable def rpPack : RE := .bin .Add (.bin .Mult (.bin .Add (.bin .Mult (.bin .Add (.bin .Mult (.int 64) (.sub (.v 2) (.v 4))) (.sub (.v 2) (.bin .Add (.v 4) (.int 1)))) (.int 64)) (.sub (.v 2) (.bin .Add (.v 4) (.int 2)))) (.int 64)) (.sub (.v 2) (.bin .Add (.v 4) (.int 3)))
noncomputable def rpTurn : RS :=
  (.set 5 rpPack
  (.ext 3 (.cons (.bin .FloorDiv (.v 5) (.int 65536)) (.cons (.bin .Mod (.bin .FloorDiv (.v 5) (.int 256)) (.int 256)) (.cons (.bin .Mod (.v 5) (.int 256)) .nil)))
  .done))
theorem small63 {i : Int} (h : 0 ≤ i ∧ i ≤ 12) (k : Int) (h0 : 0 ≤ k) (h1 : k ≤ 3) : 0 ≤ i + k ∧ i + k < 2 ^ 63 := ⟨by omega, Int.lt_of_le_of_lt (show i + k ≤ 15 by omega) (by decide)⟩
theorem rp_turn {X : Fx} {S out : List D} {i a b d e : Int} {o0 o1 o5 o6 o7 : Option D} {N : Env → Prop} {Q : PQ} (hi : 0 ≤ i ∧ i ≤ 12) (g0 : S[i.toNat]? = some (.int a)) (g1 : S[(i + 1).toNat]? = some (.int b)) (g2 : S[(i + 2).toNat]? = some (.int d)) (g3 : S[(i + 3).toNat]? = some (.int e))
    (ha : 0 ≤ a ∧ a < 64) (hb : 0 ≤ b ∧ b < 64) (hd : 0 ≤ d ∧ d < 64) (he : 0 ≤ e ∧ e < 64) (hl : out.length ≤ 1000)
    (h : ∀ o5, N [o0, o1, some (.lst S), some (.mls (out ++ (octs (packOf a b d e)).map .int)), some (.int i), o5, o6, o7]) :
    wpS X rpTurn [o0, o1, some (.lst S), some (.mls out), some (.int i), o5, o6, o7] (loopQ N Q) := by
  have s0 := small63 hi 0 (by decide) (by decide)
  rw [Int.add_zero] at s0
  refine ⟨s0, _, g0, ⟨by decide, by decide⟩, small63 hi 1 (by decide) (by decide), _, g1, ⟨by omega, by omega⟩, small63 hi 2 (by decide) (by decide), _, g2, ⟨by omega, by omega⟩, small63 hi 3 (by decide) (by decide), _, g3, rfl, ?_⟩
  refine ⟨⟨by decide, by decide⟩, ⟨by decide, by decide⟩, by decide, by decide, ⟨Nat.le_of_ble_eq_true rfl, by omega, rfl⟩, ?_⟩
  exact h _
noncomputable def plusD : D → D
  | .int x => .int (52 + x)
  | _ => .none
noncomputable def chrD : D → D
  | .int i => .str ⟨#[i.toNat]⟩
  | _ => .none
noncomputable def quads (a b c d L : Int) : List Q4 := [⟨54, 54, 61, L⟩, ⟨62, L, L, L⟩, ⟨52 + a, 52 + b, 52 + c, 52 + d⟩, ⟨L, 63, 25, L⟩]
noncomputable def replyOf (a b c d L : Int) : Str := Txt.join (Str.ofString "") ((encQ (quads a b c d L)).toList.map fun u => ⟨#[u.toNat]⟩)
noncomputable def lowF (x : Int) : Prop := -21 ≤ x ∧ x ≤ 7
theorem quads_ok {a b c d L : Int} (ha : lowF a) (hb : lowF b) (hc : lowF c) (hd : lowF d) (hL : 0 ≤ L ∧ L < 26) : ∀ t ∈ quads a b c d L, t.Ok := by
  have f : ∀ {x : Int}, lowF x → 0 ≤ 52 + x ∧ 52 + x < 64 := fun h => ⟨by have := h.1; omega, by have := h.2; omega⟩
  have l : 0 ≤ L ∧ L < 64 := ⟨hL.1, by omega⟩
  have n54 : (0 : Int) ≤ 54 ∧ (54 : Int) < 64 := by decide
  have n61 : (0 : Int) ≤ 61 ∧ (61 : Int) < 64 := by decide
  have n62 : (0 : Int) ≤ 62 ∧ (62 : Int) < 64 := by decide
  have n63 : (0 : Int) ≤ 63 ∧ (63 : Int) < 64 := by decide
  have n25 : (0 : Int) ≤ 25 ∧ (25 : Int) < 64 := by decide
  exact fa1 ⟨n54, n54, n61, l⟩ (fa1 ⟨n62, l, l, l⟩ (fa1 ⟨f ha, f hb, f hc, f hd⟩ (fa1 ⟨l, n63, n25, l⟩ fa0)))
theorem c_reply (w : World) (a b c d L : Int) (lv : Nat) (ha : lowF a) (hb : lowF b) (hc : lowF c) (hd : lowF d) (hL : 0 ≤ L ∧ L < 26) : CALL PySem.Challenge.rw_op0036_02.row.prog w (KF w.params) (lv + 3) 161 [.lst [.int a, .int b, .int c, .int d], .int L] (.str (replyOf a b c d L)) := by
  have C := c_b64Q w (quads a b c d L) lv (quads_ok ha hb hc hd hL) (Nat.le_of_ble_eq_true rfl)
  have f : ∀ {x : Int}, lowF x → 0 ≤ 52 + x ∧ 52 + x < 64 := fun h => ⟨by have := h.1; omega, by have := h.2; omega⟩
  have l : 0 ≤ L ∧ L < 64 := ⟨hL.1, by omega⟩
  k_fill
  have fb : FN (X1 w (lv + 3)) "b64encode" [.bytes (byteArr (octL (quads a b c d L))), .bytes #[40, 41]] (.bytes (encQ (quads a b c d L))) := by
    refine' fn_at C ?hg ?ho (Nat.le_refl _)
    ((case hg => k_is); (case ho => kernel_rfl))
  refine' fn_byO (names := ["figures", "letter"]) (more := ns_law_reply.drop 2) (r := r_law_reply) (k := 6) (ok1 w _) (fun _ => rz1) ?ho ?hcd ?hb ?hl ?hz ?hck ?hc ?h
  (case ho => kernel_rfl)
  (case hcd => kernel_rfl)
  (case hb => intro s vs _ _ h; exact hb2E (fun a b => by kernel_rfl) vs h)
  (case hl => exact rfl)
  (case hz => exact rfl)
  (case hck => kernel_rfl)
  (case hc => kernel_rfl)
  case h =>
    unfold r_law_reply
    refine And.intro (Nat.le_of_ble_eq_true rfl) (And.intro ⟨rfl, Nat.le_of_ble_eq_true rfl, rfl⟩ ⟨plusD, ?_, ?_⟩)
    · exact fa1 ⟨rfl, rfl⟩ (fa1 ⟨rfl, rfl⟩ (fa1 ⟨rfl, rfl⟩ (fa1 ⟨rfl, rfl⟩ fa0)))
    refine ⟨⟨Nat.le_of_ble_eq_true rfl, Nat.le_of_ble_eq_true rfl⟩, Nat.le_of_ble_eq_true rfl, ⟨Nat.le_of_ble_eq_true rfl, Nat.le_of_ble_eq_true rfl⟩, rfl, ⟨by decide, rfl⟩, rfl, ⟨by decide, by decide⟩, rfl, 4, rfl, rfl, ?_⟩
    show wpFor [4] (wpS _ rpTurn) (wpS _ .done) _ [.int 0, .int 4, .int 8, .int 12] [some (.lst [.int a, .int b, .int c, .int d]), some (.int L), some (.lst [.int 54, .int 54, .int 61, .int L, .int 62, .int L, .int L, .int L, .int (52 + a), .int (52 + b), .int (52 + c), .int (52 + d), .int L, .int 63, .int 25, .int L]), some (.mls []), none, none, none, none]
    refine rp_turn (by decide) rfl rfl rfl rfl ⟨by decide, by decide⟩ ⟨by decide, by decide⟩ ⟨by decide, by decide⟩ l (Nat.le_of_ble_eq_true rfl) fun o5 => ?_
    refine rp_turn (by decide) rfl rfl rfl rfl ⟨by decide, by decide⟩ l l l (Nat.le_of_ble_eq_true rfl) fun o5 => ?_
    refine rp_turn (by decide) rfl rfl rfl rfl (f ha) (f hb) (f hc) (f hd) (Nat.le_of_ble_eq_true rfl) fun o5 => ?_
    refine rp_turn (by decide) rfl rfl rfl rfl l ⟨by decide, by decide⟩ ⟨by decide, by decide⟩ l (Nat.le_of_ble_eq_true rfl) fun o5 => ?_
    have rng := octL_rng (quads_ok ha hb hc hd hL)
    refine ⟨⟨rfl, rng, Nat.le_of_ble_eq_true rfl⟩, _, fb, ?_⟩
    refine And.intro ⟨?_, ?_, rfl⟩ ⟨chrD, fun x hx => ?_, ?_⟩
    · have e : bytesOf (encQ (quads a b c d L)) = ((encQ (quads a b c d L)).toList.map fun u : UInt8 => (u.toNat : Int)).map .int := by rw [List.map_map]; rfl
      rw [e]
      exact froz_nums _
    · unfold bytesOf
      rw [List.length_map, encQ_len]; exact Nat.le_of_ble_eq_true rfl
    · obtain ⟨u, _, rfl⟩ := List.mem_map.mp hx
      exact ⟨by have := u.toNat_lt; omega, rfl, rfl⟩
    · refine ⟨(encQ (quads a b c d L)).toList.map fun (u : UInt8) => (⟨#[u.toNat]⟩ : Str), ?_, ?_, rfl, rfl⟩
      · unfold bytesOf
        rw [List.map_map, List.map_map]; rfl
      · refine joinOk_ones _ (fun y hy => ?_) (by rw [List.length_map, encQ_len]; exact Nat.le_of_ble_eq_true rfl)
        obtain ⟨u, _, rfl⟩ := List.mem_map.mp hy
        rfl
end Mine
end
section
open PySem PySem.W PySem.Spec PySem.Calls PyProof.Rows PySem.NumText
open PySem.Builtin PySem.Builtin.Str
set_option Elab.async false
set_option linter.unusedVariables false
set_option maxRecDepth 100000
namespace Mine
theorem step_bad {p : Array Nat × Bool} {c : Nat} (h : ¬ (48 ≤ c ∧ c ≤ 57)) (hu : c ≠ 95) : NumText.step 10 p c = none := by
  unfold NumText.step
  rw [if_neg (by simpa using hu)]
  have : ∀ d, digit? c = some d → ¬ d < 10 := by
    intro d hd
    unfold digit? at hd
    rw [if_neg (by simpa using fun z => by omega)] at hd
    split at hd
    · cases hd
      rename_i z
      simp only [Bool.and_eq_true, decide_eq_true_eq] at z
      omega
    · split at hd
      · cases hd
        rename_i z
        simp only [Bool.and_eq_true, decide_eq_true_eq] at z
        omega
      · cases hd
  cases hd : digit? c with
  | none => rfl
  | some d => exact if_neg (this d hd)
theorem fold_bad : ∀ {cs : List Nat} {p : Array Nat × Bool}, ¬ AllDigits cs → 95 ∉ cs → cs.foldlM (NumText.step 10) p = none
  | [], p, h, _ => absurd (fun c hc => (nomatch hc)) h
  | c :: cs, p, h, hu => by
    rw [List.foldlM_cons]
    by_cases hc : 48 ≤ c ∧ c ≤ 57
    · obtain ⟨ds, b⟩ := p
      rw [step_digit hc]
      exact fold_bad (fun k => h fun d hd => (List.mem_cons.mp hd).elim (fun z => z ▸ hc) (k d)) fun z => hu (.tail _ z)
    · rw [step_bad hc (fun z => hu (z ▸ .head _))]; rfl
noncomputable def Prt (l : List Nat) : Prop := ∀ c ∈ l, 14 ≤ c ∧ c < 127
theorem numText_prt {x : Str} (h : Prt (cl x)) : numTextOf x = cl x ∧ numSeenOf x = cl x := by
  have e1 : numTextOf x = x.cps.toList := by
    refine if_pos ?_
    rw [← Array.all_toList, List.all_eq_true]
    intro c hc
    have := h c hc
    exact decide_eq_true (by omega)
  refine ⟨e1, ?_⟩
  show (numTextOf x).takeWhile _ = _
  rw [e1]
  refine takeWhile_all fun c hc => ?_
  have := h c hc
  exact bne_iff_ne.mpr (by omega)
theorem prt_repr {p : Str} (h : Prt (cl p)) (hl : p.length ≤ 100) : (reprText p).length ≤ sizeLine := by
  have sz := szl
  have := StrLaws.reprText_len p fun c hc => by
    have := h c hc
    have : (127 : Nat) < 16 ^ 8 := by decide
    omega
  omega
theorem int_bad {x : Str} (h : ∀ c ∈ cl x, 48 ≤ c ∧ c < 127 ∧ c ≠ 95) (hn : cl x ≠ []) (hd : ¬ AllDigits (cl x)) : intOf x = none := by
  obtain ⟨e1, e2⟩ := numText_prt (x := x) fun c hc => ⟨by have := h c hc; omega, (h c hc).2.1⟩
  unfold intOf PySem.intText?
  rw [e1, e2, if_pos (beq_self_eq_true _)]
  have ec : core (cl x) = cl x := by
    unfold core
    cases e : cl x with
    | nil => exact absurd e hn
    | cons a r =>
      have ha := h a (by rw [e]; exact .head _)
      rw [dropWhile_of (by omega), sign_of (by omega) (by omega)]
      show ((a :: r).reverse.dropWhile blank).reverse = a :: r
      cases e' : (a :: r).reverse with
      | nil => simp at e'
      | cons z s =>
        have hz := h z (by rw [e]; exact List.mem_reverse.mp (by rw [e']; exact .head _))
        rw [dropWhile_of (by omega), ← e', List.reverse_reverse]
  rw [ec]
  have : digits? 10 (cl x) = none := by
    unfold digits?
    rw [fold_bad hd (fun z => (h 95 z).2.2 rfl)]; rfl
  rw [this]
theorem app_free {c : Nat} : ∀ {p q x y : List Nat}, c ∉ p → c ∉ q → p ++ c :: x = q ++ c :: y → p = q ∧ x = y
  | [], [], x, y, _, _, h => ⟨rfl, (List.cons.inj h).2⟩
  | [], b :: q, x, y, _, hq, h => absurd (List.cons.inj h).1 fun z => hq (z ▸ .head _)
  | a :: p, [], x, y, hp, _, h => absurd (List.cons.inj h).1 fun z => hp (z ▸ .head _)
  | a :: p, b :: q, x, y, hp, hq, h => by
    obtain ⟨h1, h2⟩ := List.cons.inj h
    obtain ⟨e1, e2⟩ := app_free (p := p) (q := q) (fun z => hp (.tail _ z)) (fun z => hq (.tail _ z)) h2
    exact ⟨by rw [h1, e1], e2⟩
theorem glue_inj {c : Nat} : ∀ {ps qs : List (List Nat)}, ps ≠ [] → qs ≠ [] → (∀ p ∈ ps, c ∉ p) → (∀ q ∈ qs, c ∉ q) → glueL c ps = glueL c qs → ps = qs
  | [], _, h, _, _, _, _ => absurd rfl h
  | _ :: _, [], _, h, _, _, _ => absurd rfl h
  | [p], [q], _, _, _, _, h => by rw [show p = q from h]
  | [p], q :: q' :: r, _, _, hp, _, h => absurd (show c ∈ p from by rw [show p = q ++ c :: glueL c (q' :: r) from h]; exact List.mem_append_right _ (.head _)) (hp p (.head _))
  | p :: p' :: r, [q], _, _, _, hq, h => absurd (show c ∈ q from by rw [← show p ++ c :: glueL c (p' :: r) = q from h]; exact List.mem_append_right _ (.head _)) (hq q (.head _))
  | p :: p' :: r, q :: q' :: s, _, _, hp, hq, h => by
    obtain ⟨e1, e2⟩ := app_free (hp p (.head _)) (hq q (.head _)) (show p ++ c :: glueL c (p' :: r) = q ++ c :: glueL c (q' :: s) from h)
    rw [e1, glue_inj (List.cons_ne_nil _ _) (List.cons_ne_nil _ _) (fun x hx => hp x (.tail _ hx)) (fun x hx => hq x (.tail _ hx)) e2]
noncomputable def gq (s : Int) : Nat := ((transOf [43, 47] [40, 41]).getD (UInt8.ofNat (b64 s).toNat).toNat (UInt8.ofNat (b64 s).toNat)).toNat
noncomputable def code (s : Int) : Nat := (if s < 26 then 65 + s else if s < 52 then 71 + s else if s < 62 then s - 4 else s - 22).toNat
theorem gq_tab : ∀ j : Fin 64, gq (j.1 : Int) = code (j.1 : Int) := by decide +kernel
theorem gq_code {s : Int} (h : 0 ≤ s ∧ s < 64) : gq s = code s := fin_all (n := 64) (P := fun s => gq s = code s) gq_tab h.1 h.2
theorem flat_ones : ∀ l : List UInt8, (l.map (cl ∘ fun (u : UInt8) => (⟨#[u.toNat]⟩ : Str))).flatten = l.map fun u => u.toNat
  | [] => rfl
  | u :: l => congrArg (u.toNat :: ·) (flat_ones l)
theorem encQ_list (q : List Q4) : (encQ q).toList = (sigL q).map fun n => (transOf [43, 47] [40, 41]).getD (UInt8.ofNat n.toNat).toNat (UInt8.ofNat n.toNat) := by
  unfold encQ transBy byteArr
  rw [Array.toList_map, List.map_map]; rfl
noncomputable def lett (L : Int) : Nat := (65 + L).toNat
noncomputable def sgn (x : Int) : Nat := code (52 + x)
theorem reply_cl {a b c d L : Int} (ha : lowF a) (hb : lowF b) (hc : lowF c) (hd : lowF d) (hL : 0 ≤ L ∧ L < 26) : cl (replyOf a b c d L) = [50, 50, 57, lett L, 40, lett L, lett L, lett L, sgn a, sgn b, sgn c, sgn d, lett L, 41, 90, lett L] := by
  unfold replyOf
  rw [show Str.ofString "" = ("" : Str) from rfl, cl_join0, List.map_map, flat_ones, encQ_list, List.map_map]
  show [gq 54, gq 54, gq 61, gq L, gq 62, gq L, gq L, gq L, gq (52 + a), gq (52 + b), gq (52 + c), gq (52 + d), gq L, gq 63, gq 25, gq L] = _
  have f : ∀ {x : Int}, lowF x → 0 ≤ 52 + x ∧ 52 + x < 64 := fun h => ⟨by have := h.1; omega, by have := h.2; omega⟩
  have l : gq L = lett L := by
    rw [gq_code ⟨hL.1, by omega⟩]
    unfold code lett
    rw [if_pos hL.2]
  rw [l, gq_code (f ha), gq_code (f hb), gq_code (f hc), gq_code (f hd), gq_code (s := 54) (by decide), gq_code (s := 61) (by decide), gq_code (s := 62) (by decide), gq_code (s := 63) (by decide), gq_code (s := 25) (by decide)]
  rfl
end Mine
end
section
open PySem PySem.W PySem.Spec PySem.Calls PyProof.Rows PySem.NumText
open PySem.Builtin PySem.Builtin.Str
set_option Elab.async false
set_option linter.unusedVariables false
set_option maxRecDepth 100000
namespace Mine
theorem sgn_fact {x : Int} (h : lowF x) : 48 ≤ sgn x ∧ sgn x < 127 ∧ sgn x ≠ 95 ∧ (sgn x < 65 ∨ 90 < sgn x) ∧ (0 ≤ x → sgn x ≤ 57 ∧ ((sgn x : Nat) : Int) = 48 + x) ∧ (x < 0 → 57 < sgn x) := by
  have := fin_all (n := 29) (P := fun y => 48 ≤ sgn (y - 21) ∧ sgn (y - 21) < 127 ∧ sgn (y - 21) ≠ 95 ∧ (sgn (y - 21) < 65 ∨ 90 < sgn (y - 21)) ∧ (0 ≤ y - 21 → sgn (y - 21) ≤ 57 ∧ ((sgn (y - 21) : Nat) : Int) = 48 + (y - 21)) ∧ (y - 21 < 0 → 57 < sgn (y - 21))) (by decide +kernel) (k := x + 21) (by have := h.1; omega) (by have := h.2; omega)
  rwa [Int.add_sub_cancel] at this
theorem lett_fact {L : Int} (h : 0 ≤ L ∧ L < 26) : 65 ≤ lett L ∧ lett L ≤ 90 := by unfold lett; omega
noncomputable def ansOf (a b c d : Int) (host : Str) : Ov := if 0 ≤ a ∧ 0 ≤ b ∧ 0 ≤ c ∧ 0 ≤ d then .ret (.tup [.str host, .int (numOf a b c d)]) else .ve
section
variable {a b c d L : Int}
theorem no_at {l : List Nat} {a n c : Nat} (h : ∀ x ∈ (l.drop a).take n, x ≠ c) : ∀ j, a ≤ j → j < a + n → l[j]? ≠ some c := fun j h1 h2 e => by
  refine h c (List.mem_of_getElem? (i := j - a) ?_) rfl
  rw [List.getElem?_take_of_lt (by omega), List.getElem?_drop, Nat.add_sub_cancel' h1, e]
theorem sgn_41 {x : Int} (h : lowF x) : sgn x ≠ 41 := fun z => absurd (sgn_fact h).1 (by rw [z]; decide)
theorem lett_up {L : Int} {c : Nat} (h : 0 ≤ L ∧ L < 26) (hc : c < 65) : lett L ≠ c := fun z => Nat.lt_irrefl c (Nat.lt_of_lt_of_le hc (z ▸ (lett_fact h).1))
theorem lett_sgn {x L : Int} (h : lowF x) (hL : 0 ≤ L ∧ L < 26) : sgn x ≠ lett L := fun z => by
  have l := lett_fact hL
  rw [← z] at l
  rcases (sgn_fact h).2.2.2.1 with q | q
  · exact Nat.not_lt.mpr l.1 q
  · exact Nat.not_lt.mpr l.2 q
theorem r_find (ha : lowF a) (hb : lowF b) (hc : lowF c) (hd : lowF d) (hL : 0 ≤ L ∧ L < 26) : Txt.find (replyOf a b c d L) (Str.ofString "(") = 4 := by
  have e := reply_cl ha hb hc hd hL
  rw [show (Str.ofString "(") = ⟨#[40]⟩ from by decide +kernel]
  refine find_at (k := 4) (by rw [e]; rfl) fun j hj => ?_
  rw [e]
  have q : ∀ x ∈ [50, 50, 57, lett L], x ≠ 40 := fa1 (by decide) (fa1 (by decide) (fa1 (by decide) (fa1 (lett_up hL (by decide)) fa0)))
  refine no_at (a := 0) (n := 4) ?_ j (Nat.zero_le _) (by rw [Nat.zero_add]; exact hj)
  exact q
theorem r_find3 (ha : lowF a) (hb : lowF b) (hc : lowF c) (hd : lowF d) (hL : 0 ≤ L ∧ L < 26) : Txt.find3 (replyOf a b c d L) (Str.ofString ")") 5 = 5 + (8 : Nat) := by
  have e := reply_cl ha hb hc hd hL
  have l := lett_up (c := 41) hL (by decide)
  rw [show (Str.ofString ")") = ⟨#[41]⟩ from by decide +kernel]
  refine find3_at (a := 5) (k := 13) (by decide) (by rw [e]; rfl) fun j h5 hj => ?_
  rw [e]
  have q : ∀ x ∈ [lett L, lett L, lett L, sgn a, sgn b, sgn c, sgn d, lett L], x ≠ 41 := fa1 l (fa1 l (fa1 l (fa1 (sgn_41 ha) (fa1 (sgn_41 hb) (fa1 (sgn_41 hc) (fa1 (sgn_41 hd) (fa1 l fa0)))))))
  refine no_at (a := 5) (n := 8) ?_ j h5 hj
  exact q
theorem r_len (ha : lowF a) (hb : lowF b) (hc : lowF c) (hd : lowF d) (hL : 0 ≤ L ∧ L < 26) : (replyOf a b c d L).length = 16 := by
  rw [← cl_len, reply_cl ha hb hc hd hL]; rfl
theorem r_cut (ha : lowF a) (hb : lowF b) (hc : lowF c) (hd : lowF d) (hL : 0 ≤ L ∧ L < 26) : cl (Txt.slice (replyOf a b c d L) (some 5) (some (5 + (8 : Nat)))) = [lett L, lett L, lett L, sgn a, sgn b, sgn c, sgn d, lett L] := by
  have := cl_cut (x := replyOf a b c d L) (a := 5) (b := 13) (by decide) (by rw [r_len ha hb hc hd hL]; decide)
  refine Eq.trans this ?_
  rw [reply_cl ha hb hc hd hL]; rfl
theorem r_item (ha : lowF a) (hb : lowF b) (hc : lowF c) (hd : lowF d) (hL : 0 ≤ L ∧ L < 26) : Txt.item (replyOf a b c d L) 5 = ⟨#[lett L]⟩ ∧ Txt.item (replyOf a b c d L) (5 + (8 : Nat) - 1) = ⟨#[lett L]⟩ := by
  have e := reply_cl ha hb hc hd hL
  exact ⟨item_at (i := 5) (by rw [e]; rfl), item_at (i := 12) (by rw [e]; rfl)⟩
theorem r_parts (ha : lowF a) (hb : lowF b) (hc : lowF c) (hd : lowF d) (hL : 0 ≤ L ∧ L < 26) : (pParts (replyOf a b c d L) 8).map cl = [[], [], [], [sgn a, sgn b, sgn c, sgn d], []] := by
  unfold pParts
  rw [(r_item ha hb hc hd hL).1]
  refine glue_inj (c := lett L) (fun z => split_ne _ _ (List.map_eq_nil_iff.mp z)) (List.cons_ne_nil _ _) (split_frees _ _) ?_ ?_
  · refine fa1 (List.not_mem_nil) (fa1 (List.not_mem_nil) (fa1 (List.not_mem_nil) (fa1 ?_ (fa1 (List.not_mem_nil) fa0))))
    exact fun z => (fa1 (lett_sgn ha hL) (fa1 (lett_sgn hb hL) (fa1 (lett_sgn hc hL) (fa1 (lett_sgn hd hL) fa0))) : ∀ x ∈ [sgn a, sgn b, sgn c, sgn d], x ≠ lett L) _ z rfl
  · rw [split_glue]
    exact r_cut ha hb hc hd hL
theorem r_prt (ha : lowF a) (hb : lowF b) (hc : lowF c) (hd : lowF d) (hL : 0 ≤ L ∧ L < 26) : Prt (cl (Txt.slice (replyOf a b c d L) (some 5) (some (5 + (8 : Nat))))) := by
  have l := lett_fact hL
  have fa := sgn_fact ha; have fb := sgn_fact hb; have fc := sgn_fact hc; have fd := sgn_fact hd
  rw [r_cut ha hb hc hd hL]
  have q : 14 ≤ lett L ∧ lett L < 127 := by omega
  exact fa1 q (fa1 q (fa1 q (fa1 ⟨by omega, fa.2.1⟩ (fa1 ⟨by omega, fb.2.1⟩ (fa1 ⟨by omega, fc.2.1⟩ (fa1 ⟨by omega, fd.2.1⟩ (fa1 q fa0)))))))
theorem dig1 {g : Nat} {a : Int} (v : (g : Int) = 48 + a) (h : 0 ≤ a) : ((g - 48 : Nat) : Int) = a := by omega
theorem dig2 {x y : Nat} : ((x * 10 + y : Nat) : Int) = (x : Int) * 10 + y := rfl
theorem dig4 {ga gb gc gd : Nat} {a b c d : Int} (va : (ga : Int) = 48 + a) (vb : (gb : Int) = 48 + b) (vc : (gc : Int) = 48 + c) (vd : (gd : Int) = 48 + d) (h1 : 0 ≤ a) (h2 : 0 ≤ b) (h3 : 0 ≤ c) (h4 : 0 ≤ d) :
    (((((0 * 10 + (ga - 48)) * 10 + (gb - 48)) * 10 + (gc - 48)) * 10 + (gd - 48) : Nat) : Int) = numOf a b c d := by
  rw [dig2, dig2, dig2, dig2, dig1 va h1, dig1 vb h2, dig1 vc h3, dig1 vd h4]
  clear va vb vc vd h1 h2 h3 h4
  unfold numOf
  show (((0 * 10 + a) * 10 + b) * 10 + c) * 10 + d = _
  omega
theorem r_int (ha : lowF a) (hb : lowF b) (hc : lowF c) (hd : lowF d) {t : Str} (e : cl t = [sgn a, sgn b, sgn c, sgn d]) : intOf t = if 0 ≤ a ∧ 0 ≤ b ∧ 0 ≤ c ∧ 0 ≤ d then some (numOf a b c d) else none := by
  have fa := sgn_fact ha; have fb := sgn_fact hb; have fc := sgn_fact hc; have fd := sgn_fact hd
  split
  · next h =>
    obtain ⟨h1, h2, h3, h4⟩ := h
    have ad : AllDigits t.cps.toList := by
      have : AllDigits (cl t) := by
        rw [e]
        exact fa1 ⟨fa.1, (fa.2.2.2.2.1 h1).1⟩ (fa1 ⟨fb.1, (fb.2.2.2.2.1 h2).1⟩ (fa1 ⟨fc.1, (fc.2.2.2.2.1 h3).1⟩ (fa1 ⟨fd.1, (fd.2.2.2.2.1 h4).1⟩ fa0)))
      exact this
    have := intText_digits ad (by show cl t ≠ []; rw [e]; exact List.cons_ne_nil _ _) (by rw [← cl_len, e]; exact Nat.le_of_ble_eq_true rfl)
    refine Eq.trans this ?_
    rw [show t.cps.toList = cl t from rfl, e]
    show some (((((0 * 10 + (sgn a - 48)) * 10 + (sgn b - 48)) * 10 + (sgn c - 48)) * 10 + (sgn d - 48) : Nat) : Int) = _
    rw [dig4 (fa.2.2.2.2.1 h1).2 (fb.2.2.2.2.1 h2).2 (fc.2.2.2.2.1 h3).2 (fd.2.2.2.2.1 h4).2 h1 h2 h3 h4]
  · next h =>
    refine int_bad ?_ (by rw [e]; exact List.cons_ne_nil _ _) fun ad => h ?_
    · rw [e]
      exact fa1 ⟨fa.1, fa.2.1, fa.2.2.1⟩ (fa1 ⟨fb.1, fb.2.1, fb.2.2.1⟩ (fa1 ⟨fc.1, fc.2.1, fc.2.2.1⟩ (fa1 ⟨fd.1, fd.2.1, fd.2.2.1⟩ fa0)))
    · rw [e] at ad
      have k : ∀ {x : Int}, lowF x → sgn x ∈ [sgn a, sgn b, sgn c, sgn d] → 0 ≤ x := fun {x} hx hm => by
        have h1 := (ad _ hm).2
        by_cases n : x < 0
        · have := (sgn_fact hx).2.2.2.2.2 n; omega
        · omega
      exact ⟨k ha (.head _), k hb (.tail _ (.head _)), k hc (.tail _ (.tail _ (.head _))), k hd (.tail _ (.tail _ (.tail _ (.head _))))⟩
theorem r_out (ha : lowF a) (hb : lowF b) (hc : lowF c) (hd : lowF d) (hL : 0 ≤ L ∧ L < 26) (host : Str) : pOut (replyOf a b c d L) 8 host = ansOf a b c d host := by
  have e3 : Txt.slice (replyOf a b c d L) none (some 3) = Str.ofString "229" := by
    refine cl_ext ((cl_to (x := replyOf a b c d L) (b := 3) (by rw [r_len ha hb hc hd hL]; decide)).trans ?_)
    rw [reply_cl ha hb hc hd hL]
    show [50, 50, 57] = cl (Str.ofString "229")
    decide +kernel
  have hp := r_parts ha hb hc hd hL
  have h5 : (pParts (replyOf a b c d L) 8).length = 5 := by have := congrArg List.length hp; rwa [List.length_map] at this
  obtain ⟨i1, i2⟩ := r_item ha hb hc hd hL
  unfold pOut
  rw [e3, bne_self_eq_false, i1, i2, bne_self_eq_false, h5, show (((5 : Nat) : Int) != 5) = false from rfl]
  simp only [cond_false]
  have e4 : cl ((pParts (replyOf a b c d L) 8).getD 3 Str.empty) = [sgn a, sgn b, sgn c, sgn d] := by
    have g : ∀ ps : List Str, cl (ps.getD 3 Str.empty) = (ps.map cl).getD 3 (cl Str.empty) := fun ps => by
      rw [List.getD_eq_getElem?_getD, List.getD_eq_getElem?_getD, List.getElem?_map]
      cases ps[3]? <;> rfl
    rw [g, hp]; rfl
  rw [r_int ha hb hc hd e4]
  unfold ansOf
  by_cases h : 0 ≤ a ∧ 0 ≤ b ∧ 0 ≤ c ∧ 0 ≤ d
  · rw [if_pos h, if_pos h]
  · rw [if_neg h, if_neg h]
theorem parse_run (w : World) (lv : Nat) (ha : lowF a) (hb : lowF b) (hc : lowF c) (hd : lowF d) (hL : 0 ≤ L ∧ L < 26) (host : Str) : CALLX PySem.Challenge.rw_op0036_02.row.prog w (KF w.params) lv 142 [.str (replyOf a b c d L), .tup [.str host, .int 21]] (fun o => o = ansOf a b c d host) := by
  rw [← r_out ha hb hc hd hL host]
  have ln := r_len ha hb hc hd hL
  have sl : (Txt.slice (replyOf a b c d L) (some 5) (some (5 + (8 : Nat)))).length = 8 := by rw [← cl_len, r_cut ha hb hc hd hL]; rfl
  have sz := szl
  refine c_parse w _ host 8 lv (r_find ha hb hc hd hL) (r_find3 ha hb hc hd hL) (by rw [ln]; decide) (by rw [ln]; decide) (by decide) (fun p hp => ?_) ?_ ?_ (by rw [sl]; decide)
  · unfold pParts at hp
    rw [(r_item ha hb hc hd hL).1] at hp
    obtain ⟨p1, p2⟩ := split_part hp
    rw [sl] at p1
    exact ⟨by omega, prt_repr (fun y hy => r_prt ha hb hc hd hL y (p2 y hy)) (by omega)⟩
  · have := between_len (Txt.slice (replyOf a b c d L) (some 5) (some (5 + (8 : Nat)))) (Txt.item (replyOf a b c d L) 5)
    omega
  · have := split_len (Txt.slice (replyOf a b c d L) (some 5) (some (5 + (8 : Nat)))) (Txt.item (replyOf a b c d L) 5)
    rw [sl] at this
    exact Nat.le_trans this (by decide)
end
end Mine
end
section
open PySem PySem.W PySem.Spec PySem.Calls PyProof.Rows
set_option Elab.async false
set_option linter.unusedVariables false
set_option maxRecDepth 100000
namespace Mine
theorem c_caught (w : World) (lv : Nat) : CAUGHT PySem.Challenge.rw_op0036_02.row.prog w (KF w.params) lv 168 121 133 := by
  intro lv' f P Qo dp un gd outer base s p loose mean mg mb av R E hex hPk hPo TH hlv hD hU B X XB T TB DD hav hP hR
  revert X
  k_fill
  intro X
  refine' caughtX hex (ckn w) ?sc hPk hPo ?ho ?hcd ?hb TH hlv hD hU B X XB T TB DD hav hP hR
  (case ho => k_is)
  (case hcd => k_is)
  (case hb => intro s v; exact BindsTo.of_eq rfl)
  (case sc => refine ⟨rfl, rfl, rfl, ?_, ?_, ?_, ?_, ?_⟩ <;> decide +kernel)
theorem hd_of {K : Frag} {c P : Addr} {o : Obj} {vs : Array Value} {file : Str} {tf tg tt : Tok} {flags : Int} {inF : Bool} {tx : Int} (h0 : K.lookup c = some o) (h1 : o.cls = .type "code") (h2 : o.data = .fields vs) (h3 : vs[11]? = some (.ref P)) (h4 : vs.getD 11 .none = .ref P) (h5 : vs.getD 18 .none = .str file tf)
    (h6 : vs.getD 7 .none = .int flags tg) (h7 : vs.getD 9 .none = .bool inF) (h8 : vs.getD 10 .none = .int tx tt) (h9 : (c == P) = false) : ∀ h, K.In h → CodeHd h c P := fun h X => ⟨o, vs, file, tf, flags, tg, inF, tx, tt, X _ _ h0, h1, h2, h3, h4, h5, h6, h7, h8, by simpa using h9⟩
theorem lam_ok (w : World) (lv : Nat) {R : Str} {Qo : Ov → Prop} {lsc : Scope} {px py pz pw : Pos} {k0 k1 k2 : Nat} (C : CALLX PySem.Challenge.rw_op0036_02.row.prog w (KF w.params) lv 142 [.str R, .tup [.str "10.0.0.7", .int 21]] Qo)
    (hs : lsc.kind = .function ∧ lsc.isCoroutine = false ∧ lsc.isGenerator = false ∧ lsc.names = [(Str.ofString "reply", NameKind.free), (Str.ofString "parse229", NameKind.globalImplicit)])
    (shape : ∀ d, Qo (.ret d) → ∃ y n, d = .tup [.str y, .int n]) :
    LamOK PySem.Challenge.rw_op0036_02.row.prog w (KF w.params) lv (lv + 1) "parse229" 142 [.Tuple [.Constant (.str "10.0.0.7") k0 px, .Constant (.int 21) k1 py] k2 pz] (.Name "reply" pw) [.str R, .tup [.str "10.0.0.7", .int 21]] [("reply", .str R)] lsc Qo := by
  obtain ⟨s1, s2, s3, s4⟩ := hs
  have hf : (∃ o fd, (KF w.params).lookup 142 = some o ∧ o.data = .func fd) ∧ nsIn (KF w.params) mainGlobals "parse229" = some (some (.ref 142)) ∧ PySem.Challenge.rw_op0036_02.row.prog = PySem.Challenge.rw_op0036_02.row.prog := by
    k_fill
    refine ⟨?_, by k_is, rfl⟩
    exact isFn_out (by kernel_rfl)
  refine ⟨hf.2.1, hf.1, by decide, by rw [s4]; decide +kernel, fa1 rfl (fa1 rfl fa0), C, Nat.le_refl _, s1, ?_, s2, s3, fun x d hx => ?_, fun c => ?_, shape⟩
  · rw [s4]
    exact fa1 (fun e => nomatch e) (fa1 (fun e => nomatch e) fa0)
  · rw [s4]
    have e : get [((Str.ofString "reply"), D.str R)] x = (if x = Str.ofString "reply" then some (D.str R) else none) := rfl
    rw [e] at hx
    by_cases h1 : x = Str.ofString "reply"
    · subst h1; exact ⟨by decide +kernel, by decide +kernel⟩
    · rw [if_neg h1] at hx; cases hx
  · have g1 : get [((Str.ofString "reply"), D.str R)] (Str.ofString "reply") = some (.str R) := if_pos rfl
    have e1 : EV c [((Str.ofString "reply"), D.str R)] (.Name "reply" pw) (.str R) := ev_name g1
    have e3 : EVL c [((Str.ofString "reply"), D.str R)] [.Constant (.str "10.0.0.7") k0 px, .Constant (.int 21) k1 py] [.str "10.0.0.7", .int 21] := evl_cons ev_str (evl_cons ev_int evl_nil)
    exact evl_cons e1 (evl_cons (ev_tuple e3 (Nat.le_of_ble_eq_true rfl)) evl_nil)
end Mine
end
section
open PySem PySem.W PySem.Spec PySem.Calls PyProof.Rows
set_option Elab.async false
set_option linter.unusedVariables false
set_option maxRecDepth 100000
namespace Mine
noncomputable def pc : Nat → Int → Int
  | 0, _ => 0
  | m + 1, x => x % 2 + pc m (x / 2)
theorem pc_zero : ∀ m, pc m 0 = 0
  | 0 => rfl
  | m + 1 => by show (0 : Int) % 2 + pc m (0 / 2) = 0; rw [show (0 : Int) / 2 = 0 from rfl, pc_zero m]; rfl
theorem hv_pc : ∀ (m : Nat) (x : Int), 0 ≤ x → x < 2 ^ m → hv m x = x - pc m x
  | 0, x, h0, h1 => by
    have : x = 0 := by omega
    subst this; rfl
  | m + 1, x, h0, h1 => by
    show x / 2 + hv m (x / 2) = x - (x % 2 + pc m (x / 2))
    rw [hv_pc m (x / 2) (by omega) (by rw [Int.pow_succ] at h1; omega)]
    omega
theorem pc_bit {b q : Int} (m : Nat) (h : 0 ≤ b ∧ b ≤ 1) : pc (m + 1) (b + 2 * q) = b + pc m q := by
  show (b + 2 * q) % 2 + pc m ((b + 2 * q) / 2) = _
  rw [(bit2 h).1, (bit2 h).2]
theorem pc_succ : ∀ (m : Nat) (y : Int), 1 ≤ y → pc m y ≤ 1 + pc m (y - 1)
  | 0, y, _ => by show (0 : Int) ≤ 1 + 0; decide
  | m + 1, y, h => by
    obtain ⟨b, q, rfl | rfl, rfl⟩ := bit_of2 y
    · have ih := pc_succ m q (by omega)
      rw [show (0 : Int) + 2 * q - 1 = 1 + 2 * (q - 1) from by omega, pc_bit m b01, pc_bit m b11]
      generalize pc m q = u at *; generalize pc m (q - 1) = v at *; clear h; omega
    · rw [show (1 : Int) + 2 * q - 1 = 0 + 2 * q from by omega, pc_bit m b01, pc_bit m b11, Int.zero_add]
      exact Int.le_refl _
theorem pc_borrow : ∀ (j m : Nat) (x : Int), x / 2 ^ j % 2 = 0 → 2 ^ j ≤ x → j < m → pc m x ≤ pc m (x - 2 ^ j)
  | _, 0, _, _, _, h => absurd h (Nat.not_lt_zero _)
  | 0, m + 1, x, h0, h1, _ => by
    have h0 : x / 1 % 2 = 0 := h0
    have h1 : 1 ≤ x := h1
    rw [Int.ediv_one] at h0
    obtain ⟨b, q, rfl | rfl, rfl⟩ := bit_of2 x
    · show pc (m + 1) (0 + 2 * q) ≤ pc (m + 1) (0 + 2 * q - 1)
      rw [show (0 : Int) + 2 * q - 1 = 1 + 2 * (q - 1) from by omega, pc_bit m b01, pc_bit m b11, Int.zero_add]
      exact pc_succ m q (by omega)
    · rw [(bit2 b11).1] at h0; cases h0
  | j + 1, m + 1, x, h0, h1, hm => by
    have e : (2 : Int) ^ (j + 1) = 2 * 2 ^ j := by rw [Int.pow_succ, Int.mul_comm]
    obtain ⟨b, q, hb, rfl⟩ := bit_of2 x
    have hb : 0 ≤ b ∧ b ≤ 1 := by rcases hb with rfl | rfl <;> decide
    rw [e, ← Int.ediv_ediv_of_nonneg (by decide), (bit2 hb).2] at h0
    have hq : 2 ^ j ≤ q := by
      rw [e] at h1
      generalize (2 : Int) ^ j = z at *
      clear h0; omega
    have ih := pc_borrow j m q h0 hq (Nat.lt_of_succ_lt_succ hm)
    rw [e, Int.add_sub_assoc, ← Int.mul_sub, pc_bit m hb, pc_bit m hb]
    exact Int.add_le_add_left ih b
noncomputable def val : List Int → Int
  | [] => 0
  | b :: l => b + 2 * val l
noncomputable def Bits (l : List Int) : Prop := ∀ b ∈ l, 0 ≤ b ∧ b ≤ 1
theorem val_rng : ∀ {l : List Int}, Bits l → 0 ≤ val l ∧ val l < 2 ^ l.length
  | [], _ => ⟨Int.le_refl _, by decide⟩
  | b :: l, h => by
    have hb := h b (.head _)
    obtain ⟨i1, i2⟩ := val_rng fun x hx => h x (.tail _ hx)
    show 0 ≤ b + 2 * val l ∧ b + 2 * val l < 2 ^ (l.length + 1)
    rw [Int.pow_succ]
    omega
theorem pc_val : ∀ {l : List Int} {m : Nat}, Bits l → l.length ≤ m → pc m (val l) = l.sum
  | [], m, _, _ => pc_zero m
  | b :: l, 0, _, h => absurd h (Nat.not_succ_le_zero _)
  | b :: l, m + 1, hb, h => by
    have h1 := hb b (.head _)
    show pc (m + 1) (b + 2 * val l) = (b :: l).sum
    rw [pc_bit m h1, pc_val (fun x hx => hb x (.tail _ hx)) (Nat.le_of_succ_le_succ h), List.sum_cons]
theorem hv_val {l : List Int} (h : Bits l) (hl : l.length = 12) : hv 13 (val l) = val l - l.sum := by
  obtain ⟨h0, h1⟩ := val_rng h
  rw [hl] at h1
  rw [hv_pc 13 _ h0 (Int.lt_trans h1 (by decide)), pc_val h (by rw [hl]; decide)]
noncomputable def bl (β : Nat → Int) : List Int := [β 0, β 1, β 2, β 3, β 4, β 5, β 6, β 7, β 8, β 9, β 10, β 11]
theorem bl_bits {β : Nat → Int} (h : ∀ k, 0 ≤ β k ∧ β k ≤ 1) : Bits (bl β) := fa1 (h _) (fa1 (h _) (fa1 (h _) (fa1 (h _) (fa1 (h _) (fa1 (h _) (fa1 (h _) (fa1 (h _) (fa1 (h _) (fa1 (h _) (fa1 (h _) (fa1 (h _) fa0)))))))))))
theorem digs {β : Nat → Int} (h : ∀ k, 0 ≤ β k ∧ β k ≤ 1) : val (bl β) % 8 = β 0 + 2 * β 1 + 4 * β 2 ∧ val (bl β) / 8 % 8 = β 3 + 2 * β 4 + 4 * β 5 ∧ val (bl β) / 64 % 8 = β 6 + 2 * β 7 + 4 * β 8 ∧ val (bl β) / 512 % 8 = β 9 + 2 * β 10 + 4 * β 11 := by
  have e : val (bl β) = β 0 + 2 * (β 1 + 2 * (β 2 + 2 * val [β 3, β 4, β 5, β 6, β 7, β 8, β 9, β 10, β 11])) := rfl
  have e1 : val [β 3, β 4, β 5, β 6, β 7, β 8, β 9, β 10, β 11] = β 3 + 2 * (β 4 + 2 * (β 5 + 2 * val [β 6, β 7, β 8, β 9, β 10, β 11])) := rfl
  have e2 : val [β 6, β 7, β 8, β 9, β 10, β 11] = β 6 + 2 * (β 7 + 2 * (β 8 + 2 * val [β 9, β 10, β 11])) := rfl
  have e3 : val [β 9, β 10, β 11] = β 9 + 2 * (β 10 + 2 * (β 11 + 2 * 0)) := rfl
  obtain ⟨a1, a2⟩ := oct_bits (r := val [β 3, β 4, β 5, β 6, β 7, β 8, β 9, β 10, β 11]) (h 0) (h 1) (h 2)
  obtain ⟨b1, b2⟩ := oct_bits (r := val [β 6, β 7, β 8, β 9, β 10, β 11]) (h 3) (h 4) (h 5)
  obtain ⟨c1, c2⟩ := oct_bits (r := val [β 9, β 10, β 11]) (h 6) (h 7) (h 8)
  obtain ⟨d1, _⟩ := oct_bits (r := 0) (h 9) (h 10) (h 11)
  rw [← e] at a1 a2
  rw [← e1] at b1 b2
  rw [← e2] at c1 c2
  rw [← e3] at d1
  have v1 : val (bl β) / 64 = val (bl β) / 8 / 8 := (Int.ediv_ediv_of_nonneg (x := val (bl β)) (y := 8) (z := 8) (by decide)).symm
  have v2 : val (bl β) / 512 = val (bl β) / 8 / 64 := (Int.ediv_ediv_of_nonneg (x := val (bl β)) (y := 8) (z := 64) (by decide)).symm
  have v3 : val [β 3, β 4, β 5, β 6, β 7, β 8, β 9, β 10, β 11] / 64 = val [β 3, β 4, β 5, β 6, β 7, β 8, β 9, β 10, β 11] / 8 / 8 := (Int.ediv_ediv_of_nonneg (y := 8) (z := 8) (by decide)).symm
  refine ⟨a1, ?_, ?_, ?_⟩
  · rw [a2, b1]
  · rw [v1, a2, b2, c1]
  · rw [v2, a2, v3, b2, c2, d1]
end Mine
end
section
open PySem PySem.W PySem.Spec PySem.Calls PyProof.Rows
set_option Elab.async false
set_option linter.unusedVariables false
set_option maxRecDepth 100000
namespace Mine
theorem mix4 (a b c d : Int) : a + b + (c + d) = a + c + (b + d) := by omega
theorem val_map (a b : Nat → Int) : ∀ l : List Nat, val (l.map fun k => a k + b k) = val (l.map a) + val (l.map b)
  | [] => rfl
  | k :: l => by
    show a k + b k + 2 * val (l.map fun k => a k + b k) = a k + 2 * val (l.map a) + (b k + 2 * val (l.map b))
    rw [val_map a b l, Int.mul_add, mix4]
theorem sum_map (a b : Nat → Int) : ∀ l : List Nat, (l.map fun k => a k + b k).sum = (l.map a).sum + (l.map b).sum
  | [] => rfl
  | k :: l => by
    rw [List.map_cons, List.map_cons, List.map_cons, List.sum_cons, List.sum_cons, List.sum_cons, sum_map a b l, mix4]
theorem val_add (a b : Nat → Int) : val (bl fun k => a k + b k) = val (bl a) + val (bl b) := val_map a b (List.range 12)
theorem sum_add (a b : Nat → Int) : (bl fun k => a k + b k).sum = (bl a).sum + (bl b).sum := sum_map a b (List.range 12)
theorem bl_at {β : Nat → Int} {k : Nat} (h : k < 12) : (bl β).getD k 0 = β k := by
  show ((List.range 12).map β).getD k 0 = β k
  rw [List.getD_eq_getElem?_getD, List.getElem?_map, List.getElem?_range h]; rfl
theorem val_bit : ∀ {l : List Int} {m : Nat}, Bits l → m < l.length → val l / 2 ^ m % 2 = l.getD m 0
  | [], _, _, h => absurd h (Nat.not_lt_zero _)
  | b :: l, 0, hb, _ => by
    show (b + 2 * val l) / 1 % 2 = b
    rw [Int.ediv_one, (bit2 (hb b (.head _))).1]
  | b :: l, m + 1, hb, h => by
    have ih := val_bit (m := m) (fun x hx => hb x (.tail _ hx)) (Nat.lt_of_succ_lt_succ h)
    show (b + 2 * val l) / 2 ^ (m + 1) % 2 = l.getD m 0
    rw [← ih, show (2 : Int) ^ (m + 1) = 2 * 2 ^ m from by rw [Int.pow_succ, Int.mul_comm], ← Int.ediv_ediv_of_nonneg (by decide), (bit2 (hb b (.head _))).2]
theorem val_nil : ∀ {l : List Int}, (∀ i, l.getD i 0 = 0) → val l = 0 ∧ l.sum = 0
  | [], _ => ⟨rfl, rfl⟩
  | b :: l, h => by
    have h0 : b = 0 := h 0
    obtain ⟨i1, i2⟩ := val_nil (l := l) fun i => h (i + 1)
    subst h0
    exact ⟨by show 0 + 2 * val l = 0; rw [i1]; rfl, by rw [List.sum_cons, i2]; rfl⟩
theorem val_unit : ∀ {l : List Int} {m : Nat}, (∀ i, i ≠ m → l.getD i 0 = 0) → l.getD m 0 = 1 → val l = 2 ^ m ∧ l.sum = 1
  | [], m, _, h => by cases h
  | b :: l, 0, h, h1 => by
    have h1 : b = 1 := h1
    obtain ⟨i1, i2⟩ := val_nil (l := l) fun i => h (i + 1) (Nat.succ_ne_zero i)
    subst h1
    exact ⟨by show 1 + 2 * val l = 1; rw [i1]; rfl, by rw [List.sum_cons, i2]; rfl⟩
  | b :: l, m + 1, h, h1 => by
    have h0 : b = 0 := h 0 (Nat.succ_ne_zero m).symm
    obtain ⟨i1, i2⟩ := val_unit (l := l) (m := m) (fun i hi => h (i + 1) fun z => hi (Nat.succ.inj z)) h1
    subst h0
    exact ⟨by show 0 + 2 * val l = 2 ^ (m + 1); rw [i1, Int.pow_succ]; omega, by rw [List.sum_cons, i2]; rfl⟩
theorem odd_no {M0 M1 M2 M3 M4 S0 S1 S2 S3 S4 z : Int} (hM : M0 + z = M1 + M2 + M3 + M4) (hS : S0 + 1 = S1 + S2 + S3 + S4) (q0 : hv 13 M0 = M0 - S0) (q1 : hv 13 M1 = M1 - S1) (q2 : hv 13 M2 = M2 - S2) (q3 : hv 13 M3 = M3 - S3) (pr : 0 ≤ M4 - z → hv 13 (M4 - z) ≤ M4 - z - S4) : oddOf M0 M1 M2 M3 = false := by
  unfold oddOf
  rw [Bool.and_eq_false_iff, show M0 - (M1 + (M2 + (M3 + 0))) = M4 - z from by omega]
  by_cases hr : 0 ≤ M4 - z
  · right
    have := pr hr
    rw [beq_eq_false_iff_ne, q0, q1, q2, q3]
    generalize hv 13 (M4 - z) = y at *
    omega
  · left
    exact decide_eq_false hr
theorem odd_yes {M0 M1 M2 M3 M4 S0 S1 S2 S3 S4 : Int} (hM : M0 = M1 + M2 + M3 + M4) (hS : S0 = S1 + S2 + S3 + S4) (q0 : hv 13 M0 = M0 - S0) (q1 : hv 13 M1 = M1 - S1) (q2 : hv 13 M2 = M2 - S2) (q3 : hv 13 M3 = M3 - S3) (q4 : hv 13 M4 = M4 - S4) (h4 : 0 ≤ M4) : oddOf M0 M1 M2 M3 = true := by
  unfold oddOf
  rw [show M0 - (M1 + (M2 + (M3 + 0))) = M4 from by omega, q0, q1, q2, q3, q4, decide_eq_true h4, Bool.true_and, beq_iff_eq]
  omega
theorem num_lt {g0 g1 g2 g3 A B C D : Int} (hA : 0 ≤ A) (hB : 0 ≤ B) (hC : 0 ≤ C) (hD : 0 ≤ D) (h : 1 ≤ A + B + C + D) : numOf (g0 - A) (g1 - B) (g2 - C) (g3 - D) ≠ numOf g0 g1 g2 g3 := by
  unfold numOf; omega
theorem three_le {x y z r R : Int} (hy : 0 ≤ y) (hz : 0 ≤ z) (h : r ≤ R) : x + (y + (z + r)) ≤ R + (x + 2 * y + 4 * z) := by omega
theorem sum12 {d0 d1 d2 d3 d4 d5 d6 d7 d8 d9 d10 d11 : Int} (c1 : 0 ≤ d1) (c2 : 0 ≤ d2) (c4 : 0 ≤ d4) (c5 : 0 ≤ d5) (c7 : 0 ≤ d7) (c8 : 0 ≤ d8) (c10 : 0 ≤ d10) (c11 : 0 ≤ d11) (hs : d0 + (d1 + (d2 + (d3 + (d4 + (d5 + (d6 + (d7 + (d8 + (d9 + (d10 + (d11 + 0))))))))))) = 1) :
    1 ≤ (d9 + 2 * d10 + 4 * d11) + (d6 + 2 * d7 + 4 * d8) + (d3 + 2 * d4 + 4 * d5) + (d0 + 2 * d1 + 4 * d2) := by
  rw [← hs, ← Int.zero_add (d9 + 2 * d10 + 4 * d11)]
  exact three_le c1 c2 (three_le c4 c5 (three_le c7 c8 (three_le c10 c11 (Int.le_refl 0))))
theorem three_nn {x y z : Int} (hx : 0 ≤ x) (hy : 0 ≤ y) (hz : 0 ≤ z) : 0 ≤ x + 2 * y + 4 * z := by omega
theorem dig_step {x X0 X1 X2 X3 X4 h0 h1 h2 a0 a1 a2 b0 b1 b2 c0 c1 c2 l0 l1 l2 z0 z1 z2 : Int} (f : x = X0 - X1 - X2 - X3) (d0 : X0 = h0 + 2 * h1 + 4 * h2) (d1 : X1 = a0 + 2 * a1 + 4 * a2) (d2 : X2 = b0 + 2 * b1 + 4 * b2) (d3 : X3 = c0 + 2 * c1 + 4 * c2) (d4 : X4 = l0 + 2 * l1 + 4 * l2) (q0 : a0 + b0 + c0 + l0 = h0 + z0) (q1 : a1 + b1 + c1 + l1 = h1 + z1) (q2 : a2 + b2 + c2 + l2 = h2 + z2) : x = X4 - (z0 + 2 * z1 + 4 * z2) := by
  subst f d0 d1 d2 d3 d4; omega
theorem zero_of {x : Int} (h : 0 ≤ x ∧ x ≤ 1) (n : x ≠ 1) : x = 0 := by omega
theorem sub_z {x y a b c : Int} (h : x = y - (a + 2 * b + 4 * c)) (ha : a = 0) (hb : b = 0) (hc : c = 0) : x = y := by
  subst ha hb hc; omega
section
variable {h t0 t1 t2 l δ : Nat → Int}
theorem core_law (bh : ∀ k, 0 ≤ h k ∧ h k ≤ 1) (b0 : ∀ k, 0 ≤ t0 k ∧ t0 k ≤ 1) (b1 : ∀ k, 0 ≤ t1 k ∧ t1 k ≤ 1) (b2 : ∀ k, 0 ≤ t2 k ∧ t2 k ≤ 1) (bl' : ∀ k, 0 ≤ l k ∧ l k ≤ 1) (eq : ∀ k, t0 k + t1 k + t2 k + l k = h k + δ k) (bd : ∀ k, 0 ≤ δ k ∧ δ k ≤ 1) (m : Nat) (only : ∀ k, k ≠ m → δ k = 0) (hl : ∀ k, δ k = 1 → l k = 0) {M0 M1 M2 M3 M4 : Int} (e0 : M0 = val (bl h)) (e1 : M1 = val (bl t0)) (e2 : M2 = val (bl t1)) (e3 : M3 = val (bl t2)) (e4 : M4 = val (bl l))
    {x0 x1 x2 x3 : Int} (f0 : x0 = M0 / 512 % 8 - M1 / 512 % 8 - M2 / 512 % 8 - M3 / 512 % 8) (f1 : x1 = M0 / 64 % 8 - M1 / 64 % 8 - M2 / 64 % 8 - M3 / 64 % 8) (f2 : x2 = M0 / 8 % 8 - M1 / 8 % 8 - M2 / 8 % 8 - M3 / 8 % 8) (f3 : x3 = M0 % 8 - M1 % 8 - M2 % 8 - M3 % 8) :
    (decide (0 ≤ x0 ∧ 0 ≤ x1 ∧ 0 ≤ x2 ∧ 0 ≤ x3) && (numOf x0 x1 x2 x3 == numOf (M4 / 512 % 8) (M4 / 64 % 8) (M4 / 8 % 8) (M4 % 8))) = oddOf M0 M1 M2 M3 := by
  have fe : (fun k => h k + δ k) = fun k => (t0 k + t1 k + t2 k) + l k := funext fun k => (eq k).symm
  have hv' : val (bl h) + val (bl δ) = val (bl t0) + val (bl t1) + val (bl t2) + val (bl l) := by
    rw [← val_add, fe, val_add, show (fun k => t0 k + t1 k + t2 k) = fun k => (fun k => t0 k + t1 k) k + t2 k from rfl, val_add, val_add]
  have hs' : (bl h).sum + (bl δ).sum = (bl t0).sum + (bl t1).sum + (bl t2).sum + (bl l).sum := by
    rw [← sum_add, fe, sum_add, show (fun k => t0 k + t1 k + t2 k) = fun k => (fun k => t0 k + t1 k) k + t2 k from rfl, sum_add, sum_add]
  have d0 := digs bh; have d1 := digs b0; have d2 := digs b1; have d3 := digs b2; have d4 := digs bl'
  rw [← e0] at d0; rw [← e1] at d1; rw [← e2] at d2; rw [← e3] at d3; rw [← e4] at d4
  have y3 : x3 = M4 % 8 - (δ 0 + 2 * δ 1 + 4 * δ 2) := dig_step f3 d0.1 d1.1 d2.1 d3.1 d4.1 (eq 0) (eq 1) (eq 2)
  have y2 : x2 = M4 / 8 % 8 - (δ 3 + 2 * δ 4 + 4 * δ 5) := dig_step f2 d0.2.1 d1.2.1 d2.2.1 d3.2.1 d4.2.1 (eq 3) (eq 4) (eq 5)
  have y1 : x1 = M4 / 64 % 8 - (δ 6 + 2 * δ 7 + 4 * δ 8) := dig_step f1 d0.2.2.1 d1.2.2.1 d2.2.2.1 d3.2.2.1 d4.2.2.1 (eq 6) (eq 7) (eq 8)
  have y0 : x0 = M4 / 512 % 8 - (δ 9 + 2 * δ 10 + 4 * δ 11) := dig_step f0 d0.2.2.2 d1.2.2.2 d2.2.2.2 d3.2.2.2 d4.2.2.2 (eq 9) (eq 10) (eq 11)
  clear d0 d1 d2 d3 d4 f0 f1 f2 f3
  have r4 := val_rng (bl_bits bl')
  rw [← e4] at r4
  have m8 : ∀ x : Int, 0 ≤ x % 8 := fun x => Int.emod_nonneg x (by decide)
  rw [← e0, ← e1, ← e2, ← e3, ← e4] at hv'
  have q0 := hv_val (bl_bits bh) rfl; have q1 := hv_val (bl_bits b0) rfl; have q2 := hv_val (bl_bits b1) rfl; have q3 := hv_val (bl_bits b2) rfl; have q4 := hv_val (bl_bits bl') rfl
  rw [← e0] at q0; rw [← e1] at q1; rw [← e2] at q2; rw [← e3] at q3; rw [← e4] at q4
  by_cases H : m < 12 ∧ δ m = 1
  · obtain ⟨hm, h1⟩ := H
    have z : ∀ i, i ≠ m → (bl δ).getD i 0 = 0 := fun i hi => by
      by_cases hi12 : i < 12
      · rw [bl_at hi12]; exact only i hi
      · rw [List.getD_eq_getElem?_getD, List.getElem?_eq_none (show 12 ≤ i from Nat.le_of_not_lt hi12)]; rfl
    obtain ⟨v1, s1⟩ := val_unit z (by rw [bl_at hm]; exact h1)
    rw [v1] at hv'
    rw [s1] at hs'
    have ls : (bl δ).sum = δ 0 + (δ 1 + (δ 2 + (δ 3 + (δ 4 + (δ 5 + (δ 6 + (δ 7 + (δ 8 + (δ 9 + (δ 10 + (δ 11 + 0))))))))))) := rfl
    rw [s1] at ls
    have left : (decide (0 ≤ x0 ∧ 0 ≤ x1 ∧ 0 ≤ x2 ∧ 0 ≤ x3) && (numOf x0 x1 x2 x3 == numOf (M4 / 512 % 8) (M4 / 64 % 8) (M4 / 8 % 8) (M4 % 8))) = false := by
      rw [Bool.and_eq_false_iff]
      right
      rw [beq_eq_false_iff_ne, y0, y1, y2, y3]
      exact num_lt (three_nn (bd _).1 (bd _).1 (bd _).1) (three_nn (bd _).1 (bd _).1 (bd _).1) (three_nn (bd _).1 (bd _).1 (bd _).1) (three_nn (bd _).1 (bd _).1 (bd _).1) (sum12 (bd 1).1 (bd 2).1 (bd 4).1 (bd 5).1 (bd 7).1 (bd 8).1 (bd 10).1 (bd 11).1 ls.symm)
    rw [left]
    symm
    refine odd_no hv' hs' q0 q1 q2 q3 fun hr => ?_
    have lt13 : M4 - 2 ^ m < 2 ^ 13 := Int.lt_trans (Int.lt_of_le_of_lt (Int.sub_le_self _ (Int.le_of_lt (kbt_pos m))) r4.2) (by show (2 : Int) ^ 12 < 2 ^ 13; decide)
    have bit : M4 / 2 ^ m % 2 = 0 := by
      rw [e4, val_bit (bl_bits bl') hm, bl_at hm]; exact hl m h1
    have pb := pc_borrow m 13 M4 bit (Int.sub_nonneg.mp hr) (Nat.lt_succ_of_lt hm)
    have p4 : pc 13 M4 = (bl l).sum := by rw [e4]; exact pc_val (bl_bits bl') (by show 12 ≤ 13; decide)
    rw [p4] at pb
    rw [hv_pc 13 _ hr lt13]
    exact Int.sub_le_sub_left pb _
  · have dz : ∀ k, k < 12 → δ k = 0 := fun k hk => by
      by_cases e : k = m
      · subst e
        by_cases n : δ k = 1
        · exact absurd ⟨hk, n⟩ H
        · exact zero_of (bd k) n
      · exact only k e
    have z : ∀ i, (bl δ).getD i 0 = 0 := fun i => by
      by_cases hi12 : i < 12
      · rw [bl_at hi12]; exact dz i hi12
      · rw [List.getD_eq_getElem?_getD, List.getElem?_eq_none (show 12 ≤ i from Nat.le_of_not_lt hi12)]; rfl
    obtain ⟨v1, s1⟩ := val_nil z
    rw [v1] at hv'
    rw [s1] at hs'
    have z3 : x3 = M4 % 8 := sub_z y3 (dz 0 (by decide)) (dz 1 (by decide)) (dz 2 (by decide))
    have z2 : x2 = M4 / 8 % 8 := sub_z y2 (dz 3 (by decide)) (dz 4 (by decide)) (dz 5 (by decide))
    have z1 : x1 = M4 / 64 % 8 := sub_z y1 (dz 6 (by decide)) (dz 7 (by decide)) (dz 8 (by decide))
    have z0 : x0 = M4 / 512 % 8 := sub_z y0 (dz 9 (by decide)) (dz 10 (by decide)) (dz 11 (by decide))
    rw [z0, z1, z2, z3, decide_eq_true ⟨m8 _, m8 _, m8 _, m8 _⟩, beq_self_eq_true]
    symm
    exact odd_yes (by rw [Int.add_zero] at hv'; exact hv') (by rw [Int.add_zero] at hs'; exact hs') q0 q1 q2 q3 q4 r4.1
end
end Mine
end
section
open PySem PySem.W PySem.Spec PySem.Calls PyProof.Rows
set_option Elab.async false
set_option linter.unusedVariables false
set_option maxRecDepth 100000
namespace Mine
noncomputable def opts : List (List Int) := [[], [0], [1], [2], [0, 1], [1, 0], [0, 2], [2, 0], [1, 2], [2, 1]]
noncomputable def tkF (f : Int) (c : Bool) (t : Int) : List Int := tk2 (tk1 f) (c && !inL t (tk1 f)) t
noncomputable def tbit (i : Int) (T : List Int) : Int := b2 (inL i T)
noncomputable def hbit (f : Int) : Int := b2 (decide (1 < f))
noncomputable def lbit (f : Int) (T : List Int) : Int := b2 (decide (1 < f) && T.isEmpty)
noncomputable def dlt (f : Int) (c : Bool) (t : Int) : Int := tbit 0 (tkF f c t) + tbit 1 (tkF f c t) + tbit 2 (tkF f c t) + lbit f (tkF f c t) - hbit f
theorem tk_table : ∀ (f : Fin 10) (c : Bool) (t : Fin 3), tkF (f.1 : Int) c (t.1 : Int) ∈ opts ∧ (0 ≤ dlt (f.1 : Int) c (t.1 : Int) ∧ dlt (f.1 : Int) c (t.1 : Int) ≤ 1) ∧ (c = false → dlt (f.1 : Int) c (t.1 : Int) = 0) ∧ (dlt (f.1 : Int) c (t.1 : Int) = 1 → lbit (f.1 : Int) (tkF (f.1 : Int) c (t.1 : Int)) = 0) := by decide +kernel
theorem tk_fact {f t : Int} (c : Bool) (h0 : 0 ≤ f) (h1 : f < 10) (t0 : 0 ≤ t) (t1 : t < 3) : tkF f c t ∈ opts ∧ (0 ≤ dlt f c t ∧ dlt f c t ≤ 1) ∧ (c = false → dlt f c t = 0) ∧ (dlt f c t = 1 → lbit f (tkF f c t) = 0) :=
  fin_all (n := 10) (P := fun f => tkF f c t ∈ opts ∧ (0 ≤ dlt f c t ∧ dlt f c t ≤ 1) ∧ (c = false → dlt f c t = 0) ∧ (dlt f c t = 1 → lbit f (tkF f c t) = 0)) (fun f => fin_all (n := 3) (P := fun t => tkF (f.1 : Int) c t ∈ opts ∧ (0 ≤ dlt (f.1 : Int) c t ∧ dlt (f.1 : Int) c t ≤ 1) ∧ (c = false → dlt (f.1 : Int) c t = 0) ∧ (dlt (f.1 : Int) c t = 1 → lbit (f.1 : Int) (tkF (f.1 : Int) c t) = 0)) (fun t => tk_table f c t) t0 t1) h0 h1
section
variable {a0 a1 a2 a3 a4 v : Int}
theorem takes_vals : ∀ T ∈ opts, takes [a0, a1, a2, a3, a4] T v = [a0, a1 + tbit 0 T * v, a2 + tbit 1 T * v, a3 + tbit 2 T * v, a4] := by
  have z : ∀ x : Int, x + 0 * v = x := fun x => by rw [Int.zero_mul, Int.add_zero]
  have o : ∀ x : Int, x + 1 * v = x + v := fun x => by rw [Int.one_mul]
  refine fa1 ?_ (fa1 ?_ (fa1 ?_ (fa1 ?_ (fa1 ?_ (fa1 ?_ (fa1 ?_ (fa1 ?_ (fa1 ?_ (fa1 ?_ fa0)))))))))
  · show [a0, a1, a2, a3, a4] = [a0, a1 + 0 * v, a2 + 0 * v, a3 + 0 * v, a4]; rw [z, z, z]
  · show [a0, a1 + v, a2, a3, a4] = [a0, a1 + 1 * v, a2 + 0 * v, a3 + 0 * v, a4]; rw [o, z, z]
  · show [a0, a1, a2 + v, a3, a4] = [a0, a1 + 0 * v, a2 + 1 * v, a3 + 0 * v, a4]; rw [o, z, z]
  · show [a0, a1, a2, a3 + v, a4] = [a0, a1 + 0 * v, a2 + 0 * v, a3 + 1 * v, a4]; rw [o, z, z]
  · show [a0, a1 + v, a2 + v, a3, a4] = [a0, a1 + 1 * v, a2 + 1 * v, a3 + 0 * v, a4]; rw [o, o, z]
  · show [a0, a1 + v, a2 + v, a3, a4] = [a0, a1 + 1 * v, a2 + 1 * v, a3 + 0 * v, a4]; rw [o, o, z]
  · show [a0, a1 + v, a2, a3 + v, a4] = [a0, a1 + 1 * v, a2 + 0 * v, a3 + 1 * v, a4]; rw [o, o, z]
  · show [a0, a1 + v, a2, a3 + v, a4] = [a0, a1 + 1 * v, a2 + 0 * v, a3 + 1 * v, a4]; rw [o, o, z]
  · show [a0, a1, a2 + v, a3 + v, a4] = [a0, a1 + 0 * v, a2 + 1 * v, a3 + 1 * v, a4]; rw [o, o, z]
  · show [a0, a1, a2 + v, a3 + v, a4] = [a0, a1 + 0 * v, a2 + 1 * v, a3 + 1 * v, a4]; rw [o, o, z]
theorem has_0 (c : Bool) : has1 [a0, a1, a2, a3, a4] c 0 v = [a0 + b2 c * v, a1, a2, a3, a4] := by
  cases c
  · show [a0, a1, a2, a3, a4] = [a0 + 0 * v, a1, a2, a3, a4]; rw [Int.zero_mul, Int.add_zero]
  · show [a0 + v, a1, a2, a3, a4] = [a0 + 1 * v, a1, a2, a3, a4]; rw [Int.one_mul]
theorem has_4 (c : Bool) : has1 [a0, a1, a2, a3, a4] c 4 v = [a0, a1, a2, a3, a4 + b2 c * v] := by
  cases c
  · show [a0, a1, a2, a3, a4] = [a0, a1, a2, a3, a4 + 0 * v]; rw [Int.zero_mul, Int.add_zero]
  · show [a0, a1, a2, a3, a4 + v] = [a0, a1, a2, a3, a4 + 1 * v]; rw [Int.one_mul]
end
section
variable (N : Int)
noncomputable def T_ (k : Nat) : List Int := tkF (fig N k) ((k : Int) == moreOf N) (takerOf N)
noncomputable def hB (k : Nat) : Int := hbit (fig N k)
noncomputable def tB (i : Int) (k : Nat) : Int := tbit i (T_ N k)
noncomputable def lB (k : Nat) : Int := lbit (fig N k) (T_ N k)
noncomputable def dB (k : Nat) : Int := dlt (fig N k) ((k : Int) == moreOf N) (takerOf N)
theorem fig_rng (k : Nat) : 0 ≤ fig N k ∧ fig N k < 10 := ⟨Int.emod_nonneg _ (by decide), Int.emod_lt_of_pos _ (by decide)⟩
theorem taker_rng : 0 ≤ takerOf N ∧ takerOf N < 3 := ⟨Int.emod_nonneg _ (by decide), Int.emod_lt_of_pos _ (by decide)⟩
theorem kfact (k : Nat) : T_ N k ∈ opts ∧ (0 ≤ dB N k ∧ dB N k ≤ 1) ∧ (((k : Int) == moreOf N) = false → dB N k = 0) ∧ (dB N k = 1 → lB N k = 0) :=
  tk_fact _ (fig_rng N k).1 (fig_rng N k).2 (taker_rng N).1 (taker_rng N).2
theorem step_vals {a0 a1 a2 a3 a4 : Int} (k : Nat) : stepM N (moreOf N) (takerOf N) [a0, a1, a2, a3, a4] k = [a0 + hB N k * 2 ^ k, a1 + tB N 0 k * 2 ^ k, a2 + tB N 1 k * 2 ^ k, a3 + tB N 2 k * 2 ^ k, a4 + lB N k * 2 ^ k] := by
  unfold stepM
  rw [has_0, show tkOf (fig N k) k (moreOf N) (takerOf N) = T_ N k from rfl, takes_vals _ (kfact N k).1, has_4]
  rfl
theorem sum_val (β : Nat → Int) : 0 + β 0 * 2 ^ 0 + β 1 * 2 ^ 1 + β 2 * 2 ^ 2 + β 3 * 2 ^ 3 + β 4 * 2 ^ 4 + β 5 * 2 ^ 5 + β 6 * 2 ^ 6 + β 7 * 2 ^ 7 + β 8 * 2 ^ 8 + β 9 * 2 ^ 9 + β 10 * 2 ^ 10 + β 11 * 2 ^ 11 = val (bl β) := by
  show 0 + β 0 * 1 + β 1 * 2 + β 2 * 4 + β 3 * 8 + β 4 * 16 + β 5 * 32 + β 6 * 64 + β 7 * 128 + β 8 * 256 + β 9 * 512 + β 10 * 1024 + β 11 * 2048 = β 0 + 2 * (β 1 + 2 * (β 2 + 2 * (β 3 + 2 * (β 4 + 2 * (β 5 + 2 * (β 6 + 2 * (β 7 + 2 * (β 8 + 2 * (β 9 + 2 * (β 10 + 2 * (β 11 + 2 * 0)))))))))))
  omega
theorem list5 {a b c d e a' b' c' d' e' : Int} (h1 : a = a') (h2 : b = b') (h3 : c = c') (h4 : d = d') (h5 : e = e') : [a, b, c, d, e] = [a', b', c', d', e'] := by rw [h1, h2, h3, h4, h5]
theorem from_succ {ms : List Int} {k m : Nat} {a b : Int} : drawnFrom N a b ms k (m + 1) = drawnFrom N a b (stepM N a b ms k) (k + 1) m := rfl
theorem drawn_vals : drawn N = [val (bl (hB N)), val (bl (tB N 0)), val (bl (tB N 1)), val (bl (tB N 2)), val (bl (lB N))] := by
  unfold drawn
  rw [from_succ, step_vals, from_succ, step_vals, from_succ, step_vals, from_succ, step_vals, from_succ, step_vals, from_succ, step_vals, from_succ, step_vals, from_succ, step_vals, from_succ, step_vals, from_succ, step_vals, from_succ, step_vals, from_succ, step_vals]
  exact list5 (sum_val (hB N)) (sum_val (tB N 0)) (sum_val (tB N 1)) (sum_val (tB N 2)) (sum_val (lB N))
end
theorem plain_law (N : Int) {M0 M1 M2 M3 M4 : Int} (hd : drawn N = [M0, M1, M2, M3, M4]) {x0 x1 x2 x3 : Int} (f0 : x0 = M0 / 512 % 8 - M1 / 512 % 8 - M2 / 512 % 8 - M3 / 512 % 8) (f1 : x1 = M0 / 64 % 8 - M1 / 64 % 8 - M2 / 64 % 8 - M3 / 64 % 8) (f2 : x2 = M0 / 8 % 8 - M1 / 8 % 8 - M2 / 8 % 8 - M3 / 8 % 8) (f3 : x3 = M0 % 8 - M1 % 8 - M2 % 8 - M3 % 8) :
    (decide (0 ≤ x0 ∧ 0 ≤ x1 ∧ 0 ≤ x2 ∧ 0 ≤ x3) && (numOf x0 x1 x2 x3 == numOf (M4 / 512 % 8) (M4 / 64 % 8) (M4 / 8 % 8) (M4 % 8))) = oddOf M0 M1 M2 M3 := by
  rw [drawn_vals] at hd
  obtain ⟨e0, hd⟩ := List.cons.inj hd
  obtain ⟨e1, hd⟩ := List.cons.inj hd
  obtain ⟨e2, hd⟩ := List.cons.inj hd
  obtain ⟨e3, hd⟩ := List.cons.inj hd
  have e4 := (List.cons.inj hd).1
  refine core_law (h := hB N) (t0 := tB N 0) (t1 := tB N 1) (t2 := tB N 2) (l := lB N) (δ := dB N) (fun k => b2_rng _) (fun k => b2_rng _) (fun k => b2_rng _) (fun k => b2_rng _) (fun k => b2_rng _) (fun k => ?_) (fun k => (kfact N k).2.1) (moreOf N).toNat (fun k hk => (kfact N k).2.2.1 ?_) (fun k => (kfact N k).2.2.2) e0.symm e1.symm e2.symm e3.symm e4.symm f0 f1 f2 f3
  · show tbit 0 (T_ N k) + tbit 1 (T_ N k) + tbit 2 (T_ N k) + lbit (fig N k) (T_ N k) = hbit (fig N k) + (tbit 0 (T_ N k) + tbit 1 (T_ N k) + tbit 2 (T_ N k) + lbit (fig N k) (T_ N k) - hbit (fig N k))
    generalize tbit 0 (T_ N k) + tbit 1 (T_ N k) + tbit 2 (T_ N k) + lbit (fig N k) (T_ N k) = z
    omega
  · rw [beq_eq_false_iff_ne]
    have : 0 ≤ moreOf N := Int.emod_nonneg _ (by decide)
    omega
theorem val_small {β : Nat → Int} (h : ∀ k, 0 ≤ β k ∧ β k ≤ 1) : 0 ≤ val (bl β) ∧ val (bl β) < 4096 := by
  obtain ⟨h0, h1⟩ := val_rng (bl_bits h)
  rw [show (bl β).length = 12 from rfl] at h1
  exact ⟨h0, Int.lt_of_lt_of_le h1 (by decide)⟩
theorem drawn_small (N : Int) : ∃ M0 M1 M2 M3 M4, drawn N = [M0, M1, M2, M3, M4] ∧ (0 ≤ M0 ∧ M0 < 4096) ∧ (0 ≤ M1 ∧ M1 < 4096) ∧ (0 ≤ M2 ∧ M2 < 4096) ∧ (0 ≤ M3 ∧ M3 < 4096) ∧ (0 ≤ M4 ∧ M4 < 4096) :=
  ⟨val (bl (hB N)), val (bl (tB N 0)), val (bl (tB N 1)), val (bl (tB N 2)), val (bl (lB N)), drawn_vals N, val_small (β := hB N) fun k => b2_rng _, val_small (β := tB N 0) fun k => b2_rng _, val_small (β := tB N 1) fun k => b2_rng _, val_small (β := tB N 2) fun k => b2_rng _, val_small (β := lB N) fun k => b2_rng _⟩
end Mine
end
section
open PySem PySem.W PySem.Spec PySem.Calls PyProof.Rows
set_option Elab.async false
set_option linter.unusedVariables false
set_option maxRecDepth 100000
namespace Mine
noncomputable def dg (x : Int) : List Int := [x / 512 % 8, x / 64 % 8, x / 8 % 8, x / 1 % 8]
noncomputable def dgs (x : Int) : D := .lst ((dg x).map .int)
theorem kd (k x : Int) {d e : Int} (hd : d ≠ 0) (h : 4096 = d * (8 * e)) : (4096 * k + x) / d % 8 = x / d % 8 := by
  rw [h, Int.mul_assoc, Int.mul_assoc, Int.add_comm, Int.add_mul_ediv_left _ _ hd, Int.add_mul_emod_self_left]
theorem figs_kind (k : Int) {x : Int} (h : 0 ≤ x ∧ x < 4096) : figs (4096 * k + x) = dgs x := by
  have e3 := kd k x (d := 1) (e := 512) (by decide) (by decide)
  rw [Int.ediv_one] at e3
  unfold figs
  rw [kd k x (d := 512) (e := 1) (by decide) (by decide), kd k x (d := 64) (e := 8) (by decide) (by decide), kd k x (d := 8) (e := 64) (by decide) (by decide), e3]; rfl
theorem rng5 {d : D} (h : d ∈ rngOf 0 1 5) : d = .int 0 ∨ d = .int 1 ∨ d = .int 2 ∨ d = .int 3 ∨ d = .int 4 := by
  have h : d ∈ [D.int 0, .int 1, .int 2, .int 3, .int 4] := h
  simpa only [List.mem_cons, List.not_mem_nil, or_false] using h
theorem rng4 {d : D} (h : d ∈ rngOf 0 1 4) : d = .int 0 ∨ d = .int 1 ∨ d = .int 2 ∨ d = .int 3 := by
  have h : d ∈ [D.int 0, .int 1, .int 2, .int 3] := h
  simpa only [List.mem_cons, List.not_mem_nil, or_false] using h
noncomputable def nthD (l : List D) : D → D
  | .int i => l.getD i.toNat .none
  | _ => .none
theorem z63 : (0 : Int) ≤ 0 ∧ (0 : Int) < 2 ^ 63 := by decide
theorem o63 : (0 : Int) ≤ 1 ∧ (1 : Int) < 2 ^ 63 := by decide
theorem t63 : (0 : Int) ≤ 2 ∧ (2 : Int) < 2 ^ 63 := by decide
theorem h63 : (0 : Int) ≤ 3 ∧ (3 : Int) < 2 ^ 63 := by decide
theorem f63 : (0 : Int) ≤ 4 ∧ (4 : Int) < 2 ^ 63 := by decide
noncomputable def difE (j : Nat) : RE := .bin .Sub (.bin .Sub (.bin .Sub (.sub (.sub (.v j) (.int 0)) (.v 8)) (.sub (.sub (.v j) (.int 1)) (.v 8))) (.sub (.sub (.v j) (.int 2)) (.v 8))) (.sub (.sub (.v j) (.int 3)) (.v 8))
section
variable {M0 M1 M2 M3 M4 : Int}
noncomputable def dE (M0 M1 M2 M3 : Int) : List Int := [M0 / 512 % 8 - M1 / 512 % 8 - M2 / 512 % 8 - M3 / 512 % 8, M0 / 64 % 8 - M1 / 64 % 8 - M2 / 64 % 8 - M3 / 64 % 8, M0 / 8 % 8 - M1 / 8 % 8 - M2 / 8 % 8 - M3 / 8 % 8, M0 / 1 % 8 - M1 / 1 % 8 - M2 / 1 % 8 - M3 / 1 % 8]
theorem dif_step {X : Fx} {j : Nat} {r : List D} {ρ : Env} {d : D} (hj : nth ρ j = some (.lst (dgs M0 :: dgs M1 :: dgs M2 :: dgs M3 :: r))) (hd : nth ρ 8 = some d) (hm : d ∈ rngOf 0 1 4) : wp X (difE j) .v ρ fun x => x = nthD ((dE M0 M1 M2 M3).map .int) d ∧ frozB x = true := by
  obtain ⟨i, rfl, hi, g, hg, he⟩ : ∃ (i : Int), d = .int i ∧ (0 ≤ i ∧ i < 2 ^ 63) ∧ ∃ g : Int → Int, (∀ M, ((dg M).map D.int)[i.toNat]? = some (.int (g M))) ∧ D.int (g M0 - g M1 - g M2 - g M3) = nthD ((dE M0 M1 M2 M3).map .int) (.int i) := by
    rcases rng4 hm with rfl | rfl | rfl | rfl
    · exact ⟨0, rfl, z63, _, fun M => rfl, rfl⟩
    · exact ⟨1, rfl, o63, _, fun M => rfl, rfl⟩
    · exact ⟨2, rfl, t63, _, fun M => rfl, rfl⟩
    · exact ⟨3, rfl, h63, _, fun M => rfl, rfl⟩
  have a : ∀ {K : D → Prop}, K (.lst (dgs M0 :: dgs M1 :: dgs M2 :: dgs M3 :: r)) → wp X (.v j) .v ρ K := fun {K} k => by
    show (match nth ρ j with | some d => fin K d .v | .none => False)
    rw [hj]; exact k
  have b : ∀ {K : D → Prop}, K (.int i) → wp X (.v 8) .v ρ K := fun {K} k => by
    show (match nth ρ 8 with | some d => fin K d .v | .none => False)
    rw [hd]; exact k
  exact a ⟨z63, _, rfl, b ⟨hi, _, hg M0, a ⟨o63, _, rfl, b ⟨hi, _, hg M1, a ⟨t63, _, rfl, b ⟨hi, _, hg M2, a ⟨h63, _, rfl, b ⟨hi, _, hg M3, he, rfl⟩⟩⟩⟩⟩⟩⟩⟩
noncomputable def octE : RE := .bin .Mod (.bin .FloorDiv (.v 9) (.bin .Pow (.int 8) (.bin .Sub (.int 3) (.v 8)))) (.int 8)
theorem oct_step {X : Fx} {ρ : Env} {d : D} {M : Int} (hj : nth ρ 9 = some (.int M)) (hd : nth ρ 8 = some d) (hm : d ∈ rngOf 0 1 4) : wp X octE .v ρ fun x => x = nthD ((dg M).map .int) d ∧ frozB x = true := by
  have a : ∀ {K : D → Prop}, K (.int M) → wp X (.v 9) .v ρ K := fun {K} k => by
    show (match nth ρ 9 with | some d => fin K d .v | .none => False)
    rw [hj]; exact k
  have b : ∀ {K : D → Prop}, K d → wp X (.v 8) .v ρ K := fun {K} k => by
    show (match nth ρ 8 with | some d => fin K d .v | .none => False)
    rw [hd]; exact k
  rcases rng4 hm with rfl | rfl | rfl | rfl
  · exact a (b ⟨⟨by decide, by decide, .inr (.inl rfl)⟩, ⟨by decide, by decide⟩, by decide, rfl, rfl⟩)
  · exact a (b ⟨⟨by decide, by decide, .inr (.inl rfl)⟩, ⟨by decide, by decide⟩, by decide, rfl, rfl⟩)
  · exact a (b ⟨⟨by decide, by decide, .inr (.inl rfl)⟩, ⟨by decide, by decide⟩, by decide, rfl, rfl⟩)
  · exact a (b ⟨⟨by decide, by decide, .inr (.inl rfl)⟩, ⟨by decide, by decide⟩, by decide, rfl, rfl⟩)
end
end Mine
end
section
open PySem PySem.W PySem.Spec PySem.Calls PyProof.Rows
set_option Elab.async false
set_option linter.unusedVariables false
set_option maxRecDepth 100000
namespace Mine
theorem many_cells {S : Scope} : ∀ {l : List (Str × Addr)}, (∀ x ∈ l, S.names.lookup x.1 = some .cell) → ∀ {x : Str} {a : Addr}, l.lookup x = some a → S.names.lookup x = some .cell
  | [], _, _, _, h => nomatch h
  | (y, b) :: r, hl, x, a, h => by
    rw [List.lookup_cons] at h
    by_cases e : (x == y) = true
    · rw [eq_of_beq e]; exact hl _ (.head _)
    · rw [Bool.eq_false_iff.mpr e] at h
      exact many_cells (fun z hz => hl z (.tail _ hz)) h
theorem dif_low (a b c d : Int) : lowF (a % 8 - b % 8 - c % 8 - d % 8) := by unfold lowF; constructor <;> omega
noncomputable def dgF : D → D
  | .int x => dgs x
  | _ => .none
noncomputable abbrev hostT : Str := Str.ofString "10.0.0.7"
theorem ok_host (n : Int) : dataOk (.tup [.str hostT, .int n]) := ⟨rfl, (by show (PyData.strOk hostT && (true && true)) = true; decide +kernel), Nat.le_of_ble_eq_true rfl⟩
theorem ok_unread : dataOk (.tup [.str (Str.ofString "unread")]) := ⟨rfl, by decide +kernel, Nat.le_of_ble_eq_true rfl⟩
theorem eqv_host (m n : Int) : PyData.eqv (toPy (.tup [.str hostT, .int m])) (toPy (.tup [.str hostT, .int n])) = (m == n) := by
  show ((hostT == hostT) && ((m == n) && true)) = (m == n)
  rw [beq_self_eq_true, Bool.true_and, Bool.and_true]
theorem eqv_unread (n : Int) : PyData.eqv (toPy (.tup [.str (Str.ofString "unread")])) (toPy (.tup [.str hostT, .int n])) = false := by
  show ((Str.ofString "unread" == hostT) && false) = false
  exact Bool.and_false _
theorem eqv_bool {b o : Bool} (h : b = o) : PyData.eqv (toPy (.bool b)) (toPy (.bool o)) = true := by subst h; cases b <;> rfl
theorem least_neg {a b c d : Int} (h : ¬ (0 ≤ a ∧ 0 ≤ b ∧ 0 ≤ c ∧ 0 ≤ d)) : least [a, b, c, d] < 0 := by
  obtain ⟨_, h2⟩ := least_spec [a, b, c, d] (List.cons_ne_nil _ _)
  have q0 := h2 a (.head _); have q1 := h2 b (.tail _ (.head _)); have q2 := h2 c (.tail _ (.tail _ (.head _))); have q3 := h2 d (.tail _ (.tail _ (.tail _ (.head _))))
  generalize least [a, b, c, d] = z at *
  omega
theorem least_nn {a b c d : Int} (h : 0 ≤ a ∧ 0 ≤ b ∧ 0 ≤ c ∧ 0 ≤ d) : ¬ least [a, b, c, d] < 0 := by
  obtain ⟨h1, _⟩ := least_spec [a, b, c, d] (List.cons_ne_nil _ _)
  have := (fa1 h.1 (fa1 h.2.1 (fa1 h.2.2.1 (fa1 h.2.2.2 fa0))) : ∀ x ∈ [a, b, c, d], 0 ≤ x) _ h1
  exact Int.not_lt.mpr this
section
variable {M0 M1 M2 M3 M4 : Int}
noncomputable def modesD (M0 M1 M2 M3 M4 : Int) : D := .lst [.int M0, .int M1, .int M2, .int M3, .int M4]
noncomputable def shownD (M0 M1 M2 M3 M4 : Int) : D := .lst [dgs M0, dgs M1, dgs M2, dgs M3, dgs M4]
noncomputable def dueD (x0 x1 x2 x3 : Int) : D := .lst [.int x0, .int x1, .int x2, .int x3]
theorem right_fin (w : World) (N : Int) (hd : drawn N = [M0, M1, M2, M3, M4]) {x0 x1 x2 x3 : Int} {o3 o5 : Option D} {d : D}
    (f0 : x0 = M0 / 512 % 8 - M1 / 512 % 8 - M2 / 512 % 8 - M3 / 512 % 8) (f1 : x1 = M0 / 64 % 8 - M1 / 64 % 8 - M2 / 64 % 8 - M3 / 64 % 8) (f2 : x2 = M0 / 8 % 8 - M1 / 8 % 8 - M2 / 8 % 8 - M3 / 8 % 8) (f3 : x3 = M0 / 1 % 8 - M1 / 1 % 8 - M2 / 1 % 8 - M3 / 1 % 8)
    (n1 : FN (X2 w 4) "_law_number" [dueD x0 x1 x2 x3] (.int (numOf x0 x1 x2 x3))) (n2 : FN (X2 w 4) "_law_number" [dgs M4] (.int (numOf (M4 / 512 % 8) (M4 / 64 % 8) (M4 / 8 % 8) (M4 / 1 % 8))))
    (n3 : FN (X2 w 4) "_law_odd" [.int M0, .lst [.int M1, .int M2, .int M3]] (.bool (oddOf M0 M1 M2 M3)))
    (hq : caughtQ 121 133 (fun o => o = ansOf x0 x1 x2 x3 hostT) d) :
    frozB d = true ∧ wpS (X2 w 4) r_right2 [some (.int N), some (modesD M0 M1 M2 M3 M4), some (shownD M0 M1 M2 M3 M4), o3, some (dueD x0 x1 x2 x3), o5, some d, none, none, none] (endQ (.bool true)) := by
  rw [Int.ediv_one, Int.ediv_one, Int.ediv_one, Int.ediv_one] at f3
  rw [Int.ediv_one] at n2
  have pl := plain_law N hd f0 f1 f2 f3
  have cut1 : cutOk 5 (some 1) (some 4) := ⟨by decide, fun a e => by cases e; decide, fun b e => by cases e; decide, fun a b e e' => by cases e; cases e'; decide⟩
  unfold caughtQ ansOf at hq
  unfold r_right2
  by_cases hh : 0 ≤ x0 ∧ 0 ≤ x1 ∧ 0 ≤ x2 ∧ 0 ≤ x3
  · rw [if_pos hh] at hq
    have ed : d = .tup [.str hostT, .int (numOf x0 x1 x2 x3)] := by
      rcases hq with hq | ⟨hq, _⟩
      · cases hq; rfl
      · cases hq
    subst ed
    refine ⟨rfl, ?_⟩
    refine ⟨⟨rfl, List.cons_ne_nil _ _⟩, .tup [.str hostT, .int (numOf x0 x1 x2 x3)], fun e => absurd (of_decide_eq_true e) (least_nn hh), fun e => ⟨_, n1, Nat.le_of_ble_eq_true rfl, rfl⟩, ⟨ok_host _, ok_host _⟩, fun e => ?_, fun _ => ?_⟩
    · rw [eqv_host, beq_self_eq_true] at e; cases e
    refine ⟨f63, _, rfl, _, n2, Nat.le_of_ble_eq_true rfl, ⟨ok_host _, ok_host _⟩, z63, _, rfl, cut1, _, n3, ⟨⟨rfl, rfl, Nat.le_of_ble_eq_true rfl⟩, ⟨rfl, rfl, Nat.le_of_ble_eq_true rfl⟩⟩, rfl, ?_⟩
    show D.bool _ = D.bool true
    rw [decide_eq_true hh, Bool.true_and] at pl
    rw [eqv_bool (by rw [eqv_host]; exact pl)]
  · rw [if_neg hh] at hq
    have ed : d = .tup [.str (Str.ofString "unread")] := by
      rcases hq with hq | ⟨_, hq⟩
      · cases hq
      · exact hq
    subst ed
    refine ⟨rfl, ?_⟩
    refine ⟨⟨rfl, List.cons_ne_nil _ _⟩, .tup [.str (Str.ofString "unread")], fun e => ⟨Nat.le_of_ble_eq_true rfl, rfl⟩, fun e => absurd (least_neg hh) (of_decide_eq_false e), ⟨ok_unread, ok_unread⟩, fun e => ?_, fun _ => ?_⟩
    · rw [show PyData.eqv (toPy (.tup [.str (Str.ofString "unread")])) (toPy (.tup [.str (Str.ofString "unread")])) = true from by decide +kernel] at e; cases e
    refine ⟨f63, _, rfl, _, n2, Nat.le_of_ble_eq_true rfl, ⟨ok_unread, ok_host _⟩, z63, _, rfl, cut1, _, n3, ⟨⟨rfl, rfl, Nat.le_of_ble_eq_true rfl⟩, ⟨rfl, rfl, Nat.le_of_ble_eq_true rfl⟩⟩, rfl, ?_⟩
    show D.bool _ = D.bool true
    rw [decide_eq_false hh, Bool.false_and] at pl
    rw [eqv_bool (by rw [eqv_unread]; exact pl)]
end
end Mine
end
section
open PySem PySem.W PySem.Spec PySem.Calls PyProof.Rows
set_option Elab.async false
set_option linter.unusedVariables false
set_option maxRecDepth 100000
namespace Mine
section
variable {M0 M1 M2 M3 M4 : Int}
noncomputable def figE : RE := .fc "_law_figures" (.cons (.bin .Add (.bin .Mult (.int 4096) (.bin .Mod (.bin .Add (.bin .FloorDiv (.v 0) (.int 100)) (.bin .Mult (.int 2) (.v 7))) (.int 16))) (.sub (.v 1) (.v 7))) .nil)
theorem fig_step {X : Fx} {ρ : Env} {N i M : Int} {ms : List D} {r : D} (h0 : nth ρ 0 = some (.int N)) (h1 : nth ρ 1 = some (.lst ms)) (h7 : nth ρ 7 = some (.int i)) (hm : ms[i.toNat]? = some (.int M)) (hi : 0 ≤ i ∧ i < 5)
    (hM : 0 ≤ M ∧ M < 4096) (hr : frozB r = true) (hF : ∀ k : Int, 0 ≤ k → k < 16 → FN X "_law_figures" [.int (4096 * k + M)] (dgs M)) (hrr : dgs M = r) : wp X figE .v ρ fun x => x = r ∧ frozB x = true := by
  have a : ∀ {K : D → Prop}, K (.int N) → wp X (.v 0) .v ρ K := fun {K} k => by
    show (match nth ρ 0 with | some d => fin K d .v | .none => False)
    rw [h0]; exact k
  have b : ∀ {K : D → Prop}, K (.lst ms) → wp X (.v 1) .v ρ K := fun {K} k => by
    show (match nth ρ 1 with | some d => fin K d .v | .none => False)
    rw [h1]; exact k
  have c : ∀ {K : D → Prop}, K (.int i) → wp X (.v 7) .v ρ K := fun {K} k => by
    show (match nth ρ 7 with | some d => fin K d .v | .none => False)
    rw [h7]; exact k
  subst hrr
  exact a ⟨⟨by decide, by decide⟩, c ⟨⟨by decide, by decide⟩, by decide, ⟨by decide, by decide⟩, b (c ⟨⟨hi.1, by omega⟩, _, hm, _, hF _ (Int.emod_nonneg _ (by decide)) (Int.emod_lt_of_pos _ (by decide)), rfl, hr⟩)⟩⟩
theorem right_walk (w : World) (N : Int) (hd : drawn N = [M0, M1, M2, M3, M4]) (b0 : 0 ≤ M0 ∧ M0 < 4096) (b1 : 0 ≤ M1 ∧ M1 < 4096) (b2 : 0 ≤ M2 ∧ M2 < 4096) (b3 : 0 ≤ M3 ∧ M3 < 4096) (b4 : 0 ≤ M4 ∧ M4 < 4096)
    (fD : FN (X2 w 4) "_law_drawn" [.int N] (modesD M0 M1 M2 M3 M4)) (fF : ∀ M : Int, 0 ≤ M ∧ M < 4096 → ∀ k : Int, 0 ≤ k → k < 16 → FN (X2 w 4) "_law_figures" [.int (4096 * k + M)] (dgs M))
    (fR : ∀ a b c d L : Int, lowF a → lowF b → lowF c → lowF d → 0 ≤ L ∧ L < 26 → FN (X2 w 4) "_law_reply" [.lst [.int a, .int b, .int c, .int d], .int L] (.str (replyOf a b c d L)))
    (fN : ∀ a b c d : Int, FN (X2 w 4) "_law_number" [.lst [.int a, .int b, .int c, .int d]] (.int (numOf a b c d)))
    (fO : FN (X2 w 4) "_law_odd" [.int M0, .lst [.int M1, .int M2, .int M3]] (.bool (oddOf M0 M1 M2 M3)))
    {lsc : Scope} {px py pz pw : Pos} {k0 k1 k2 : Nat} (hs : lsc.kind = .function ∧ lsc.isCoroutine = false ∧ lsc.isGenerator = false ∧ lsc.names = [(Str.ofString "reply", NameKind.free), (Str.ofString "parse229", NameKind.globalImplicit)]) :
    wpS (X2 w 4) r_right1 (ini [.int N] 9) (rightQ (X2 w 4) 4 2 0 121 133 142 "parse229" [.Tuple [.Constant (.str "10.0.0.7") k0 px, .Constant (.int 21) k1 py] k2 pz] (.Name "reply" pw) lsc ns_law_right 6 r_right2 (.bool true)) := by
  unfold r_right1
  refine ⟨_, fD, rfl, ?_⟩
  refine ⟨rfl, 5, rfl, ⟨rfl, Nat.le_of_ble_eq_true rfl, rfl⟩, nthD [dgs M0, dgs M1, dgs M2, dgs M3, dgs M4], fun d hm => ?_, rfl, ?_⟩
  · rcases rng5 hm with rfl | rfl | rfl | rfl | rfl
    · exact fig_step (N := N) (i := 0) (M := M0) rfl rfl rfl rfl (by decide) b0 rfl (fF M0 b0) rfl
    · exact fig_step (N := N) (i := 1) (M := M1) rfl rfl rfl rfl (by decide) b1 rfl (fF M1 b1) rfl
    · exact fig_step (N := N) (i := 2) (M := M2) rfl rfl rfl rfl (by decide) b2 rfl (fF M2 b2) rfl
    · exact fig_step (N := N) (i := 3) (M := M3) rfl rfl rfl rfl (by decide) b3 rfl (fF M3 b3) rfl
    · exact fig_step (N := N) (i := 4) (M := M4) rfl rfl rfl rfl (by decide) b4 rfl (fF M4 b4) rfl
  refine ⟨Nat.le_of_ble_eq_true rfl, ⟨⟨rfl, rfl, Nat.le_of_ble_eq_true rfl⟩, rfl, rfl⟩, ?_⟩
  refine And.intro (fun e => nomatch (show false = true from e)) (fun _ => ?_)
  refine ⟨rfl, 4, rfl, ⟨rfl, Nat.le_of_ble_eq_true rfl, rfl⟩, nthD ((dE M0 M1 M2 M3).map .int), fun d hm => ?_, rfl, ?_⟩
  · exact dif_step (j := 2) rfl rfl hm
  have cut0 : cutOk 5 none (some 4) := ⟨by decide, (fun a e => nomatch e), fun b e => by cases e; decide, fun a b e => nomatch e⟩
  refine ⟨cut0, ⟨rfl, Nat.le_of_ble_eq_true rfl, rfl⟩, dgF, fun d hm => ?_, rfl, ?_⟩
  · have hm : d ∈ [D.int M0, .int M1, .int M2, .int M3] := hm
    simp only [List.mem_cons, List.not_mem_nil, or_false] at hm
    rcases hm with rfl | rfl | rfl | rfl
    · exact ⟨rfl, 4, rfl, ⟨rfl, Nat.le_of_ble_eq_true rfl, rfl⟩, nthD ((dg M0).map .int), fun d hm => oct_step rfl rfl hm, rfl, rfl⟩
    · exact ⟨rfl, 4, rfl, ⟨rfl, Nat.le_of_ble_eq_true rfl, rfl⟩, nthD ((dg M1).map .int), fun d hm => oct_step rfl rfl hm, rfl, rfl⟩
    · exact ⟨rfl, 4, rfl, ⟨rfl, Nat.le_of_ble_eq_true rfl, rfl⟩, nthD ((dg M2).map .int), fun d hm => oct_step rfl rfl hm, rfl, rfl⟩
    · exact ⟨rfl, 4, rfl, ⟨rfl, Nat.le_of_ble_eq_true rfl, rfl⟩, nthD ((dg M3).map .int), fun d hm => oct_step rfl rfl hm, rfl, rfl⟩
  refine ⟨rfl, 4, rfl, ⟨rfl, Nat.le_of_ble_eq_true rfl, rfl⟩, nthD ((dE M0 M1 M2 M3).map .int), fun d hm => ?_, rfl, ?_⟩
  · exact dif_step (j := 4) rfl rfl hm
  have L : 0 ≤ N % 26 ∧ N % 26 < 26 := ⟨Int.emod_nonneg _ (by decide), Int.emod_lt_of_pos _ (by decide)⟩
  have l0 := dif_low (M0 / 512) (M1 / 512) (M2 / 512) (M3 / 512)
  have l1 := dif_low (M0 / 64) (M1 / 64) (M2 / 64) (M3 / 64)
  have l2 := dif_low (M0 / 8) (M1 / 8) (M2 / 8) (M3 / 8)
  have l3 := dif_low (M0 / 1) (M1 / 1) (M2 / 1) (M3 / 1)
  refine ⟨by decide, _, fR _ _ _ _ _ l0 l1 l2 l3 L, rfl, ?_⟩
  have C := parse_run w 0 l0 l1 l2 l3 L hostT
  refine ⟨[("reply", .str (replyOf (M0 / 512 % 8 - M1 / 512 % 8 - M2 / 512 % 8 - M3 / 512 % 8) (M0 / 64 % 8 - M1 / 64 % 8 - M2 / 64 % 8 - M3 / 64 % 8) (M0 / 8 % 8 - M1 / 8 % 8 - M2 / 8 % 8 - M3 / 8 % 8) (M0 / 1 % 8 - M1 / 1 % 8 - M2 / 1 % 8 - M3 / 1 % 8) (N % 26)))], _, _, 1, lam_ok w 0 C hs (fun d hq => ?_), by decide, fun C x hx => ?_, fun z d hz => ?_, fun d hq => ?_⟩
  · unfold ansOf at hq
    split at hq
    · cases hq; exact ⟨_, _, rfl⟩
    · cases hq
  · unfold ansOf at hx
    split at hx <;> cases hx
  · generalize replyOf _ _ _ _ _ = R at *
    have e : get [((Str.ofString "reply"), D.str R)] z = (if z = Str.ofString "reply" then some (D.str R) else none) := rfl
    rw [e] at hz
    by_cases h1 : z = Str.ofString "reply"
    · rw [if_pos h1] at hz; cases hz
      exact ⟨5, _, rfl, by rw [h1]; rfl, rfl⟩
    · rw [if_neg h1] at hz; cases hz
  · exact right_fin w N hd rfl rfl rfl rfl (fN _ _ _ _) (fN _ _ _ _) fO hq
end
end Mine
end
section
open PySem PySem.W PySem.Spec PySem.Calls PyProof.Rows
set_option Elab.async false
set_option linter.unusedVariables false
set_option maxRecDepth 100000
namespace Mine
theorem c_right (w : World) (ps₀ : Array Value) (N : Int) : RIGHT PySem.Challenge.rw_op0036_02.row.prog w (KF w.params) 4 192 189 ps₀ ⟨175, 22, 175, 63⟩ (Str.ofString "_law_right" ++ ".<locals>." ++ "<lambda>") [.int N] (.bool true) := by
  have hok := ok2 w 4
  obtain ⟨M0, M1, M2, M3, M4, hd, b0, b1, b2, b3, b4⟩ := drawn_small N
  have CD := c_drawn w N 0
  rw [hd] at CD
  k_fill
  have fD : FN (X2 w 4) "_law_drawn" [.int N] (modesD M0 M1 M2 M3 M4) := by
    refine' fn_at CD ?hg ?ho (by decide)
    ((case hg => k_is); (case ho => kernel_rfl))
  have fF : ∀ M : Int, 0 ≤ M ∧ M < 4096 → ∀ k : Int, 0 ≤ k → k < 16 → FN (X2 w 4) "_law_figures" [.int (4096 * k + M)] (dgs M) := fun M hM k h0 h1 => by
    have C := c_figures w (4096 * k + M) 0 (by omega) (by omega)
    rw [figs_kind k hM] at C
    refine' fn_at C ?hg ?ho (by decide)
    ((case hg => k_is); (case ho => kernel_rfl))
  have fR : ∀ a b c d L : Int, lowF a → lowF b → lowF c → lowF d → 0 ≤ L ∧ L < 26 → FN (X2 w 4) "_law_reply" [.lst [.int a, .int b, .int c, .int d], .int L] (.str (replyOf a b c d L)) := fun a b c d L ha hb hc hd hL => by
    refine' fn_at (c_reply w a b c d L 0 ha hb hc hd hL) ?hg ?ho (by decide)
    ((case hg => k_is); (case ho => kernel_rfl))
  have fN : ∀ a b c d : Int, FN (X2 w 4) "_law_number" [.lst [.int a, .int b, .int c, .int d]] (.int (numOf a b c d)) := fun a b c d => by
    refine' fn_at (c_number w a b c d 0) ?hg ?ho (by decide)
    ((case hg => k_is); (case ho => kernel_rfl))
  have fO : FN (X2 w 4) "_law_odd" [.int M0, .lst [.int M1, .int M2, .int M3]] (.bool (oddOf M0 M1 M2 M3)) := by
    refine' fn_at (c_odd w M0 M1 M2 M3 0 b0 b1 b2 b3) ?hg ?ho (by decide)
    ((case hg => k_is); (case ho => kernel_rfl))
  refine' rightX (names := ["n"]) (more := ns_law_right.drop 1) (k := 9) (r₁ := r_right1) (r₂ := r_right2) (fa := 142) (ig := 6) (lvc := 2) (lv' := 0) (c_caught w 2) (by decide) hok ?ho ?hcd ?hb ?hbody ?hl ?hz ?hck ?hc1 ?hc2 ?hgn ?hcn ?hcg ?hco ?hcells ?hfree ?hCC ?hKP ?h
  (case ho => k_is)
  (case hcd => k_is)
  (case hb => intro s vs h; refine hb1 (fun v => ?_) vs h; exact BindsTo.of_eq rfl)
  (case hbody => exact (List.take_append_drop 7 _).symm)
  (case hl => exact rfl)
  (case hz => exact rfl)
  (case hck => kernel_rfl)
  (case hc1 => kernel_rfl)
  (case hc2 => kernel_rfl)
  (case hgn => kernel_rfl)
  (case hcn => kernel_rfl)
  (case hcg => k_is)
  (case hco => exact isFn_out (by kernel_rfl))
  (case hcells => intro n x a h; refine many_cells (fun z hz => ?_) h; revert z; exact fa1 rfl (fa1 rfl (fa1 rfl (fa1 rfl (fa1 rfl fa0)))))
  (case hfree => decide +kernel)
  (case hCC => refine' hd_of ?a ?_ ?_ ?_ ?_ ?_ ?_ ?_ ?_ ?_; (case a => k_is); all_goals (try exact rfl))
  (case hKP => exact KF_off)
  case h =>
    exact right_walk w N hd b0 b1 b2 b3 b4 fD fF fR fN fO ⟨rfl, rfl, rfl, rfl⟩
end Mine
end
section
open PySem PySem.W PySem.Spec PySem.Calls PyProof.Rows
set_option Elab.async false
set_option linter.unusedVariables false
set_option maxRecDepth 100000
namespace Mine
noncomputable def figD : D → D
  | .int n => .int (n % 10 ^ 15)
  | _ => .none
noncomputable def lastL : List D := [.int 202250624205, .int 4222222222225, .int 5402250624000]
theorem cut_nums (l : List Int) (k : Nat) : cutL (l.map .int) none (some (k : Int)) = (l.take k).map .int := by
  show (l.map D.int).take (k : Int).toNat = _
  rw [Int.toNat_natCast, List.map_take]
theorem c_law (w : World) (ps₀ : Array Value) (l : List Int) (hl : l.length ≤ 63) {dp un : Nat} {gd : Option (List Code)} {s : Shared} {p : Program} {loose : List Str} {mean : ExcName → Option Value} {mg mb : Str → Option Value} {v : Value} {R E : Value → Shared → Prop} (hD : dp + 1 + 5 < recursionLimit) (hU : un + 3 + 20 * 5 + 60 < cLine) (B : Below (aTop dp un gd []) (hideAll s.heap [189]) [] (hideAll s.heap [189])) (X : (KF w.params).In s.heap) (T : Top p loose mean mg mb (hideAll s.heap [189])) (nl : s.heap.NoLimit)
    (Tb : Tab ps₀ 189 ⟨175, 22, 175, 63⟩ (Str.ofString "_law_right" ++ ".<locals>." ++ "<lambda>") [189] s.heap) (r : Rel [189] s.heap (.lst (l.map .int)) v)
    (hR : ∀ s', KeptBut [189] s.heap s'.heap → Tab ps₀ 189 ⟨175, 22, 175, 63⟩ (Str.ofString "_law_right" ++ ".<locals>." ++ "<lambda>") [189] s'.heap → SamS s s' → R (.bool true) s') : wpM true (model PySem.Challenge.rw_op0036_02.row.prog w) (aTop dp un gd []) (call (.ref 199) [v]) R E s := by
  have hok := ok2 w 5
  have hc : ∀ d ∈ ((l.take 2).map D.int ++ lastL), (∀ ds, d ≠ .tup ds) ∧ wp (X2 w 5) r_lawC .v [some (.lst (l.map .int)), some d] (fun r => r = figD d) ∧ RIGHT PySem.Challenge.rw_op0036_02.row.prog w (KF w.params) 4 192 189 ps₀ ⟨175, 22, 175, 63⟩ (Str.ofString "_law_right" ++ ".<locals>." ++ "<lambda>") [figD d] (.bool true) := fun d hd => by
    have : ∃ n : Int, d = .int n := by
      rcases List.mem_append.mp hd with h | h
      · obtain ⟨n, _, rfl⟩ := List.mem_map.mp h
        exact ⟨n, rfl⟩
      · simp only [lastL, List.mem_cons, List.not_mem_nil, or_false] at h
        rcases h with rfl | rfl | rfl <;> exact ⟨_, rfl⟩
    obtain ⟨n, rfl⟩ := this
    exact ⟨(fun ds e => nomatch e), ⟨⟨by decide, by decide, .inr (.inr rfl)⟩, by decide, rfl⟩, c_right w ps₀ (n % 10 ^ 15)⟩
  have fz : frozB.frozBs ((l.take 2).map D.int ++ lastL) = true := by
    have e : (l.take 2).map D.int ++ lastL = (l.take 2 ++ [202250624205, 4222222222225, 5402250624000]).map D.int := by rw [List.map_append]; rfl
    rw [e]; exact froz_nums _
  revert X
  k_fill
  intro X
  refine' lawY (ns := ns_law) (ra := r_lawA) (rb := r_lawB) (rc := r_lawC) (fig := figD) (script := l.map .int) (items := (l.take 2).map .int ++ lastL) hok (Nat.le_refl 5) ?ho ?hcd ?hb ?hns ?hck ?hz fz ?ca ?cb ?cc ?hvn ?hrn ?hrg ?hro ?hec KF_off ?hab hc hD hU B X T nl Tb r hR
  (case ho => k_is)
  (case hcd => k_is)
  (case hb => intro s v; exact BindsTo.of_eq rfl)
  (case hns => exact rfl)
  (case hck => kernel_rfl)
  (case hz => exact froz_nums l)
  (case ca => kernel_rfl)
  (case cb => kernel_rfl)
  (case cc => kernel_rfl)
  (case hvn => kernel_rfl)
  (case hrn => kernel_rfl)
  (case hrg => k_is)
  (case hro => exact isFn_out (by kernel_rfl))
  (case hec => exact rfl)
  (case hab =>
    refine ⟨_, _, ?_, ?_, ?_, ?_, rfl⟩
    · refine ⟨⟨by rw [List.length_map]; omega, (fun a e => nomatch e), (fun b e => by cases e; decide), (fun a b e => nomatch e)⟩, ?_⟩
      exact congrArg D.lst (cut_nums l 2)
    · exact ⟨Nat.le_of_ble_eq_true rfl, rfl⟩
    · rw [List.length_map, List.length_take]; omega
    · exact Nat.le_of_ble_eq_true rfl)
end Mine
end
section
open PySem PySem.W PySem.Spec PySem.Calls PyProof.Rows
set_option Elab.async false
set_option linter.unusedVariables false
set_option maxRecDepth 100000
namespace Mine
theorem relL_ints {mu : List Addr} {h : Heap} : ∀ {vs : List Value} {ns : List Int}, IntsAre vs ns → RelL mu h (ns.map .int) vs := by
  intro vs ns hi
  induction hi with
  | nil => simp only [List.map_nil, RelL]
  | cons n t _ ih =>
    simp only [List.map_cons, RelL]
    exact ⟨_, _, rfl, by simp only [Rel]; exact ⟨t, rfl⟩, ih⟩
theorem law_fa (w : World) : nsIn (hz.heap_176 w.params) mainGlobals "law" = some (some (.ref 199)) := by kernel_rfl
theorem tab_fa (w : World) : (hz.heap_176 w.params).lookup 189 = some (tabObj #[]) := by kernel_rfl
theorem head_191 (w : World) : ∀ h, (KF w.params).In h → CodeHd h 191 189 := by
  suffices H : (∀ h, (KF w.params).In h → CodeHd h 191 189) ∧ PySem.Challenge.rw_op0036_02.row.prog = PySem.Challenge.rw_op0036_02.row.prog from H.1
  k_fill
  refine ⟨?_, rfl⟩
  refine' hd_of ?a ?_ ?_ ?_ ?_ ?_ ?_ ?_ ?_ ?_
  (case a => k_is)
  all_goals (try exact rfl)
theorem law_run (w : World) (l : List Int) (hl : l.length ≤ 63) {s : Shared} {p : Program} {loose : List Str} {mean : ExcName → Option Value} {mg mb : Str → Option Value} {a : Addr} {vs : List Value} {R E : Value → Shared → Prop} (KX : (hz.heap_176 w.params).In s.heap) (T : Top p loose mean mg mb s.heap) (hL : s.heap.IsList a vs.toArray) (hI : IntsAre vs l)
    (hR : ∀ s', OldK s.heap s'.heap → SamS s s' → R (.bool true) s') : wpM true (model PySem.Challenge.rw_op0036_02.row.prog w) callerA (call (.ref 199) [.ref a]) R E s := by
  have h189 : s.heap.get? 189 = some (tabObj #[]) := KX _ _ (tab_fa w)
  have X := KF_in KX
  have hC := head_191 w _ X
  have hT : TabsAt [(191, 189)] s.heap := fun q hq => by
    rw [List.mem_singleton.mp hq]; exact ⟨hC, h189⟩
  refine c_law w #[] l hl (dp := 1 + claimMargin) (un := 4) (gd := some []) (by decide +kernel) (by decide +kernel) (below_caller _) X (ghost_top hT T) T.nolimit ⟨#[], ⟨#[], rfl⟩, h189, ?_, .inl rfl⟩ ?_ fun s' kb tb sm => hR s' ?_ sm
  · simp [TriplesOk]
  · simp only [Rel]
    refine ⟨a, vs, rfl, fun hm => ?_, hL, relL_ints hI⟩
    rw [List.mem_singleton.mp hm] at hL
    obtain ⟨o, ho, hc, _⟩ := hL
    rw [h189] at ho; cases ho; cases hc
  · obtain ⟨ps, ⟨more, hm⟩, hp, _, _⟩ := tb
    refine ⟨fun b o e => ?_, fun b o e => ?_⟩
    · by_cases hb : b = 189
      · subst hb
        rw [h189] at e; cases e
        exact .inr (.inl ⟨(hC.tab h189).isCodeTable, rfl, #[], ps, rfl, by rw [Array.empty_append]; exact hp⟩)
      · exact .inl (kb b o (by simpa using hb) e)
    · by_cases hb : b = 189
      · subst hb; exact ⟨_, hp⟩
      · exact ⟨o, kb b o (by simpa using hb) e⟩
set_option maxHeartbeats 0 in
theorem walk : hz.1 := by
  delta hz
  dsimp only
  refine ⟨fun w => ?_, ?_⟩
  · kernel_rfl
  k_fill
  intro w s₀ s₁ mg mb G y fa o pm cd doc dV kV ho hd hcd hD hmg hg args vals as L hpre hlay hrd hwl hlo
  have KX : (hz.heap_176 w.params).In s₁.heap := by
    have f := X.z_facts (K := hz.heap_176) (fun P => rfl) y
    exact InK.keeps w _ _ f.2.1 L.keeps
  refine Ground.open G ?_
  intro T B D TE TW
  have hfa : fa = 199 := by
    have := mg_of KX T.g (law_fa w)
    rw [hmg] at this
    exact Value.ref.inj (Option.some.inj this)
  subst hfa
  wrow_args hpre hlay hrd hwl hlo
  rename_i w5 hs hly hl1 hr1 hl2 w4 w3 w2 w1 w0 hL ra wl r0 hI hr hc1 hc2
  refine law_run w w5 (by omega) KX T hL hI fun s' ok sm => ?_
  obtain ⟨tk, e⟩ := sm
  refine ⟨.inl ⟨_, .bool true, [], rfl, fun _ => rfl, ?_, ?_, fun _ => ⟨List.nodup_nil, fun a h => nomatch h⟩⟩, ok, by rw [e], .of_eq (by rw [e]; exact hg)⟩
  · constructor
  · wrow_post
end Mine
end
set_option Elab.async false
theorem PySem.Challenge.cw_op0036_02_holds : PySem.Challenge.rw_op0036_02.Holds :=
  Mine.hz.2 ⟨Mine.walk⟩
