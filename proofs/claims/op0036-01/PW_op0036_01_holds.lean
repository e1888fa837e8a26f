import PyProof.Rows.All
import Wide.All
import OpenK.AllK
import Wide.FinOn
import KE.KBits
import KE.BitLaws
import KE.KIntText
import PyProof.Conv_int
import PyProof.ReprStr
import KE.KTryMore
import KE.KLam
import KE.IntTextLaws
import KE.KNest
import PySem.Challenge.RW_op0036_01
section
open PySem PySem.W PySem.Spec PySem.Calls PyProof.Rows
set_option Elab.async false
set_option linter.unusedVariables false
namespace Mine
inductive D where
  | none
  | bool (b : Bool)
  | int (i : Int)
  | str (x : Str)
  | bytes (b : Array UInt8)
  | tup (l : List D)
  | lst (l : List D)
  | mls (l : List D)
  | rng (a b c : Int)
  | val (v : Value)
deriving Inhabited
mutual
noncomputable def Rel (mu : List Addr) (h : Heap) : D → Value → Prop
  | .none, v => v = .none
  | .bool b, v => v = .bool b
  | .int i, v => ∃ t, v = .int i t
  | .str x, v => ∃ t, v = .str x t
  | .bytes b, v => ∃ t, v = .bytes b t
  | .tup l, v => ∃ a vs, v = .ref a ∧ a ∉ mu ∧ IsTup h a vs.toArray ∧ RelL mu h l vs
  | .lst l, v => ∃ a vs, v = .ref a ∧ a ∉ mu ∧ h.IsList a vs.toArray ∧ RelL mu h l vs
  | .mls l, v => ∃ a vs, v = .ref a ∧ h.PlainList a vs.toArray ∧ RelL mu h l vs
  | .rng a b c, v => ∃ r t u w, v = .ref r ∧ r ∉ mu ∧ IsRange h r a b c t u w
  | .val x, v => v = x
noncomputable def RelL (mu : List Addr) (h : Heap) : List D → List Value → Prop
  | [], vs => vs = []
  | d :: ds, vs => ∃ v vs', vs = v :: vs' ∧ Rel mu h d v ∧ RelL mu h ds vs'
end

mutual
noncomputable def Froz : D → Prop
  | .mls _ => False
  | .tup l => FrozL l
  | .lst l => FrozL l
  | _ => True
noncomputable def FrozL : List D → Prop
  | [] => True
  | d :: ds => Froz d ∧ FrozL ds
end

noncomputable def KeptBut (mu : List Addr) (h h' : Heap) : Prop := ∀ b o, b ∉ mu → h.get? b = some o → h'.get? b = some o
mutual
theorem Rel.but {mu : List Addr} {h h' : Heap} (k : KeptBut mu h h') : ∀ {d : D} {v : Value}, Froz d → Rel mu h d v → Rel mu h' d v
  | .none, _, _, r => r
  | .bool _, _, _, r => r
  | .int _, _, _, r => r
  | .str _, _, _, r => r
  | .bytes _, _, _, r => r
  | .val _, _, _, r => r
  | .mls _, _, f, _ => by simp only [Froz] at f
  | .rng a b c, v, f, r => by
    simp only [Rel] at r ⊢
    obtain ⟨r, t, u, w, e, hm, hi⟩ := r
    exact ⟨r, t, u, w, e, hm, k r _ hm hi⟩
  | .tup l, v, f, r => by
    simp only [Rel] at r ⊢
    simp only [Froz] at f
    obtain ⟨a, vs, e, hm, hi, hr⟩ := r
    obtain ⟨o, ho, q⟩ := hi
    exact ⟨a, vs, e, hm, ⟨o, k a o hm ho, q⟩, RelL.but k f hr⟩
  | .lst l, v, f, r => by
    simp only [Rel] at r ⊢
    simp only [Froz] at f
    obtain ⟨a, vs, e, hm, hi, hr⟩ := r
    exact ⟨a, vs, e, hm, hi.at fun o ho => k a o hm ho, RelL.but k f hr⟩
theorem RelL.but {mu : List Addr} {h h' : Heap} (k : KeptBut mu h h') : ∀ {ds : List D} {vs : List Value}, FrozL ds → RelL mu h ds vs → RelL mu h' ds vs
  | [], _, _, r => r
  | d :: ds, vs, f, r => by
    simp only [RelL] at r ⊢
    simp only [FrozL] at f
    obtain ⟨v, vs', e, r1, r2⟩ := r
    exact ⟨v, vs', e, Rel.but k f.1 r1, RelL.but k f.2 r2⟩
end

noncomputable def Kept (h h' : Heap) : Prop := ∀ b o, h.get? b = some o → h'.get? b = some o
mutual
theorem Rel.kept {mu : List Addr} {h h' : Heap} (k : Kept h h') : ∀ {d : D} {v : Value}, Rel mu h d v → Rel mu h' d v
  | .none, _, r => r
  | .bool _, _, r => r
  | .int _, _, r => r
  | .str _, _, r => r
  | .bytes _, _, r => r
  | .val _, _, r => r
  | .mls l, v, r => by
    simp only [Rel] at r ⊢
    obtain ⟨a, vs, e, hi, hr⟩ := r
    exact ⟨a, vs, e, hi.at fun o ho => k a o ho, RelL.kept k hr⟩
  | .rng a b c, v, r => by
    simp only [Rel] at r ⊢
    obtain ⟨r, t, u, w, e, hm, hi⟩ := r
    exact ⟨r, t, u, w, e, hm, k r _ hi⟩
  | .tup l, v, r => by
    simp only [Rel] at r ⊢
    obtain ⟨a, vs, e, hm, hi, hr⟩ := r
    obtain ⟨o, ho, q⟩ := hi
    exact ⟨a, vs, e, hm, ⟨o, k a o ho, q⟩, RelL.kept k hr⟩
  | .lst l, v, r => by
    simp only [Rel] at r ⊢
    obtain ⟨a, vs, e, hm, hi, hr⟩ := r
    exact ⟨a, vs, e, hm, hi.at fun o ho => k a o ho, RelL.kept k hr⟩
theorem RelL.kept {mu : List Addr} {h h' : Heap} (k : Kept h h') : ∀ {ds : List D} {vs : List Value}, RelL mu h ds vs → RelL mu h' ds vs
  | [], _, r => r
  | d :: ds, vs, r => by
    simp only [RelL] at r ⊢
    obtain ⟨v, vs', e, r1, r2⟩ := r
    exact ⟨v, vs', e, Rel.kept k r1, RelL.kept k r2⟩
end

theorem Rel.sub {mu mu' : List Addr} {h : Heap} (k : ∀ a ∈ mu', a ∈ mu ∨ h.get? a = none) : ∀ {d : D} {v : Value}, Rel mu h d v → Rel mu' h d v := by
  have main : ∀ n : Nat, (∀ d v, sizeOf d < n → Rel mu h d v → Rel mu' h d v) ∧ (∀ ds vs, sizeOf ds < n → RelL mu h ds vs → RelL mu' h ds vs) := by
    intro n
    induction n with
    | zero => exact ⟨fun _ _ h => absurd h (Nat.not_lt_zero _), fun _ _ h => absurd h (Nat.not_lt_zero _)⟩
    | succ n ih =>
      have nm : ∀ a o, a ∉ mu → h.get? a = some o → a ∉ mu' := fun a o hm ho q => by
        rcases k a q with q | q
        · exact hm q
        · rw [q] at ho; cases ho
      refine ⟨fun d v hs r => ?_, fun ds vs hs r => ?_⟩
      · cases d with
        | tup l =>
          simp only [Rel] at r ⊢
          obtain ⟨a, vs, e, hm, hi, hr⟩ := r
          obtain ⟨o, ho, q⟩ := hi
          exact ⟨a, vs, e, nm a o hm ho, ⟨o, ho, q⟩, ih.2 l vs (by simp only [D.tup.sizeOf_spec] at hs; omega) hr⟩
        | lst l =>
          simp only [Rel] at r ⊢
          obtain ⟨a, vs, e, hm, hi, hr⟩ := r
          obtain ⟨o, ho, q⟩ := hi
          exact ⟨a, vs, e, nm a o hm ho, ⟨o, ho, q⟩, ih.2 l vs (by simp only [D.lst.sizeOf_spec] at hs; omega) hr⟩
        | rng a b c =>
          simp only [Rel] at r ⊢
          obtain ⟨r, t, u, w, e, hm, hi⟩ := r
          exact ⟨r, t, u, w, e, nm r _ hm hi, hi⟩
        | mls l =>
          simp only [Rel] at r ⊢
          obtain ⟨a, vs, e, hi, hr⟩ := r
          exact ⟨a, vs, e, hi, ih.2 l vs (by simp only [D.mls.sizeOf_spec] at hs; omega) hr⟩
        | _ => simpa only [Rel] using r
      · cases ds with
        | nil => simpa only [RelL] using r
        | cons d ds =>
          simp only [RelL] at r ⊢
          obtain ⟨v, vs', e, r1, r2⟩ := r
          simp only [List.cons.sizeOf_spec] at hs
          exact ⟨v, vs', e, ih.1 d v (by omega) r1, ih.2 ds vs' (by omega) r2⟩
  intro d v r
  exact (main _).1 d v (Nat.lt_succ_self _) r
theorem RelL.sub {mu mu' : List Addr} {h : Heap} (k : ∀ a ∈ mu', a ∈ mu ∨ h.get? a = none) : ∀ {ds : List D} {vs : List Value}, RelL mu h ds vs → RelL mu' h ds vs
  | [], _, r => r
  | d :: ds, vs, r => by
    simp only [RelL] at r ⊢
    obtain ⟨v, vs', e, r1, r2⟩ := r
    exact ⟨v, vs', e, Rel.sub k r1, RelL.sub k r2⟩
theorem RelL.length {mu : List Addr} {h : Heap} : ∀ {ds : List D} {vs : List Value}, RelL mu h ds vs → vs.length = ds.length
  | [], vs, r => by simp only [RelL] at r; subst r; rfl
  | d :: ds, vs, r => by
    simp only [RelL] at r
    obtain ⟨v, vs', e, _, r2⟩ := r
    subst e
    simp [RelL.length r2]
theorem RelL.get {mu : List Addr} {h : Heap} : ∀ {ds : List D} {vs : List Value}, RelL mu h ds vs → ∀ {i : Nat} {d : D}, ds[i]? = some d → ∃ v, vs[i]? = some v ∧ Rel mu h d v
  | [], _, _, i, d, e => by simp at e
  | d :: ds, vs, r, i, d', e => by
    simp only [RelL] at r
    obtain ⟨v, vs', rfl, r1, r2⟩ := r
    cases i with
    | zero => simp at e; subst e; exact ⟨v, rfl, r1⟩
    | succ i => simp at e; simpa using RelL.get r2 e
theorem RelL.append {mu : List Addr} {h : Heap} : ∀ {ds es : List D} {vs ws : List Value}, RelL mu h ds vs → RelL mu h es ws → RelL mu h (ds ++ es) (vs ++ ws)
  | [], _, vs, _, r, q => by simp only [RelL] at r; subst r; exact q
  | d :: ds, es, vs, ws, r, q => by
    simp only [RelL, List.cons_append] at r ⊢
    obtain ⟨v, vs', rfl, r1, r2⟩ := r
    exact ⟨v, vs' ++ ws, rfl, r1, RelL.append r2 q⟩
theorem FrozL.get : ∀ {ds : List D}, FrozL ds → ∀ {i : Nat} {d : D}, ds[i]? = some d → Froz d
  | [], _, i, d, e => by simp at e
  | d :: ds, f, i, d', e => by
    simp only [FrozL] at f
    cases i with
    | zero => simp at e; subst e; exact f.1
    | succ i => simp at e; exact FrozL.get f.2 e
theorem FrozL.append : ∀ {ds es : List D}, FrozL ds → FrozL es → FrozL (ds ++ es)
  | [], _, _, q => q
  | d :: ds, es, f, q => by simp only [FrozL, List.cons_append] at f ⊢; exact ⟨f.1, FrozL.append f.2 q⟩
theorem FrozL.of : ∀ {ds : List D}, (∀ d ∈ ds, Froz d) → FrozL ds
  | [], _ => by simp only [FrozL]
  | d :: ds, h => by simp only [FrozL]; exact ⟨h d (.head _), FrozL.of fun x hx => h x (.tail _ hx)⟩
theorem FrozL.mem : ∀ {ds : List D}, FrozL ds → ∀ d ∈ ds, Froz d
  | d :: ds, f, _, .head _ => by simp only [FrozL] at f; exact f.1
  | d :: ds, f, x, .tail _ hx => by simp only [FrozL] at f; exact FrozL.mem f.2 x hx
mutual
theorem Rel.step {mu mu' own : List Addr} {h h' : Heap} (k : KeptBut own h h') (ho : ∀ a ∈ own, a ∈ mu ∨ h.get? a = none) (hm : ∀ a ∈ mu', a ∈ mu ∨ h.get? a = none) : ∀ {d : D} {v : Value}, Froz d → Rel mu h d v → Rel mu' h' d v
  | .none, _, _, r => r
  | .bool _, _, _, r => r
  | .int _, _, _, r => r
  | .str _, _, _, r => r
  | .bytes _, _, _, r => r
  | .val _, _, _, r => r
  | .mls _, _, f, _ => by simp only [Froz] at f
  | .rng a b c, v, f, r => by
    simp only [Rel] at r ⊢
    obtain ⟨r, t, u, w, e, hn, hob⟩ := r
    have hob : h.get? r = some _ := hob
    exact ⟨r, t, u, w, e, fun q' => (hm r q').elim hn (fun z => by rw [z] at hob; cases hob), k r _ (fun q' => (ho r q').elim hn (fun z => by rw [z] at hob; cases hob)) hob⟩
  | .tup l, v, f, r => by
    simp only [Rel] at r ⊢
    simp only [Froz] at f
    obtain ⟨a, vs, e, hn, hi, hr⟩ := r
    obtain ⟨o, hob, q⟩ := hi
    exact ⟨a, vs, e, fun q' => (hm a q').elim hn (fun z => by rw [z] at hob; cases hob), ⟨o, k a o (fun q' => (ho a q').elim hn (fun z => by rw [z] at hob; cases hob)) hob, q⟩, RelL.step k ho hm f hr⟩
  | .lst l, v, f, r => by
    simp only [Rel] at r ⊢
    simp only [Froz] at f
    obtain ⟨a, vs, e, hn, hi, hr⟩ := r
    obtain ⟨o, hob, q⟩ := hi
    exact ⟨a, vs, e, fun q' => (hm a q').elim hn (fun z => by rw [z] at hob; cases hob), ⟨o, k a o (fun q' => (ho a q').elim hn (fun z => by rw [z] at hob; cases hob)) hob, q⟩, RelL.step k ho hm f hr⟩
theorem RelL.step {mu mu' own : List Addr} {h h' : Heap} (k : KeptBut own h h') (ho : ∀ a ∈ own, a ∈ mu ∨ h.get? a = none) (hm : ∀ a ∈ mu', a ∈ mu ∨ h.get? a = none) : ∀ {ds : List D} {vs : List Value}, FrozL ds → RelL mu h ds vs → RelL mu' h' ds vs
  | [], _, _, r => r
  | d :: ds, vs, f, r => by
    simp only [RelL] at r ⊢
    simp only [FrozL] at f
    obtain ⟨v, vs', e, r1, r2⟩ := r
    exact ⟨v, vs', e, Rel.step k ho hm f.1 r1, RelL.step k ho hm f.2 r2⟩
end

noncomputable abbrev aTop (dp un : Nat) (gd : Option (List Code)) (outer : List Env) : Around := { handled := none, depth := dp, frames := some outer, guards := gd, units := un }
structure Cx where
  prog : Program
  w : World
  K : Frag
  p : Program
  loose : List Str
  mean : ExcName → Option Value
  mg : Str → Option Value
  mb : Str → Option Value
  dp : Nat
  un : Nat
  lv : Nat
  gd : Option (List Code)
  outer : List Env
  base : Heap
  h₀ : Heap
  L : Addr
  fenv : Env
  env : Env
noncomputable abbrev Cx.A (c : Cx) : Around := (aTop c.dp c.un c.gd c.outer).deeper c.fenv
noncomputable abbrev Cx.M (c : Cx) : Model := model c.prog c.w
structure Cx.Ok (c : Cx) : Prop where
  below : Below (aTop c.dp c.un c.gd c.outer) c.base c.outer c.h₀
  top : Top c.p c.loose c.mean c.mg c.mb c.h₀
  inK : c.K.In c.h₀
  kind : c.env.scope.kind = .function
  fkind : c.fenv.scope.kind = .function
  frame : c.fenv.frame = some c.L
  glob : c.env.globals = mainGlobals
  blt : c.env.builtins = builtinsNs
  roomD : c.dp + 1 + c.lv < recursionLimit
  roomU : c.un + 3 + 20 * c.lv + 60 < cLine
noncomputable def NameIs (env : Env) (h : Heap) (x : Str) (v : Value) : Prop :=
  (env.kindOf x = some .local ∧ ∃ m, h.Ns env.locals m ∧ m x = some v) ∨
  ((env.kindOf x = some .cell ∨ (env.kindOf x = some .free ∧ (x == ("__classdict__" : Str)) = false)) ∧ ∃ a, env.cells.lookup x = some a ∧ h.IsCell a (some v))
noncomputable abbrev Loc := List (Str × D)
noncomputable def get : Loc → Str → Option D
  | [], _ => none
  | (y, d) :: r, x => if x = y then some d else get r x
noncomputable def put : Loc → Str → D → Loc
  | [], x, d => [(x, d)]
  | (y, e) :: r, x, d => if x = y then (y, d) :: r else (y, e) :: put r x d
theorem get_put (l : Loc) (x : Str) (d : D) (y : Str) : get (put l x d) y = if y = x then some d else get l y := by
  induction l with
  | nil => simp only [put, get]
  | cons p r ih =>
    obtain ⟨z, e⟩ := p
    by_cases h : x = z
    · subst h
      simp only [put, if_true, get]
      by_cases q : y = x <;> simp [q]
    · simp only [put, if_neg h, get, ih]
      by_cases q : y = z
      · subst q; simp [Ne.symm h]
      · simp [q]
structure Inv (c : Cx) (av own : List Addr) (l : Loc) (s : Shared) : Prop where
  ok : c.Ok
  keep : ∀ a ∈ av, (s.heap.get? a).isSome = true ∧ c.K.lookup a = none ∧ a ∉ own
  fr : ∃ m, Fr c.h₀ c.L s.heap m
  mine : ∀ a ∈ own, c.h₀.get? a = none ∧ (s.heap.get? a).isSome = true
  loc : c.env.locals ∈ own ∧ ∃ m, s.heap.Ns c.env.locals m
  cell : ∀ x a, c.env.kindOf x = some .cell → c.env.cells.lookup x = some a → a ∈ own ∧ ∃ v, s.heap.IsCell a v
  inj : ∀ x y a, c.env.cells.lookup x = some a → c.env.cells.lookup y = some a → x = y
  cel : ∀ x a, c.env.cells.lookup x = some a → (s.heap.get? a).isSome = true ∧ a ∉ av
  off : c.L ∉ av
  val : ∀ x d, get l x = some d → ∃ v, NameIs c.env s.heap x v ∧ Rel (own ++ av) s.heap d v ∧
    match d with
    | .mls its => FrozL its ∧ ∃ a, v = .ref a ∧ a ∈ own
    | d => Froz d
  apart : ∀ x y dx dy a, get l x = some (.mls dx) → get l y = some (.mls dy) → NameIs c.env s.heap x (.ref a) → NameIs c.env s.heap y (.ref a) → x = y
noncomputable def EV (c : Cx) (l : Loc) (e : Expr) (d : D) : Prop :=
  ∀ av own s, Inv c av own l s → ∀ (Q E : Value → Shared → Prop), (∀ v s', Keeps s s' → Rel (own ++ av) s'.heap d v → Q v s') → wpAny c.M c.A (eval e c.env) Q E s
theorem kp_rfl {s : Shared} : Keeps s s := ⟨s.heap, s.toks, rfl, fun _ _ e => e⟩
theorem kp_tok {s : Shared} (n : Nat) : Keeps s { s with toks := n } := ⟨s.heap, n, rfl, fun _ _ e => e⟩
theorem kp_kept {s s' : Shared} (k : Keeps s s') : Kept s.heap s'.heap := by obtain ⟨h', tk, rfl, q⟩ := k; exact q
theorem kp_trans {s s' s'' : Shared} (k : Keeps s s') (k' : Keeps s' s'') : Keeps s s'' := by
  obtain ⟨h', tk, rfl, q⟩ := k
  obtain ⟨h'', tk', rfl, q'⟩ := k'
  exact ⟨h'', tk', rfl, fun b o e => q' b o (q b o e)⟩
theorem kp_push {s : Shared} (o : Obj) : Keeps s { s with heap := s.heap.push o } := ⟨_, s.toks, rfl, fun _ _ e => Heap.get?_push_of_some _ e⟩
theorem NameIs.kept {env : Env} {h h' : Heap} {x : Str} {v : Value} (k : Kept h h') (n : NameIs env h x v) : NameIs env h' x v := by
  rcases n with ⟨q, m, hn, e⟩ | ⟨q, a, ha, hc⟩
  · exact .inl ⟨q, m, hn.keeps k, e⟩
  · exact .inr ⟨q, a, ha, hc.keeps k⟩
theorem IsCell.agree {h : Heap} {a : Addr} {v w : Option Value} (x : h.IsCell a v) (y : h.IsCell a w) : v = w := by
  obtain ⟨o, e1, d1⟩ := x
  obtain ⟨o', e2, d2⟩ := y
  rw [e1] at e2
  cases e2
  rw [d1] at d2
  exact Data.cell.inj d2
theorem NameIs.agree {env : Env} {h : Heap} {x : Str} {v w : Value} (n : NameIs env h x v) (n' : NameIs env h x w) : v = w := by
  rcases n with ⟨q, m, hn, e⟩ | ⟨q, a, ha, hc⟩ <;> rcases n' with ⟨q', m', hn', e'⟩ | ⟨q', a', ha', hc'⟩
  · have := hn.agree hn' x
    rw [e, e'] at this
    exact Option.some.inj this
  · rcases q' with q' | q' <;> simp [q] at q'
  · rcases q with q | q <;> simp [q'] at q
  · rw [ha] at ha'
    cases ha'
    exact Option.some.inj (IsCell.agree hc hc')
theorem NameIs.back {env : Env} {h h' : Heap} {x : Str} {v w : Value} (k : Kept h h') (n : NameIs env h x v) (n' : NameIs env h' x w) : w = v := (n.kept k).agree n' ▸ rfl
theorem Inv.kept {c : Cx} {av own : List Addr} {l : Loc} {s s' : Shared} (i : Inv c av own l s) (k : Kept s.heap s'.heap) : Inv c av own l s' where
  ok := i.ok
  keep := fun a ha => ⟨by
    obtain ⟨o, ho⟩ := Option.isSome_iff_exists.mp (i.keep a ha).1
    rw [k a o ho]; rfl, (i.keep a ha).2⟩
  fr := let ⟨m, F⟩ := i.fr; ⟨m, F.ns.keeps k, fun b o e => k b o (F.keep b o e), F.above⟩
  mine := fun a ha => ⟨(i.mine a ha).1, by
    obtain ⟨o, ho⟩ := Option.isSome_iff_exists.mp (i.mine a ha).2
    rw [k a o ho]; rfl⟩
  loc := ⟨i.loc.1, let ⟨m, hm⟩ := i.loc.2; ⟨m, hm.keeps k⟩⟩
  cell := fun x a h1 h2 => let ⟨h3, v, h4⟩ := i.cell x a h1 h2; ⟨h3, v, h4.keeps k⟩
  inj := i.inj
  cel := fun x a h => ⟨by
    obtain ⟨o, ho⟩ := Option.isSome_iff_exists.mp (i.cel x a h).1
    rw [k a o ho]; rfl, (i.cel x a h).2⟩
  off := i.off
  val := fun x d h1 => let ⟨v, n, r, q⟩ := i.val x d h1; ⟨v, n.kept k, r.kept k, q⟩
  apart := fun x y dx dy a h1 h2 n1 n2 => by
    obtain ⟨v, m1, _, _⟩ := i.val x _ h1
    obtain ⟨w, m2, _, _⟩ := i.val y _ h2
    have e1 := NameIs.back k m1 n1
    have e2 := NameIs.back k m2 n2
    subst e1; subst e2
    exact i.apart x y dx dy a h1 h2 m1 m2
theorem Inv.keeps {c : Cx} {av own : List Addr} {l : Loc} {s s' : Shared} (i : Inv c av own l s) (k : Keeps s s') : Inv c av own l s' := i.kept (kp_kept k)
theorem Inv.notOwn {c : Cx} {av own : List Addr} {l : Loc} {s : Shared} (i : Inv c av own l s) : s.heap.objs.size ∉ own ++ av := fun q => by
  have live : ∃ o, s.heap.get? s.heap.objs.size = some o := by
    rcases List.mem_append.mp q with q | q
    · exact Option.isSome_iff_exists.mp (i.mine _ q).2
    · exact Option.isSome_iff_exists.mp (i.keep _ q).1
  obtain ⟨o, ho⟩ := live
  exact absurd (Heap.lt_size ho) (Nat.lt_irrefl _)
end Mine
end
section
open PySem PySem.W PySem.Spec PySem.Calls PyProof.Rows
set_option Elab.async false
set_option linter.unusedVariables false
namespace Mine
section
variable {c : Cx} {l : Loc}
theorem ev_name {x : Str} {pos : Pos} {d : D} (h : get l x = some d) (hd : (x == ("__debug__" : Str)) = false := by decide) : EV c l (.Name x pos) d := by
  intro av own s i Q E hQ
  obtain ⟨v, n, r, _⟩ := i.val x d h
  refine wpAny_Name ?_ hd
  rcases n with ⟨q, m, hn, e⟩ | ⟨q, a, ha, hc⟩
  · exact wpAny_loadName_local i.ok.kind q hn e (hQ v s kp_rfl r)
  · rcases q with q | q
    · exact wpAny_loadName_cell i.ok.kind q ha hc (hQ v s kp_rfl r)
    · exact wpAny_loadName_free i.ok.kind q.1 ha hc (hQ v s kp_rfl r) q.2
theorem notK {av own : List Addr} {s : Shared} (i : Inv c av own l s) : ∀ a ∈ own ++ av, c.K.lookup a = none := fun a ha => by
  rcases List.mem_append.mp ha with q | q
  · cases e : c.K.lookup a with
    | none => rfl
    | some o => have := i.ok.inK a o e; rw [(i.mine a q).1] at this; cases this
  · exact (i.keep a q).2.1
theorem Inv.keepK {av own : List Addr} {s : Shared} (i : Inv c av own l s) : c.K.In s.heap := let ⟨_, F⟩ := i.fr; i.ok.inK.keeps F.keep
theorem ev_glob {x : Str} {pos : Pos} {v : Value} {d : D} (hx : c.env.kindOf x = some .globalImplicit) (e : nsIn c.K mainGlobals x = some (some v))
    (hr : ∀ mu h, c.K.In h → (∀ a ∈ mu, c.K.lookup a = none) → Rel mu h d v) (hd : (x == ("__debug__" : Str)) = false := by decide) : EV c l (.Name x pos) d := by
  intro av own s i Q E hQ
  obtain ⟨m, F⟩ := i.fr
  refine Name_function_global i.ok.kind hx (loadGlobal_global (mg := c.mg) ?_ (mg_of i.ok.inK i.ok.top.g e) (hQ v s kp_rfl (hr _ _ i.keepK (notK i)))) hd
  rw [i.ok.glob]; exact i.ok.top.g.keeps F.keep
theorem ev_globV {x : Str} {pos : Pos} {v : Value} (hx : c.env.kindOf x = some .globalImplicit) (e : nsIn c.K mainGlobals x = some (some v)) (hd : (x == ("__debug__" : Str)) = false := by decide) : EV c l (.Name x pos) (.val v) :=
  ev_glob hx e (fun _ _ _ _ => by simp only [Rel]) hd
theorem ev_blt {x : Str} {pos : Pos} {v : Value} (hx : c.env.kindOf x = some .globalImplicit) (e : nsIn c.K mainGlobals x = some none) (hv : bootBuiltins x = some v) (hn : x ≠ "__name__")
    (hd : (x == ("__debug__" : Str)) = false := by decide) : EV c l (.Name x pos) (.val v) := by
  intro av own s i Q E hQ
  obtain ⟨m, F⟩ := i.fr
  refine Name_function_global i.ok.kind hx (loadGlobal_builtin (mg := c.mg) (mb := c.mb) ?_ (mg_none_of i.ok.inK i.ok.top.g e) ?_ ((i.ok.top.builtins x hn).trans hv) (hQ v s kp_rfl (by simp only [Rel]))) hd
  · rw [i.ok.glob]; exact i.ok.top.g.keeps F.keep
  · rw [i.ok.blt]; exact i.ok.top.b.keeps F.keep
theorem ev_int {i : Int} {k : Nat} {pos : Pos} : EV c l (.Constant (.int i) k pos) (.int i) := fun _ _ _ _ _ _ hQ => wpAny_Constant_int (hQ _ _ (kp_tok _) ⟨_, rfl⟩)
theorem ev_str {x : Str} {k : Nat} {pos : Pos} : EV c l (.Constant (.str x) k pos) (.str x) := fun _ _ _ _ _ _ hQ => wpAny_Constant_str (hQ _ _ (kp_tok _) ⟨_, rfl⟩)
theorem ev_none {k : Nat} {pos : Pos} : EV c l (.Constant .none k pos) .none := fun _ _ _ _ _ _ hQ => wpAny_Constant_none (hQ _ _ kp_rfl rfl)
theorem ev_bool {b : Bool} {k : Nat} {pos : Pos} : EV c l (.Constant (.bool b) k pos) (.bool b) := fun _ _ _ _ _ _ hQ => wpAny_Constant_bool (hQ _ _ kp_rfl rfl)
theorem ev_bytes {x : List UInt8} {k : Nat} {pos : Pos} : EV c l (.Constant (.bytes x) k pos) (.bytes x.toArray) := fun _ _ _ _ _ _ hQ => Constant_bytes (hQ _ _ (kp_tok _) ⟨_, rfl⟩)
noncomputable def BIN (c : Cx) (op : Operator) (d₁ d₂ d : D) : Prop :=
  ∀ mu s v₁ v₂ (Q E : Value → Shared → Prop), s.heap.objs.size ∉ mu → Rel mu s.heap d₁ v₁ → Rel mu s.heap d₂ v₂ → (∀ v s', Keeps s s' → Rel mu s'.heap d v → Q v s') → wpAny c.M c.A (binaryOp op v₁ v₂) Q E s
noncomputable def IBIN (c : Cx) (op : Operator) (d₁ d₂ d : D) : Prop :=
  ∀ mu s v₁ v₂ (Q E : Value → Shared → Prop), s.heap.objs.size ∉ mu → Rel mu s.heap d₁ v₁ → Rel mu s.heap d₂ v₂ → (∀ v s', Keeps s s' → Rel mu s'.heap d v → Q v s') → wpAny c.M c.A (inplaceOp op v₁ v₂) Q E s
theorem ev_bin {a b : Expr} {op : Operator} {pos : Pos} {d₁ d₂ d : D} (h₁ : EV c l a d₁) (h₂ : EV c l b d₂) (h : BIN c op d₁ d₂ d) : EV c l (.BinOp a op b pos) d := by
  intro av own s i Q E hQ
  refine wpAny_BinOp (h₁ av own s i _ _ fun v₁ s₁ k₁ r₁ => h₂ av own s₁ (i.keeps k₁) _ _ fun v₂ s₂ k₂ r₂ => ?_)
  exact h _ s₂ v₁ v₂ _ _ ((i.keeps k₁).keeps k₂).notOwn (r₁.kept (kp_kept k₂)) r₂ fun v s' k r => hQ v s' (kp_trans k₁ (kp_trans k₂ k)) r
theorem bin_int {op : Operator} {a b r : Int} (h : ∀ (s : Shared) (t u : Tok) (Q E : Value → Shared → Prop), (∀ t' tk, Q (.int r t') { s with toks := tk }) → wpAny c.M c.A (binaryOp op (.int a t) (.int b u)) Q E s) : BIN c op (.int a) (.int b) (.int r) := by
  intro mu s v₁ v₂ Q E _ r₁ r₂ hQ
  simp only [Rel] at r₁ r₂
  obtain ⟨t, rfl⟩ := r₁
  obtain ⟨u, rfl⟩ := r₂
  exact h s t u Q E fun t' tk => hQ _ _ (kp_tok _) (by simp only [Rel]; exact ⟨_, rfl⟩)
theorem ibin_int {op : Operator} {a b r : Int} (h : ∀ (s : Shared) (t u : Tok) (Q E : Value → Shared → Prop), (∀ t' tk, Q (.int r t') { s with toks := tk }) → wpAny c.M c.A (inplaceOp op (.int a t) (.int b u)) Q E s) : IBIN c op (.int a) (.int b) (.int r) := by
  intro mu s v₁ v₂ Q E _ r₁ r₂ hQ
  simp only [Rel] at r₁ r₂
  obtain ⟨t, rfl⟩ := r₁
  obtain ⟨u, rfl⟩ := r₂
  exact h s t u Q E fun t' tk => hQ _ _ (kp_tok _) (by simp only [Rel]; exact ⟨_, rfl⟩)
theorem b_add {a b : Int} : BIN c .Add (.int a) (.int b) (.int (a + b)) := bin_int fun _ _ _ _ _ h => PyProof.Rows.add_int (h _ _)
theorem b_sub {a b : Int} : BIN c .Sub (.int a) (.int b) (.int (a - b)) := bin_int fun _ _ _ _ _ h => PyProof.Rows.sub_int (h _ _)
theorem b_mul {a b : Int} (h1 : -(2 ^ 64) < a) (h2 : a < 2 ^ 64) : BIN c .Mult (.int a) (.int b) (.int (a * b)) := bin_int fun _ _ _ _ _ h => PyProof.Rows.mul_int (h _ _) (IntMulOk.of_left (intBits_le_64 h1 h2))
theorem b_div {a b : Int} (hb : 0 < b) (hl : b < 1000000000000000000000000000000) : BIN c .FloorDiv (.int a) (.int b) (.int (a / b)) := bin_int fun s t u Q E h => by
  have e : a.fdiv b = a / b := Int.fdiv_eq_ediv_of_nonneg _ (Int.le_of_lt hb)
  refine PyProof.Rows.floordiv_int (by omega) (e ▸ h _ _) (.inl (PyProof.noPylong_of_log2 ?_))
  have h2 : b.natAbs ≠ 0 := by omega
  refine (Nat.log2_lt h2).mpr (Nat.lt_of_lt_of_le (?_ : b.natAbs < 1000000000000000000000000000000) (by decide +kernel))
  omega
theorem b_mod {a b : Int} (hb : 0 < b) : BIN c .Mod (.int a) (.int b) (.int (a % b)) := bin_int fun s t u Q E h => by
  have e : a.fmod b = a % b := Int.fmod_eq_emod_of_nonneg _ (Int.le_of_lt hb)
  exact PyProof.Rows.mod_int' (by omega) (e ▸ h _ _)
theorem b_pow {a n v : Int} (h1 : 0 ≤ n) (h2 : n ≤ 64) (h3 : a = 2 ∨ a = 8 ∨ a = 10) (hv : a ^ n.toNat = v) : BIN c .Pow (.int a) (.int n) (.int v) := bin_int fun s t u Q E h => by
  refine PyProof.Rows.pow_int h1 ?_ (hv ▸ h _ _)
  have : (Builtin.Int.intBits a : Int) ≤ 4 := by rcases h3 with rfl | rfl | rfl <;> decide
  have := Int.mul_le_mul this h2 h1 (by omega)
  omega
theorem b_and {a b : Int} : BIN c .BitAnd (.int a) (.int b) (.int (Builtin.bitAnd a b)) := bin_int fun _ _ _ _ _ h => PyProof.Rows.and_int (h _ _)
theorem b_or {a b : Int} : BIN c .BitOr (.int a) (.int b) (.int (Builtin.bitOr a b)) := bin_int fun _ _ _ _ _ h => PyProof.Rows.or_int (h _ _)
theorem b_shl {a n : Int} (h1 : 0 ≤ n) (h2 : n ≤ 64) (h3 : -(2 ^ 64) < a) (h4 : a < 2 ^ 64) : BIN c .LShift (.int a) (.int n) (.int (a * 2 ^ n.toNat)) := bin_int fun s t u Q E h => by
  refine PyProof.Rows.lshift_int h1 ?_ (h _ _)
  have := intBits_le_64 h3 h4
  omega
theorem b_shr {a n : Int} (h1 : 0 ≤ n) : BIN c .RShift (.int a) (.int n) (.int (a / 2 ^ n.toNat)) := bin_int fun s t u Q E h => by
  have e : a.fdiv (2 ^ n.toNat) = a / 2 ^ n.toNat := Int.fdiv_eq_ediv_of_nonneg _ (Int.le_of_lt (Int.pow_pos (by omega)))
  exact PyProof.Rows.rshift_int h1 (e ▸ h _ _)
theorem ib_add {a b : Int} : IBIN c .Add (.int a) (.int b) (.int (a + b)) := ibin_int fun _ _ _ _ _ h => PyProof.Rows.iadd_int (h _ _)
theorem ib_sub {a b : Int} : IBIN c .Sub (.int a) (.int b) (.int (a - b)) := ibin_int fun _ _ _ _ _ h => PyProof.Rows.isub_int (h _ _)
theorem ib_div {a b : Int} (hb : 0 < b) (hl : b < 10 ^ 9) : IBIN c .FloorDiv (.int a) (.int b) (.int (a / b)) := ibin_int fun s t u Q E h => by
  have e : a.fdiv b = a / b := Int.fdiv_eq_ediv_of_nonneg _ (Int.le_of_lt hb)
  exact PyProof.Rows.ifloordiv_int (by omega) (e ▸ h _ _) (.inl (PyProof.noPylong_small (by omega)))
theorem b_cat {x y : Str} (h : x.length + y.length ≤ sizeLine) : BIN c .Add (.str x) (.str y) (.str (x ++ y)) := by
  intro mu s v₁ v₂ Q E _ r₁ r₂ hQ
  simp only [Rel] at r₁ r₂
  obtain ⟨t, rfl⟩ := r₁
  obtain ⟨u, rfl⟩ := r₂
  exact PyProof.Rows.add_str (fun t' tk => hQ _ _ (kp_tok _) (by simp only [Rel]; exact ⟨_, rfl⟩)) h
theorem ib_cat {x y : Str} (h : x.length + y.length ≤ sizeLine) : IBIN c .Add (.str x) (.str y) (.str (x ++ y)) := by
  intro mu s v₁ v₂ Q E _ r₁ r₂ hQ
  simp only [Rel] at r₁ r₂
  obtain ⟨t, rfl⟩ := r₁
  obtain ⟨u, rfl⟩ := r₂
  exact PyProof.Rows.iadd_str (fun t' tk => hQ _ _ (kp_tok _) (by simp only [Rel]; exact ⟨_, rfl⟩)) h
noncomputable def CMP (c : Cx) (op : CmpOp) (d₁ d₂ : D) (b : Bool) : Prop :=
  c.Ok → ∀ mu s v₁ v₂ (Q E : Value → Shared → Prop), Rel mu s.heap d₁ v₁ → Rel mu s.heap d₂ v₂ → (∀ s', Keeps s s' → Q (.bool b) s') → wpAny c.M c.A (compareOp op v₁ v₂) Q E s
noncomputable def TRUTH (c : Cx) (d : D) (b : Bool) : Prop :=
  ∀ mu s v (Q : Bool → Shared → Prop) (E : Value → Shared → Prop), Rel mu s.heap d v → (∀ s', Keeps s s' → Q b s') → wpAny c.M c.A (truthy v) Q E s
noncomputable def TR (c : Cx) (l : Loc) (e : Expr) (b : Bool) : Prop :=
  ∀ av own s, Inv c av own l s → ∀ (Q : Bool → Shared → Prop) (E : Value → Shared → Prop), (∀ s', Keeps s s' → Q b s') → wpAny c.M c.A (isTrue e c.env (eval e c.env)) Q E s
theorem ev_cmp {a b : Expr} {op : CmpOp} {pos : Pos} {d₁ d₂ : D} {r : Bool} (h₁ : EV c l a d₁) (h₂ : EV c l b d₂) (h : CMP c op d₁ d₂ r) (hm : behindInMarks op b = false := by with_unfolding_all rfl) : EV c l (.Compare a [op] [b] pos) (.bool r) := by
  intro av own s i Q E hQ
  refine wpAny_Compare1 (h₁ av own s i _ _ fun v₁ s₁ k₁ r₁ => h₂ av own s₁ (i.keeps k₁) _ _ fun v₂ s₂ k₂ r₂ => ?_) hm
  exact h i.ok _ s₂ v₁ v₂ _ _ (r₁.kept (kp_kept k₂)) r₂ fun s' k => hQ _ s' (kp_trans k₁ (kp_trans k₂ k)) (by simp only [Rel])
theorem tr_cmp {a b : Expr} {op : CmpOp} {pos : Pos} {d₁ d₂ : D} {r : Bool} (h₁ : EV c l a d₁) (h₂ : EV c l b d₂) (h : CMP c op d₁ d₂ r) (hm : behindInMarks op b = false := by with_unfolding_all rfl) : TR c l (.Compare a [op] [b] pos) r := by
  intro av own s i Q E hQ
  refine wpAny_isTrue_Compare1 (h₁ av own s i _ _ fun v₁ s₁ k₁ r₁ => h₂ av own s₁ (i.keeps k₁) _ _ fun v₂ s₂ k₂ r₂ => ?_) hm
  exact h i.ok _ s₂ v₁ v₂ _ _ (r₁.kept (kp_kept k₂)) r₂ fun s' k => wpAny_truthy_bool (hQ s' (kp_trans k₁ (kp_trans k₂ k)))
theorem tr_not {a : Expr} {pos : Pos} {b : Bool} (h : TR c l a b) : TR c l (.UnaryOp .Not a pos) (!b) := fun av own s i Q E hQ => wpAny_isTrue_Not (h av own s i _ _ fun s' k => hQ s' k)
theorem tr_val {e : Expr} {d : D} {b : Bool} (h₁ : EV c l e d) (h₂ : TRUTH c d b)
    (he : ∀ env, isTrue e env (eval e env) = (do let v ← eval e env; standAt e.pos; holding [v] (truthy v)) := by intro _; rfl) : TR c l e b := fun av own s i Q E hQ =>
  wpAny_isTrue_value (h₁ av own s i _ _ fun v s₁ k₁ r₁ => h₂ _ s₁ v _ _ r₁ fun s' k => hQ s' (kp_trans k₁ k)) (he _)
theorem tr_and2 {x y : Expr} {pos : Pos} {b₁ b₂ : Bool} (h₁ : TR c l x b₁) (h₂ : b₁ = true → TR c l y b₂) : TR c l (.BoolOp .And [x, y] pos) (b₁ && b₂) := by
  intro av own s i Q E hQ
  refine wpAny_isTrue_BoolOp (wpAny_allTrue_And_cons (h₁ av own s i _ _ fun s₁ k₁ => ?_))
  cases b₁ with
  | false => exact hQ s₁ k₁
  | true =>
    refine wpAny_allTrue_And_cons (h₂ rfl av own s₁ (i.keeps k₁) _ _ fun s₂ k₂ => ?_)
    cases b₂ with
    | false => exact hQ s₂ (kp_trans k₁ k₂)
    | true => exact wpAny_allTrue_And_nil (hQ s₂ (kp_trans k₁ k₂))
theorem ev_if {t a b : Expr} {pos : Pos} {p : Bool} {d₁ d₂ : D} (ht : TR c l t p) (h₁ : p = true → EV c l a d₁) (h₂ : p = false → EV c l b d₂) : EV c l (.IfExp t a b pos) (if p then d₁ else d₂) := by
  intro av own s i Q E hQ
  refine wpAny_IfExp (ht av own s i _ _ fun s₁ k₁ => ?_)
  cases p with
  | true => exact h₁ rfl av own s₁ (i.keeps k₁) _ _ fun v s' k r => hQ v s' (kp_trans k₁ k) r
  | false => exact h₂ rfl av own s₁ (i.keeps k₁) _ _ fun v s' k r => hQ v s' (kp_trans k₁ k) r
theorem ev_and {x y : Expr} {pos : Pos} {b₁ b₂ : Bool} (h₁ : EV c l x (.bool b₁)) (h₂ : b₁ = true → EV c l y (.bool b₂)) : EV c l (.BoolOp .And [x, y] pos) (.bool (b₁ && b₂)) := by
  intro av own s i Q E hQ
  refine wpAny_And2 (h₁ av own s i _ _ fun v s₁ k₁ r₁ => ?_)
  simp only [Rel] at r₁
  subst r₁
  refine wpAny_truthy_bool ?_
  cases b₁ with
  | false => exact hQ _ s₁ k₁ (by simp only [Rel, Bool.false_and])
  | true => exact h₂ rfl av own s₁ (i.keeps k₁) _ _ fun v s' k r => hQ v s' (kp_trans k₁ k) (by simpa only [Bool.true_and] using r)
theorem cmp_int {op : CmpOp} {a b : Int} {r : Bool} (h : ∀ (s : Shared) (t u : Tok) (Q E : Value → Shared → Prop), Q (.bool r) s → wpAny c.M c.A (compareOp op (.int a t) (.int b u)) Q E s) : CMP c op (.int a) (.int b) r := by
  intro _ mu s v₁ v₂ Q E r₁ r₂ hQ
  simp only [Rel] at r₁ r₂
  obtain ⟨t, rfl⟩ := r₁
  obtain ⟨u, rfl⟩ := r₂
  exact h s t u Q E (hQ s kp_rfl)
theorem c_eq {a b : Int} : CMP c .Eq (.int a) (.int b) (a == b) := cmp_int fun _ _ _ _ _ h => PyProof.Rows.eq_int h
theorem c_ne {a b : Int} : CMP c .NotEq (.int a) (.int b) (a != b) := cmp_int fun _ _ _ _ _ h => PyProof.Rows.ne_int h
theorem c_lt {a b : Int} : CMP c .Lt (.int a) (.int b) (decide (a < b)) := cmp_int fun _ _ _ _ _ h => PyProof.Rows.lt_int h
theorem c_le {a b : Int} : CMP c .LtE (.int a) (.int b) (decide (a ≤ b)) := cmp_int fun _ _ _ _ _ h => PyProof.Rows.le_int h
theorem c_gt {a b : Int} : CMP c .Gt (.int a) (.int b) (decide (b < a)) := cmp_int fun _ _ _ _ _ h => PyProof.Rows.gt_int h
theorem c_ge {a b : Int} : CMP c .GtE (.int a) (.int b) (decide (b ≤ a)) := cmp_int fun _ _ _ _ _ h => PyProof.Rows.ge_int h
theorem cmp_str {op : CmpOp} {a b : Str} {r : Bool} (h : ∀ (s : Shared) (t u : Tok) (Q E : Value → Shared → Prop), Q (.bool r) s → wpAny c.M c.A (compareOp op (.str a t) (.str b u)) Q E s) : CMP c op (.str a) (.str b) r := by
  intro _ mu s v₁ v₂ Q E r₁ r₂ hQ
  simp only [Rel] at r₁ r₂
  obtain ⟨t, rfl⟩ := r₁
  obtain ⟨u, rfl⟩ := r₂
  exact h s t u Q E (hQ s kp_rfl)
theorem c_seq {a b : Str} : CMP c .Eq (.str a) (.str b) (a == b) := cmp_str fun _ _ _ _ _ h => PyProof.Rows.eq_str h
theorem c_sne {a b : Str} : CMP c .NotEq (.str a) (.str b) (a != b) := cmp_str fun _ _ _ _ _ h => PyProof.Rows.ne_str h
theorem c_isNone {d : D} {b : Bool} (hb : ∀ mu h v, Rel mu h d v → (v == Value.none) = b) : CMP c .Is d .none b := by
  intro _ mu s v₁ v₂ Q E r₁ r₂ hQ
  have := hb _ _ _ r₁
  simp only [Rel] at r₂
  subst r₂
  exact is_none (this ▸ hQ s kp_rfl)
theorem c_isNotNone {d : D} {b : Bool} (hb : ∀ mu h v, Rel mu h d v → (v == Value.none) = b) : CMP c .IsNot d .none (!b) := by
  intro _ mu s v₁ v₂ Q E r₁ r₂ hQ
  have := hb _ _ _ r₁
  simp only [Rel] at r₂
  subst r₂
  exact isNot_none (this ▸ hQ s kp_rfl)
theorem t_bool {b : Bool} : TRUTH c (.bool b) b := by
  intro mu s v Q E r hQ
  simp only [Rel] at r; subst r
  exact wpAny_truthy_bool (hQ s kp_rfl)
theorem t_int {a : Int} : TRUTH c (.int a) (a != 0) := by
  intro mu s v Q E r hQ
  simp only [Rel] at r; obtain ⟨t, rfl⟩ := r
  exact PyProof.Rows.truthy_int (hQ s kp_rfl)
end
end Mine
end
section
open PySem PySem.W PySem.Spec PySem.Calls PyProof.Rows
set_option Elab.async false
set_option linter.unusedVariables false
namespace Mine
inductive Fl where
  | next
  | brk
  | cont
  | ret (d : D)
noncomputable def RelF (mu : List Addr) (h : Heap) : Fl → Flow → Prop
  | .next, f => f = .next
  | .brk, f => f = .brk
  | .cont, f => f = .cont
  | .ret d, f => ∃ v, f = .ret v ∧ Rel mu h d v ∧ Froz d
structure Step (own : List Addr) (s : Shared) (own' : List Addr) (s' : Shared) : Prop where
  same : ∃ h' tk, s' = { s with heap := h', toks := tk }
  kept : KeptBut own s.heap s'.heap
  new : ∀ a ∈ own', a ∈ own ∨ s.heap.get? a = none
theorem Step.of {own : List Addr} {s s' : Shared} (k : Keeps s s') : Step own s own s' := by
  obtain ⟨h', tk, rfl, q⟩ := k
  exact ⟨⟨h', tk, rfl⟩, fun b o _ e => q b o e, fun a h => .inl h⟩
theorem Step.trans {own own' own'' : List Addr} {s s' s'' : Shared} (a : Step own s own' s') (b : Step own' s' own'' s'') : Step own s own'' s'' := by
  obtain ⟨h', tk, rfl⟩ := a.same
  obtain ⟨h'', tk', rfl⟩ := b.same
  refine ⟨⟨h'', tk', rfl⟩, fun x o hx e => b.kept x o (fun q => ?_) (a.kept x o hx e), fun x hx => ?_⟩
  · rcases a.new x q with q | q
    · exact hx q
    · rw [q] at e; cases e
  · rcases b.new x hx with q | q
    · exact a.new x q
    · by_cases hm : x ∈ own
      · exact .inl hm
      · refine .inr ?_
        cases e : s.heap.get? x with
        | none => rfl
        | some o => have := a.kept x o hm e; rw [q] at this; cases this
noncomputable def ST (c : Cx) (l : Loc) (t : Sem Flow) (Q : Fl → Loc → Prop) : Prop :=
  ∀ av own s, Inv c av own l s → ∀ (R : Flow → Shared → Prop) (E : Value → Shared → Prop),
    (∀ fl f l' own' s', Q fl l' → RelF (own' ++ av) s'.heap fl f → Step own s own' s' → Inv c av own' l' s' → R f s') → wpAny c.M c.A t R E s
section
variable {c : Cx} {l : Loc} {Q : Fl → Loc → Prop}
theorem st_mono {t : Sem Flow} {Q' : Fl → Loc → Prop} (h : ST c l t Q') (k : ∀ fl l', Q' fl l' → Q fl l') : ST c l t Q := fun av own s i R E hR =>
  h av own s i R E fun fl f l' own' s' q => hR fl f l' own' s' (k fl l' q)
theorem st_nil (h : Q .next l) : ST c l (execs [] c.env) Q := fun av own s i R E hR => wpAny_execs_nil (hR .next .next l own s h (by simp only [RelF]) (Step.of kp_rfl) i)
theorem st_ret {e : Expr} {pos : Pos} {d : D} (h : EV c l e d) (f : Froz d) (q : Q (.ret d) l) : ST c l (exec (.Return (some e) pos) c.env) Q := fun av own s i R E hR =>
  wpAny_Return_some (h av own s i _ _ fun v s' k r => hR (.ret d) _ l own s' q (by simp only [RelF]; exact ⟨v, rfl, r, f⟩) (Step.of k) (i.keeps k))
theorem st_break {pos : Pos} (q : Q .brk l) : ST c l (exec (.Break pos) c.env) Q := fun av own s i R E hR => wpAny_Break (hR .brk _ l own s q (by simp only [RelF]) (Step.of kp_rfl) i)
theorem st_cont {pos : Pos} (q : Q .cont l) : ST c l (exec (.Continue pos) c.env) Q := fun av own s i R E hR => wpAny_Continue (hR .cont _ l own s q (by simp only [RelF]) (Step.of kp_rfl) i)
theorem st_assert {t : Expr} {msg : Option Expr} {pos : Pos} (h : TR c l t true) (q : Q .next l) : ST c l (exec (.Assert t msg pos) c.env) Q := fun av own s i R E hR =>
  wpAny_Assert_holds (h av own s i _ _ fun s' k => ⟨rfl, hR .next _ l own s' q (by simp only [RelF]) (Step.of k) (i.keeps k)⟩)
theorem ns_ne_list {h : Heap} {a b : Addr} {m : Str → Option Value} {vs : Array Value} (n : h.Ns a m) (p : h.PlainList b vs) : b ≠ a := fun e => by
  subst e
  obtain ⟨o, es, ep, ho, hd, _⟩ := n
  obtain ⟨k, hk⟩ := p
  rw [hk] at ho; cases ho; cases hd
theorem ns_ne_cell {h : Heap} {a b : Addr} {m : Str → Option Value} {v : Option Value} (n : h.Ns a m) (p : h.IsCell b v) : b ≠ a := fun e => by
  subst e
  obtain ⟨o, es, ep, ho, hd, _⟩ := n
  obtain ⟨o', ho', hd'⟩ := p
  rw [ho'] at ho; cases ho; rw [hd'] at hd; cases hd
theorem list_ne_cell {h : Heap} {a b : Addr} {vs : Array Value} {v : Option Value} (n : h.PlainList a vs) (p : h.IsCell b v) : b ≠ a := fun e => by
  subst e
  obtain ⟨k, hk⟩ := n
  obtain ⟨o', ho', hd'⟩ := p
  rw [ho'] at hk; cases hk; cases hd'
theorem sameBut_alive {h h' : Heap} {b : Addr} (hs : Heap.SameBut b h h') (hb : (h'.get? b).isSome = true) : ∀ a, (h.get? a).isSome = true → (h'.get? a).isSome = true := fun a ha => by
  by_cases e : a = b
  · subst e; exact hb
  · rw [hs.2 a e]; exact ha
theorem sameBut_but {h h' : Heap} {b : Addr} {own : List Addr} (hs : Heap.SameBut b h h') (hb : b ∈ own) : KeptBut own h h' := fun x o hx e => (hs.2 x (fun q => hx (q ▸ hb))).trans e
theorem rel_same {mu : List Addr} {h h' : Heap} {b : Addr} (hs : Heap.SameBut b h h') (hb : b ∈ mu) {d : D} {v : Value} (r : Rel mu h d v)
    (q : match d with | .mls its => FrozL its ∧ v ≠ .ref b | d => Froz d) : Rel mu h' d v := by
  cases d with
  | mls its =>
    simp only [Rel] at r ⊢
    obtain ⟨a, vs, rfl, hp, hr⟩ := r
    have ha : a ≠ b := fun e => q.2 (by rw [e])
    exact ⟨a, vs, rfl, hp.at fun o e => (hs.2 a ha).trans e, RelL.but (sameBut_but hs hb) q.1 hr⟩
  | _ => exact Rel.but (sameBut_but hs hb) q r
theorem Inv.setLocal {av own : List Addr} {s : Shared} {x : Str} {d : D} {v : Value} {h' : Heap} {tk : Nat} {m : Str → Option Value} (i : Inv c av own l s) (hL : c.env.locals = c.L) (hx : c.env.kindOf x = some .local)
    (r : Rel (own ++ av) s.heap d v) (f : match d with | .mls its => FrozL its ∧ (∃ a, v = .ref a ∧ a ∈ own) ∧ ∀ y dy, get l y = some (.mls dy) → y ≠ x → ¬ NameIs c.env s.heap y v | d => Froz d)
    (hm : s.heap.Ns c.env.locals m) (hn : h'.Ns c.env.locals fun y => if y = x then some v else m y) (hs : Heap.SameBut c.env.locals s.heap h') : Inv c av own (put l x d) { s with heap := h', toks := tk } := by
  obtain ⟨hl1, m₀, hl2⟩ := i.loc
  have alive : (h'.get? c.env.locals).isSome = true := by obtain ⟨o, _, _, ho, _⟩ := hn; rw [ho]; rfl
  have nameOld : ∀ y w, y ≠ x → NameIs c.env s.heap y w → NameIs c.env h' y w := fun y w hy n => by
    rcases n with ⟨q, m₁, hn₁, e⟩ | ⟨q, a, ha, hc⟩
    · refine .inl ⟨q, _, hn, ?_⟩
      rw [if_neg hy, hm.agree hn₁ y]; exact e
    · exact .inr ⟨q, a, ha, hc.sameBut hs (ns_ne_cell hl2 hc)⟩
  have nameBack : ∀ y w, y ≠ x → NameIs c.env h' y w → NameIs c.env s.heap y w := fun y w hy n => by
    rcases n with ⟨q, m₁, hn₁, e⟩ | ⟨q, a, ha, hc⟩
    · refine .inl ⟨q, m, hm, ?_⟩
      have := hn.agree hn₁ y
      rw [if_neg hy] at this
      rw [this]; exact e
    · obtain ⟨o, ho, hd⟩ := hc
      have : a ≠ c.env.locals := fun e => by
        subst e
        obtain ⟨o', _, _, ho', hd', _⟩ := hn
        rw [ho] at ho'; cases ho'; rw [hd] at hd'; cases hd'
      exact .inr ⟨q, a, ha, o, (hs.2 a this).symm.trans ho, hd⟩
  refine ⟨i.ok, fun a ha => ⟨sameBut_alive hs alive a (i.keep a ha).1, (i.keep a ha).2⟩, ?_, fun a ha => ⟨(i.mine a ha).1, sameBut_alive hs alive a (i.mine a ha).2⟩, ⟨hl1, _, hn⟩, fun y a h1 h2 => ?_, i.inj, fun y a h => ⟨sameBut_alive hs alive a (i.cel y a h).1, (i.cel y a h).2⟩, i.off, fun y e he => ?_, fun y z dy dz a h1 h2 n1 n2 => ?_⟩
  · obtain ⟨mF, F⟩ := i.fr
    exact ⟨_, F.set (hL ▸ hn) (hL ▸ hs)⟩
  · obtain ⟨h3, w, h4⟩ := i.cell y a h1 h2
    exact ⟨h3, w, h4.sameBut hs (ns_ne_cell hl2 h4)⟩
  · rw [get_put] at he
    by_cases hy : y = x
    · subst hy
      rw [if_pos rfl] at he
      cases he
      refine ⟨v, .inl ⟨hx, _, hn, by rw [if_pos rfl]⟩, ?_, ?_⟩
      · refine rel_same hs (List.mem_append_left _ hl1) r ?_
        cases d with
        | mls its =>
          refine ⟨f.1, fun e => ?_⟩
          simp only [Rel] at r
          obtain ⟨a, vs, e', hp, _⟩ := r
          rw [e] at e'; cases e'
          exact ns_ne_list hl2 hp rfl
        | _ => exact f
      · cases d with
        | mls its => exact ⟨f.1, f.2.1⟩
        | _ => exact f
    · rw [if_neg hy] at he
      obtain ⟨w, n, rw', q⟩ := i.val y e he
      refine ⟨w, nameOld y w hy n, rel_same hs (List.mem_append_left _ hl1) rw' ?_, q⟩
      cases e with
      | mls its =>
        refine ⟨q.1, fun e => ?_⟩
        simp only [Rel] at rw'
        obtain ⟨a, vs, e', hp, _⟩ := rw'
        rw [e] at e'; cases e'
        exact ns_ne_list hl2 hp rfl
      | _ => exact q
  · rw [get_put] at h1 h2
    by_cases hy : y = x <;> by_cases hz : z = x
    · rw [hy, hz]
    · subst hy
      rw [if_pos rfl] at h1; cases h1
      rw [if_neg hz] at h2
      have : Value.ref a = v := n1.agree (.inl ⟨hx, _, hn, by rw [if_pos rfl]⟩)
      exact absurd (nameBack z _ hz n2) (this ▸ f.2.2 z dz h2 hz)
    · subst hz
      rw [if_pos rfl] at h2; cases h2
      rw [if_neg hy] at h1
      have : Value.ref a = v := n2.agree (.inl ⟨hx, _, hn, by rw [if_pos rfl]⟩)
      exact absurd (nameBack y _ hy n1) (this ▸ f.2.2 y dy h1 hy)
    · rw [if_neg hy] at h1
      rw [if_neg hz] at h2
      exact i.apart y z dy dz a h1 h2 (nameBack y _ hy n1) (nameBack z _ hz n2)
theorem storeL {av own : List Addr} {s : Shared} {x : Str} {d : D} {v : Value} {R : Unit → Shared → Prop} {E : Value → Shared → Prop} (i : Inv c av own l s) (hL : c.env.locals = c.L) (hx : c.env.kindOf x = some .local)
    (r : Rel (own ++ av) s.heap d v) (f : Froz d) (h : ∀ s', Step own s own s' → Inv c av own (put l x d) s' → R () s') : wpAny c.M c.A (storeName c.env x v) R E s := by
  obtain ⟨hl1, m, hm⟩ := i.loc
  refine wpAny_storeName_local hx hm (fun h' hn hs => h _ ⟨⟨h', _, rfl⟩, sameBut_but hs hl1, fun a q => .inl q⟩ (i.setLocal hL hx r ?_ hm hn hs)) ?_
  · cases d with
    | mls its => exact absurd f (by simp only [Froz, not_false_eq_true])
    | _ => exact f
  · rw [i.ok.kind]; rfl
theorem loadN {av own : List Addr} {s : Shared} {x : Str} {d : D} {R E : Value → Shared → Prop} (i : Inv c av own l s) (h : get l x = some d) (hR : ∀ v, Rel (own ++ av) s.heap d v → R v s) : wpAny c.M c.A (loadName c.env x) R E s := by
  obtain ⟨v, n, r, _⟩ := i.val x d h
  rcases n with ⟨q, m, hn, e⟩ | ⟨q, a, ha, hc⟩
  · exact wpAny_loadName_local i.ok.kind q hn e (hR v r)
  · rcases q with q | q
    · exact wpAny_loadName_cell i.ok.kind q ha hc (hR v r)
    · exact wpAny_loadName_free i.ok.kind q.1 ha hc (hR v r) q.2
end
end Mine
end
section
open PySem PySem.W PySem.Spec PySem.Calls PyProof.Rows
set_option Elab.async false
set_option linter.unusedVariables false
namespace Mine
section
variable {c : Cx} {l : Loc} {Q : Fl → Loc → Prop}
noncomputable def EVL (c : Cx) (l : Loc) (es : List Expr) (ds : List D) : Prop :=
  ∀ av own s, Inv c av own l s → ∀ (pos : Pos) (Q : List Value → Shared → Prop) (E : Value → Shared → Prop), (∀ vs s', Keeps s s' → RelL (own ++ av) s'.heap ds vs → Q vs s') → wpAny c.M c.A (spliced (backTo pos (starEach es c.env))) Q E s
theorem evl_nil : EVL c l [] [] := fun av own s i pos Q E hQ => spliced_none (hQ [] s kp_rfl (by simp only [RelL]))
theorem evl_cons {e : Expr} {es : List Expr} {d : D} {ds : List D} (h : EV c l e d) (h' : EVL c l es ds) (he : ∀ env, starEach (e :: es) env = (false, eval e env) :: starEach es env := by intro _; rfl) : EVL c l (e :: es) (d :: ds) := by
  intro av own s i pos Q E hQ
  refine spliced_more (h av own s i _ _ fun v s₁ k₁ r₁ => h' av own s₁ (i.keeps k₁) pos _ _ fun vs s₂ k₂ r₂ => ?_) (he _)
  exact hQ _ s₂ (kp_trans k₁ k₂) (by simp only [RelL]; exact ⟨v, vs, rfl, r₁.kept (kp_kept k₂), r₂⟩)
theorem ev_tuple {es : List Expr} {k : Nat} {pos : Pos} {ds : List D} (h : EVL c l es ds) (hs : ds.length ≤ 1000) : EV c l (.Tuple es k pos) (.tup ds) := by
  intro av own s i Q E hQ
  refine wpAny_Tuple (h av own s i _ _ _ fun vs s₁ k₁ r₁ => ?_)
  have i₁ := i.keeps k₁
  refine ⟨by rw [r₁.length]; exact Nat.le_trans hs (by decide), hQ _ _ (kp_trans k₁ (kp_push _)) ?_⟩
  simp only [Rel]
  exact ⟨_, vs, rfl, i₁.notOwn, ⟨_, Heap.get?_push_size _ rfl, rfl, _, rfl⟩, r₁.kept (kp_kept (kp_push _))⟩
theorem ev_list {es : List Expr} {pos : Pos} {ds : List D} (h : EVL c l es ds) (hs : ds.length ≤ 1000) : EV c l (.List es pos) (.lst ds) := by
  intro av own s i Q E hQ
  refine wpAny_List (h av own s i _ _ _ fun vs s₁ k₁ r₁ => ?_)
  have i₁ := i.keeps k₁
  refine ⟨by rw [r₁.length]; exact Nat.le_trans hs (by decide), hQ _ _ (kp_trans k₁ (kp_push _)) ?_⟩
  simp only [Rel]
  exact ⟨_, vs, rfl, i₁.notOwn, ⟨_, Heap.get?_push_size _ rfl, rfl, _, rfl⟩, r₁.kept (kp_kept (kp_push _))⟩
noncomputable def CALL (prog : Program) (w : World) (K : Frag) (lv : Nat) (f : Addr) (args : List D) (d : D) : Prop :=
  ∀ dp un gd outer base (s : Shared) p loose mean mg mb av vs (Q E : Value → Shared → Prop), dp + 1 + lv < recursionLimit → un + 3 + 20 * lv + 60 < cLine → Below (aTop dp un gd outer) base outer s.heap → K.In s.heap → Top p loose mean mg mb s.heap →
    (∀ a ∈ av, (s.heap.get? a).isSome = true ∧ K.lookup a = none) → RelL av s.heap args vs → (∀ v s', Keeps s s' → Rel av s'.heap d v → Q v s') → wpAny (model prog w) (aTop dp un gd outer) (call (.ref f) vs) Q E s
theorem Inv.call {av own : List Addr} {s : Shared} {lv : Nat} {f : Addr} {args : List D} {d : D} {vs : List Value} {Q E : Value → Shared → Prop} (i : Inv c av own l s) (C : CALL c.prog c.w c.K lv f args d) (hlv : lv + 1 ≤ c.lv)
    (r : RelL (own ++ av) s.heap args vs) (hQ : ∀ v s', Keeps s s' → Rel (own ++ av) s'.heap d v → Q v s') : wpAny c.M c.A (call (.ref f) vs) Q E s := by
  obtain ⟨m, F⟩ := i.fr
  have hD := i.ok.roomD
  have hU := i.ok.roomU
  refine C (c.dp + 1) (c.un + 3) c.gd (c.fenv :: c.outer) c.base s c.p c.loose c.mean c.mg c.mb (own ++ av) vs Q E (by omega) (by omega) (pushX i.ok.below F i.ok.frame i.ok.fkind) i.keepK (i.ok.top.keeps F.keep) (fun a ha => ⟨?_, notK i a ha⟩) r hQ
  rcases List.mem_append.mp ha with q | q
  · exact (i.mine a q).2
  · exact (i.keep a q).1
theorem ev_call {x : Str} {px pos : Pos} {e : Expr} {es : List Expr} {f : Addr} {lv : Nat} {args : List D} {d : D} {o : Obj} {fd : FuncData} (hf : EV c l (.Name x px) (.val (.ref f))) (ho : c.K.lookup f = some o) (hd : o.data = .func fd)
    (ha : EVL c l (e :: es) args) (C : CALL c.prog c.w c.K lv f args d) (hlv : lv + 1 ≤ c.lv) (he : ∀ env, starEach (e :: es) env = (false, eval e env) :: starEach es env := by intro _; rfl) : EV c l (.Call (.Name x px) (e :: es) [] pos) d := by
  intro av own s i Q E hQ
  refine Call_ (hf av own s i _ _ fun v s₁ k₁ r₁ => ?_)
  simp only [Rel] at r₁
  subst r₁
  have i₁ := i.keeps k₁
  refine callWith_function_kw (o := o) (fd := fd) ?_
  have hE : backTo pos (starEach (e :: es) c.env) = (false, eval e c.env) :: backTo pos (starEach es c.env) := by rw [he]; rfl
  rw [hE]
  refine evalArgs_plain ?_
  rw [← hE]
  refine ha av own s₁ i₁ pos _ _ fun vs s₂ k₂ r₂ => ⟨⟨(i₁.keeps k₂).keepK _ _ ho, hd⟩, ?_⟩
  exact (i₁.keeps k₂).call C hlv r₂ fun v s' k r => hQ v s' (kp_trans k₁ (kp_trans k₂ k)) r
theorem start {prog : Program} {w : World} {K : Frag} {p : Program} {loose : List Str} {mean : ExcName → Option Value} {mg mb : Str → Option Value} {dp un lv : Nat} {gd : Option (List Code)} {outer : List Env} {base : Heap} {s : Shared} {av : List Addr} {h₁ : Heap} {tk : Nat}
    {qual : Str} {scope : Scope} {f : Addr} {cdv : Value} {names : List Str} {args : List D} {vs : List Value}
    (hD : dp + 1 + lv < recursionLimit) (hU : un + 3 + 20 * lv + 60 < cLine) (B : Below (aTop dp un gd outer) base outer s.heap) (X : K.In s.heap) (T : Top p loose mean mg mb s.heap) (hav : ∀ a ∈ av, (s.heap.get? a).isSome = true ∧ K.lookup a = none)
    (r : RelL av s.heap args vs) (fz : FrozL args) (hk : scope.kind = .function) (hcell : ∀ x ∈ scope.names, x.2 ≠ .cell) (hloc : ∀ x ∈ names, scope.names.lookup x = some .local) (hlen : names.length = args.length) (hnd : names.Nodup)
    (hn : h₁.Ns s.heap.objs.size fun y => (names.zip vs).reverse.lookup y) (k : Kept s.heap h₁) :
    Inv ⟨prog, w, K, p, loose, mean, mg, mb, dp, un, lv, gd, outer, base, s.heap, s.heap.objs.size, envOf qual scope s.heap.objs.size f cdv, envOf qual scope s.heap.objs.size f cdv⟩ av [s.heap.objs.size] (names.zip args) { s with heap := h₁, toks := tk } := by
  have dead : s.heap.get? s.heap.objs.size = none := by
    cases e : s.heap.get? s.heap.objs.size with
    | none => rfl
    | some o => exact absurd (Heap.lt_size e) (Nat.lt_irrefl _)
  have notcell : ∀ x, (envOf qual scope s.heap.objs.size f cdv).kindOf x ≠ some .cell := fun x e => by
    have : (x, NameKind.cell) ∈ scope.names := by
      have e' : scope.names.lookup x = some .cell := e
      clear hcell hloc
      revert e'
      generalize scope.names = ns
      induction ns with
      | nil => intro e'; cases e'
      | cons q qs ih =>
        intro e'
        rw [List.lookup_cons] at e'
        by_cases hx : (x == q.1) = true
        · simp only [hx] at e'
          have e2 : q = (x, NameKind.cell) := by
            obtain ⟨n, kk⟩ := q
            have e3 : kk = NameKind.cell := Option.some.inj e'
            rw [e3, show x = n from eq_of_beq hx]
          rw [e2]; exact .head _
        · simp only [hx] at e'
          exact .tail _ (ih e')
    exact hcell _ this rfl
  have vals : ∀ (names : List Str) (args : List D) (vs : List Value), RelL av s.heap args vs → FrozL args → names.length = args.length → names.Nodup → ∀ x d, get (names.zip args) x = some d → x ∈ names ∧ ∃ v, (names.zip vs).reverse.lookup x = some v ∧ Rel av s.heap d v ∧ Froz d := by
    intro names
    induction names with
    | nil => intro args vs _ _ _ _ x d e; simp [get] at e
    | cons n ns ih =>
      intro args vs r fz hl hnd x d e
      cases args with
      | nil => simp at hl
      | cons a as =>
        simp only [RelL] at r
        obtain ⟨v, vs', rfl, r1, r2⟩ := r
        simp only [FrozL] at fz
        simp only [List.zip_cons_cons, get] at e
        by_cases hx : x = n
        · subst hx
          rw [if_pos rfl] at e
          cases e
          refine ⟨.head _, v, ?_, r1, fz.1⟩
          rw [List.zip_cons_cons, List.reverse_cons, List.lookup_append]
          have : (ns.zip vs').reverse.lookup x = none := by
            rw [List.lookup_eq_none_iff]
            intro q hq
            have h1 := List.of_mem_zip (List.mem_reverse.mp hq)
            have h2 : x ∉ ns := (List.nodup_cons.mp hnd).1
            simp only [bne_iff_ne, ne_eq]
            exact fun e => h2 (by rw [e]; exact h1.1)
          rw [this]
          simp
        · rw [if_neg hx] at e
          obtain ⟨h1, v', h2, h3, h4⟩ := ih as vs' r2 fz.2 (by simpa using hl) (List.nodup_cons.mp hnd).2 x d e
          refine ⟨.tail _ h1, v', ?_, h3, h4⟩
          rw [List.zip_cons_cons, List.reverse_cons, List.lookup_append, h2]
          rfl
  have live₁ : (h₁.get? s.heap.objs.size).isSome = true := by obtain ⟨o, _, _, ho, _⟩ := hn; rw [ho]; rfl
  refine ⟨⟨B, T, X, hk, hk, rfl, rfl, rfl, hD, hU⟩, fun a ha => ?_, ⟨_, ⟨hn, k, Nat.le_refl _⟩⟩, fun a ha => ?_, ⟨.head _, _, hn⟩, fun x a h1 _ => absurd h1 (notcell x), fun x y a h1 _ => (by cases h1), fun x a h1 => (by cases h1), fun q => ?_, fun x d e => ?_, fun x y dx dy a h1 _ _ _ => ?_⟩
  · obtain ⟨o, ho⟩ := Option.isSome_iff_exists.mp (hav a ha).1
    refine ⟨by rw [k a o ho]; rfl, (hav a ha).2, fun q => ?_⟩
    rw [List.mem_singleton.mp q, dead] at ho; cases ho
  · rw [List.mem_singleton.mp ha]
    exact ⟨dead, live₁⟩
  · have := (hav _ q).1
    rw [dead] at this; cases this
  · obtain ⟨h1, v, h2, h3, h4⟩ := vals names args vs r fz hlen hnd x d e
    refine ⟨v, .inl ⟨hloc x h1, _, hn, h2⟩, ?_, ?_⟩
    · have := Rel.kept k (Rel.sub (mu' := [s.heap.objs.size] ++ av) (fun a ha => ?_) h3)
      · exact this
      · rcases List.mem_append.mp ha with q | q
        · rw [List.mem_singleton.mp q]; exact .inr dead
        · exact .inl q
    · cases d <;> first | exact h4 | (simp only [Froz] at h4)
  · obtain ⟨_, v, _, _, h4⟩ := vals names args vs r fz hlen hnd x _ h1
    simp only [Froz] at h4
end
end Mine
end
section
open PySem PySem.W PySem.Spec PySem.Calls PyProof.Rows
set_option Elab.async false
set_option linter.unusedVariables false
namespace Mine
section
variable {c : Cx} {l : Loc} {Q : Fl → Loc → Prop}
theorem ofStr_inj {a b : String} : (Str.ofString a = Str.ofString b) ↔ a = b := by
  constructor
  · intro h
    unfold Str.ofString at h
    rw [cpsOfBytes_string, cpsOfBytes_string] at h
    have h2 : a.toList.map Char.toNat = b.toList.map Char.toNat := by
      have := congrArg (fun x : Str => x.cps.toList) h
      simpa using this
    have h3 : a.toList = b.toList := (List.map_inj_right (fun x y e => Char.toNat_inj.mp e)).mp h2
    exact String.toList_inj.mp h3
  · exact congrArg _
noncomputable def ITEM (c : Cx) (d₁ d₂ d : D) : Prop :=
  ∀ (value slice : Expr) mu s v₁ v₂ (Q E : Value → Shared → Prop), (∀ o i, subscripted slice false o i = operate [o, i] (getItem o i)) → Rel mu s.heap d₁ v₁ → Rel mu s.heap d₂ v₂ → (∀ v s', Keeps s s' → Rel mu s'.heap d v → Q v s') → wpAny c.M c.A (subscriptTail value slice v₁ v₂) Q E s
theorem ev_sub {a b : Expr} {pos : Pos} {d₁ d₂ d : D} (h₁ : EV c l a d₁) (h₂ : EV c l b d₂) (h : ITEM c d₁ d₂ d) (hs : ∀ o i, subscripted b false o i = operate [o, i] (getItem o i) := by intro _ _; rfl) : EV c l (.Subscript a b pos) d := by
  intro av own s i Q E hQ
  refine Subscript_ (h₁ av own s i _ _ fun v₁ s₁ k₁ r₁ => h₂ av own s₁ (i.keeps k₁) _ _ fun v₂ s₂ k₂ r₂ => ?_)
  exact h a b _ s₂ v₁ v₂ _ _ hs (r₁.kept (kp_kept k₂)) r₂ fun v s' k r => hQ v s' (kp_trans k₁ (kp_trans k₂ k)) r
theorem letGo_plain {value : Expr} {o : Value} (ho : ∀ a, o ≠ .ref a) (r : Value) : letTemporaryGo value o r = pure () := by
  cases o with
  | ref a => exact absurd rfl (ho a)
  | _ => cases value <;> rfl
theorem i_lst {ds : List D} {k : Int} {d : D} (h0 : 0 ≤ k) (h1 : k < 2 ^ 63) (hx : ds[k.toNat]? = some d) : ITEM c (.lst ds) (.int k) d := by
  intro value slice mu s v₁ v₂ Q E hs r₁ r₂ hQ
  simp only [Rel] at r₁ r₂
  obtain ⟨a, vs, rfl, _, hl, hr⟩ := r₁
  obtain ⟨u, rfl⟩ := r₂
  obtain ⟨v, hv, r⟩ := hr.get hx
  exact tail_any hl.typeIs slot_list_getitem.lookup (wpAny_getItem_list hl h0 h1 (by simpa using hv) (hQ v s kp_rfl r)) (hs _ _)
theorem i_mls {ds : List D} {k : Int} {d : D} (h0 : 0 ≤ k) (h1 : k < 2 ^ 63) (hx : ds[k.toNat]? = some d) : ITEM c (.mls ds) (.int k) d := by
  intro value slice mu s v₁ v₂ Q E hs r₁ r₂ hQ
  simp only [Rel] at r₁ r₂
  obtain ⟨a, vs, rfl, hl, hr⟩ := r₁
  obtain ⟨u, rfl⟩ := r₂
  obtain ⟨v, hv, r⟩ := hr.get hx
  exact tail_any hl.isList.typeIs slot_list_getitem.lookup (wpAny_getItem_list hl.isList h0 h1 (by simpa using hv) (hQ v s kp_rfl r)) (hs _ _)
theorem i_tup {ds : List D} {k : Int} {d : D} (h0 : 0 ≤ k) (h1 : k < 2 ^ 63) (hx : ds[k.toNat]? = some d) : ITEM c (.tup ds) (.int k) d := by
  intro value slice mu s v₁ v₂ Q E hs r₁ r₂ hQ
  simp only [Rel] at r₁ r₂
  obtain ⟨a, vs, rfl, _, hl, hr⟩ := r₁
  obtain ⟨u, rfl⟩ := r₂
  obtain ⟨v, hv, r⟩ := hr.get hx
  refine item_tupleT (l := vs) (j := k.toNat) hl (by omega) h1 ?_ hv (hQ v s kp_rfl r) (hs _ _)
  have : k.toNat < vs.length := (List.getElem?_eq_some_iff.mp hv).1
  exact StrLaws.seqIndex_nonneg h0 (by omega)
theorem i_str {x : Str} {k : Int} (h1 : -(x.length : Int) ≤ k) (h2 : k < x.length) (hf : x.length ≤ 2 ^ 60) : ITEM c (.str x) (.int k) (.str (Txt.item x k)) := by
  intro value slice mu s v₁ v₂ Q E hs r₁ r₂ hQ
  simp only [Rel] at r₁ r₂
  obtain ⟨t, rfl⟩ := r₁
  obtain ⟨u, rfl⟩ := r₂
  refine item_str ?_ h1 h2 (fun _ => hQ _ _ (kp_tok _) (by simp only [Rel]; exact ⟨_, rfl⟩)) (hs _ _) (letGo_plain (fun _ e => by cases e))
  simp only [fitsSsize, Bool.not_eq_true', Bool.or_eq_false_iff, decide_eq_false_iff_not]
  first
    | omega
    | (simp only [Bool.and_eq_true, decide_eq_true_eq]; omega)
theorem i_bytes {b : List UInt8} {k : Int} (h0 : 0 ≤ k) (h1 : k < b.length) (hf : b.length ≤ 2 ^ 30) : ITEM c (.bytes b.toArray) (.int k) (.int (b.getD k.toNat 0).toNat) := by
  intro value slice mu s v₁ v₂ Q E hs r₁ r₂ hQ
  simp only [Rel] at r₁ r₂
  obtain ⟨t, rfl⟩ := r₁
  obtain ⟨u, rfl⟩ := r₂
  exact tail_any (typeIs_bytes s _ t) FB.slot_bytes_getitem.lookup (getItem_bytes (Nat.le_trans hf (by decide)) h0 h1 (hQ _ _ (kp_tok _) (by simp only [Rel]; exact ⟨_, rfl⟩))) (hs _ _)
inductive Part (c : Cx) (l : Loc) : Option Expr → Option Int → Prop
  | none : Part c l none none
  | some {e : Expr} {i : Int} : EV c l e (.int i) → Part c l (some e) (some i)
theorem Part.wp {e : Option Expr} {i : Option Int} (p : Part c l e i) {av own : List Addr} {s : Shared} (v : Inv c av own l s) {R : Value → Shared → Prop} {E : Value → Shared → Prop} (h : ∀ v s', Keeps s s' → IsPart v i → R v s') :
    wpAny c.M c.A (evalPart e c.env) R E s := by
  cases p with
  | none => exact evalPart_none_step (h _ s kp_rfl .none)
  | some q =>
    refine evalPart_some_step (q av own s v _ _ fun w s' k r => ?_)
    simp only [Rel] at r
    obtain ⟨t, rfl⟩ := r
    exact h _ s' k (.int _ _)
noncomputable def CUT (c : Cx) (d : D) (lo hi : Option Int) (r : D) : Prop :=
  ∀ (value slice : Expr) mu s v vl vu (Q E : Value → Shared → Prop), s.heap.objs.size ∉ mu → (∀ a, a ∈ mu → (s.heap.get? a).isSome = true) → (∀ o i, subscripted slice false o i = operate [i, o] (getItem o i)) → Rel mu s.heap d v → IsPart vl lo → IsPart vu hi → (∀ v' s', Keeps s s' → Rel mu s'.heap r v' → Q v' s') →
    wpAny c.M c.A (subscriptTail value slice v (.ref s.heap.objs.size)) Q E { s with heap := s.heap.push { cls := .type "slice", data := .fields #[vl, vu, .none] } }
theorem ev_cut {a : Expr} {lo hi : Option Expr} {p pos : Pos} {d r : D} {i j : Option Int} (h : EV c l a d) (h₁ : Part c l lo i) (h₂ : Part c l hi j) (hc : CUT c d i j r) : EV c l (.Subscript a (.Slice lo hi none p) pos) r := by
  intro av own s inv Q E hQ
  refine Subscript_ (h av own s inv _ _ fun v s₁ k₁ r₁ => wpAny_Slice (h₁.wp (inv.keeps k₁) fun vl s₂ k₂ p₁ => h₂.wp ((inv.keeps k₁).keeps k₂) fun vu s₃ k₃ p₂ => evalPart_none_step ?_))
  have i₃ := ((inv.keeps k₁).keeps k₂).keeps k₃
  refine hc a _ (own ++ av) s₃ v vl vu _ _ i₃.notOwn (fun b hb => ?_) (fun _ _ => rfl) ((r₁.kept (kp_kept k₂)).kept (kp_kept k₃)) p₁ p₂ fun v' s' k r => hQ v' s' (kp_trans k₁ (kp_trans k₂ (kp_trans k₃ k))) r
  rcases List.mem_append.mp hb with q | q
  · exact (i₃.mine b q).2
  · exact (i₃.keep b q).1
theorem keptH (h₀ : Heap) : KeptH (fun h => Kept h₀ h) := fun h ob k b o e => Heap.get?_push_of_some _ (k b o e)
theorem cut_str {x : Str} {i j : Option Int} (hf : x.length ≤ sizeLine) : CUT c (.str x) i j (.str (Txt.slice x i j)) := by
  intro value slice mu s v vl vu Q E hn ha hs r p₁ p₂ hQ
  simp only [Rel] at r
  obtain ⟨t, rfl⟩ := r
  have fin : ∀ h' t' k, Kept s.heap h' → Q (.str (Txt.slice x i j) t') { s with heap := h', toks := k } := fun h' t' k kk => hQ _ _ ⟨h', k, rfl, kk⟩ (by simp only [Rel]; exact ⟨_, rfl⟩)
  cases p₁ <;> cases p₂
  · exact tail_of_ItemOn (SBH.sliceItem_nn (keptH s.heap) (fun _ _ e => e) fin hf) (hs _ _) (letGo_plain (fun _ e => by cases e))
  · exact tail_of_ItemOn (SBH.sliceItem_ns (keptH s.heap) (fun _ _ e => e) fin hf) (hs _ _) (letGo_plain (fun _ e => by cases e))
  · exact tail_of_ItemOn (SBH.sliceItem_sn (keptH s.heap) (fun _ _ e => e) fin hf) (hs _ _) (letGo_plain (fun _ e => by cases e))
  · exact tail_of_ItemOn (SBH.sliceItem_ss (keptH s.heap) (fun _ _ e => e) fin hf) (hs _ _) (letGo_plain (fun _ e => by cases e))
theorem RelL.drop {mu : List Addr} {h : Heap} : ∀ (k : Nat) {ds : List D} {vs : List Value}, RelL mu h ds vs → RelL mu h (ds.drop k) (vs.drop k)
  | 0, _, _, r => r
  | k + 1, [], vs, r => by simp only [RelL] at r; subst r; simp only [List.drop_nil, RelL]
  | k + 1, d :: ds, vs, r => by
    simp only [RelL] at r
    obtain ⟨v, vs', rfl, _, r2⟩ := r
    simpa only [List.drop_succ_cons] using RelL.drop k r2
theorem RelL.take {mu : List Addr} {h : Heap} : ∀ (k : Nat) {ds : List D} {vs : List Value}, RelL mu h ds vs → RelL mu h (ds.take k) (vs.take k)
  | 0, _, _, r => by simp only [List.take_zero, RelL]
  | k + 1, [], vs, r => by simp only [RelL] at r; subst r; simp only [List.take_nil, RelL]
  | k + 1, d :: ds, vs, r => by
    simp only [RelL] at r
    obtain ⟨v, vs', rfl, r1, r2⟩ := r
    simp only [List.take_succ_cons, RelL]
    exact ⟨v, _, rfl, r1, RelL.take k r2⟩
noncomputable def cutL (ds : List D) (lo hi : Option Int) : List D := match lo, hi with
  | none, none => ds
  | none, some b => ds.take b.toNat
  | some a, none => ds.drop a.toNat
  | some a, some b => (ds.drop a.toNat).take (b.toNat - a.toNat)
theorem slicePick_cut {mu : List Addr} {h : Heap} {ds : List D} {vs : List Value} {lo hi : Option Int} (r : RelL mu h ds vs) (h1 : ∀ a, lo = some a → 0 ≤ a ∧ a ≤ ds.length) (h2 : ∀ b, hi = some b → 0 ≤ b) (h3 : ∀ a b, lo = some a → hi = some b → a ≤ b ∧ b ≤ ds.length) :
    ∃ ws, slicePick vs.toArray lo hi none = ws.toArray ∧ RelL mu h (cutL ds lo hi) ws := by
  have hl := r.length
  cases lo with
  | none =>
    cases hi with
    | none => exact ⟨vs, slicePick_all _, r⟩
    | some b =>
      have hb := h2 b rfl
      by_cases hle : b ≤ vs.length
      · refine ⟨vs.take b.toNat, ?_, r.take _⟩
        have := slicePick_upto vs.toArray b.toNat (by simp; omega)
        rw [Int.toNat_of_nonneg hb] at this
        simpa using this
      · refine ⟨vs.take b.toNat, ?_, r.take _⟩
        rw [List.take_of_length_le (by omega)]
        have e : slicePick vs.toArray none (some b) none = slicePick vs.toArray none none none := by
          unfold slicePick sliceBounds
          have : ¬ b < 0 := by omega
          simp [this]
          have e2 : max 0 (min b (vs.length : Int)) = (vs.length : Int) := by omega
          rw [e2]
        rw [e, slicePick_all]
  | some a =>
    have ha := h1 a rfl
    cases hi with
    | none =>
      refine ⟨vs.drop a.toNat, ?_, r.drop _⟩
      have := slicePick_from vs.toArray a.toNat (by simp; omega)
      rw [Int.toNat_of_nonneg ha.1] at this
      simpa using this
    | some b =>
      have hb := h3 a b rfl rfl
      refine ⟨(vs.drop a.toNat).take (b.toNat - a.toNat), ?_, (r.drop _).take _⟩
      have := slicePick_run vs.toArray a.toNat b.toNat (by simp; omega) (by omega)
      rw [Int.toNat_of_nonneg ha.1, Int.toNat_of_nonneg (h2 b rfl)] at this
      simpa using this
theorem cut_lst {ds : List D} {lo hi : Option Int} (hf : ds.length ≤ 1000) (h1 : ∀ a, lo = some a → 0 ≤ a ∧ a ≤ ds.length) (h2 : ∀ b, hi = some b → 0 ≤ b) (h3 : ∀ a b, lo = some a → hi = some b → a ≤ b ∧ b ≤ ds.length) : CUT c (.lst ds) lo hi (.lst (cutL ds lo hi)) := by
  intro value slice mu s v vl vu Q E hn hal hs r p₁ p₂ hQ
  simp only [Rel] at r
  obtain ⟨a, vs, rfl, hm, hl, hr⟩ := r
  obtain ⟨ws, e, rw'⟩ := slicePick_cut hr h1 h2 h3
  refine tail_any (Heap.IsList.typeIs (s := { s with heap := s.heap.push { cls := .type "slice", data := .fields #[vl, vu, .none] } }) (hl.push _)) slot_list_getitem.lookup
    (wpAny_getItem_list_slice (hl.push _) (Heap.IsSliceOf.new ..) p₁ p₂ .none (by simp) ?_ (by have := hr.length; rw [List.size_toArray, this]; exact Nat.le_trans hf (by decide))) (hs _ _)
  have kp : Keeps s { s with heap := (s.heap.push { cls := .type "slice", data := .fields #[vl, vu, .none] }).push { cls := .type "list", data := .seq (slicePick vs.toArray lo hi none) } } := kp_trans (kp_push _) (kp_push _)
  refine hQ _ _ kp ?_
  rw [e]
  simp only [Rel]
  refine ⟨_, ws, rfl, fun q => ?_, ⟨_, Heap.get?_push_size _ rfl, rfl, _, rfl⟩, rw'.kept (e ▸ kp_kept kp)⟩
  have := hal _ q
  rw [Heap.size_push] at this
  obtain ⟨o, ho⟩ := Option.isSome_iff_exists.mp this
  exact Nat.lt_irrefl _ (Nat.lt_of_succ_lt (Heap.lt_size ho))
end
end Mine
end
section
open PySem PySem.W PySem.Spec PySem.Calls PyProof.Rows
set_option Elab.async false
set_option linter.unusedVariables false
set_option maxRecDepth 100000
namespace Mine
section
variable {c : Cx} {l : Loc} {Q : Fl → Loc → Prop}
noncomputable def BCALL (c : Cx) (f : Value) (args : List D) (d : D) : Prop :=
  ∀ mu s vs (Q E : Value → Shared → Prop), s.heap.objs.size ∉ mu → (∀ a, a ∈ mu → (s.heap.get? a).isSome = true) → RelL mu s.heap args vs → (∀ v s', Keeps s s' → Rel mu s'.heap d v → Q v s') → wpAny c.M c.A (call f vs) Q E s
theorem Inv.alive {av own : List Addr} {s : Shared} (i : Inv c av own l s) : ∀ a, a ∈ own ++ av → (s.heap.get? a).isSome = true := fun a h => by
  rcases List.mem_append.mp h with q | q
  · exact (i.mine a q).2
  · exact (i.keep a q).1
theorem ev_bcall {x : Str} {px pos : Pos} {e : Expr} {es : List Expr} {id : String} {args : List D} {d : D} (hf : EV c l (.Name x px) (.val (.builtin id))) (ha : EVL c l (e :: es) args) (h : BCALL c (.builtin id) args d)
    (he : ∀ env, starEach (e :: es) env = (false, eval e env) :: starEach es env := by intro _; rfl) (hp : ∀ env, (backTo pos (starEach es env)).any (·.1) = false := by intro _; rfl) : EV c l (.Call (.Name x px) (e :: es) [] pos) d := by
  intro av own s i Q E hQ
  refine Call_ (hf av own s i _ _ fun v s₁ k₁ r₁ => ?_)
  simp only [Rel] at r₁
  subst r₁
  have i₁ := i.keeps k₁
  refine callWith_builtin1 (ha av own s₁ i₁ pos _ _ fun vs s₂ k₂ r₂ => ?_) (he _) (hp _)
  exact h _ s₂ vs _ _ (i₁.keeps k₂).notOwn (i₁.keeps k₂).alive r₂ fun v s' k r => hQ v s' (kp_trans k₁ (kp_trans k₂ k)) r
theorem ev_tcall {x : Str} {px pos : Pos} {e : Expr} {es : List Expr} {T : String} {args : List D} {d : D} (hf : EV c l (.Name x px) (.val (.type T))) (ha : EVL c l (e :: es) args) (h : BCALL c (.type T) args d)
    (he : ∀ env, starEach (e :: es) env = (false, eval e env) :: starEach es env := by intro _; rfl) (hp : ∀ env, (backTo pos (starEach es env)).any (·.1) = false := by intro _; rfl) : EV c l (.Call (.Name x px) (e :: es) [] pos) d := by
  intro av own s i Q E hQ
  refine Call_ (hf av own s i _ _ fun v s₁ k₁ r₁ => ?_)
  simp only [Rel] at r₁
  subst r₁
  have i₁ := i.keeps k₁
  refine PyProof.Rows.callWith_type1 (ha av own s₁ i₁ pos _ _ fun vs s₂ k₂ r₂ => ?_) (he _) (hp _)
  exact h _ s₂ vs _ _ (i₁.keeps k₂).notOwn (i₁.keeps k₂).alive r₂ fun v s' k r => hQ v s' (kp_trans k₁ (kp_trans k₂ k)) r
noncomputable def METH (c : Cx) (d : D) (name : Str) (id : String) : Prop :=
  ∀ mu s v (pl : Sem Bool) (Q : Value × List Value → Shared → Prop) (E : Value → Shared → Prop), Rel mu s.heap d v → Q (.builtin id, [v]) s → wpAny c.M c.A (getMethod v name pl) Q E s
theorem ev_meth {o : Expr} {name : Str} {apos pos : Pos} {e : Expr} {es : List Expr} {id : String} {d₀ d : D} {args : List D} (h₀ : EV c l o d₀) (hm : METH c d₀ name id) (ha : EVL c l (e :: es) args) (h : BCALL c (.builtin id) (d₀ :: args) d)
    (hE : ∀ env, ∃ pl : Sem Bool, eval (.Call (.Attribute o name apos) (e :: es) [] pos) env = (do
      let ov ← eval o env
      standAt apos.atName
      let (f, first) ← holding [ov] (getMethod ov name pl)
      callWith pos f first (backTo pos (starEach (e :: es) env)) []) := by intro _; exact ⟨_, rfl⟩)
    (he : ∀ env, starEach (e :: es) env = (false, eval e env) :: starEach es env := by intro _; rfl) (hp : ∀ env, (backTo pos (starEach es env)).any (·.1) = false := by intro _; rfl) : EV c l (.Call (.Attribute o name apos) (e :: es) [] pos) d := by
  intro av own s i Q E hQ
  obtain ⟨pl, hE⟩ := hE c.env
  refine MethodCall_ (pl := pl) (h₀ av own s i _ _ fun v s₁ k₁ r₁ => hm _ s₁ v pl _ _ r₁ ?_) hE
  have i₁ := i.keeps k₁
  refine callWith_method1 (ha av own s₁ i₁ pos _ _ fun vs s₂ k₂ r₂ => ?_) (he _) (hp _)
  refine h _ s₂ (v :: vs) _ _ (i₁.keeps k₂).notOwn (i₁.keeps k₂).alive (by simp only [RelL]; exact ⟨v, vs, rfl, r₁.kept (kp_kept k₂), r₂⟩) fun v s' k r => hQ v s' (kp_trans k₁ (kp_trans k₂ k)) r
theorem meth_str {x name : Str} {id : String} (h : ∀ (s : Shared) (t : Tok) (pl : Sem Bool) (Q : Value × List Value → Shared → Prop) (E : Value → Shared → Prop), Q (.builtin id, [.str x t]) s → wpAny c.M c.A (getMethod (.str x t) name pl) Q E s) : METH c (.str x) name id := by
  intro mu s v pl Q E r q
  simp only [Rel] at r
  obtain ⟨t, rfl⟩ := r
  exact h s t pl Q E q
theorem m_find {x : Str} : METH c (.str x) "find" "str.find" := meth_str fun _ _ _ _ _ q => GM.find q
theorem m_strip {x : Str} : METH c (.str x) "strip" "str.strip" := meth_str fun _ _ _ _ _ q => GM.strip q
theorem m_split {x : Str} : METH c (.str x) "split" "str.split" := meth_str fun _ _ _ _ _ q => GM.split q
theorem m_join {x : Str} : METH c (.str x) "join" "str.join" := meth_str fun _ _ _ _ _ q => GM.join q
theorem m_partition {x : Str} : METH c (.str x) "partition" "str.partition" := meth_str fun _ _ _ _ _ q => GM.partition q
theorem k_find {x y : Str} : BCALL c (.builtin "str.find") [.str x, .str y] (.int (Txt.find x y)) := by
  intro mu s vs Q E _ _ r hQ
  simp only [RelL, Rel] at r
  obtain ⟨_, _, rfl, ⟨t, rfl⟩, _, _, rfl, ⟨u, rfl⟩, rfl⟩ := r
  exact SC.find (hQ _ _ (kp_tok _) (by simp only [Rel]; exact ⟨_, rfl⟩))
theorem k_find3 {x y : Str} {i : Int} : BCALL c (.builtin "str.find") [.str x, .str y, .int i] (.int (Txt.find3 x y i)) := by
  intro mu s vs Q E _ _ r hQ
  simp only [RelL, Rel] at r
  obtain ⟨_, _, rfl, ⟨t, rfl⟩, _, _, rfl, ⟨u, rfl⟩, _, _, rfl, ⟨w, rfl⟩, rfl⟩ := r
  exact SC.find3 (hQ _ _ (kp_tok _) (by simp only [Rel]; exact ⟨_, rfl⟩))
theorem k_strip {x y : Str} (hf : x.length ≤ sizeLine) : BCALL c (.builtin "str.strip") [.str x, .str y] (.str (Txt.stripChars x y)) := by
  intro mu s vs Q E _ _ r hQ
  simp only [RelL, Rel] at r
  obtain ⟨_, _, rfl, ⟨t, rfl⟩, _, _, rfl, ⟨u, rfl⟩, rfl⟩ := r
  exact SC.stripChars (fun t' k => hQ _ _ (kp_tok _) (by simp only [Rel]; exact ⟨_, rfl⟩)) hf
theorem relL_strs {mu : List Addr} {h : Heap} : ∀ (l : List (Str × Tok)), RelL mu h (l.map fun p => D.str p.1) (strValues l)
  | [] => by simp only [List.map_nil, RelL]; rfl
  | p :: r => by
    simp only [List.map_cons, RelL, Rel]
    exact ⟨.str p.1 p.2, strValues r, rfl, ⟨_, rfl⟩, relL_strs r⟩
theorem k_split {x y : Str} (hy : (y.length == 0) = false) (hf : x.length ≤ sizeLine) (hf2 : (Builtin.Str.partsBetween x (Builtin.Str.occurrences x y 0 x.length (x.length + 1)) y.length).length ≤ sizeLine) : BCALL c (.builtin "str.split") [.str x, .str y] (.lst ((Txt.split x y).map .str)) := by
  intro mu s vs Q E hn hal r hQ
  simp only [RelL, Rel] at r
  obtain ⟨_, _, rfl, ⟨t, rfl⟩, _, _, rfl, ⟨u, rfl⟩, rfl⟩ := r
  have fin : ∀ (l : List (Str × Tok)) (tk : Nat), l.map (·.1) = Txt.split x y → Q (.ref s.heap.objs.size) { s with toks := tk, heap := s.heap.push { cls := .type "list", data := .seq (strValues l).toArray } } := fun l tk e => by
    refine hQ _ _ ⟨_, _, rfl, fun _ _ e => Heap.get?_push_of_some _ e⟩ ?_
    simp only [Rel]
    exact ⟨_, strValues l, rfl, hn, ⟨_, Heap.get?_push_size _ rfl, rfl, _, rfl⟩, by rw [← e, List.map_map]; exact relL_strs l⟩
  cases h1 : (decide (x.length < y.length) || decide (Builtin.Str.strKind x < Builtin.Str.strKind y))
  · cases hf' : (Builtin.Str.occurrences x y 0 x.length (x.length + 1)).isEmpty
    · refine call_meets F.slot_str_split (typeIs_str _ _ _) F.entry_str_split (F.args_str_split_2 _ _) (meets_str_split_sep x y t u h1 hy hf' hf hf2) ?_
      show Q _ { s with toks := _, heap := s.heap.push { cls := .type "list", data := .seq (strsFrom s.toks (Builtin.Str.partsBetween x (Builtin.Str.occurrences x y 0 x.length (x.length + 1)) y.length)).toArray } }
      rw [strsFrom_eq]
      exact fin (numbered s.toks _) _ ((numbered_texts _ _).trans ((if_neg (ne_true_of_eq_false h1)).trans (if_neg (ne_true_of_eq_false hf'))).symm)
    · exact call_meets F.slot_str_split (typeIs_str _ _ _) F.entry_str_split (F.args_str_split_2 _ _) (meets_str_split_not_found x y t u h1 hy hf')
        (fin [(x, t)] _ ((if_neg (ne_true_of_eq_false h1)).trans (if_pos hf')).symm)
  · exact call_meets F.slot_str_split (typeIs_str _ _ _) F.entry_str_split (F.args_str_split_2 _ _) (meets_str_split_cannot_occur x y t u h1)
      (fin [(x, t)] _ (if_pos h1).symm)
theorem k_join {x : Str} {ys : List Str} (hok : JoinOk x ys = true) : BCALL c (.builtin "str.join") [.str x, .lst (ys.map .str)] (.str (Txt.join x ys)) := by
  intro mu s vs Q E _ _ r hQ
  simp only [RelL, Rel] at r
  obtain ⟨_, _, rfl, ⟨t, rfl⟩, _, _, rfl, ⟨a, ws, rfl, _, hL, hr⟩, rfl⟩ := r
  have hstrs : ∀ (ys : List Str) (ws : List Value), RelL mu s.heap (ys.map .str) ws → ∃ l : List (Str × Tok), ws = strValues l ∧ l.map (·.1) = ys := by
    intro ys
    induction ys with
    | nil => intro ws r; simp only [List.map_nil, RelL] at r; exact ⟨[], r, rfl⟩
    | cons y ys ih =>
      intro ws r
      simp only [List.map_cons, RelL, Rel] at r
      obtain ⟨_, ws', rfl, ⟨t', rfl⟩, r2⟩ := r
      obtain ⟨l, rfl, e⟩ := ih ws' r2
      exact ⟨(y, t') :: l, rfl, by simp [e]⟩
  obtain ⟨l, rfl, e⟩ := hstrs ys ws hr
  exact SC.join hL e hok fun t' k => hQ _ _ (kp_tok _) (by simp only [Rel]; exact ⟨_, rfl⟩)
theorem k_partition {x y : Str} (hy : (y.length == 0) = false) (hf : x.length ≤ sizeLine) : BCALL c (.builtin "str.partition") [.str x, .str y] (.tup [.str (Txt.partition x y).1, .str (Txt.partition x y).2.1, .str (Txt.partition x y).2.2]) := by
  intro mu s vs Q E hn hal r hQ
  simp only [RelL, Rel] at r
  obtain ⟨_, _, rfl, ⟨t, rfl⟩, _, _, rfl, ⟨u, rfl⟩, rfl⟩ := r
  refine call_meets F.slot_str_partition (typeIs_str _ _ _) F.entry_str_partition (F.args_str_partition_2 _ _) (meets_str_partition x y t u hy hf) ?_
  show Q _ _
  unfold Txt.partition at hQ
  revert hQ
  cases Builtin.Str.occurrences x y 0 x.length 1 with
  | nil =>
    intro hQ
    refine hQ _ _ ⟨_, _, rfl, fun _ _ e => Heap.get?_push_of_some _ e⟩ ?_
    simp only [Rel, RelL]
    exact ⟨_, _, rfl, hn, ⟨_, Heap.get?_push_size _ rfl, rfl, _, rfl⟩, _, _, rfl, ⟨_, rfl⟩, _, _, rfl, ⟨_, rfl⟩, _, _, rfl, ⟨_, rfl⟩, rfl⟩
  | cons i is =>
    intro hQ
    refine hQ _ _ ⟨_, _, rfl, fun _ _ e => Heap.get?_push_of_some _ e⟩ ?_
    simp only [Rel, RelL]
    exact ⟨_, _, rfl, hn, ⟨_, Heap.get?_push_size _ rfl, rfl, _, rfl⟩, _, _, rfl, ⟨_, rfl⟩, _, _, rfl, ⟨_, rfl⟩, _, _, rfl, ⟨_, rfl⟩, rfl⟩
theorem k_lenS {x : Str} (hf : x.length ≤ 2 ^ 60) : BCALL c (.builtin "len") [.str x] (.int x.length) := by
  intro mu s vs Q E _ _ r hQ
  simp only [RelL, Rel] at r
  obtain ⟨_, _, rfl, ⟨t, rfl⟩, rfl⟩ := r
  exact SBL.len (by omega) (hQ _ _ (kp_tok _) (by simp only [Rel]; exact ⟨_, rfl⟩))
theorem k_lenL {ds : List D} (hf : ds.length ≤ 2 ^ 60) : BCALL c (.builtin "len") [.lst ds] (.int ds.length) := by
  intro mu s vs Q E _ _ r hQ
  simp only [RelL, Rel] at r
  obtain ⟨_, _, rfl, ⟨a, ws, rfl, _, hL, hr⟩, rfl⟩ := r
  have e := hr.length
  refine PyProof.Rows.len_list hL (by simp only [List.size_toArray]; omega) (hQ _ _ (kp_tok _) ?_)
  simp only [Rel, List.size_toArray, e]; exact ⟨_, rfl⟩
theorem k_lenB {b : Array UInt8} (hf : b.size ≤ 2 ^ 30) : BCALL c (.builtin "len") [.bytes b] (.int b.size) := by
  intro mu s vs Q E _ _ r hQ
  simp only [RelL, Rel] at r
  obtain ⟨_, _, rfl, ⟨t, rfl⟩, rfl⟩ := r
  exact len_bytes (Nat.le_trans hf (by decide)) (hQ _ _ (kp_tok _) (by simp only [Rel]; exact ⟨_, rfl⟩))
theorem k_ord {n : Nat} : BCALL c (.builtin "ord") [.str ⟨#[n]⟩] (.int n) := by
  intro mu s vs Q E _ _ r hQ
  simp only [RelL, Rel] at r
  obtain ⟨_, _, rfl, ⟨t, rfl⟩, rfl⟩ := r
  exact P.ord_of_char (hQ _ _ (kp_tok _) (by simp only [Rel]; exact ⟨_, rfl⟩))
theorem k_chr {i : Int} (h0 : 0 ≤ i) (h1 : i ≤ 1114111) : BCALL c (.builtin "chr") [.int i] (.str ⟨#[i.toNat]⟩) := by
  intro mu s vs Q E _ _ r hQ
  simp only [RelL, Rel] at r
  obtain ⟨_, _, rfl, ⟨t, rfl⟩, rfl⟩ := r
  exact P.chr_of_int (by simp; omega) (hQ _ _ (kp_tok _) (by simp only [Rel]; exact ⟨_, rfl⟩))
end
end Mine
end
section
open PySem PySem.W PySem.Spec PySem.Calls PyProof.Rows
set_option Elab.async false
set_option linter.unusedVariables false
set_option maxRecDepth 100000
namespace Mine
section
variable {c : Cx} {l : Loc} {Q : Fl → Loc → Prop}
theorem Inv.setCell {av own : List Addr} {s : Shared} {x : Str} {d : D} {v : Value} {h' : Heap} {tk : Nat} {a : Addr} (i : Inv c av own l s) (hx : c.env.kindOf x = some .cell) (ha : c.env.cells.lookup x = some a)
    (r : Rel (own ++ av) s.heap d v) (f : Froz d) (hc : h'.IsCell a (some v)) (hs : Heap.SameBut a s.heap h') : Inv c av own (put l x d) { s with heap := h', toks := tk } := by
  obtain ⟨ho, v₀, hc₀⟩ := i.cell x a hx ha
  have alive : (h'.get? a).isSome = true := by obtain ⟨o, ho, _⟩ := hc; rw [ho]; rfl
  obtain ⟨hl1, m₀, hl2⟩ := i.loc
  have hla : c.env.locals ≠ a := fun e => ns_ne_cell hl2 hc₀ e.symm
  have nameOld : ∀ y w, y ≠ x → NameIs c.env s.heap y w → NameIs c.env h' y w := fun y w hy n => by
    rcases n with ⟨q, m₁, hn₁, e⟩ | ⟨q, b, hb, hcb⟩
    · exact .inl ⟨q, m₁, hn₁.sameBut hs hla, e⟩
    · exact .inr ⟨q, b, hb, hcb.sameBut hs fun e => hy (i.inj y x b hb (e ▸ ha))⟩
  have nameBack : ∀ y w, y ≠ x → NameIs c.env h' y w → NameIs c.env s.heap y w := fun y w hy n => by
    rcases n with ⟨q, m₁, hn₁, e⟩ | ⟨q, b, hb, hcb⟩
    · obtain ⟨o, es, ep, hob, rest⟩ := hn₁
      exact .inl ⟨q, m₁, ⟨o, es, ep, (hs.2 _ hla).symm.trans hob, rest⟩, e⟩
    · have hba : b ≠ a := fun e => hy (i.inj y x b hb (e ▸ ha))
      obtain ⟨o, hob, hd⟩ := hcb
      exact .inr ⟨q, b, hb, o, (hs.2 _ hba).symm.trans hob, hd⟩
  have nm : d ≠ .mls [] ∨ True := .inr trivial
  refine ⟨i.ok, fun b hb => ⟨sameBut_alive hs alive b (i.keep b hb).1, (i.keep b hb).2⟩, ?_, fun b hb => ⟨(i.mine b hb).1, sameBut_alive hs alive b (i.mine b hb).2⟩, ⟨hl1, _, hl2.sameBut hs hla⟩, fun y b h1 h2 => ?_, i.inj, fun y b h => ⟨sameBut_alive hs alive b (i.cel y b h).1, (i.cel y b h).2⟩, i.off, fun y e he => ?_, fun y z dy dz b h1 h2 n1 n2 => ?_⟩
  · obtain ⟨mF, F⟩ := i.fr
    have hLa : c.L ≠ a := fun e => ns_ne_cell F.ns hc₀ e.symm
    exact ⟨mF, F.ns.sameBut hs hLa, fun b o e => (hs.2 b fun q => by rw [q, (i.mine a ho).1] at e; cases e).trans (F.keep b o e), F.above⟩
  · obtain ⟨h3, w, h4⟩ := i.cell y b h1 h2
    by_cases e : b = a
    · exact ⟨h3, some v, e ▸ hc⟩
    · exact ⟨h3, w, h4.sameBut hs e⟩
  · rw [get_put] at he
    by_cases hy : y = x
    · subst hy
      rw [if_pos rfl] at he
      cases he
      refine ⟨v, .inr ⟨.inl hx, a, ha, hc⟩, Rel.but (sameBut_but hs (List.mem_append_left _ ho)) f r, ?_⟩
      cases d <;> first | exact f | (simp only [Froz] at f)
    · rw [if_neg hy] at he
      obtain ⟨w, n, rw', q⟩ := i.val y e he
      refine ⟨w, nameOld y w hy n, rel_same hs (List.mem_append_left _ ho) rw' ?_, q⟩
      cases e with
      | mls its =>
        refine ⟨q.1, fun e => ?_⟩
        simp only [Rel] at rw'
        obtain ⟨b, vs, e', hp, _⟩ := rw'
        rw [e] at e'; cases e'
        exact list_ne_cell hp hc₀ rfl
      | _ => exact q
  · rw [get_put] at h1 h2
    by_cases hy : y = x
    · rw [hy, if_pos rfl] at h1; cases h1; simp only [Froz] at f
    · by_cases hz : z = x
      · rw [hz, if_pos rfl] at h2; cases h2; simp only [Froz] at f
      · rw [if_neg hy] at h1
        rw [if_neg hz] at h2
        exact i.apart y z dy dz b h1 h2 (nameBack y _ hy n1) (nameBack z _ hz n2)
inductive Slot (c : Cx) (x : Str) : Prop
  | loc : c.env.locals = c.L → c.env.kindOf x = some .local → Slot c x
  | cell {a : Addr} : c.env.kindOf x = some .cell → c.env.cells.lookup x = some a → Slot c x
theorem storeN {av own : List Addr} {s : Shared} {x : Str} {d : D} {v : Value} {R : Unit → Shared → Prop} {E : Value → Shared → Prop} (i : Inv c av own l s) (hx : Slot c x)
    (r : Rel (own ++ av) s.heap d v) (f : Froz d) (h : ∀ s', Step own s own s' → Inv c av own (put l x d) s' → R () s') : wpAny c.M c.A (storeName c.env x v) R E s := by
  cases hx with
  | loc hL hk => exact storeL i hL hk r f h
  | cell hk ha =>
    obtain ⟨ho, v₀, hc₀⟩ := i.cell x _ hk ha
    exact wpAny_storeName_cell i.ok.kind hk ha hc₀ fun h' hc hs => h _ ⟨⟨h', s.toks, rfl⟩, sameBut_but hs ho, fun a q => .inl q⟩ (i.setCell hk ha r f hc hs)
theorem st_set {x : Str} {px pos : Pos} {e : Expr} {d : D} {l' : Loc} (hx : Slot c x) (h : EV c l e d) (f : Froz d) (hl : put l x d = l') (q : Q .next l')
    (hs : ∀ env, swapsWith e (some (.Name x px)) pos.line env = pure false := by intro _; rfl) : ST c l (exec (.Assign [.Name x px] e pos) c.env) Q := by
  intro av own s i R E hR
  refine wpAny_Assign_Name (h av own s i _ _ fun v s₁ k₁ r₁ => storeN (i.keeps k₁) hx r₁ f fun s' k i' => ?_) (hs _)
  exact hR .next _ _ own s' (hl ▸ q) (by simp only [RelF]) ((Step.of k₁).trans k) i'
theorem st_augS {x : Str} {px pos : Pos} {op : Operator} {e : Expr} {d₀ d₁ d : D} {l' : Loc} (hx : Slot c x) (h₀ : get l x = some d₀) (h₁ : EV c l e d₁) (h : IBIN c op d₀ d₁ d) (f : Froz d) (hl : put l x d = l') (q : Q .next l') :
    ST c l (exec (.AugAssign (.Name x px) op e pos) c.env) Q := by
  intro av own s i R E hR
  refine wpAny_AugAssign_Name (loadN i h₀ fun v₀ r₀ => h₁ av own s i _ _ fun v₁ s₁ k₁ r₁ => ?_)
  refine h _ s₁ v₀ v₁ _ _ (i.keeps k₁).notOwn (r₀.kept (kp_kept k₁)) r₁ fun v s₂ k₂ r => storeN ((i.keeps k₁).keeps k₂) hx r f fun s' k i' => ?_
  exact hR .next _ _ own s' (hl ▸ q) (by simp only [RelF]) ((Step.of (kp_trans k₁ k₂)).trans k) i'
noncomputable def ItemAt (mu : List Addr) (h₂ h : Heap) (d : D) (v : Value) : Prop := Rel mu h₂ d v ∨ ∃ T vs ds, v = .ref T ∧ d = .tup ds ∧ IsTup h T vs.toArray ∧ RelL mu h₂ ds vs
noncomputable def ASG (c : Cx) (target : Expr) (l : Loc) (d : D) (l' : Loc) : Prop :=
  ∀ av own s v (R : Unit → Shared → Prop) (E : Value → Shared → Prop), Inv c av own l s → ItemAt (own ++ av) s.heap s.heap d v → Froz d → (∀ s', Step own s own s' → Inv c av own l' s' → R () s') → wpAny c.M c.A (assign target c.env v) R E s
theorem asg_name {x : Str} {px : Pos} {d : D} {l' : Loc} (hx : Slot c x) (hd : ∀ ds, d ≠ .tup ds) (hl : put l x d = l') : ASG c (.Name x px) l d l' := by
  intro av own s v R E i r f h
  rcases r with r | ⟨_, _, ds, _, e, _⟩
  · exact wpAny_assign_Name (storeN i hx r f (hl ▸ h))
  · exact absurd e (hd ds)
noncomputable def putAll : Loc → List Str → List D → Loc
  | l, x :: xs, d :: ds => putAll (put l x d) xs ds
  | l, _, _ => l
theorem assignNames {elts : List Expr} : ∀ {xs : List (Str × Pos)} {ds : List D} {vs : List Value} {l : Loc} {av own : List Addr} {s : Shared} {R : Unit → Shared → Prop} {E : Value → Shared → Prop}, Inv c av own l s → (∀ x ∈ xs, Slot c x.1) → xs.length = ds.length → RelL (own ++ av) s.heap ds vs → FrozL ds →
    (∀ s', Step own s own s' → Inv c av own (putAll l (xs.map (·.1)) ds) s' → R () s') → wpAny c.M c.A (assignInOrder ((assignEach (xs.map fun x => .Name x.1 x.2) c.env).map (·.2)) vs) R E s
  | [], ds, vs, l, av, own, s, R, E, i, _, hl, r, _, h => by
    cases ds with
    | cons d ds => simp at hl
    | nil => exact assignInOrder_nil (h s (Step.of kp_rfl) i)
  | x :: xs, ds, vs, l, av, own, s, R, E, i, hx, hl, r, f, h => by
    cases ds with
    | nil => simp at hl
    | cons d ds =>
      simp only [RelL] at r
      obtain ⟨v, vs', rfl, r1, r2⟩ := r
      simp only [FrozL] at f
      refine assignInOrder_cons (t := assign (.Name x.1 x.2) c.env) (ts := (assignEach (xs.map fun x => .Name x.1 x.2) c.env).map (·.2)) ?_
      refine wpAny_assign_Name (storeN i (hx x (.head _)) r1 f.1 fun s' k i' => ?_)
      exact assignNames (elts := elts) i' (fun y hy => hx y (.tail _ hy)) (by simpa using hl) (RelL.step k.kept (fun a q => .inl (List.mem_append_left _ q)) (fun a q => .inl q) f.2 r2) f.2 fun s'' k' i'' => h s'' (k.trans k') i''
theorem asg_tup {elts : List Expr} {xs : List (Str × Pos)} {k : Nat} {pos : Pos} {ds : List D} {l' : Loc} (he : elts = xs.map fun x => .Name x.1 x.2) (hx : ∀ x ∈ xs, Slot c x.1) (hn : xs.length = ds.length) (hl : putAll l (xs.map (·.1)) ds = l') : ASG c (.Tuple elts k pos) l (.tup ds) l' := by
  intro av own s v R E i r f h
  subst he
  have : ∃ T vs, v = .ref T ∧ IsTup s.heap T vs.toArray ∧ RelL (own ++ av) s.heap ds vs := by
    rcases r with r | ⟨T, vs, _, e1, e2, h1, h2⟩
    · simp only [Rel] at r
      obtain ⟨a, vs, e, _, h1, h2⟩ := r
      exact ⟨a, vs, e, h1, h2⟩
    · cases e2; exact ⟨T, vs, e1, h1, h2⟩
  obtain ⟨T, vs, rfl, hT, hr⟩ := this
  have hlen : ∀ ys : List (Str × Pos), (assignEach (ys.map fun x => .Name x.1 x.2) c.env).length = ys.length := fun ys => by
    induction ys with
    | nil => rfl
    | cons y ys ih => exact congrArg (· + 1) ih
  have hst : ∀ ys : List (Str × Pos), (assignEach (ys.map fun x => .Name x.1 x.2) c.env).findIdx? (·.1) = none := fun ys => by
    induction ys with
    | nil => rfl
    | cons y ys ih =>
      show List.findIdx? _ ((false, _) :: _) = none
      rw [List.findIdx?_cons, ih]; rfl
  refine assign_Tuple_tuple rfl hT (by rw [hlen, List.size_toArray, hr.length, hn]) (hst _) fun h' he => ?_
  have kp : Keeps s { s with heap := h' } := ⟨h', s.toks, rfl, fun b o e => he b o (Nat.ne_of_lt (Heap.lt_size e)) e⟩
  refine assignNames (elts := []) (i.keeps kp) hx hn (hr.kept (kp_kept kp)) (by simpa only [Froz] using f) fun s' k i' => h s' ((Step.of kp).trans k) (hl ▸ i')
theorem st_unpack {elts : List Expr} {k : Nat} {p pos : Pos} {e : Expr} {d : D} {l' : Loc} (h : EV c l e d) (f : Froz d) (ha : ASG c (.Tuple elts k p) l d l') (q : Q .next l')
    (hs : ∀ env, swapsWithSole [.Tuple elts k p] e pos.line env = pure false := by intro _; rfl) (hS : ∀ env, swappedStores [.Tuple elts k p] e env = pure none := by intro _; rfl) : ST c l (exec (.Assign [.Tuple elts k p] e pos) c.env) Q := by
  intro av own s i R E hR
  refine Assign_Tuple (h av own s i _ _ fun v s₁ k₁ r₁ => ha av own s₁ v _ _ (i.keeps k₁) (.inl r₁) f fun s' k' i' => ?_) (hs _) (hS _)
  exact hR .next _ _ own s' q (by simp only [RelF]) ((Step.of k₁).trans k') i'
theorem bindNames : ∀ {xs : List Str} {ds : List D} {vs : List Value} {l : Loc} {av own : List Addr} {s : Shared} {R : Unit → Shared → Prop} {E : Value → Shared → Prop}, Inv c av own l s → (∀ x ∈ xs, Slot c x) → xs.length = ds.length → RelL (own ++ av) s.heap ds vs → FrozL ds →
    (∀ s', Step own s own s' → Inv c av own (putAll l xs ds) s' → R () s') → wpAny c.M c.A (assignInOrder (xs.map fun n => bindName c.env n) vs) R E s
  | [], ds, vs, l, av, own, s, R, E, i, _, hl, r, _, h => by
    cases ds with
    | cons d ds => simp at hl
    | nil => exact assignInOrder_nil (h s (Step.of kp_rfl) i)
  | x :: xs, ds, vs, l, av, own, s, R, E, i, hx, hl, r, f, h => by
    cases ds with
    | nil => simp at hl
    | cons d ds =>
      simp only [RelL] at r
      obtain ⟨v, vs', rfl, r1, r2⟩ := r
      simp only [FrozL] at f
      refine assignInOrder_cons (t := bindName c.env x) (ts := xs.map fun n => bindName c.env n) ?_
      refine wpAny_bindName (storeN i (hx x (.head _)) r1 f.1 fun s' k i' => ?_)
      exact bindNames i' (fun y hy => hx y (.tail _ hy)) (by simpa using hl) (RelL.step k.kept (fun a q => .inl (List.mem_append_left _ q)) (fun a q => .inl q) f.2 r2) f.2 fun s'' k' i'' => h s'' (k.trans k') i''
theorem RelL.reverse {mu : List Addr} {h : Heap} : ∀ {ds : List D} {vs : List Value}, RelL mu h ds vs → RelL mu h ds.reverse vs.reverse
  | [], vs, r => by simp only [RelL] at r; subst r; simp only [List.reverse_nil, RelL]
  | d :: ds, vs, r => by
    simp only [RelL] at r
    obtain ⟨v, vs', rfl, r1, r2⟩ := r
    rw [List.reverse_cons, List.reverse_cons]
    exact RelL.append (RelL.reverse r2) (by simp only [RelL]; exact ⟨v, [], rfl, r1, rfl⟩)
theorem st_unpackS {elts es : List Expr} {k k' : Nat} {p p' pos : Pos} {names : List Str} {ds : List D} {l' : Loc} (hS : swappedStores [.Tuple elts k p] (.Tuple es k' p') c.env = pure (some names)) (h : EVL c l es ds) (hb : ds.length ≤ 1000) (f : FrozL ds)
    (hx : ∀ x ∈ names.reverse, Slot c x) (hn : names.length = ds.length) (hl : putAll l names.reverse ds.reverse = l') (q : Q .next l')
    (hs : ∀ env, swapsWithSole [.Tuple elts k p] (.Tuple es k' p') pos.line env = pure false := by intro _; rfl) : ST c l (exec (.Assign [.Tuple elts k p] (.Tuple es k' p') pos) c.env) Q := by
  intro av own s i R E hR
  refine Assign_Tuple_swapped (names := names) (ev_tuple h hb av own s i _ _ fun v s₁ k₁ r₁ => ?_) (hs _) hS
  simp only [Rel] at r₁
  obtain ⟨a, vs, rfl, _, hT, hr⟩ := r₁
  rw [show names.length = vs.toArray.size from by rw [List.size_toArray, hr.length, hn]]
  refine unpackItems_tuple rfl hT fun h' he => ?_
  have kp : Keeps s₁ { s₁ with heap := h' } := ⟨h', s₁.toks, rfl, fun b o e => he b o (Nat.ne_of_lt (Heap.lt_size e)) e⟩
  refine bindNames ((i.keeps k₁).keeps kp) hx (by simp [hn]) (RelL.reverse (hr.kept (kp_kept kp))) (FrozL.of fun d hd => f.mem d (List.mem_reverse.mp hd)) fun s' k' i' => ?_
  exact hR .next _ _ own s' (hl ▸ q) (by simp only [RelF]) ((Step.of (kp_trans k₁ kp)).trans k') (hl ▸ i')
noncomputable def SRC (c : Cx) (target : Expr) (d : D) (items : List D) : Prop :=
  ∀ mu s v (Q E : Value → Shared → Prop), s.heap.objs.size ∉ mu → (∀ a, a ∈ mu → (s.heap.get? a).isSome = true) → Rel mu s.heap d v →
    (∀ I fp wr P Md St s₂, Keeps s s₂ → KTurns c.prog c.w c.A target I fp wr items.length P Md St → St 0 s₂.heap → (∀ b ∈ fp, b ∉ mu ∧ (s₂.heap.get? b).isSome = true) → (∀ b ∈ wr, s.heap.get? b = none) → (∀ j h, St j h → ∀ b ∈ fp, (h.get? b).isSome = true) →
      (∀ i v h d, P i v h → items[i]? = some d → ItemAt mu s.heap h d v) → Q (.ref I) s₂) → wpAny c.M c.A (pyIter v) Q E s
noncomputable def ITER (c : Cx) (l : Loc) (target iter : Expr) (items : List D) : Prop :=
  ∀ av own s, Inv c av own l s → ∀ (Q E : Value → Shared → Prop),
    (∀ s₁ I fp wr P Md St s₂, Keeps s s₁ → Keeps s₁ s₂ → KTurns c.prog c.w c.A target I fp wr items.length P Md St → St 0 s₂.heap → (∀ b ∈ fp, b ∉ own ++ av ∧ (s₂.heap.get? b).isSome = true) → (∀ b ∈ wr, s₁.heap.get? b = none) → (∀ j h, St j h → ∀ b ∈ fp, (h.get? b).isSome = true) →
      (∀ i v h d, P i v h → items[i]? = some d → ItemAt (own ++ av) s₁.heap h d v) → Q (.ref I) s₂) → wpAny c.M c.A (eval iter c.env) (fun v s₁ => wpAny c.M c.A (pyIter v) Q E s₁) E s
theorem it_ev {target iter : Expr} {d : D} {items : List D} (h : EV c l iter d) (hsrc : SRC c target d items) : ITER c l target iter items := by
  intro av own s i Q E hQ
  refine h av own s i _ _ fun v s₁ k₁ r₁ => ?_
  have i₁ := i.keeps k₁
  exact hsrc (own ++ av) s₁ v _ _ i₁.notOwn i₁.alive r₁ fun I fp wr P Md St s₂ k₂ W hst hfp hwr hlive hP => hQ s₁ I fp wr P Md St s₂ k₁ k₂ W hst hfp hwr hlive hP
noncomputable def LOOP (c : Cx) (target : Expr) (body orelse : List Stmt) (Q : Fl → Loc → Prop) : List D → Loc → Prop
  | [], l => ST c l (execs orelse c.env) Q
  | d :: ds, l => ∃ l', ASG c target l d l' ∧ ST c l' (execs body c.env) (fun fl l'' => match fl with | .next => LOOP c target body orelse Q ds l'' | .cont => LOOP c target body orelse Q ds l'' | .brk => Q .next l'' | .ret v => Q (.ret v) l'')
theorem Inv.av {av av' own : List Addr} {s : Shared} (i : Inv c av own l s) (h : ∀ a ∈ av', a ∈ av) : Inv c av' own l s :=
  { i with
    keep := fun a ha => i.keep a (h a ha)
    cel := fun x a q => ⟨(i.cel x a q).1, fun z => (i.cel x a q).2 (h a z)⟩
    off := fun z => i.off (h _ z)
    val := fun x d e => by
      obtain ⟨v, n, r, q⟩ := i.val x d e
      refine ⟨v, n, Rel.sub (fun a ha => .inl ?_) r, q⟩
      rcases List.mem_append.mp ha with z | z
      · exact List.mem_append_left _ z
      · exact List.mem_append_right _ (h a z) }
theorem Inv.more {av wr own : List Addr} {s s₂ : Shared} (i : Inv c av own l s) (k : Kept s.heap s₂.heap) (h : ∀ b ∈ wr, s.heap.get? b = none ∧ (s₂.heap.get? b).isSome = true) : Inv c (wr ++ av) own l s₂ := by
  have i₂ := i.kept k
  have hK : ∀ b ∈ wr, c.K.lookup b = none := fun b hb => by
    cases e : c.K.lookup b with
    | none => rfl
    | some o => have := i.keepK b o e; rw [(h b hb).1] at this; cases this
  refine { i₂ with keep := fun a ha => ?_, cel := fun x a q => ⟨(i₂.cel x a q).1, fun z => ?_⟩, off := fun z => ?_, val := fun x d e => ?_ }
  · rcases List.mem_append.mp ha with q | q
    · refine ⟨(h a q).2, hK a q, fun z => ?_⟩
      have := (i.mine a z).2
      rw [(h a q).1] at this; cases this
    · exact i₂.keep a q
  · rcases List.mem_append.mp z with z | z
    · have := (i.cel x a q).1
      rw [(h a z).1] at this; cases this
    · exact (i.cel x a q).2 z
  · rcases List.mem_append.mp z with z | z
    · obtain ⟨m, F⟩ := i.fr
      obtain ⟨o, _, _, ho, _⟩ := F.ns
      rw [(h _ z).1] at ho; cases ho
    · exact i.off z
  · obtain ⟨v, n, r, q⟩ := i.val x d e
    refine ⟨v, n.kept k, Rel.kept k (Rel.sub (fun a ha => ?_) r), q⟩
    rcases List.mem_append.mp ha with z | z
    · exact .inl (List.mem_append_left _ z)
    · rcases List.mem_append.mp z with z | z
      · exact .inr (h a z).1
      · exact .inl (List.mem_append_right _ z)
theorem Inv.butAv {av av' wr own : List Addr} {s : Shared} {h' : Heap} {tk : Nat} (i : Inv c av own l s) (hw : ∀ b ∈ wr, b ∈ av) (hn : ∀ b ∈ wr, c.h₀.get? b = none) (k : KeptBut wr s.heap h') (ha : ∀ b ∈ av', b ∈ av ∧ (h'.get? b).isSome = true) : Inv c av' own l { s with heap := h', toks := tk } := by
  have alive : ∀ a, a ∉ wr → (s.heap.get? a).isSome = true → (h'.get? a).isSome = true := fun a q h => by
    obtain ⟨o, ho⟩ := Option.isSome_iff_exists.mp h
    rw [k a o q ho]; rfl
  have nw : ∀ a ∈ own, a ∉ wr := fun a h q => (i.keep a (hw a q)).2.2 h
  have nC : ∀ x a, c.env.cells.lookup x = some a → a ∉ wr := fun x a e q => (i.cel x a e).2 (hw a q)
  have nL : c.L ∉ wr := fun q => i.off (hw _ q)
  obtain ⟨hl1, m₀, hl2⟩ := i.loc
  have cellAt : ∀ x a v, c.env.cells.lookup x = some a → s.heap.IsCell a v → h'.IsCell a v := fun x a v e hc => let ⟨o, ho, hd⟩ := hc; ⟨o, k a o (nC x a e) ho, hd⟩
  have ns : h'.Ns c.env.locals m₀ := hl2.at' fun o e => k _ o (nw _ hl1) e
  have name : ∀ x v, NameIs c.env s.heap x v → NameIs c.env h' x v := fun x v n => by
    rcases n with ⟨q, m₁, hn₁, e⟩ | ⟨q, a, hb, hc⟩
    · exact .inl ⟨q, m₁, hn₁.at' fun o e => k _ o (nw _ hl1) e, e⟩
    · exact .inr ⟨q, a, hb, cellAt x a _ hb hc⟩
  have back : ∀ x v, NameIs c.env h' x v → ∀ d, get l x = some d → NameIs c.env s.heap x v := fun x v n d e => by
    obtain ⟨w, n', _, _⟩ := i.val x d e
    have := (name x w n').agree n
    exact this ▸ n'
  refine ⟨i.ok, fun a q => ⟨(ha a q).2, (i.keep a (ha a q).1).2⟩, ?_, fun a q => ⟨(i.mine a q).1, alive a (nw a q) (i.mine a q).2⟩, ⟨hl1, m₀, ns⟩, fun x a h1 h2 => ?_, i.inj, fun x a q => ⟨alive a (nC x a q) (i.cel x a q).1, fun z => (i.cel x a q).2 (ha a z).1⟩, fun z => i.off (ha _ z).1, fun x d e => ?_, fun x y dx dy a h1 h2 n1 n2 => i.apart x y dx dy a h1 h2 (back x _ n1 _ h1) (back y _ n2 _ h2)⟩
  · obtain ⟨m, F⟩ := i.fr
    exact ⟨m, F.ns.at' fun o e => k _ o nL e, fun b o e => k b o (fun q => by rw [hn b q] at e; cases e) (F.keep b o e), F.above⟩
  · obtain ⟨h3, v, h4⟩ := i.cell x a h1 h2
    exact ⟨h3, v, cellAt x a v h2 h4⟩
  · obtain ⟨v, n, r, q⟩ := i.val x d e
    refine ⟨v, name x v n, ?_, q⟩
    refine Rel.sub (mu := own ++ av) (fun a z => .inl ?_) ?_
    · rcases List.mem_append.mp z with z | z
      · exact List.mem_append_left _ z
      · exact List.mem_append_right _ (ha a z).1
    have kb : KeptBut (own ++ av) s.heap h' := fun b o hb z => k b o (fun y => hb (List.mem_append_right _ (hw b y))) z
    cases d with
    | mls its =>
      obtain ⟨f, a, rfl, ha'⟩ := q
      simp only [Rel] at r ⊢
      obtain ⟨a', vs, e', hp, hr⟩ := r
      cases e'
      exact ⟨a, vs, rfl, hp.at fun o z => k a o (nw a ha') z, RelL.but kb f hr⟩
    | _ => exact Rel.but kb q r
theorem ItemAt.step {mu mu' own : List Addr} {h₂ h' : Heap} {d : D} {v : Value} (f : Froz d) (k : KeptBut own h₂ h') (ho : ∀ a ∈ own, a ∈ mu ∨ h₂.get? a = none) (hm : ∀ a ∈ mu', a ∈ mu ∨ h₂.get? a = none) (r : ItemAt mu h₂ h' d v) : ItemAt mu' h' h' d v := by
  rcases r with r | ⟨T, vs, ds, e1, e2, h1, h2⟩
  · exact .inl (Rel.step k ho hm f r)
  · subst e2
    exact .inr ⟨T, vs, ds, e1, rfl, h1, RelL.step k ho hm (by simpa only [Froz] using f) h2⟩
theorem st_for {target iter : Expr} {body orelse : List Stmt} {pos : Pos} {items : List D} (h : ITER c l target iter items) (fz : FrozL items) (hL : LOOP c target body orelse Q items l)
    (hs : ∀ env x, foldedSetIterable iter env x = pure x := by intro _ _; rfl) : ST c l (exec (.For target iter body orelse pos) c.env) Q := by
  intro av own s i R E hR
  refine wpAny_For (h av own s i _ _ fun s₁ I fp wr P Md St s₂ k₁ k₂ W hst hfp hwr hlive hP => ?_) (hs _)
  have i₁ := i.keeps k₁
  have wrLive : ∀ b ∈ wr, (s₂.heap.get? b).isSome = true := fun b hb => (hfp b (W.sub b hb)).2
  have i₂ : Inv c (wr ++ av) own l s₂ := i₁.more (kp_kept k₂) fun b hb => ⟨hwr b hb, wrLive b hb⟩
  have wr₀ : ∀ b ∈ wr, c.h₀.get? b = none := fun b hb => by
    obtain ⟨m, F⟩ := i₁.fr
    cases e : c.h₀.get? b with
    | none => rfl
    | some o => have := F.keep b o e; rw [hwr b hb] at this; cases this
  refine codeAny_forLoop_any
    (fun k s' => ∃ j own' l' tk h', j ≤ items.length ∧ k = items.length + 1 - j ∧ s' = { s₂ with heap := h', toks := tk } ∧ St j h' ∧ KeptBut (wr ++ own) s₂.heap h' ∧ (∀ b ∈ wr, (h'.get? b).isSome = true) ∧ (∀ a ∈ own', a ∈ own ∨ s₂.heap.get? a = none) ∧ Inv c (wr ++ av) own' l' s' ∧ LOOP c target body orelse Q (items.drop j) l') ?_ (items.length + 1)
    ⟨0, own, l, s₂.toks, s₂.heap, Nat.zero_le _, rfl, rfl, hst, fun _ _ _ e => e, wrLive, fun a q => .inl q, i₂, by simpa using hL⟩
  rintro k s' ⟨j, own', l', tk, h', hj, rfl, rfl, hst', hk', hwl', hnew, i', hL'⟩
  have finish : ∀ fl f l'' own'' (s₃ : Shared), Q fl l'' → RelF (own'' ++ (wr ++ av)) s₃.heap fl f → (∃ h₃ tk₃, s₃ = { s₂ with heap := h₃, toks := tk₃ }) → KeptBut (wr ++ own) s₂.heap s₃.heap → (∀ a ∈ own'', a ∈ own ∨ s₂.heap.get? a = none) → Inv c (wr ++ av) own'' l'' s₃ → R f s₃ := by
    rintro fl f l'' own'' s₃ q rf ⟨h₃, tk₃, rfl⟩ hk hn i₃
    have st : Step own s₁ own'' { s₂ with heap := h₃, toks := tk₃ } := by
      obtain ⟨hh, tt, rfl, kk⟩ := k₂
      refine ⟨⟨h₃, tk₃, rfl⟩, fun b o hb e => hk b o (fun z => ?_) (kk b o e), fun a ha => ?_⟩
      · rcases List.mem_append.mp z with z | z
        · rw [hwr b z] at e; cases e
        · exact hb z
      · rcases hn a ha with z | z
        · exact .inl z
        · refine .inr ?_
          cases e : s₁.heap.get? a with
          | none => rfl
          | some o => have := kk a o e; rw [z] at this; cases this
    refine hR fl f l'' own'' _ q ?_ ((Step.of k₁).trans st) (i₃.av fun a z => List.mem_append_right _ z)
    cases fl with
    | ret d' =>
      simp only [RelF] at rf ⊢
      obtain ⟨v', e, r', f'⟩ := rf
      refine ⟨v', e, Rel.sub (fun a ha => .inl ?_) r', f'⟩
      rcases List.mem_append.mp ha with z | z
      · exact List.mem_append_left _ z
      · exact List.mem_append_right _ (List.mem_append_right _ z)
    | _ => exact rf
  by_cases hlt : j < items.length
  · refine W.item j _ _ _ hlt hst' fun v' h₁ tk₁ hMd hk₁ => ?_
    refine W.go j v' _ _ _ hMd fun h₂ hPv hst₂ hk₂ => ?_
    have hd : items[j]? = some items[j] := List.getElem?_eq_getElem hlt
    have hdrop : items.drop j = items[j] :: items.drop (j + 1) := List.drop_eq_getElem_cons hlt
    rw [hdrop] at hL'
    obtain ⟨l₁, hasg, hbody⟩ := hL'
    have kb : KeptBut wr h' h₂ := fun b o hb e => hk₂ b o hb (hk₁ b o hb e)
    have wl₂ : ∀ b ∈ wr, (h₂.get? b).isSome = true := fun b hb => hlive (j + 1) h₂ hst₂ b (W.sub b hb)
    have dead₁ : ∀ a, s₂.heap.get? a = none → s₁.heap.get? a = none := fun a z => by
      cases e : s₁.heap.get? a with
      | none => rfl
      | some o => have := kp_kept k₂ a o e; rw [z] at this; cases this
    have avLive : ∀ b ∈ av, (h₂.get? b).isSome = true := fun b hb => by
      obtain ⟨o, ho⟩ := Option.isSome_iff_exists.mp (i'.keep b (List.mem_append_right _ hb)).1
      have nb : b ∉ wr := fun z => by
        have := (i₁.keep b hb).1
        rw [hwr b z] at this; cases this
      rw [kb b o nb ho]; rfl
    have i₃ : Inv c (wr ++ av) own' l' { s₂ with heap := h₂, toks := tk₁ } := Inv.butAv (wr := wr) (s := { s₂ with heap := h', toks := tk }) i' (fun b hb => List.mem_append_left _ hb) wr₀ kb (fun b hb => ⟨hb, by
      rcases List.mem_append.mp hb with z | z
      · exact wl₂ b z
      · exact avLive b z⟩)
    have fd : Froz items[j] := fz.get hd
    have hk₂' : KeptBut (wr ++ own) s₂.heap h₂ := fun b o hb e => kb b o (fun z => hb (List.mem_append_left _ z)) (hk' b o hb e)
    have it : ItemAt (own' ++ (wr ++ av)) h₂ h₂ items[j] v' := by
      refine ItemAt.step (mu := own ++ av) (own := wr ++ own) (h₂ := s₁.heap) fd (fun b o hb e => hk₂' b o hb (kp_kept k₂ b o e)) (fun a z => ?_) (fun a z => ?_) (hP j v' h₂ _ hPv hd)
      · rcases List.mem_append.mp z with z | z
        · exact .inr (hwr a z)
        · exact .inl (List.mem_append_left _ z)
      · rcases List.mem_append.mp z with z | z
        · rcases hnew a z with z | z
          · exact .inl (List.mem_append_left _ z)
          · exact .inr (dead₁ a z)
        · rcases List.mem_append.mp z with z | z
          · exact .inr (hwr a z)
          · exact .inl (List.mem_append_right _ z)
    refine hasg (wr ++ av) own' _ v' _ _ i₃ it fd fun s₄ st₄ i₄ => ?_
    refine hbody (wr ++ av) own' s₄ i₄ _ _ fun fl f l₅ own₅ s₅ q rf st₅ i₅ => ?_
    have st := st₄.trans st₅
    obtain ⟨h₅, tk₅, e₅⟩ := st.same
    have hk₅ : KeptBut (wr ++ own) s₂.heap s₅.heap := fun b o hb e => st.kept b o (fun z => by
      rcases hnew b z with z | z
      · exact hb (List.mem_append_right _ z)
      · rw [z] at e; cases e) (hk₂' b o hb e)
    have hn₅ : ∀ a ∈ own₅, a ∈ own ∨ s₂.heap.get? a = none := fun a ha => by
      rcases st.new a ha with z | z
      · exact hnew a z
      · by_cases ho : a ∈ own
        · exact .inl ho
        · refine .inr ?_
          cases e : s₂.heap.get? a with
          | none => rfl
          | some o =>
            by_cases hw' : a ∈ wr
            · have := wl₂ a hw'
              rw [z] at this; cases this
            · have := hk₂' a o (fun y => (List.mem_append.mp y).elim hw' ho) e
              rw [z] at this; cases this
    have again : LOOP c target body orelse Q (items.drop (j + 1)) l₅ → ∃ m, m < items.length + 1 - j ∧ ∃ j own' l' tk h', j ≤ items.length ∧ m = items.length + 1 - j ∧ s₅ = { s₂ with heap := h', toks := tk } ∧ St j h' ∧ KeptBut (wr ++ own) s₂.heap h' ∧ (∀ b ∈ wr, (h'.get? b).isSome = true) ∧ (∀ a ∈ own', a ∈ own ∨ s₂.heap.get? a = none) ∧ Inv c (wr ++ av) own' l' s₅ ∧ LOOP c target body orelse Q (items.drop j) l' := fun hl => by
      refine ⟨items.length + 1 - (j + 1), by omega, j + 1, own₅, l₅, tk₅, h₅, hlt, rfl, e₅, ?_, by rw [e₅] at hk₅; exact hk₅, fun b hb => ?_, hn₅, i₅, hl⟩
      · refine W.frame (j + 1) h₂ h₅ hst₂ fun b hb o e => ?_
        have nb : b ∉ own' := fun z => by
          rcases hnew b z with z | z
          · exact (hfp b hb).1 (List.mem_append_left _ z)
          · have := (hfp b hb).2
            rw [z] at this; cases this
        have := st.kept b o nb e
        rw [e₅] at this; exact this
      · have := (i₅.keep b (List.mem_append_left _ hb)).1
        rw [e₅] at this; exact this
    cases fl with
    | next => simp only [RelF] at rf; subst rf; exact again q
    | cont => simp only [RelF] at rf; subst rf; exact again q
    | brk => simp only [RelF] at rf; subst rf; exact finish .next _ l₅ own₅ s₅ q (by simp only [RelF]) ⟨h₅, tk₅, e₅⟩ hk₅ hn₅ i₅
    | ret dd =>
      have rf' := rf
      simp only [RelF] at rf
      obtain ⟨vv, rfl, _, _⟩ := rf
      exact finish (.ret dd) _ l₅ own₅ s₅ q rf' ⟨h₅, tk₅, e₅⟩ hk₅ hn₅ i₅
  · have hje : j = items.length := by omega
    subst hje
    refine W.done _ _ _ hst' fun h₁ tk₁ hk₁ => ?_
    have i₃ : Inv c av own' l' { s₂ with heap := h₁, toks := tk₁ } := Inv.butAv (wr := wr) (s := { s₂ with heap := h', toks := tk }) i' (fun b hb => List.mem_append_left _ hb) wr₀ hk₁ (fun b hb => ⟨List.mem_append_right _ hb, by
      obtain ⟨o, ho⟩ := Option.isSome_iff_exists.mp (i'.keep b (List.mem_append_right _ hb)).1
      have nb : b ∉ wr := fun z => by
        have := (i₁.keep b hb).1
        rw [hwr b z] at this; cases this
      rw [hk₁ b o nb ho]; rfl⟩)
    rw [List.drop_length] at hL'
    refine hL' av own' _ i₃ _ _ fun fl f l₅ own₅ s₅ q rf st₅ i₅ => ?_
    have st : Step own s₁ own' { s₂ with heap := h₁, toks := tk₁ } := by
      obtain ⟨hh, tt, rfl, kk⟩ := k₂
      refine ⟨⟨h₁, tk₁, rfl⟩, fun b o hb e => ?_, fun a ha => ?_⟩
      · have nb : b ∉ wr := fun z => by rw [hwr b z] at e; cases e
        exact hk₁ b o nb (hk' b o (fun z => (List.mem_append.mp z).elim nb hb) (kk b o e))
      · rcases hnew a ha with z | z
        · exact .inl z
        · refine .inr ?_
          cases e : s₁.heap.get? a with
          | none => rfl
          | some o => have := kk a o e; rw [z] at this; cases this
    exact hR fl f l₅ own₅ s₅ q rf ((Step.of k₁).trans (st.trans st₅)) i₅
end
end Mine
end
section
open PySem PySem.W PySem.Spec PySem.Calls PyProof.Rows
set_option Elab.async false
set_option linter.unusedVariables false
set_option maxRecDepth 100000
namespace Mine
section
variable {c : Cx} {l : Loc} {Q : Fl → Loc → Prop}
theorem letGo_other {prog : Program} {w : World} {A : Around} {E : Value → Shared → Prop} {s : Shared} {target : Expr} {I : Addr} {v : Value} {o : Obj} {n : String} {Q : Unit → Shared → Prop} (ho : s.heap.get? I = some o) (hc : o.cls = .type n)
    (hn : ["enumerate", "zip", "dict_itemiterator", "dict_reverseitemiterator", "odict_iterator", "itertools.zip_longest", "itertools.pairwise"].contains n = false) (h : Q () s) : wpAny (model prog w) A (letOwnedTupleGo target (.ref I) v) Q E s := by
  have main : wpAny (model prog w) A (do
    let (.ref r, .ref a) := (Value.ref I, v) | return
    let o ← load r
    match o.cls, o.data with
    | .type n, .fields vs =>
      if ["enumerate", "zip", "dict_itemiterator", "dict_reverseitemiterator", "odict_iterator", "itertools.zip_longest", "itertools.pairwise"].contains n && vs[0]? == some (rawInt a) then
        rule "for.unpacks-the-owned-tuple"
        updateField r 0 .none
    | _, _ => pure ()) Q E s := by
    cases v with
    | ref a =>
      refine wpAny_bind (wpAny_load ho ?_)
      rw [hc]
      cases hd : o.data with
      | fields vs =>
        show wpAny _ A (if (_ && _) = true then _ else _) Q E s
        rw [if_neg (by rw [hn, Bool.false_and]; exact Bool.false_ne_true)]
        exact wpAny_pure h
      | _ => exact wpAny_pure h
    | _ => exact wpAny_pure h
  cases target <;> first | exact main | exact wpAny_pure h
noncomputable def SRCW (c : Cx) (d : D) (items : List D) : Prop :=
  ∀ mu s v (Q E : Value → Shared → Prop), s.heap.objs.size ∉ mu → (∀ a, a ∈ mu → (s.heap.get? a).isSome = true) → Rel mu s.heap d v →
    (∀ I fp wr P St s₂, Keeps s s₂ → Walks c.prog c.w c.A I fp wr items.length P St → St 0 s₂.heap → (∀ b ∈ fp, b ∉ mu ∧ (s₂.heap.get? b).isSome = true) → (∀ b ∈ wr, s.heap.get? b = none) → (∀ j h, St j h → ∀ b ∈ fp, (h.get? b).isSome = true) →
      (∀ i v d, P i v → items[i]? = some d → Rel mu s.heap d v) → (∀ j h, St j h → ∃ o n, h.get? I = some o ∧ o.cls = .type n ∧ ["enumerate", "zip", "dict_itemiterator", "dict_reverseitemiterator", "odict_iterator", "itertools.zip_longest", "itertools.pairwise"].contains n = false) → Q (.ref I) s₂) →
    wpAny c.M c.A (pyIter v) Q E s
theorem src_w {target : Expr} {d : D} {items : List D} (h : SRCW c d items) : SRC c target d items := by
  intro mu s v Q E hn ha r hQ
  refine h mu s v Q E hn ha r fun I fp wr P St s₂ k W hst hfp hwr hlive hP hgo => ?_
  refine hQ I fp wr _ _ St s₂ k (KTurns.ofWalks (target := target) W fun j v s Q E st q => ?_) hst hfp hwr hlive fun i v h d p e => .inl (hP i v d p e)
  obtain ⟨o, n, ho, hc, hn⟩ := hgo j s.heap st
  exact letGo_other ho hc hn q
theorem dead_size (h : Heap) : h.get? h.objs.size = none := by
  cases e : h.get? h.objs.size with
  | none => rfl
  | some o => exact absurd (Heap.lt_size e) (Nat.lt_irrefl _)
theorem sw_lst {ds : List D} : SRCW c (.lst ds) ds := by
  intro mu s v Q E hn ha r hQ
  simp only [Rel] at r
  obtain ⟨a, vs, rfl, hm, hl, hr⟩ := r
  have hlt : a < s.heap.objs.size := by obtain ⟨o, ho, _⟩ := hl; exact Heap.lt_size ho
  refine wpAny_pyIter_list hl ?_
  have W := Walks.list (prog := c.prog) (w := c.w) (A := c.A) rfl s.heap.objs.size a (Nat.ne_of_lt hlt) vs.toArray
  rw [show vs.toArray.size = ds.length from (List.size_toArray ..).trans hr.length] at W
  refine hQ _ _ _ _ _ _ (kp_push _) W ⟨⟨_, Heap.get?_push_size _ rfl, rfl, rfl⟩, hl.push _⟩ (fun b hb => ?_) (fun b hb => ?_) (fun j h st b hb => ?_) (fun i v d p e => ?_) (fun j h st => ?_)
  · rcases List.mem_cons.mp hb with rfl | hb
    · exact ⟨hn, by rw [Heap.get?_push_size _ rfl]; rfl⟩
    · rw [List.mem_singleton.mp hb]
      obtain ⟨o, ho, _⟩ := hl
      exact ⟨hm, by rw [Heap.get?_push_of_some _ ho]; rfl⟩
  · rw [List.mem_singleton.mp hb]; exact dead_size _
  · obtain ⟨⟨o, ho, _⟩, ⟨o', ho', _⟩⟩ := st
    rcases List.mem_cons.mp hb with rfl | hb
    · rw [ho]; rfl
    · rw [List.mem_singleton.mp hb, ho']; rfl
  · obtain ⟨w, hw, r⟩ := hr.get e
    have : some w = some v := by rw [← hw]; simpa using p
    cases this; exact r
  · obtain ⟨⟨o, ho, hc, _⟩, _⟩ := st
    exact ⟨o, _, ho, hc, by decide⟩
theorem sw_tup {ds : List D} : SRCW c (.tup ds) ds := by
  intro mu s v Q E hn ha r hQ
  simp only [Rel] at r
  obtain ⟨a, vs, rfl, hm, hl, hr⟩ := r
  have hlt : a < s.heap.objs.size := by obtain ⟨o, ho, _⟩ := hl; exact Heap.lt_size ho
  have hl' : s.heap.IsTuple a vs.toArray := hl
  refine wpAny_pyIter_tuple hl' ?_
  have W := Walks.tuple (prog := c.prog) (w := c.w) (A := c.A) rfl s.heap.objs.size a (Nat.ne_of_lt hlt) vs.toArray
  rw [show vs.toArray.size = ds.length from (List.size_toArray ..).trans hr.length] at W
  refine hQ _ _ _ _ _ _ (kp_push _) W ⟨⟨_, Heap.get?_push_size _ rfl, rfl, rfl⟩, hl'.push _⟩ (fun b hb => ?_) (fun b hb => ?_) (fun j h st b hb => ?_) (fun i v d p e => ?_) (fun j h st => ?_)
  · rcases List.mem_cons.mp hb with rfl | hb
    · exact ⟨hn, by rw [Heap.get?_push_size _ rfl]; rfl⟩
    · rw [List.mem_singleton.mp hb]
      obtain ⟨o, ho, _⟩ := hl
      exact ⟨hm, by rw [Heap.get?_push_of_some _ ho]; rfl⟩
  · rw [List.mem_singleton.mp hb]; exact dead_size _
  · obtain ⟨⟨o, ho, _⟩, ⟨o', ho', _⟩⟩ := st
    rcases List.mem_cons.mp hb with rfl | hb
    · rw [ho]; rfl
    · rw [List.mem_singleton.mp hb, ho']; rfl
  · obtain ⟨w, hw, r⟩ := hr.get e
    have : some w = some v := by rw [← hw]; simpa using p
    cases this; exact r
  · obtain ⟨⟨o, ho, hc, _⟩, _⟩ := st
    exact ⟨o, _, ho, hc, by decide⟩
noncomputable def signsOf (x : Str) : List D := x.cps.toList.map fun n => D.str ⟨#[n]⟩
theorem sw_str {x : Str} : SRCW c (.str x) (signsOf x) := by
  intro mu s v Q E hn ha r hQ
  simp only [Rel] at r
  obtain ⟨t, rfl⟩ := r
  have hlen : x.cps.size = (signsOf x).length := by simp [signsOf]
  have items : ∀ i v d, SignAt x i v → (signsOf x)[i]? = some d → Rel mu s.heap d v := fun i v d p e => by
    obtain ⟨n, u, h1, rfl⟩ := p
    have e' : (signsOf x)[i]? = some (.str ⟨#[n]⟩) := by
      unfold signsOf
      rw [List.getElem?_map, Array.getElem?_toList, h1]; rfl
    rw [e'] at e; cases e
    simp only [Rel]; exact ⟨_, rfl⟩
  have fin : ∀ (T : String), ["enumerate", "zip", "dict_itemiterator", "dict_reverseitemiterator", "odict_iterator", "itertools.zip_longest", "itertools.pairwise"].contains T = false →
      Walks c.prog c.w c.A s.heap.objs.size [s.heap.objs.size] [s.heap.objs.size] x.cps.size (SignAt x) (fun i h => h.IsStrIter s.heap.objs.size T x t i) →
      Q (.ref s.heap.objs.size) { s with heap := s.heap.push { cls := .type T, data := .fields #[.str x t, .int 0 0] } } := fun T hT W => by
    rw [hlen] at W
    refine hQ _ _ _ _ _ _ (kp_push _) W ⟨_, Heap.get?_push_size _ rfl, rfl, rfl⟩ (fun b hb => ?_) (fun b hb => ?_) (fun j h st b hb => ?_) items (fun j h st => ?_)
    · rw [List.mem_singleton.mp hb]
      exact ⟨hn, by rw [Heap.get?_push_size _ rfl]; rfl⟩
    · rw [List.mem_singleton.mp hb]; exact dead_size _
    · obtain ⟨o, ho, _⟩ := st
      rw [List.mem_singleton.mp hb, ho]; rfl
    · obtain ⟨o, ho, hc, _⟩ := st
      exact ⟨o, _, ho, hc, hT⟩
  cases ha : x.cps.all (· < 128)
  · exact wpAny_pyIter_wide ha (fin _ (by decide) (Walks.strWide rfl _ x t))
  · exact wpAny_pyIter_ascii ha (fin _ (by decide) (Walks.strAscii rfl _ x t))
noncomputable def bytesOf (b : Array UInt8) : List D := b.toList.map fun n => D.int (n.toNat : Int)
theorem sw_bytes {b : Array UInt8} : SRCW c (.bytes b) (bytesOf b) := by
  intro mu s v Q E hn ha r hQ
  simp only [Rel] at r
  obtain ⟨t, rfl⟩ := r
  have hlen : b.size = (bytesOf b).length := by simp [bytesOf]
  refine KBw.pyIter_bytes ?_
  have W := KBw.walks (prog := c.prog) (w := c.w) (A := c.A) rfl s.heap.objs.size b t
  rw [hlen] at W
  refine hQ _ _ _ _ _ _ (kp_push _) W ⟨_, Heap.get?_push_size _ rfl, rfl, rfl⟩ (fun b hb => ?_) (fun b hb => ?_) (fun j h st b hb => ?_) (fun i v d p e => ?_) (fun j h st => ?_)
  · rw [List.mem_singleton.mp hb]
    exact ⟨hn, by rw [Heap.get?_push_size _ rfl]; rfl⟩
  · rw [List.mem_singleton.mp hb]; exact dead_size _
  · obtain ⟨o, ho, _⟩ := st
    rw [List.mem_singleton.mp hb, ho]; rfl
  · obtain ⟨n, u, h1, rfl⟩ := p
    have e' : (bytesOf b)[i]? = some (.int (n.toNat : Int)) := by
      unfold bytesOf
      rw [List.getElem?_map, Array.getElem?_toList, h1]; rfl
    rw [e'] at e; cases e
    simp only [Rel]; exact ⟨_, rfl⟩
  · obtain ⟨o, ho, hc, _⟩ := st
    exact ⟨o, _, ho, hc, by decide⟩
noncomputable def rngOf (a k : Int) (n : Nat) : List D := (List.range n).map fun (i : Nat) => D.int (a + (i : Int) * k)
theorem sw_rng {a b k : Int} {n : Nat} (hs : Builtin.Range.small a b k = true) (hz : Builtin.Range.rangeSize a b k = n) : SRCW c (.rng a b k) (rngOf a k n) := by
  intro mu s v Q E hn ha r hQ
  simp only [Rel] at r
  obtain ⟨r, t, u, w, rfl, hm, hi⟩ := r
  have hlen : (rngOf a k n).length = n := by simp only [rngOf, List.length_map, List.length_range]
  refine wpAny_pyIter_range hi hs ?_
  have W := Walks.range (prog := c.prog) (w := c.w) (A := c.A) rfl s.heap.objs.size a k (rngOf a k n).length
  refine hQ _ _ _ _ _ _ (kp_push _) W ?_ (fun b hb => ?_) (fun b hb => ?_) (fun j h st b hb => ?_) (fun i v d p e => ?_) (fun j h st => ?_)
  · show Heap.get? _ _ = _
    rw [hz, Heap.get?_push_size _ rfl, hlen]
    simp
  · rw [List.mem_singleton.mp hb]
    exact ⟨hn, by rw [Heap.get?_push_size _ rfl]; rfl⟩
  · rw [List.mem_singleton.mp hb]; exact dead_size _
  · rw [List.mem_singleton.mp hb, show h.get? s.heap.objs.size = some _ from st]; rfl
  · obtain ⟨t', rfl⟩ := p
    unfold rngOf at e
    rw [List.getElem?_map] at e
    cases h1 : (List.range n)[i]? with
    | none => rw [h1] at e; cases e
    | some j =>
      rw [h1] at e
      have hj : j = i := by
        have := List.getElem?_eq_some_iff.mp h1
        obtain ⟨h2, h3⟩ := this
        simpa using h3.symm
      subst hj
      cases e
      simp only [Rel]; exact ⟨_, rfl⟩
  · exact ⟨_, _, st, rfl, by decide⟩
theorem k_range1 {n : Int} : BCALL c (.type "range") [.int n] (.rng 0 n 1) := by
  intro mu s vs Q E hn ha r hQ
  simp only [RelL, Rel] at r
  obtain ⟨_, _, rfl, ⟨t, rfl⟩, rfl⟩ := r
  refine call_range_1 (hQ _ _ ⟨_, _, rfl, fun _ _ e => Heap.get?_push_of_some _ e⟩ ?_)
  simp only [Rel]
  exact ⟨_, _, _, _, rfl, hn, Heap.get?_push_size _ rfl⟩
theorem k_range3 {a b k : Int} (hk : k ≠ 0) (hl : k.natAbs < 1073741824) : BCALL c (.type "range") [.int a, .int b, .int k] (.rng a b k) := by
  intro mu s vs Q E hn ha r hQ
  simp only [RelL, Rel] at r
  obtain ⟨_, _, rfl, ⟨t, rfl⟩, _, _, rfl, ⟨u, rfl⟩, _, _, rfl, ⟨w, rfl⟩, rfl⟩ := r
  refine call_range_3 hk (hQ _ _ ⟨_, _, rfl, fun _ _ e => Heap.get?_push_of_some _ e⟩ ?_) (.inl (PyProof.noPylong_small hl))
  simp only [Rel]
  exact ⟨_, _, _, _, rfl, hn, Heap.get?_push_size _ rfl⟩
end
end Mine
end
section
open PySem PySem.W PySem.Spec PySem.Calls PyProof.Rows
set_option Elab.async false
set_option linter.unusedVariables false
namespace Mine
theorem call_at {c : Cx} {prog : Program} {w : World} {K : Frag} {lv : Nat} {f : Addr} {args : List D} {d : D} (h1 : c.prog = prog) (h2 : c.w = w) (h3 : c.K = K) (C : CALL prog w K lv f args d) : CALL c.prog c.w c.K lv f args d := by rw [h1, h2, h3]; exact C
end Mine
end
section
open PySem PySem.W PySem.Spec PySem.Calls PyProof.Rows
set_option Elab.async false
set_option linter.unusedVariables false
set_option maxRecDepth 100000
namespace Mine
section
variable {c : Cx} {l : Loc} {Q : Fl → Loc → Prop}
theorem Inv.setList {av own : List Addr} {s : Shared} {x : Str} {its its' : List D} {a : Addr} {vs' : List Value} {h' : Heap} {tk : Nat} (i : Inv c av own l s) (hx : get l x = some (.mls its)) (hn : NameIs c.env s.heap x (.ref a)) (ho : a ∈ own) (vs : List Value) (hp : s.heap.PlainList a vs.toArray)
    (hp' : h'.PlainList a vs'.toArray) (hr : RelL (own ++ av) s.heap its' vs') (f : FrozL its') (hs : Heap.SameBut a s.heap h') : Inv c av own (put l x (.mls its')) { s with heap := h', toks := tk } := by
  have alive : (h'.get? a).isSome = true := by obtain ⟨n, e⟩ := hp'; rw [e]; rfl
  obtain ⟨hl1, m₀, hl2⟩ := i.loc
  have hla : c.env.locals ≠ a := fun e => ns_ne_list hl2 hp e.symm
  have cellNe : ∀ b v, s.heap.IsCell b v → b ≠ a := fun b v hc => list_ne_cell hp hc
  have nameOld : ∀ y w, NameIs c.env s.heap y w → NameIs c.env h' y w := fun y w n => by
    rcases n with ⟨q, m₁, hn₁, e⟩ | ⟨q, b, hb, hcb⟩
    · exact .inl ⟨q, m₁, hn₁.sameBut hs hla, e⟩
    · exact .inr ⟨q, b, hb, hcb.sameBut hs (cellNe b _ hcb)⟩
  have back : ∀ y w d, get l y = some d → NameIs c.env h' y w → NameIs c.env s.heap y w := fun y w d e n => by
    obtain ⟨w', n', _, _⟩ := i.val y d e
    have := (nameOld y w' n').agree n
    exact this ▸ n'
  have getx : ∀ y dy, get (put l x (.mls its')) y = some (.mls dy) → ∃ dy', get l y = some (.mls dy') := fun y dy e => by
    rw [get_put] at e
    by_cases hy : y = x
    · exact ⟨its, hy ▸ hx⟩
    · rw [if_neg hy] at e; exact ⟨dy, e⟩
  refine ⟨i.ok, fun b hb => ⟨sameBut_alive hs alive b (i.keep b hb).1, (i.keep b hb).2⟩, ?_, fun b hb => ⟨(i.mine b hb).1, sameBut_alive hs alive b (i.mine b hb).2⟩, ⟨hl1, _, hl2.sameBut hs hla⟩, fun y b h1 h2 => ?_, i.inj, fun y b h => ⟨sameBut_alive hs alive b (i.cel y b h).1, (i.cel y b h).2⟩, i.off, fun y e he => ?_, fun y z dy dz b h1 h2 n1 n2 => ?_⟩
  · obtain ⟨mF, F⟩ := i.fr
    have hLa : c.L ≠ a := fun e => ns_ne_list F.ns hp e.symm
    exact ⟨mF, F.ns.sameBut hs hLa, fun b o e => (hs.2 b fun q => by rw [q, (i.mine a ho).1] at e; cases e).trans (F.keep b o e), F.above⟩
  · obtain ⟨h3, w, h4⟩ := i.cell y b h1 h2
    exact ⟨h3, w, h4.sameBut hs (cellNe b _ h4)⟩
  · rw [get_put] at he
    by_cases hy : y = x
    · subst hy
      rw [if_pos rfl] at he
      cases he
      refine ⟨.ref a, nameOld _ _ hn, ?_, f, a, rfl, ho⟩
      simp only [Rel]
      exact ⟨a, vs', rfl, hp', RelL.but (sameBut_but hs (List.mem_append_left _ ho)) f hr⟩
    · rw [if_neg hy] at he
      obtain ⟨w, n, rw', q⟩ := i.val y e he
      refine ⟨w, nameOld y w n, rel_same hs (List.mem_append_left _ ho) rw' ?_, q⟩
      cases e with
      | mls its₂ =>
        refine ⟨q.1, fun e => ?_⟩
        subst e
        exact hy (i.apart y x its₂ its a he hx n hn)
      | _ => exact q
  · obtain ⟨dy', e1⟩ := getx y dy h1
    obtain ⟨dz', e2⟩ := getx z dz h2
    exact i.apart y z dy' dz' b e1 e2 (back y _ _ e1 n1) (back z _ _ e2 n2)
theorem Inv.theList {av own : List Addr} {s : Shared} {x : Str} {its : List D} (i : Inv c av own l s) (hx : get l x = some (.mls its)) : ∃ a vs, NameIs c.env s.heap x (.ref a) ∧ a ∈ own ∧ s.heap.PlainList a vs.toArray ∧ RelL (own ++ av) s.heap its vs ∧ FrozL its := by
  obtain ⟨v, n, r, f, a, rfl, ho⟩ := i.val x _ hx
  simp only [Rel] at r
  obtain ⟨b, vs, e, hp, hr⟩ := r
  cases e
  exact ⟨a, vs, n, ho, hp, hr, f⟩
theorem evalName {av own : List Addr} {s : Shared} {x : Str} {pos : Pos} {d : D} {R E : Value → Shared → Prop} (i : Inv c av own l s) (h : get l x = some d) (hR : ∀ v, NameIs c.env s.heap x v → Rel (own ++ av) s.heap d v → R v s) (hd : (x == ("__debug__" : Str)) = false := by decide) :
    wpAny c.M c.A (eval (.Name x pos) c.env) R E s := by
  obtain ⟨v, n, r, _⟩ := i.val x d h
  refine wpAny_Name ?_ hd
  have n' := n
  rcases n with ⟨q, m, hn, e⟩ | ⟨q, a, ha, hc⟩
  · exact wpAny_loadName_local i.ok.kind q hn e (hR v n' r)
  · rcases q with q | q
    · exact wpAny_loadName_cell i.ok.kind q ha hc (hR v n' r)
    · exact wpAny_loadName_free i.ok.kind q.1 ha hc (hR v n' r) q.2
theorem st_append {x : Str} {px apos pos ep : Pos} {e : Expr} {its : List D} {d : D} {l' : Loc} (hx : get l x = some (.mls its)) (h : EV c l e d) (f : Froz d) (hlen : its.length ≤ 100000) (hl : put l x (.mls (its ++ [d])) = l') (q : Q .next l')
    (hE : ∀ env, ∃ pl : Sem Bool, eval (.Call (.Attribute (.Name x px) "append" apos) [e] [] pos) env = (do
      let ov ← eval (.Name x px) env
      standAt apos.atName
      let (f, first) ← holding [ov] (getMethod ov "append" pl)
      callWith pos f first (backTo pos (starEach [e] env)) []) := by intro _; exact ⟨_, rfl⟩)
    (he : ∀ env, starEach [e] env = (false, eval e env) :: starEach [] env := by intro _; rfl) (hd : (x == ("__debug__" : Str)) = false := by decide) :
    ST c l (exec (.Expr (.Call (.Attribute (.Name x px) "append" apos) [e] [] pos) ep) c.env) Q := by
  intro av own s i R E hR
  obtain ⟨pl, hE⟩ := hE c.env
  have hint : interactive c.env = false := by unfold interactive; rw [i.ok.kind]; rfl
  refine wpAny_Expr (MethodCall_ (pl := pl) (evalName i hx (fun v n r => ?_) hd) hE) hint
  obtain ⟨a, vs, n', ho, hp, hr, fi⟩ := i.theList hx
  have := n.agree n'
  subst this
  obtain ⟨k, hk⟩ := hp
  refine getMethod_list_append hk rfl rfl ?_
  refine callWith_method1 (spliced_more (h av own s i _ _ fun v s₁ k₁ r₁ => spliced_none ?_) (he _)) (he _) rfl
  have i₁ := i.keeps k₁
  have hp₁ : s₁.heap.PlainList a vs.toArray := ⟨k, kp_kept k₁ _ _ hk⟩
  refine wpAny_list_append_plain hp₁ (fun h' hp' hs => ?_) (by rw [List.size_toArray, hr.length]; exact Nat.le_trans hlen (by decide))
  show R .next _
  have i' := i₁.setList (its' := its ++ [d]) (vs' := vs ++ [v]) (tk := s₁.toks) hx (n'.kept (kp_kept k₁)) ho vs hp₁ (by simpa using hp') (RelL.append (es := [d]) (ws := [v]) (hr.kept (kp_kept k₁)) (by simp only [RelL]; exact ⟨v, [], rfl, r₁, rfl⟩)) (FrozL.append (es := [d]) fi (by simp only [FrozL]; exact ⟨f, trivial⟩)) hs
  refine hR .next _ _ own _ (hl ▸ q) (by simp only [RelF]) ((Step.of k₁).trans ⟨⟨h', s₁.toks, rfl⟩, sameBut_but hs ho, fun a q => .inl q⟩) (hl ▸ i')
theorem st_newlist {x : Str} {px p pos : Pos} {es : List Expr} {ds : List D} {l' : Loc} (hL : c.env.locals = c.L) (hk : c.env.kindOf x = some .local) (h : EVL c l es ds) (hb : ds.length ≤ 1000) (f : FrozL ds) (hl : put l x (.mls ds) = l') (q : Q .next l') :
    ST c l (exec (.Assign [.Name x px] (.List es p) pos) c.env) Q := by
  intro av own s i R E hR
  refine wpAny_Assign_Name (wpAny_List (h av own s i _ _ _ fun vs s₁ k₁ r₁ => ⟨by rw [r₁.length]; exact Nat.le_trans hb (by decide), ?_⟩)) rfl
  have i₁ := i.keeps k₁
  have kp := kp_push (s := s₁) { cls := .type "list", data := .seq vs.toArray }
  have dead := dead_size s₁.heap
  have new := i₁.notOwn
  -- the frame with one address more
  have i₂ : Inv c av (s₁.heap.objs.size :: own) l { s₁ with heap := s₁.heap.push { cls := .type "list", data := .seq vs.toArray } } := by
    have j := i₁.keeps kp
    have hn : c.h₀.get? s₁.heap.objs.size = none := by
      obtain ⟨m, F⟩ := i₁.fr
      cases e : c.h₀.get? s₁.heap.objs.size with
      | none => rfl
      | some o => have := F.keep _ o e; rw [dead] at this; cases this
    refine { j with keep := fun a ha => ⟨(j.keep a ha).1, (j.keep a ha).2.1, fun z => ?_⟩, mine := fun a ha => ?_, loc := ⟨.tail _ j.loc.1, j.loc.2⟩, cell := fun y a h1 h2 => ⟨.tail _ (j.cell y a h1 h2).1, (j.cell y a h1 h2).2⟩, val := fun y d e => ?_ }
    · rcases List.mem_cons.mp z with z | z
      · exact new (z ▸ List.mem_append_right _ ha)
      · exact (j.keep a ha).2.2 z
    · rcases List.mem_cons.mp ha with z | z
      · subst z; exact ⟨hn, by rw [Heap.get?_push_size _ rfl]; rfl⟩
      · exact j.mine a z
    · obtain ⟨v, n, r, q⟩ := i₁.val y d e
      refine ⟨v, n.kept (kp_kept kp), Rel.kept (kp_kept kp) (Rel.sub (fun a ha => ?_) r), ?_⟩
      · rcases List.mem_cons.mp ha with z | z
        · exact .inr (z ▸ dead)
        · exact .inl z
      · cases d with
        | mls its => exact ⟨q.1, let ⟨a, e, h⟩ := q.2; ⟨a, e, .tail _ h⟩⟩
        | _ => exact q
  obtain ⟨hl1, m, hm⟩ := i₂.loc
  refine wpAny_storeName_local hk hm (fun h' hn hs => ?_) (by rw [i.ok.kind]; rfl)
  have r₂ : RelL ((s₁.heap.objs.size :: own) ++ av) (s₁.heap.push { cls := .type "list", data := .seq vs.toArray }) ds vs := RelL.kept (kp_kept kp) (RelL.sub (fun a ha => by
    rcases List.mem_cons.mp ha with z | z
    · exact .inr (z ▸ dead)
    · exact .inl z) r₁)
  have i₃ := i₂.setLocal (x := x) (d := .mls ds) (v := .ref s₁.heap.objs.size) (tk := s₁.toks + 1) hL hk (by simp only [Rel]; exact ⟨_, vs, rfl, ⟨_, Heap.get?_push_size _ rfl⟩, r₂⟩) ⟨f, ⟨_, rfl, .head _⟩, fun y dy e hy n => by
    obtain ⟨v, n', r', _⟩ := i₁.val y _ e
    have := (n'.kept (kp_kept kp)).agree n
    subst this
    simp only [Rel] at r'
    obtain ⟨a, _, e', ⟨k, hp⟩, _⟩ := r'
    cases e'
    rw [dead] at hp; cases hp⟩ hm hn hs
  refine hR .next _ _ (s₁.heap.objs.size :: own) _ (hl ▸ q) (by simp only [RelF]) ((Step.of k₁).trans ?_) (hl ▸ i₃)
  have loc₁ : c.env.locals ∈ own := i₁.loc.1
  exact ⟨⟨h', s₁.toks + 1, rfl⟩, fun b o hb e => (hs.2 b (fun z => hb (z ▸ loc₁))).trans (Heap.get?_push_of_some _ e), fun a ha => by
    rcases List.mem_cons.mp ha with z | z
    · exact .inr (z ▸ dead)
    · exact .inl z⟩
theorem Inv.freeze {av own : List Addr} {s : Shared} {x : Str} {its : List D} (i : Inv c av own l s) (hx : get l x = some (.mls its)) : ∃ own', (∀ a ∈ own', a ∈ own) ∧ Inv c av own' (put l x (.lst its)) s := by
  obtain ⟨a, vs, n, ho, hp, hr, f⟩ := i.theList hx
  have sub : ∀ b ∈ own.filter (fun b => b != a), b ∈ own := fun b hb => (List.mem_filter.mp hb).1
  have subA : ∀ b ∈ own.filter (fun b => b != a) ++ av, b ∈ own ++ av ∨ s.heap.get? b = none := fun b hb => .inl (by
    rcases List.mem_append.mp hb with z | z
    · exact List.mem_append_left _ (sub b z)
    · exact List.mem_append_right _ z)
  have inn : ∀ b ∈ own, b ≠ a → b ∈ own.filter (fun b => b != a) := fun b hb e => List.mem_filter.mpr ⟨hb, by simpa using e⟩
  obtain ⟨hl1, m₀, hl2⟩ := i.loc
  refine ⟨own.filter (fun b => b != a), sub, i.ok, fun b hb => ⟨(i.keep b hb).1, (i.keep b hb).2.1, fun z => (i.keep b hb).2.2 (sub b z)⟩, i.fr, fun b hb => i.mine b (sub b hb), ⟨inn _ hl1 (fun e => ns_ne_list hl2 hp e.symm), m₀, hl2⟩, fun y b h1 h2 => ?_, i.inj, i.cel, i.off, fun y d e => ?_, fun y z dy dz b h1 h2 n1 n2 => ?_⟩
  · obtain ⟨h3, w, h4⟩ := i.cell y b h1 h2
    exact ⟨inn b h3 (list_ne_cell hp h4), w, h4⟩
  · rw [get_put] at e
    by_cases hy : y = x
    · subst hy
      rw [if_pos rfl] at e; cases e
      refine ⟨.ref a, n, ?_, by simp only [Froz]; exact f⟩
      simp only [Rel]
      refine ⟨a, vs, rfl, fun z => ?_, hp.isList, RelL.sub subA hr⟩
      rcases List.mem_append.mp z with z | z
      · have := (List.mem_filter.mp z).2
        simp at this
      · exact (i.keep a z).2.2 ho
    · rw [if_neg hy] at e
      obtain ⟨v, n', r, q⟩ := i.val y d e
      refine ⟨v, n', Rel.sub subA r, ?_⟩
      cases d with
      | mls its₂ =>
        obtain ⟨f₂, b, rfl, hb⟩ := q
        refine ⟨f₂, b, rfl, inn b hb fun z => ?_⟩
        subst z
        exact hy (i.apart y x its₂ its b e hx n' n)
      | _ => exact q
  · rw [get_put] at h1 h2
    by_cases hy : y = x
    · rw [hy, if_pos rfl] at h1; cases h1
    · by_cases hz : z = x
      · rw [hz, if_pos rfl] at h2; cases h2
      · rw [if_neg hy] at h1; rw [if_neg hz] at h2
        exact i.apart y z dy dz b h1 h2 n1 n2
end
end Mine
end
section
open PySem PySem.W PySem.Spec PySem.Calls PyProof.Rows
set_option Elab.async false
set_option linter.unusedVariables false
set_option maxRecDepth 100000
namespace Mine
section
variable {c : Cx} {l : Loc} {Q : Fl → Loc → Prop}
noncomputable def cx (c : Cx) (sc : Scope) (cl : List (Str × Addr)) (C : Addr) : Cx := { c with env := compEnvC sc cl C c.env }
structure CompOk (c : Cx) (sc : Scope) (cl : List (Str × Addr)) (x : Str) : Prop where
  clos : closureFor sc c.env = pure cl
  nocell : ∀ y ∈ sc.names, y.2 ≠ .cell
  kind : sc.kind = .function
  names : ∀ y ∈ sc.names, y.2 = .local → sc.names.lookup y.1 = some .local
  var : sc.names.lookup x = some .local
  sub : ∀ y a, cl.lookup y = some a → c.env.cells.lookup y = some a
structure Sees (c : Cx) (l : Loc) (sc : Scope) (cl : List (Str × Addr)) (lc : Loc) : Prop where
  has : ∀ y d, get lc y = some d → get l y = some d ∧ Froz d ∧ sc.names.lookup y = some .free ∧ (y == ("__classdict__" : Str)) = false ∧ (∃ a, cl.lookup y = some a) ∧ (c.env.kindOf y = some .cell ∨ c.env.kindOf y = some .free)
theorem relabel_lookup {sc : Scope} {env : Env} {y : Str} : ∀ {names : List (Str × NameKind)}, names.lookup y = some .free →
    (names.map fun (n, k) => if (k == NameKind.free && env.scope.kind == .function && env.kindOf n == some .cell) then (n, NameKind.cell) else (n, k)).lookup y = some .free ∨
    (names.map fun (n, k) => if (k == NameKind.free && env.scope.kind == .function && env.kindOf n == some .cell) then (n, NameKind.cell) else (n, k)).lookup y = some .cell
  | [], h => by cases h
  | (n, k) :: r, h => by
    rw [List.lookup_cons] at h
    by_cases hy : (y == n) = true
    · simp only [hy] at h
      cases h
      simp only [List.map_cons]
      by_cases hc : (NameKind.free == NameKind.free && env.scope.kind == .function && env.kindOf n == some .cell) = true
      · rw [if_pos hc, List.lookup_cons, hy]; exact .inr rfl
      · rw [if_neg hc, List.lookup_cons, hy]; exact .inl rfl
    · simp only [hy] at h
      have ih := relabel_lookup (sc := sc) (env := env) (names := r) h
      simp only [List.map_cons]
      by_cases hc : (k == NameKind.free && env.scope.kind == .function && env.kindOf n == some .cell) = true
      · rw [if_pos hc, List.lookup_cons, show (y == n) = false from by simpa using hy]; exact ih
      · rw [if_neg hc, List.lookup_cons, show (y == n) = false from by simpa using hy]; exact ih
theorem relabel_cell {env : Env} {y : Str} : ∀ {names : List (Str × NameKind)}, (∀ q ∈ names, q.2 ≠ .cell) →
    (names.map fun (n, k) => if (k == NameKind.free && env.scope.kind == .function && env.kindOf n == some .cell) then (n, NameKind.cell) else (n, k)).lookup y = some .cell → env.kindOf y = some .cell
  | [], _, h => by cases h
  | (n, k) :: r, hn, h => by
    simp only [List.map_cons] at h
    by_cases hc : (k == NameKind.free && env.scope.kind == .function && env.kindOf n == some .cell) = true
    · rw [if_pos hc, List.lookup_cons] at h
      by_cases hy : (y == n) = true
      · rw [show y = n from eq_of_beq hy]
        have := (Bool.and_eq_true_iff.mp hc).2
        exact eq_of_beq this
      · rw [show (y == n) = false from by simpa using hy] at h
        exact relabel_cell (fun q hq => hn q (.tail _ hq)) h
    · rw [if_neg hc, List.lookup_cons] at h
      by_cases hy : (y == n) = true
      · rw [hy] at h
        exact absurd (Option.some.inj h) (hn (n, k) (.head _))
      · rw [show (y == n) = false from by simpa using hy] at h
        exact relabel_cell (fun q hq => hn q (.tail _ hq)) h
theorem Inv.comp {av own wr : List Addr} {s s₃ : Shared} {sc : Scope} {cl : List (Str × Addr)} {x : Str} {lc : Loc} {C D₀ : Addr} {m : Str → Option Value} {d : D} {v : Value} (i : Inv c av own l s) (k : CompOk c sc cl x) (hs : Sees c l sc cl lc)
    (hx : ∀ e, get lc x ≠ some e) (hC : s.heap.get? C = none) (hD : s.heap.get? D₀ = none) (hCD : C ≠ D₀) (hw : ∀ b ∈ wr, s.heap.get? b = none ∧ b ≠ C ∧ (s₃.heap.get? b).isSome = true) (hn : s₃.heap.Ns C m) (hm : m x = some v) (hDl : (s₃.heap.get? D₀).isSome = true)
    (kp : ∀ b o, s.heap.get? b = some o → s₃.heap.get? b = some o) (r : Rel ((C :: own) ++ (D₀ :: (wr ++ av))) s₃.heap d v) (f : Froz d) (hcC : ∀ y a, c.env.cells.lookup y = some a → (s.heap.get? a).isSome = true) :
    Inv (cx c sc cl C) (D₀ :: (wr ++ av)) (C :: own) ((x, d) :: lc) s₃ := by
  have dead₀ : ∀ b, s.heap.get? b = none → c.h₀.get? b = none := fun b hb => by
    obtain ⟨mF, F⟩ := i.fr
    cases e : c.h₀.get? b with
    | none => rfl
    | some o => have := F.keep b o e; rw [hb] at this; cases this
  have deadK : ∀ b, s.heap.get? b = none → c.K.lookup b = none := fun b hb => by
    cases e : c.K.lookup b with
    | none => rfl
    | some o => have := i.keepK b o e; rw [hb] at this; cases this
  have alive : ∀ b, (s.heap.get? b).isSome = true → (s₃.heap.get? b).isSome = true := fun b hb => by
    obtain ⟨o, ho⟩ := Option.isSome_iff_exists.mp hb
    rw [kp b o ho]; rfl
  have ne : ∀ a b, (s.heap.get? a).isSome = true → s.heap.get? b = none → a ≠ b := fun a b h1 h2 e => by subst e; rw [h2] at h1; cases h1
  have lookupLc : ∀ y e, get ((x, d) :: lc) y = some e → (y = x ∧ e = d) ∨ (y ≠ x ∧ get lc y = some e) := fun y e h => by
    simp only [get] at h
    by_cases q : y = x
    · rw [if_pos q] at h; exact .inl ⟨q, (Option.some.inj h).symm⟩
    · rw [if_neg q] at h; exact .inr ⟨q, h⟩
  have nameX : NameIs (cx c sc cl C).env s₃.heap x v := .inl ⟨lookup_relabel_local k.var, m, hn, hm⟩
  refine ⟨⟨i.ok.below, i.ok.top, i.ok.inK, k.kind, i.ok.fkind, i.ok.frame, i.ok.glob, i.ok.blt, i.ok.roomD, i.ok.roomU⟩, fun a ha => ?_, ?_, fun a ha => ?_, ⟨.head _, m, hn⟩, fun y a h1 h2 => ?_, fun y z a h1 h2 => i.inj y z a (k.sub y a h1) (k.sub z a h2), fun y a h1 => ?_, fun z => ?_, fun y e he => ?_, fun y z dy dz a h1 h2 _ _ => ?_⟩
  · rcases List.mem_cons.mp ha with q | q
    · subst q
      refine ⟨hDl, deadK _ hD, fun z => ?_⟩
      rcases List.mem_cons.mp z with z | z
      · exact hCD z.symm
      · exact ne _ _ (i.mine _ z).2 hD rfl
    · rcases List.mem_append.mp q with q | q
      · refine ⟨(hw a q).2.2, deadK _ (hw a q).1, fun z => ?_⟩
        rcases List.mem_cons.mp z with z | z
        · exact (hw a q).2.1 z
        · exact ne _ _ (i.mine _ z).2 (hw a q).1 rfl
      · refine ⟨alive a (i.keep a q).1, (i.keep a q).2.1, fun z => ?_⟩
        rcases List.mem_cons.mp z with z | z
        · exact ne _ _ (i.keep a q).1 hC z
        · exact (i.keep a q).2.2 z
  · obtain ⟨mF, F⟩ := i.fr
    exact ⟨mF, F.ns.keeps kp, fun b o e => kp b o (F.keep b o e), F.above⟩
  · rcases List.mem_cons.mp ha with q | q
    · subst q
      obtain ⟨o, _, _, ho, _⟩ := hn
      exact ⟨dead₀ _ hC, by rw [ho]; rfl⟩
    · exact ⟨(i.mine a q).1, alive a (i.mine a q).2⟩
  · have hk := relabel_cell k.nocell h1
    obtain ⟨h3, w, h4⟩ := i.cell y a hk (k.sub y a h2)
    exact ⟨.tail _ h3, w, h4.keeps kp⟩
  · have q := i.cel y a (k.sub y a h1)
    refine ⟨alive a q.1, fun z => ?_⟩
    rcases List.mem_cons.mp z with z | z
    · exact ne _ _ q.1 hD z
    · rcases List.mem_append.mp z with z | z
      · exact ne _ _ q.1 (hw a z).1 rfl
      · exact q.2 z
  · rcases List.mem_cons.mp z with z | z
    · obtain ⟨mF, F⟩ := i.fr
      obtain ⟨o, _, _, ho, _⟩ := F.ns
      exact ne c.L _ (by rw [ho]; rfl) hD z
    · rcases List.mem_append.mp z with z | z
      · obtain ⟨mF, F⟩ := i.fr
        obtain ⟨o, _, _, ho, _⟩ := F.ns
        exact ne c.L c.L (by rw [ho]; rfl) (hw _ z).1 rfl
      · exact i.off z
  · rcases lookupLc y e he with ⟨rfl, rfl⟩ | ⟨hy, he'⟩
    · exact ⟨v, nameX, r, by cases e <;> first | exact f | (simp only [Froz] at f)⟩
    · obtain ⟨g1, g2, g3, g4, ⟨a, ga⟩, g5⟩ := hs.has y e he'
      obtain ⟨w, n, rw', q⟩ := i.val y e g1
      have hcell : s.heap.IsCell a (some w) := by
        rcases n with ⟨q, _⟩ | ⟨_, a', ha', hc⟩
        · rcases g5 with g5 | g5 <;> rw [q] at g5 <;> cases g5
        · rw [k.sub y a ga] at ha'; cases ha'; exact hc
      refine ⟨w, .inr ⟨?_, a, ga, hcell.keeps kp⟩, ?_, by cases e <;> first | exact g2 | (simp only [Froz] at g2)⟩
      · rcases relabel_lookup (sc := sc) (env := c.env) g3 with z | z
        · exact .inr ⟨z, g4⟩
        · exact .inl z
      · refine Rel.kept kp (Rel.sub (fun b hb => ?_) rw')
        rcases List.mem_append.mp hb with z | z
        · rcases List.mem_cons.mp z with z | z
          · exact .inr (z ▸ hC)
          · exact .inl (List.mem_append_left _ z)
        · rcases List.mem_cons.mp z with z | z
          · exact .inr (z ▸ hD)
          · rcases List.mem_append.mp z with z | z
            · exact .inr (hw b z).1
            · exact .inl (List.mem_append_right _ z)
  · rcases lookupLc y _ h1 with ⟨_, e⟩ | ⟨_, e⟩
    · subst e; simp only [Froz] at f
    · have := (hs.has y _ e).2.1
      simp only [Froz] at this
end
end Mine
end
section
open PySem PySem.W PySem.Spec PySem.Calls PyProof.Rows
set_option Elab.async false
set_option linter.unusedVariables false
set_option maxRecDepth 100000
namespace Mine
section
variable {c : Cx} {l : Loc} {Q : Fl → Loc → Prop}
inductive Tests (c : Cx) (l : Loc) : List Expr → Bool → Prop
  | nil : Tests c l [] true
  | one {e : Expr} {b : Bool} : TR c l e b → Tests c l [e] b
theorem Tests.wp {ifs : List Expr} {b : Bool} (t : Tests c l ifs b) {av own : List Addr} {s : Shared} (i : Inv c av own l s) {R : Bool → Shared → Prop} {E : Value → Shared → Prop} (h : ∀ s', Keeps s s' → R b s') :
    wpAny c.M c.A (forIn ifs true fun e r => if r = true then do let ok ← isTrue e c.env (eval e c.env); pure (ForInStep.yield ok) else pure (ForInStep.yield r)) R E s := by
  cases t with
  | nil => exact wpAny_tests_nil (h s kp_rfl)
  | one q => exact wpAny_tests_one (q av own s i _ _ h)
theorem comp_block {av own fp wr : List Addr} {s₁ s₂ : Shared} {sc : Scope} {cl : List (Str × Addr)} {x : Str} {px pos : Pos} {lc : Loc} {elt iter : Expr} {ifs : List Expr} {items : List D} {I : Addr} {P : Nat → Value → Prop} {St : Nat → Heap → Prop} (p : D → Bool) (f : D → D) {RR : Value → Addr → Result → Shared → Prop} {E : Value → Shared → Prop}
    (i₁ : Inv c av own l s₁) (k : CompOk c sc cl x) (hs : Sees c l sc cl lc) (hx : ∀ e, get lc x ≠ some e)
    (k₂ : Keeps s₁ s₂) (W : Walks c.prog c.w c.A I fp wr items.length P St) (hst : St 0 s₂.heap) (hfp : ∀ b ∈ fp, b ∉ own ++ av ∧ (s₂.heap.get? b).isSome = true) (hwr : ∀ b ∈ wr, s₁.heap.get? b = none) (hlive : ∀ j h, St j h → ∀ b ∈ fp, (h.get? b).isSome = true)
    (hP : ∀ i v d, P i v → items[i]? = some d → Rel (own ++ av) s₁.heap d v) (fz : FrozL items) (hsz : items.length ≤ 100000)
    (ht : ∀ C, ∀ d ∈ items, Tests (cx c sc cl C) ((x, d) :: lc) ifs (p d)) (he : ∀ C, ∀ d ∈ items, p d = true → EV (cx c sc cl C) ((x, d) :: lc) elt (f d)) (hf : ∀ d ∈ items, p d = true → Froz (f d))
    (hR : ∀ D₀ C h' tk m' ys, s₂.heap.get? D₀ = none → s₂.heap.get? C = none → D₀ ≠ C → h'.Ns C m' → h'.PlainList D₀ ys.toArray → RelL ((C :: own) ++ (D₀ :: (wr ++ av))) h' ((items.filter p).map f) ys → (∀ b o, b ∉ wr → s₂.heap.get? b = some o → h'.get? b = some o) → RR (.ref D₀) C (.ok .next) { s₂ with heap := h', toks := tk }) :
    wpAny c.M c.A (newList []) (fun acc s₃ => wpAny c.M c.A (newFunctionEnv sc c.env.globals cl [] c.env.qual none .none (some c.env)) (fun cenv s₄ =>
      codeAny c.M c.A (.compStart (.ListComp elt [⟨.Name x px, iter, ifs, 0⟩] sc pos) 0 (.ref I) acc { cenv with scope := relabel sc c.env }) (RR acc cenv.locals) s₄) E s₃) E s₂ := by
  refine wpAny_newObj_type (wpAny_newFunctionEnv k.nocell (by intro y hy; simp at hy) (fun h₁ hns₁ hsb₁ => ?_) k.kind)
  dsimp only at hns₁ hsb₁ ⊢
  generalize hH2 : s₂.heap.push { cls := .type "list", dict := none, data := .seq ([] : List Value).toArray } = H2 at hns₁ hsb₁ ⊢
  generalize hDD : s₂.heap.objs.size = D₀ at *
  have hC : H2.objs.size = D₀ + 1 := by rw [← hH2, Heap.size_push, hDD]
  generalize hCC : H2.objs.size = C at *
  have hDC : D₀ ≠ C := by rw [hC]; exact Nat.ne_of_lt (Nat.lt_succ_self _)
  have deadD : s₂.heap.get? D₀ = none := hDD ▸ dead_size _
  have deadC : s₂.heap.get? C = none := by
    cases e : s₂.heap.get? C with
    | none => rfl
    | some o =>
      have := Heap.lt_size e
      rw [hDD, hC] at this
      exact absurd (Nat.lt_of_succ_lt this) (Nat.lt_irrefl _)
  have kk₂ := kp_kept k₂
  have dead₁ : ∀ a, s₂.heap.get? a = none → s₁.heap.get? a = none := fun a z => by
    cases e : s₁.heap.get? a with
    | none => rfl
    | some o => have := kk₂ a o e; rw [z] at this; cases this
  have ne₂ : ∀ a b, (s₂.heap.get? a).isSome = true → s₂.heap.get? b = none → a ≠ b := fun a b h1 h2 e => by subst e; rw [h2] at h1; cases h1
  have wrLive : ∀ b ∈ wr, (s₂.heap.get? b).isSome = true := fun b hb => (hfp b (W.sub b hb)).2
  have old : ∀ b o, s₂.heap.get? b = some o → h₁.get? b = some o := fun b o e => by
    have hb : b ≠ C := ne₂ b C (by rw [e]; rfl) deadC
    exact hsb₁.extBut b o hb (Heap.get?_push_of_some _ (hH2 ▸ Heap.get?_push_of_some _ e))
  have hacc : h₁.PlainList D₀ #[] := ⟨_, hsb₁.extBut _ _ hDC (Heap.get?_push_of_some _ (hH2 ▸ (hDD ▸ Heap.get?_push_size _ rfl)))⟩
  have hst₁ : St 0 h₁ := W.frame _ _ _ hst fun b _ o e => old b o e
  have muD : ∀ b ∈ (C :: own) ++ (D₀ :: (wr ++ av)), b ∈ own ++ av ∨ s₁.heap.get? b = none := fun b hb => by
    rcases List.mem_append.mp hb with z | z
    · rcases List.mem_cons.mp z with z | z
      · exact .inr (z ▸ dead₁ _ deadC)
      · exact .inl (List.mem_append_left _ z)
    · rcases List.mem_cons.mp z with z | z
      · exact .inr (z ▸ dead₁ _ deadD)
      · rcases List.mem_append.mp z with z | z
        · exact .inr (hwr b z)
        · exact .inl (List.mem_append_right _ z)
  have loop : ∀ s₃ : Shared, s₃ = { s₂ with heap := h₁, toks := s₂.toks + ([] : List (Str × Value)).length } →
      codeAny c.M c.A (.compLoop (.ListComp elt [⟨.Name x px, iter, ifs, 0⟩] sc pos) 0 (.ref I) (.ref D₀) (compEnvC sc cl C c.env)) (RR (.ref D₀) C) s₃ := by
    rintro s₃ rfl
    refine codeAny_compLoop_tests
      (fun n s' => ∃ j tk h' m' ys, j ≤ items.length ∧ n = items.length + 1 - j ∧ s' = { s₂ with heap := h', toks := tk } ∧ St j h' ∧ h'.PlainList D₀ ys.toArray ∧ h'.Ns C m' ∧ RelL ((C :: own) ++ (D₀ :: (wr ++ av))) h' (((items.take j).filter p).map f) ys ∧ (∀ b o, b ∉ wr → s₂.heap.get? b = some o → h'.get? b = some o)) ?_ (items.length + 1)
      ⟨0, _, h₁, _, [], Nat.zero_le _, rfl, rfl, hst₁, hacc, hns₁, by simp only [List.take_zero, List.filter_nil, List.map_nil, RelL], fun b o _ e => old b o e⟩
    rintro n s' ⟨j, tk, h', m', ys, hj, rfl, rfl, hst', hacc', hn', hr', hk'⟩
    have fzr : FrozL (((items.take j).filter p).map f) := FrozL.of fun d hd => by
      obtain ⟨e, he, rfl⟩ := List.mem_map.mp hd
      obtain ⟨h1, h2⟩ := List.mem_filter.mp he
      exact hf e (List.mem_of_mem_take h1) h2
    have wrMu : ∀ b ∈ wr, b ∈ (C :: own) ++ (D₀ :: (wr ++ av)) := fun b hb => List.mem_append_right _ (.tail _ (List.mem_append_left _ hb))
    have hCw : C ∉ wr := fun q => ne₂ C C (wrLive C q) deadC rfl
    have hDw : D₀ ∉ wr := fun q => ne₂ D₀ D₀ (wrLive D₀ q) deadD rfl
    by_cases hlt : j < items.length
    · have hd : items[j]? = some items[j] := List.getElem?_eq_getElem hlt
      have hmem : items[j] ∈ items := List.getElem_mem hlt
      refine W.item j _ _ _ hlt hst' fun v h₂ tk₂ hPv hst₂ hk₂ => ?_
      refine wpAny_assign_Name (wpAny_storeName_local (lookup_relabel_local k.var) (hn'.at' fun o e => hk₂ _ o hCw e) (fun h₃ hn₃ hs₃ => ?_) (by simp [compEnvC, relabel, k.kind]))
      have hst₃ : St (j + 1) h₃ := W.frame _ _ _ hst₂ fun b hb o e => hs₃.extBut b o (fun z => ne₂ b C (hfp b hb).2 deadC z) e
      have up : ∀ b o, b ∉ wr → s₂.heap.get? b = some o → h₃.get? b = some o := fun b o hb e => hs₃.extBut b o (ne₂ b C (by rw [e]; rfl) deadC) (hk₂ b o hb (hk' b o hb e))
      have up₁ : ∀ b o, s₁.heap.get? b = some o → h₃.get? b = some o := fun b o e => up b o (fun q => by rw [hwr b q] at e; cases e) (kk₂ b o e)
      have hacc₃ : h₃.PlainList D₀ ys.toArray := hacc'.at fun o e => hs₃.extBut _ o hDC (hk₂ _ o hDw e)
      have hr₃ : RelL ((C :: own) ++ (D₀ :: (wr ++ av))) h₃ (((items.take j).filter p).map f) ys := by
        refine RelL.but (fun b o hb e => ?_) fzr hr'
        exact hs₃.extBut b o (fun z => hb (List.mem_append_left _ (z ▸ .head _))) (hk₂ b o (fun z => hb (wrMu b z)) e)
      have rd : Rel ((C :: own) ++ (D₀ :: (wr ++ av))) h₃ items[j] v := Rel.step (own := wr) (h := s₁.heap) (fun b o hb e => up₁ b o e) (fun a z => .inr (hwr a z)) muD (fz.get hd) (hP j v _ hPv hd)
      have i₃ : Inv (cx c sc cl C) (D₀ :: (wr ++ av)) (C :: own) ((x, items[j]) :: lc) { s₂ with heap := h₃, toks := tk₂ + 1 } := by
        refine Inv.comp (s := s₁) (m := fun z => if z = x then some v else m' z) i₁ k hs hx (dead₁ _ deadC) (dead₁ _ deadD) (Ne.symm hDC) (fun b hb => ⟨hwr b hb, fun z => hCw (z ▸ hb), hlive _ _ hst₃ b (W.sub b hb)⟩) hn₃ (by rw [if_pos rfl]) ?_ up₁ rd (fz.get hd) (fun y a e => (i₁.cel y a e).1)
        obtain ⟨n, e⟩ := hacc₃
        rw [show ({ s₂ with heap := h₃, toks := tk₂ + 1 } : Shared).heap.get? D₀ = some _ from e]; rfl
      refine Tests.wp (c := cx c sc cl C) (ht C _ hmem) i₃ fun s₄ k₄ => ?_
      have i₄ := i₃.keeps k₄
      obtain ⟨h₄, tk₄, rfl, kk₄⟩ := k₄
      have hst₄ : St (j + 1) h₄ := W.frame _ _ _ hst₃ fun b _ o e => kk₄ b o e
      have htake : (items.take (j + 1)).filter p = (items.take j).filter p ++ (if p items[j] then [items[j]] else []) := take_succ_filter p items j _ hd
      cases hp : p items[j] with
      | false =>
        simp only [Bool.false_eq_true, if_false]
        refine ⟨items.length + 1 - (j + 1), by omega, j + 1, tk₄, h₄, (fun z => if z = x then some v else m' z), ys, hlt, rfl, rfl, hst₄, hacc₃.at fun o e => kk₄ _ o e, hn₃.keeps kk₄, ?_, fun b o hb e => kk₄ b o (up b o hb e)⟩
        rw [htake, hp]
        simpa using hr₃.kept kk₄
      | true =>
        simp only [if_true]
        refine he C _ hmem hp _ _ _ i₄ _ _ fun y s₅ k₅ r₅ => ?_
        obtain ⟨h₅, tk₅, rfl, kk₅⟩ := k₅
        have hacc₅ : h₅.PlainList D₀ ys.toArray := hacc₃.at fun o e => kk₅ _ o (kk₄ _ o e)
        refine wpAny_list_append_plain hacc₅ (fun h₆ hp₆ hs₆ => ?_) ?_
        · refine ⟨items.length + 1 - (j + 1), by omega, j + 1, tk₅, h₆, (fun z => if z = x then some v else m' z), ys ++ [y], hlt, rfl, rfl, ?_, by simpa using hp₆, ?_, ?_, fun b o hb e => ?_⟩
          · refine W.frame _ _ _ hst₄ fun b hb o e => ?_
            exact hs₆.extBut b o (fun z => ne₂ b D₀ (hfp b hb).2 deadD z) (kk₅ b o e)
          · exact ((hn₃.keeps kk₄).keeps kk₅).sameBut hs₆ (Ne.symm hDC)
          · rw [htake, hp]
            simp only [if_true, List.map_append, List.map_cons, List.map_nil]
            have kb : KeptBut ((C :: own) ++ (D₀ :: (wr ++ av))) h₅ h₆ := sameBut_but hs₆ (List.mem_append_right _ (.head _))
            refine RelL.append (es := [f items[j]]) (ws := [y]) (RelL.but kb fzr ((hr₃.kept kk₄).kept kk₅)) ?_
            simp only [RelL]
            exact ⟨y, [], rfl, Rel.but kb (hf _ hmem hp) r₅, rfl⟩
          · exact hs₆.extBut b o (ne₂ b D₀ (by rw [e]; rfl) deadD) (kk₅ b o (kk₄ b o (up b o hb e)))
        · rw [List.size_toArray, hr₃.length, List.length_map]
          refine Nat.le_trans (List.length_filter_le _ _) (Nat.le_trans (List.length_take_le _ _) (Nat.le_trans (Nat.le_of_lt hlt) (Nat.le_trans hsz (by decide))))
    · have hje : j = items.length := by omega
      subst hje
      rw [List.take_length] at hr'
      refine W.done _ _ _ hst' fun h₂ tk₂ hk₂ => ?_
      refine hR D₀ C h₂ tk₂ m' ys deadD deadC hDC (hn'.at' fun o e => hk₂ _ o hCw e) (hacc'.at fun o e => hk₂ _ o hDw e) (RelL.but (fun b o hb e => hk₂ b o (fun z => hb (wrMu b z)) e) (by rw [List.take_length] at fzr; exact fzr) hr') fun b o hb e => hk₂ b o hb (hk' b o hb e)
  exact codeAny_compStart_list (loop _ rfl) (W.self 0 _ _ _ hst₁ (loop _ rfl))
end
end Mine
end
section
open PySem PySem.W PySem.Spec PySem.Calls PyProof.Rows
set_option Elab.async false
set_option linter.unusedVariables false
set_option maxRecDepth 100000
namespace Mine
section
variable {c : Cx} {l : Loc} {Q : Fl → Loc → Prop}
noncomputable def ITERW (c : Cx) (l : Loc) (iter : Expr) (items : List D) : Prop :=
  ∀ av own s, Inv c av own l s → ∀ (Q E : Value → Shared → Prop),
    (∀ s₁ I fp wr P St s₂, Keeps s s₁ → Keeps s₁ s₂ → Walks c.prog c.w c.A I fp wr items.length P St → St 0 s₂.heap → (∀ b ∈ fp, b ∉ own ++ av ∧ (s₂.heap.get? b).isSome = true) → (∀ b ∈ wr, s₁.heap.get? b = none) → (∀ j h, St j h → ∀ b ∈ fp, (h.get? b).isSome = true) →
      (∀ i v d, P i v → items[i]? = some d → Rel (own ++ av) s₁.heap d v) → Q (.ref I) s₂) → wpAny c.M c.A (eval iter c.env) (fun v s₁ => wpAny c.M c.A (pyIter v) Q E s₁) E s
theorem itw_ev {iter : Expr} {d : D} {items : List D} (h : EV c l iter d) (hsrc : SRCW c d items) : ITERW c l iter items := by
  intro av own s i Q E hQ
  refine h av own s i _ _ fun v s₁ k₁ r₁ => ?_
  have i₁ := i.keeps k₁
  exact hsrc (own ++ av) s₁ v _ _ i₁.notOwn i₁.alive r₁ fun I fp wr P St s₂ k₂ W hst hfp hwr hlive hP _ => hQ s₁ I fp wr P St s₂ k₁ k₂ W hst hfp hwr hlive hP
theorem ev_comp {sc : Scope} {cl : List (Str × Addr)} {x : Str} {px pos : Pos} {lc : Loc} {elt iter : Expr} {ifs : List Expr} {items : List D} (p : D → Bool) (f : D → D) (k : CompOk c sc cl x) (hs : Sees c l sc cl lc) (hx : ∀ e, get lc x ≠ some e)
    (hit : ITERW c l iter items) (fz : FrozL items) (hsz : items.length ≤ 100000) (ht : ∀ C, ∀ d ∈ items, Tests (cx c sc cl C) ((x, d) :: lc) ifs (p d)) (he : ∀ C, ∀ d ∈ items, p d = true → EV (cx c sc cl C) ((x, d) :: lc) elt (f d)) (hf : ∀ d ∈ items, p d = true → Froz (f d))
    (hfs : ∀ env x, foldedSetIterable iter env x = pure x := by intro _ _; rfl) :
    EV c l (.ListComp elt [⟨.Name x px, iter, ifs, 0⟩] sc pos) (.lst ((items.filter p).map f)) := by
  intro av own s i Q E hQ
  rw [eval_ListComp]
  refine wpAny_comprehension_free (use := none) rfl (hfs _) k.clos k.kind k.names (hit av own s i _ _ fun s₁ I fp wr P St s₂ k₁ k₂ W hst hfp hwr hlive hP => ?_)
  have i₁ := i.keeps k₁
  refine comp_block (RR := fun acc C => compPost c.M c.A E none Q acc C) p f i₁ k hs hx k₂ W hst hfp hwr hlive hP fz hsz ht he hf ?_
  intro D₀ C h' tk m' ys hD hC hDC hn hl hr hk
  refine ⟨m', hn, fun h'' hs'' => ?_⟩
  have dead₁ : ∀ a, s₂.heap.get? a = none → s₁.heap.get? a = none := fun a z => by
    cases e : s₁.heap.get? a with
    | none => rfl
    | some o => have := kp_kept k₂ a o e; rw [z] at this; cases this
  have kp : Keeps s₁ { s₂ with heap := h'', toks := tk } := by
    obtain ⟨hh, tt, rfl, kk⟩ := k₂
    refine ⟨h'', tk, rfl, fun b o e => ?_⟩
    exact hs''.extBut b o (fun z => by rw [z, dead₁ _ hC] at e; cases e) (hk b o (fun z => by rw [hwr b z] at e; cases e) (kk b o e))
  refine hQ _ _ (kp_trans k₁ kp) ?_
  simp only [Rel]
  refine ⟨D₀, ys, rfl, fun z => ?_, (hl.at fun o e => hs''.extBut _ o hDC e).isList, ?_⟩
  · have := i₁.alive D₀ z
    rw [dead₁ _ hD] at this; cases this
  · refine RelL.sub (fun a ha => .inl ?_) (RelL.but (sameBut_but hs'' (List.mem_append_left _ (.head _))) (FrozL.of fun d hd => ?_) hr)
    · rcases List.mem_append.mp ha with z | z
      · exact List.mem_append_left _ (.tail _ z)
      · exact List.mem_append_right _ (.tail _ (List.mem_append_right _ z))
    · obtain ⟨e, he', rfl⟩ := List.mem_map.mp hd
      obtain ⟨h1, h2⟩ := List.mem_filter.mp he'
      exact hf e h1 h2
theorem st_comp {sc : Scope} {cl : List (Str × Addr)} {x y : Str} {px py pos spos : Pos} {lc : Loc} {elt iter : Expr} {ifs : List Expr} {items : List D} {l' : Loc} (p : D → Bool) (f : D → D) (hsw : swapsWith (.ListComp elt [⟨.Name x px, iter, ifs, 0⟩] sc pos) (some (.Name y py)) spos.line c.env = pure true)
    (hL : c.env.locals = c.L) (hy : c.env.kindOf y = some .local) (k : CompOk c sc cl x) (hs : Sees c l sc cl lc) (hx : ∀ e, get lc x ≠ some e)
    (hit : ITERW c l iter items) (fz : FrozL items) (hsz : items.length ≤ 100000) (ht : ∀ C, ∀ d ∈ items, Tests (cx c sc cl C) ((x, d) :: lc) ifs (p d)) (he : ∀ C, ∀ d ∈ items, p d = true → EV (cx c sc cl C) ((x, d) :: lc) elt (f d)) (hf : ∀ d ∈ items, p d = true → Froz (f d))
    (hl : put l y (.lst ((items.filter p).map f)) = l') (q : Q .next l') (hfs : ∀ env x, foldedSetIterable iter env x = pure x := by intro _ _; rfl) :
    ST c l (exec (.Assign [.Name y py] (.ListComp elt [⟨.Name x px, iter, ifs, 0⟩] sc pos) spos) c.env) Q := by
  intro av own s i R E hR
  rw [exec_Assign_Name_used _ _ _ _ hsw]
  refine wpAny_bind (wpAny_standAt (wpAny_bind ?_))
  show wpAny _ c.A (do let _ ← comprehension (.ListComp elt [⟨.Name x px, iter, ifs, 0⟩] sc pos) sc c.env _ (newList []) false (eval iter c.env) (some (assign (.Name y py) c.env))) _ _ s
  refine wpAny_bind (wpAny_mono (wpAny_comprehension_free (use := some (assign (.Name y py) c.env)) (Q := fun _ s' => R .next s') rfl (hfs _) k.clos k.kind k.names
    (hit av own s i _ _ fun s₁ I fp wr P St s₂ k₁ k₂ W hst hfp hwr hlive hP => ?_)) (fun _ s' hq => wpAny_pure (wpAny_pure hq)) fun _ _ e => e)
  have i₁ := i.keeps k₁
  refine comp_block (RR := fun acc C => compPost c.M c.A E (some (assign (.Name y py) c.env)) (fun _ s' => R .next s') acc C) p f i₁ k hs hx k₂ W hst hfp hwr hlive hP fz hsz ht he hf ?_
  intro D₀ C h' tk m' ys hD hC hDC hn hl' hr hk
  have dead₁ : ∀ a, s₂.heap.get? a = none → s₁.heap.get? a = none := fun a z => by
    cases e : s₁.heap.get? a with
    | none => rfl
    | some o => have := kp_kept k₂ a o e; rw [z] at this; cases this
  have fzr : FrozL ((items.filter p).map f) := FrozL.of fun d hd => by
    obtain ⟨e, he', rfl⟩ := List.mem_map.mp hd
    obtain ⟨h1, h2⟩ := List.mem_filter.mp he'
    exact hf e h1 h2
  have kp : Keeps s₁ { s₂ with heap := h', toks := tk } := by
    obtain ⟨hh, tt, rfl, kk⟩ := k₂
    exact ⟨h', tk, rfl, fun b o e => hk b o (fun z => by rw [hwr b z] at e; cases e) (kk b o e)⟩
  -- the comprehension's names lie apart
  have i₃ : Inv c ([C] ++ av) own l { s₂ with heap := h', toks := tk } := i₁.more (kp_kept kp) fun b hb => by
    rw [List.mem_singleton.mp hb]
    obtain ⟨o, _, _, ho, _⟩ := hn
    exact ⟨dead₁ _ hC, by rw [show ({ s₂ with heap := h', toks := tk } : Shared).heap.get? C = some o from ho]; rfl⟩
  show wpAny c.M c.A (assign (.Name y py) c.env (.ref D₀)) _ _ _
  have r₃ : Rel (own ++ ([C] ++ av)) h' (.lst ((items.filter p).map f)) (.ref D₀) := by
    simp only [Rel]
    refine ⟨D₀, ys, rfl, fun z => ?_, hl'.isList, RelL.sub (fun a ha => .inl ?_) hr⟩
    · rcases List.mem_append.mp z with z | z
      · have := i₁.alive D₀ (List.mem_append_left _ z)
        rw [dead₁ _ hD] at this; cases this
      · rcases List.mem_append.mp z with z | z
        · exact hDC (List.mem_singleton.mp z)
        · have := i₁.alive D₀ (List.mem_append_right _ z)
          rw [dead₁ _ hD] at this; cases this
    · rcases List.mem_append.mp ha with z | z
      · exact List.mem_append_left _ (.tail _ z)
      · rcases List.mem_append.mp z with z | z
        · rw [List.mem_singleton.mp z]; exact List.mem_append_left _ (.head _)
        · exact List.mem_append_right _ (.tail _ (List.mem_append_right _ z))
  refine wpAny_assign_Name (storeL i₃ hL hy r₃ (by simpa only [Froz] using fzr) fun s₄ st₄ i₄ => ?_)
  have hC₀ : c.h₀.get? C = none := by
    obtain ⟨m, F⟩ := i₁.fr
    cases e : c.h₀.get? C with
    | none => rfl
    | some o => have := F.keep _ o e; rw [dead₁ _ hC] at this; cases this
  have hCo : C ∉ own := fun z => by
    have := i₁.alive C (List.mem_append_left _ z)
    rw [dead₁ _ hC] at this; cases this
  have ns₄ : s₄.heap.Ns C m' := by
    refine hn.at' fun o e => ?_
    exact st₄.kept C o hCo e
  refine ⟨m', ns₄, fun h₅ hs₅ => ?_⟩
  obtain ⟨hh₄, tt₄, rfl⟩ := st₄.same
  have i₅ : Inv c av own (put l y (.lst ((items.filter p).map f))) { s₂ with heap := h₅, toks := tt₄ } := by
    refine Inv.butAv (wr := [C]) (s := { s₂ with heap := hh₄, toks := tt₄ }) i₄ (fun b hb => List.mem_append_left _ hb) (fun b hb => by rw [List.mem_singleton.mp hb]; exact hC₀) (fun b o hb e => hs₅.extBut b o (fun z => hb (z ▸ .head _)) e) (fun b hb => ⟨List.mem_append_right _ hb, ?_⟩)
    obtain ⟨o, ho⟩ := Option.isSome_iff_exists.mp (i₄.keep b (List.mem_append_right _ hb)).1
    have nb : b ≠ C := fun z => by
      have := i₁.alive b (List.mem_append_right _ hb)
      rw [z, dead₁ _ hC] at this; cases this
    rw [hs₅.extBut b o nb ho]; rfl
  have st₅ : Step own s₁ own { s₂ with heap := h₅, toks := tt₄ } := by
    have st := (Step.of (own := own) kp).trans st₄
    refine ⟨?_, fun b o hb e => hs₅.extBut b o (fun z => by rw [z, dead₁ _ hC] at e; cases e) (st.kept b o hb e), fun a ha => .inl ha⟩
    obtain ⟨hh, tt, e2⟩ := st.same
    obtain ⟨h3, t3, e3, _⟩ := k₂
    exact ⟨h₅, tt₄, by rw [e3]⟩
  exact hR .next _ _ own _ (hl ▸ q) (by simp only [RelF]) ((Step.of k₁).trans st₅) (hl ▸ i₅)
end
end Mine
end
section
open PySem PySem.W PySem.Spec PySem.Calls PyProof.Rows
set_option Elab.async false
set_option linter.unusedVariables false
set_option maxRecDepth 100000
namespace Mine
section
variable {c : Cx} {l : Loc} {Q : Fl → Loc → Prop}
theorem st_while {t : Expr} {body orelse : List Stmt} {pos : Pos} (I : Nat → Loc → Prop) (n : Nat) (h0 : I n l)
    (step : ∀ n l, I n l → ∃ b, TR c l t b ∧ (b = false → ST c l (execs orelse c.env) Q) ∧
      (b = true → ST c l (execs body c.env) (fun fl l' => match fl with | .next => ∃ m, m < n ∧ I m l' | .cont => ∃ m, m < n ∧ I m l' | .brk => Q .next l' | .ret v => Q (.ret v) l'))) :
    ST c l (exec (.While t body orelse pos) c.env) Q := by
  intro av own s i R E hR
  refine wpAny_While ?_
  refine codeAny_whileLoop (fun k s' => ∃ l' own', I k l' ∧ Step own s own' s' ∧ Inv c av own' l' s') (fun k s' hI => ?_) n ⟨l, own, h0, Step.of kp_rfl, i⟩
  obtain ⟨l', own', hI, st, i'⟩ := hI
  obtain ⟨b, ht, hf, hb⟩ := step k l' hI
  refine ht av own' s' i' _ _ fun s₁ k₁ => ?_
  have i₁ := i'.keeps k₁
  have st₁ := st.trans (Step.of k₁)
  cases b with
  | false => exact hf rfl av own' s₁ i₁ _ _ fun fl f l'' own'' s'' q r st₂ i₂ => hR fl f l'' own'' s'' q r (st₁.trans st₂) i₂
  | true =>
    refine hb rfl av own' s₁ i₁ _ _ fun fl f l'' own'' s'' q r st₂ i₂ => ?_
    cases fl with
    | next => simp only [RelF] at r; subst r; obtain ⟨m, hm, hI⟩ := q; exact ⟨m, hm, l'', own'', hI, st₁.trans st₂, i₂⟩
    | cont => simp only [RelF] at r; subst r; obtain ⟨m, hm, hI⟩ := q; exact ⟨m, hm, l'', own'', hI, st₁.trans st₂, i₂⟩
    | brk => simp only [RelF] at r; subst r; exact hR .next _ l'' own'' s'' q (by simp only [RelF]) (st₁.trans st₂) i₂
    | ret d =>
      have r' := r
      simp only [RelF] at r
      obtain ⟨v, rfl, _, _⟩ := r
      exact hR (.ret d) _ l'' own'' s'' q r' (st₁.trans st₂) i₂
theorem ints_of {mu : List Addr} {h : Heap} : ∀ {ns : List Int} {vs : List Value}, RelL mu h (ns.map .int) vs → IntsAre vs ns
  | [], vs, r => by simp only [List.map_nil, RelL] at r; subst r; exact .nil
  | n :: ns, vs, r => by
    simp only [List.map_cons, RelL, Rel] at r
    obtain ⟨_, vs', rfl, ⟨t, rfl⟩, r2⟩ := r
    exact .cons _ _ (ints_of r2)
theorem k_bytes {ns : List Int} (hr : ∀ n ∈ ns, 0 ≤ n ∧ n < 256) (hz : ns.length ≤ 100000) : BCALL c (.type "bytes") [.lst (ns.map .int)] (.bytes (byteArr ns)) := by
  intro mu s vs Q E hn ha r hQ
  simp only [RelL, Rel] at r
  obtain ⟨_, _, rfl, ⟨a, ws, rfl, _, hL, hr'⟩, rfl⟩ := r
  refine call_bytes_ints hL (ints_of hr') hr (by rw [hr'.length, List.length_map]; exact Nat.le_trans hz (by decide)) rfl fun h' t k kk => hQ _ _ ⟨h', k, rfl, kk⟩ (by simp only [Rel]; exact ⟨_, rfl⟩)
noncomputable def tyOf : D → Option String
  | .bytes _ => some "bytes"
  | .bool _ => some "bool"
  | .int _ => some "int"
  | .str _ => some "str"
  | _ => none
theorem typeIs_of {mu : List Addr} {s : Shared} {d : D} {v : Value} {T : String} (h : tyOf d = some T) (r : Rel mu s.heap d v) : s.TypeIs v T := by
  cases d <;> simp only [tyOf, Option.some.injEq, reduceCtorEq] at h <;> subst h <;> simp only [Rel] at r
  · subst r; exact PySem.typeIs_bool s _
  · obtain ⟨t, rfl⟩ := r; exact typeIs_int s _ t
  · obtain ⟨t, rfl⟩ := r; exact typeIs_str s _ t
  · obtain ⟨t, rfl⟩ := r; exact typeIs_bytes s _ t
theorem k_type {d : D} {T : String} (h : tyOf d = some T) (hb : (Value.type T == Value.type "builtin_function_or_method") = false) : BCALL c (.type "type") [d] (.val (.type T)) := by
  intro mu s vs Q E hn ha r hQ
  simp only [RelL] at r
  obtain ⟨v, _, rfl, r1, rfl⟩ := r
  exact call_type_of (typeIs_of h r1) hb (hQ _ _ kp_rfl (by simp only [Rel]))
theorem c_is {a b : Value} {r : Bool} (hp : plainIs a b = true) (h : (a == b) = r) : CMP c .Is (.val a) (.val b) r := by
  intro _ mu s v₁ v₂ Q E r₁ r₂ hQ
  simp only [Rel] at r₁ r₂
  subst r₁; subst r₂
  exact wpAny_is_plain hp (h ▸ hQ s kp_rfl)
theorem k_isBytes {b : Array UInt8} : BCALL c (.builtin "isinstance") [.bytes b, .val (.type "bytes")] (.bool true) := by
  intro mu s vs Q E hn ha r hQ
  simp only [RelL, Rel] at r
  obtain ⟨_, _, rfl, ⟨t, rfl⟩, _, _, rfl, rfl, rfl⟩ := r
  exact call_isinstance (isinstance_true (kitMeta_of (by decide +kernel)) F.sub_bytes_bytes) ⟨typeIs_bytes _ _ _, hQ _ _ kp_rfl (by simp only [Rel])⟩
theorem c_bne {a b : Array UInt8} : CMP c .NotEq (.bytes a) (.bytes b) (a.toList != b.toList) := by
  intro _ mu s v₁ v₂ Q E r₁ r₂ hQ
  simp only [Rel] at r₁ r₂
  obtain ⟨t, rfl⟩ := r₁
  obtain ⟨u, rfl⟩ := r₂
  exact ne_bytes (hQ s kp_rfl)
theorem c_inS {x y : Str} : CMP c .In (.str y) (.str x) (Txt.contains x y) := by
  intro _ mu s v₁ v₂ Q E r₁ r₂ hQ
  simp only [Rel] at r₁ r₂
  obtain ⟨t, rfl⟩ := r₁
  obtain ⟨u, rfl⟩ := r₂
  exact SB.contains (hQ s kp_rfl)
mutual
noncomputable def toPy : D → PyData
  | .none => .none
  | .bool b => .bool b
  | .int i => .int i
  | .str x => .str x
  | .tup l => .tuple (toPys l)
  | .lst l => .list (toPys l)
  | .mls l => .list (toPys l)
  | _ => .none
noncomputable def toPys : List D → List PyData
  | [] => []
  | d :: ds => toPy d :: toPys ds
end
mutual
noncomputable def Plain : D → Bool
  | .none => true
  | .bool _ => true
  | .int _ => true
  | .str _ => true
  | .tup l => Plains l
  | .lst l => Plains l
  | .mls l => Plains l
  | _ => false
noncomputable def Plains : List D → Bool
  | [] => true
  | d :: ds => Plain d && Plains ds
end
mutual
theorem reads_of {mu : List Addr} {h : Heap} : ∀ {d : D} {v : Value}, Plain d = true → Rel mu h d v → ∃ as, Reads h v (toPy d) as
  | .none, _, _, r => by simp only [Rel] at r; subst r; exact ⟨_, .none⟩
  | .bool _, _, _, r => by simp only [Rel] at r; subst r; exact ⟨_, .bool _⟩
  | .int _, _, _, r => by simp only [Rel] at r; obtain ⟨t, rfl⟩ := r; exact ⟨_, .int _ _⟩
  | .str _, _, _, r => by simp only [Rel] at r; obtain ⟨t, rfl⟩ := r; exact ⟨_, .str _ _⟩
  | .bytes _, _, p, _ => by simp only [Plain] at p; cases p
  | .rng _ _ _, _, p, _ => by simp only [Plain] at p; cases p
  | .val _, _, p, _ => by simp only [Plain] at p; cases p
  | .tup l, _, p, r => by
    simp only [Plain] at p
    simp only [Rel] at r
    obtain ⟨a, vs, rfl, _, ⟨o, ho, hc, n, hd⟩, hr⟩ := r
    obtain ⟨as, q⟩ := readsAll_of p hr
    exact ⟨_, .tuple ho hc hd q⟩
  | .lst l, _, p, r => by
    simp only [Plain] at p
    simp only [Rel] at r
    obtain ⟨a, vs, rfl, _, ⟨o, ho, hc, n, hd⟩, hr⟩ := r
    obtain ⟨as, q⟩ := readsAll_of p hr
    exact ⟨_, .list ho hc hd q⟩
  | .mls l, _, p, r => by
    simp only [Plain] at p
    simp only [Rel] at r
    obtain ⟨a, vs, rfl, ⟨n, ho⟩, hr⟩ := r
    obtain ⟨as, q⟩ := readsAll_of p hr
    exact ⟨_, .list ho rfl rfl q⟩
theorem readsAll_of {mu : List Addr} {h : Heap} : ∀ {ds : List D} {vs : List Value}, Plains ds = true → RelL mu h ds vs → ∃ as, ReadsAll h vs (toPys ds) as
  | [], vs, _, r => by simp only [RelL] at r; subst r; exact ⟨_, .nil⟩
  | d :: ds, vs, p, r => by
    simp only [Plains, Bool.and_eq_true] at p
    simp only [RelL] at r
    obtain ⟨v, vs', rfl, r1, r2⟩ := r
    obtain ⟨as, q⟩ := reads_of p.1 r1
    obtain ⟨bs, q'⟩ := readsAll_of p.2 r2
    exact ⟨_, .cons q q'⟩
end
theorem c_deq {d₁ d₂ : D} (p₁ : Plain d₁ = true) (p₂ : Plain d₂ = true) (h₁ : (toPy d₁).canLay0 = true) (h₂ : (toPy d₂).canLay0 = true) (hd : (toPy d₁).depth ≤ 50) : CMP c .Eq d₁ d₂ (PyData.eqv (toPy d₁) (toPy d₂)) := by
  intro ok mu s v₁ v₂ Q E r₁ r₂ hQ
  obtain ⟨as, q₁⟩ := reads_of p₁ r₁
  obtain ⟨bs, q₂⟩ := reads_of p₂ r₂
  refine PySem.SeqAt.compareEq_reads q₁ q₂ h₁ h₂ ?_ (hQ s kp_rfl)
  have := ok.roomU
  have e : c.A.units = c.un + 3 := rfl
  have := Nat.min_le_left (toPy d₁).depth (toPy d₂).depth
  omega
theorem c_dne {d₁ d₂ : D} (p₁ : Plain d₁ = true) (p₂ : Plain d₂ = true) (h₁ : (toPy d₁).canLay0 = true) (h₂ : (toPy d₂).canLay0 = true) (hd : (toPy d₁).depth ≤ 50) : CMP c .NotEq d₁ d₂ (!PyData.eqv (toPy d₁) (toPy d₂)) := by
  intro ok mu s v₁ v₂ Q E r₁ r₂ hQ
  obtain ⟨as, q₁⟩ := reads_of p₁ r₁
  obtain ⟨bs, q₂⟩ := reads_of p₂ r₂
  refine PySem.SeqAt.compareNe_reads q₁ q₂ h₁ h₂ ?_ (hQ s kp_rfl)
  have := ok.roomU
  have e : c.A.units = c.un + 3 := rfl
  have := Nat.min_le_left (toPy d₁).depth (toPy d₂).depth
  omega
theorem c_inL {d : D} {ds : List D} (p₁ : Plain d = true) (p₂ : Plains ds = true) (h₁ : (toPy d).canLay0 = true) (h₂ : PyData.canLayAll0 (toPys ds) = true) (hd : (toPy d).depth ≤ 50) : CMP c .In d (.lst ds) ((toPys ds).any fun y => PyData.eqv y (toPy d)) := by
  intro ok mu s v₁ v₂ Q E r₁ r₂ hQ
  obtain ⟨as, q₁⟩ := reads_of p₁ r₁
  obtain ⟨bs, q₂⟩ := reads_of (d := .lst ds) (by simpa only [Plain] using p₂) r₂
  simp only [toPy] at q₂
  refine PySem.SeqAt.in_list_reads q₂ q₁ h₂ h₁ ?_ (hQ s kp_rfl)
  have := ok.roomU
  have e : c.A.units = c.un + 3 := rfl
  have := Nat.min_le_right (PyData.depthAll (toPys ds)) (toPy d).depth
  omega
theorem c_notInM {d : D} {ds : List D} (p₁ : Plain d = true) (p₂ : Plains ds = true) (h₁ : (toPy d).canLay0 = true) (h₂ : PyData.canLayAll0 (toPys ds) = true) (hd : (toPy d).depth ≤ 50) : CMP c .NotIn d (.mls ds) (!(toPys ds).any fun y => PyData.eqv y (toPy d)) := by
  intro ok mu s v₁ v₂ Q E r₁ r₂ hQ
  obtain ⟨as, q₁⟩ := reads_of p₁ r₁
  obtain ⟨bs, q₂⟩ := reads_of (d := .mls ds) (by simpa only [Plain] using p₂) r₂
  simp only [toPy] at q₂
  refine PySem.SeqAt.notIn_list_reads q₂ q₁ h₂ h₁ ?_ (hQ s kp_rfl)
  have := ok.roomU
  have e : c.A.units = c.un + 3 := rfl
  have := Nat.min_le_right (PyData.depthAll (toPys ds)) (toPy d).depth
  omega
end
end Mine
end
section
open PySem PySem.W PySem.Spec PySem.Calls PyProof.Rows
set_option Elab.async false
set_option linter.unusedVariables false
set_option maxRecDepth 100000
namespace Mine
section
variable {c : Cx} {l : Loc} {Q : Fl → Loc → Prop}
noncomputable def txt (ds : List D) (k : Int) : Str := match ds[k.toNat]? with
  | some (.str x) => x
  | _ => Str.empty
noncomputable def num (ds : List D) (k : Int) : Int := match ds[k.toNat]? with
  | some (.int x) => x
  | _ => 0
end
end Mine
end
section
open PySem PySem.W PySem.Spec PySem.Calls PyProof.Rows
set_option Elab.async false
set_option linter.unusedVariables false
set_option maxRecDepth 100000
namespace Mine
section
variable {c : Cx} {l : Loc} {Q : Fl → Loc → Prop}
end
end Mine
end
section
open PySem PySem.W PySem.Spec PySem.Calls PyProof.Rows
set_option Elab.async false
set_option linter.unusedVariables false
set_option maxRecDepth 100000
namespace Mine
theorem len_item (x : Str) (k : Int) : (Txt.item x k).length = 1 := rfl
theorem len_app (x y : Str) : (x ++ y).length = x.length + y.length := by
  show (x.cps ++ y.cps).size = _
  rw [Array.size_append]; rfl
theorem szl : sizeLine = 16777216 := by decide
end Mine
end
section
open PySem PySem.W PySem.Spec PySem.Calls PyProof.Rows
set_option Elab.async false
set_option linter.unusedVariables false
set_option maxRecDepth 100000
namespace Mine
open Sem (wp)
open AutoSeq1 (wpAny_loadPart')
theorem meets_enumerate_newT (l : Addr) (items : Array Value) (n : Nat) (dct : Option Addr) (sl : Array (Option Value)) :
    Meets (Builtin.«enumerate.__new__» ⟨[.type "enumerate", .ref l], []⟩) (fun _ R s => s.heap.get? l = some { cls := .type "tuple", dict := dct, data := .seq items n, slots := sl } ∧
      R (.ok (.ret (.ref (s.heap.push { cls := .type "tuple_iterator", data := .fields #[.ref l, .int 0 0] }).objs.size)))
        { s with heap := (s.heap.push { cls := .type "tuple_iterator", data := .fields #[.ref l, .int 0 0] }).push { cls := .type "enumerate", data := .fields #[.none, .bool false, .ref s.heap.objs.size, rawInt 0, .none, .none] } }) :=
  .of_wp fun prog w A R s h => by
    obtain ⟨hp, g, d, tk, os⟩ := s; obtain ⟨hl, h⟩ := h
    have hsub := sub_enumerate
    have hL : Heap.IsTuple (Shared.heap ⟨hp, g, d, tk, os⟩) l items := ⟨_, hl, rfl, n, rfl⟩
    wp_walk using wpAny_loadPart' hl
    refine wpAny_stack_any fun st => wpAny_pure ?_
    split
    · rename_i c _ _ _ _ _
      cases (c == Value.type "enumerate")
      · wp_walk using wpAny_loadPart' hl, wpAny_pyIter_tuple hL
        exact ⟨_, rfl, h⟩
      · wp_walk using wpAny_loadPart' hl, wpAny_pyIter_tuple hL
        exact ⟨_, rfl, h⟩
    · wp_walk using wpAny_loadPart' hl, wpAny_pyIter_tuple hL
      exact ⟨_, rfl, h⟩
section
variable {prog : Program} {w : World} {A : Around} {E : Value → Shared → Prop} {s : Shared}
theorem call_enumerate_tuple {l : Addr} {items : Array Value} {Q : Value → Shared → Prop} (hL : s.heap.IsTuple l items)
    (h : ∀ h', IsEnum h' (s.heap.objs.size + 1) s.heap.objs.size 0 .none → h'.IsTupleIter s.heap.objs.size l 0 → h'.objs.size = s.heap.objs.size + 2 →
      (∀ b o, s.heap.get? b = some o → h'.get? b = some o) → Q (.ref (s.heap.objs.size + 1)) { s with heap := h' }) :
    wpAny (model prog w) A (call (.type "enumerate") [.ref l]) Q E s := by
  obtain ⟨⟨c, dct, dt, sl⟩, hl, hc, n, hd⟩ := hL
  replace hc : c = .type "tuple" := hc
  replace hd : dt = .seq items n := hd
  subst hc hd
  refine callType_new F.called_enumerate (by decide) (F.typeCall_enumerate_1 _) (F.newCall_enumerate_1 _) (fun obj => F.args_object_init_2 obj _) F.entry_enumerate_new
    (meets_enumerate_newT l items n dct sl) ⟨hl, ?_⟩
  have hz : (s.heap.push { cls := .type "tuple_iterator", data := .fields #[.ref l, .int 0 0] }).objs.size = s.heap.objs.size + 1 := Heap.size_push ..
  show _ ∧ _
  rw [hz]
  have he : IsEnum ((s.heap.push { cls := .type "tuple_iterator", data := .fields #[.ref l, .int 0 0] }).push
      { cls := .type "enumerate", data := .fields #[.none, .bool false, .ref s.heap.objs.size, rawInt 0, .none, .none] }) (s.heap.objs.size + 1) s.heap.objs.size 0 .none := by
    have := Heap.get?_push_size (s.heap.push { cls := .type "tuple_iterator", data := .fields #[.ref l, .int 0 0] })
      (o := { cls := .type "enumerate", data := .fields #[.none, .bool false, .ref s.heap.objs.size, rawInt 0, .none, .none] }) rfl
    rw [hz] at this; exact this
  refine ⟨⟨_, he, rfl⟩, h _ he ⟨_, Heap.get?_push_of_some _ (Heap.get?_push_size _ rfl), rfl, rfl⟩ (by rw [Heap.size_push, hz]) fun b o x => Heap.get?_push_of_some _ (Heap.get?_push_of_some _ x)⟩
theorem nextOf_tuple_item {it t : Addr} {i : Nat} {items} {x : Value} {Q : Value → Shared → Prop} (hit : s.heap.IsTupleIter it t i)
    (ht : s.heap.IsTuple t items) (hx : items[i]? = some x)
    (hQ : ∀ h', h'.IsTupleIter it t (i + 1) → Heap.SameBut it s.heap h' → Q x { s with heap := h' }) :
    wpAny (model prog w) A (Builtin.SmallTypes.nextOf (.ref it)) Q E s := by
  obtain ⟨o, ho, hc, hd⟩ := id hit
  obtain ⟨ol, hol, _, nl, hdl⟩ := ht
  unfold Builtin.SmallTypes.nextOf
  refine wpAny_bind (wpAny_callSpecial?_slot (name := Str.ofString "__next__") hit.typeIs F.slot_tuple_iterator_next
    (wpAny_call_entry F.slot_tuple_iterator_next hit.typeIs F.entry_tuple_iterator_next ?_ (F.args_tuple_iterator_next_1 _)))
  show wpAny _ _ (field (.ref it) 0 >>= _) _ _ s
  refine wpAny_bind (wpAny_field ho hd (x := .ref t) rfl ?_)
  show wpAny _ _ (if (Value.ref t == Value.none) = true then _ else _) _ _ s
  rw [if_neg (show ¬ ((Value.ref t == Value.none) = true) from Bool.false_ne_true)]
  show wpAny _ _ (field (.ref it) 1 >>= _) _ _ s
  refine wpAny_bind (wpAny_field ho hd (x := .int i 0) rfl ?_)
  show wpAny _ _ (seqItems? (.ref t) >>= _) _ _ s
  refine wpAny_bind (wpAny_seqItems hol hdl ?_)
  simp only [Int.toNat_natCast, hx]
  refine wpAny_bind (wpAny_setField ho hd (by simp) (wpAny_pure ⟨x, rfl, wpAny_pure (hQ _ ?_ (Heap.SameBut.update ..))⟩))
  exact ⟨_, Heap.get?_update_self _ ho (Obj.isFreed_of_fields (Obj.data_mapFields hd _)), (Obj.cls_mapFields ..).trans hc, by
    rw [Obj.data_mapFields hd]; simp [rawInt]⟩
theorem nextOf_tuple_end {it t : Addr} {i : Nat} {items} {Q : Value → Shared → Prop} (hh : A.handled = none)
    (hit : s.heap.IsTupleIter it t i) (ht : s.heap.IsTuple t items) (hx : items[i]? = none)
    (hE : ∀ h' e, Heap.ExtBut it s.heap h' → (∃ o, h'.get? e = some o ∧ o.cls = .type "StopIteration") → E (.ref e) { s with heap := h' }) :
    wpAny (model prog w) A (Builtin.SmallTypes.nextOf (.ref it)) Q E s := by
  obtain ⟨o, ho, hc, hd⟩ := id hit
  obtain ⟨ol, hol, _, nl, hdl⟩ := ht
  unfold Builtin.SmallTypes.nextOf
  refine wpAny_bind (wpAny_callSpecial?_slot (name := Str.ofString "__next__") hit.typeIs F.slot_tuple_iterator_next
    (wpAny_call_entry F.slot_tuple_iterator_next hit.typeIs F.entry_tuple_iterator_next ?_ (F.args_tuple_iterator_next_1 _)))
  show wpAny _ _ (field (.ref it) 0 >>= _) _ _ s
  refine wpAny_bind (wpAny_field ho hd (x := .ref t) rfl ?_)
  show wpAny _ _ (if (Value.ref t == Value.none) = true then _ else _) _ _ s
  rw [if_neg (show ¬ ((Value.ref t == Value.none) = true) from Bool.false_ne_true)]
  show wpAny _ _ (field (.ref it) 1 >>= _) _ _ s
  refine wpAny_bind (wpAny_field ho hd (x := .int i 0) rfl ?_)
  show wpAny _ _ (seqItems? (.ref t) >>= _) _ _ s
  refine wpAny_bind (wpAny_seqItems hol hdl ?_)
  simp only [Int.toNat_natCast, hx]
  refine wpAny_bind (wpAny_rule (wpAny_bind (wpAny_setField ho hd (by simp) ?_)))
  show wpAny _ _ (newExc (.type "StopIteration") [] >>= _) _ _ _
  refine wpAny_bind ?_
  simp only [newExc, newTuple]
  refine wpAny_bind (wpAny_newObj_type ?_ (by size_fits))
  refine wpAny_bind (m := firstArgMember _ _) (wpAny_of_eq (a := Value.none) (by first | rfl | (simp only [firstArgMember]; rfl)) ?_)
  refine wpAny_newObj_type ?_ (by size_fits)
  simp only [raiseNew]
  refine wpAny_bind (wpAny_handled ?_)
  first | rw [show A.in1.handled = none from hh] | rw [hh]
  refine wpAny_bind (wpAny_pure (wpAny_throw ?_))
  exact hE _ _ (((Heap.SameBut.update ..).extBut.push _).push _) ⟨_, Heap.get?_push_size _ rfl, rfl⟩
end
theorem draws_tuple {prog : Program} {w : World} {A : Around} (hh : A.handled = none) (it l : Addr) (hne : l ≠ it) (items : Array Value) :
    Draws prog w A it [it, l] items.size (fun i v => items[i]? = some v) (fun i h => h.IsTupleIter it l i ∧ h.IsTuple l items) where
  live := fun _ _ st => let ⟨o, ho, _⟩ := st.1; ⟨o, ho⟩
  frame := fun _ _ _ st hk => ⟨st.1.at fun o e => hk it (by simp) o e, st.2.at fun o e => hk l (by simp) o e⟩
  item := fun i s Q E hi st hQ => by
    refine nextOf_tuple_item st.1 st.2 (x := items[i]) (by simp [hi]) fun h' hit' hs' => ?_
    exact hQ _ h' s.toks (by simp [hi]) ⟨hit', st.2.extBut hs'.extBut hne⟩ hs'
  done := fun s Q E st hE => nextOf_tuple_end hh st.1 st.2 (by simp) hE
section
variable {c : Cx} {l : Loc} {Q : Fl → Loc → Prop}
noncomputable def enumFrom : Nat → List D → List D
  | _, [] => []
  | n, d :: ds => .tup [.int n, d] :: enumFrom (n + 1) ds
theorem enumFrom_len : ∀ (n : Nat) (ds : List D), (enumFrom n ds).length = ds.length
  | _, [] => rfl
  | n, _ :: ds => by simp only [enumFrom, List.length_cons, enumFrom_len (n + 1) ds]
theorem enumFrom_get : ∀ (n : Nat) (ds : List D) (i : Nat) (d : D), (enumFrom n ds)[i]? = some d → ∃ e, ds[i]? = some e ∧ d = .tup [.int ((n + i : Nat) : Int), e]
  | _, [], i, d, h => by simp [enumFrom] at h
  | n, e :: ds, 0, d, h => by
    simp only [enumFrom, List.getElem?_cons_zero, Option.some.injEq] at h
    exact ⟨e, rfl, h.symm⟩
  | n, e :: ds, i + 1, d, h => by
    simp only [enumFrom, List.getElem?_cons_succ] at h
    obtain ⟨e', h1, h2⟩ := enumFrom_get (n + 1) ds i d h
    exact ⟨e', by simpa using h1, by rw [h2]; congr 4; omega⟩
theorem it_enum {x : Str} {px pos tpos : Pos} {e : Expr} {ds : List D} {elts : List Expr} {k : Nat} (hf : EV c l (.Name x px) (.val (.type "enumerate"))) (h : EV c l e (.tup ds))
    (he : ∀ env, starEach [e] env = (false, eval e env) :: starEach [] env := by intro _; rfl) (hp : ∀ env, (backTo pos (starEach [] env)).any (·.1) = false := by intro _; rfl) :
    ITER c l (.Tuple elts k tpos) (.Call (.Name x px) [e] [] pos) (enumFrom 0 ds) := by
  intro av own s i Q E hQ
  refine Call_ (hf av own s i _ _ fun v s₁ k₁ r₁ => ?_)
  simp only [Rel] at r₁
  subst r₁
  have i₁ := i.keeps k₁
  refine PyProof.Rows.callWith_type1 (spliced_more (h av own s₁ i₁ _ _ fun v s₂ k₂ r₂ => spliced_none ?_) (he _)) (he _) (hp _)
  have i₂ := i₁.keeps k₂
  have hn := i₂.notOwn
  simp only [Rel] at r₂
  obtain ⟨a, vs, rfl, hm, hl, hr⟩ := r₂
  have hl' : s₂.heap.IsTuple a vs.toArray := hl
  have hlt : a < s₂.heap.objs.size := by obtain ⟨o, ho, _⟩ := hl; exact Heap.lt_size ho
  refine call_enumerate_tuple hl' fun h' he' hit hsz hk => wpAny_pyIter_enum he' ?_
  have W := (WalksT.enumerateD (draws_tuple (prog := c.prog) (w := c.w) (A := c.A.in1) rfl s₂.heap.objs.size a (Nat.ne_of_lt hlt) vs.toArray) (s₂.heap.objs.size + 1) (Nat.succ_ne_self _)
    (fun q => (List.mem_cons.mp q).elim (Nat.succ_ne_self _) fun q => absurd hlt (by rw [← List.mem_singleton.mp q]; exact Nat.not_lt.mpr (Nat.le_succ _))) (List.mem_cons_self ..)).toU
  rw [show vs.toArray.size = (enumFrom 0 ds).length from (List.size_toArray ..).trans (hr.length.trans (enumFrom_len ..).symm)] at W
  have dead1 : s₂.heap.get? (s₂.heap.objs.size + 1) = none := by
    cases e : s₂.heap.get? (s₂.heap.objs.size + 1) with
    | none => rfl
    | some o => exact absurd (Heap.lt_size e) (Nat.not_lt.mpr (Nat.le_succ _))
  refine hQ s₂ _ _ _ _ _ _ _ (kp_trans k₁ k₂) ⟨h', s₂.toks, rfl, hk⟩ (KTurns.ofWalksU (elts := elts) (k := k) (pos := tpos) W) ⟨⟨_, he'⟩, hit, hl'.at fun o e => hk _ o e⟩ (fun b hb => ?_) (fun b hb => ?_) (fun j h st b hb => ?_) (fun j v h d p e => ?_)
  · rcases List.mem_cons.mp hb with rfl | hb
    · refine ⟨fun q => ?_, by rw [show ({ s₂ with heap := h' } : Shared).heap.get? (s₂.heap.objs.size + 1) = some _ from he']; rfl⟩
      have := i₂.alive _ q
      rw [dead1] at this; cases this
    · rcases List.mem_cons.mp hb with rfl | hb
      · obtain ⟨o, ho, _⟩ := hit
        exact ⟨hn, by rw [show ({ s₂ with heap := h' } : Shared).heap.get? _ = some o from ho]; rfl⟩
      · rw [List.mem_singleton.mp hb]
        obtain ⟨o, ho, _⟩ := hl
        exact ⟨hm, by rw [show ({ s₂ with heap := h' } : Shared).heap.get? _ = some o from hk _ _ ho]; rfl⟩
  · rcases List.mem_cons.mp hb with rfl | hb
    · exact dead1
    · rw [List.mem_singleton.mp hb]; exact dead_size _
  · obtain ⟨⟨old, h1⟩, ⟨o, h2, _⟩, ⟨o', h3, _⟩⟩ := st
    rcases List.mem_cons.mp hb with rfl | hb
    · rw [show h.get? _ = some _ from h1]; rfl
    · rcases List.mem_cons.mp hb with rfl | hb
      · rw [h2]; rfl
      · rw [List.mem_singleton.mp hb, h3]; rfl
  · obtain ⟨T, vals, rfl, ⟨t, x, hx, rfl⟩, hT⟩ := p
    obtain ⟨e', h1, rfl⟩ := enumFrom_get 0 ds j d e
    obtain ⟨w, hw, r⟩ := hr.get h1
    have : some w = some x := by rw [← hw]; simpa using hx
    cases this
    refine .inr ⟨T, [.int j t, x], [.int ((0 + j : Nat) : Int), e'], rfl, rfl, hT, ?_⟩
    simp only [RelL, Rel, Nat.zero_add]
    exact ⟨_, _, rfl, ⟨t, rfl⟩, _, _, rfl, r, rfl⟩
end
end Mine
end
section
open PySem PySem.W PySem.Spec PySem.Calls PyProof.Rows
set_option Elab.async false
set_option linter.unusedVariables false
set_option maxRecDepth 100000
namespace Mine
section
variable {c : Cx} {l : Loc} {Q : Fl → Loc → Prop}
end
end Mine
end
section
open PySem PySem.W PySem.Spec PySem.Calls PyProof.Rows
set_option Elab.async false
set_option linter.unusedVariables false
set_option maxRecDepth 100000
namespace Mine
theorem bindL_other {k : Str → Option NameKind} {x : Str} : ∀ {b : List (Str × Value)} {m : Str → Option Value}, (∀ q ∈ b, q.1 ≠ x) → bindL k b m x = m x
  | [], _, _ => rfl
  | (n, v) :: r, m, h => by
    unfold bindL
    rw [bindL_other fun q hq => h q (.tail _ hq)]
    split
    · exact if_neg fun e => h (n, v) (.head _) e.symm
    · rfl
theorem bindC_other {k : Str → Option NameKind} {x : Str} : ∀ {b : List (Str × Value)} {m : Str → Option Value}, (∀ q ∈ b, q.1 ≠ x) → bindC k b m x = m x
  | [], _, _ => rfl
  | (n, v) :: r, m, h => by
    unfold bindC
    rw [bindC_other fun q hq => h q (.tail _ hq)]
    split
    · rfl
    · exact if_neg fun e => h (n, v) (.head _) e.symm
theorem zip_vals {k : Str → Option NameKind} {mu : List Addr} {h : Heap} : ∀ {names : List Str} {args : List D} {vs : List Value} {m cm : Str → Option Value}, RelL mu h args vs → FrozL args → names.length = args.length → names.Nodup → ∀ x d, get (names.zip args) x = some d →
    x ∈ names ∧ ∃ v, Rel mu h d v ∧ Froz d ∧ (k x = some .local → bindL k (names.zip vs) m x = some v) ∧ (k x ≠ some .local → bindC k (names.zip vs) cm x = some v)
  | [], args, vs, m, cm, _, _, _, _, x, d, e => by simp [get] at e
  | n :: ns, args, vs, m, cm, r, fz, hl, hnd, x, d, e => by
    cases args with
    | nil => simp at hl
    | cons a as =>
      simp only [RelL] at r
      obtain ⟨v, vs', rfl, r1, r2⟩ := r
      simp only [FrozL] at fz
      simp only [List.zip_cons_cons, get] at e
      have nd := List.nodup_cons.mp hnd
      by_cases hx : x = n
      · subst hx
        rw [if_pos rfl] at e
        cases e
        have off : ∀ q ∈ ns.zip vs', q.1 ≠ x := fun q hq z => nd.1 (z ▸ (List.of_mem_zip hq).1)
        refine ⟨.head _, v, r1, fz.1, fun hk => ?_, fun hk => ?_⟩
        · rw [List.zip_cons_cons]; unfold bindL
          rw [bindL_other off, if_pos hk]; exact if_pos rfl
        · rw [List.zip_cons_cons]; unfold bindC
          rw [bindC_other off, if_neg hk]; exact if_pos rfl
      · rw [if_neg hx] at e
        obtain ⟨h1, v', h2, h3, h4, h5⟩ := zip_vals (k := k) (m := if k n = some .local then fun y => if y = n then some v else m y else m) (cm := if k n = some .local then cm else fun y => if y = n then some v else cm y) r2 fz.2 (by simpa using hl) nd.2 x d e
        exact ⟨.tail _ h1, v', h2, h3, h4, h5⟩
theorem startC {prog : Program} {w : World} {K : Frag} {p : Program} {loose : List Str} {mean : ExcName → Option Value} {mg mb : Str → Option Value} {dp un lv : Nat} {gd : Option (List Code)} {outer : List Env} {base g : Heap} {s s₁ : Shared} {av : List Addr}
    {qual : Str} {scope : Scope} {f : Addr} {cdv : Value} {names : List Str} {args : List D} {vs : List Value}
    (hD : dp + 1 + lv < recursionLimit) (hU : un + 3 + 20 * lv + 60 < cLine) (hgs : ∀ b o, g.get? b = some o → s.heap.get? b = some o) (hsz : g.objs.size = s.heap.objs.size) (B : Below (aTop dp un gd outer) base outer g) (X : K.In g) (T : Top p loose mean mg mb g) (hav : ∀ a ∈ av, (s.heap.get? a).isSome = true ∧ K.lookup a = none)
    (r : RelL av s.heap args vs) (fz : FrozL args) (hk : scope.kind = .function) (hloc : ∀ x ∈ names, scope.names.lookup x = some .local ∨ (scope.names.lookup x = some .cell ∧ ((cellsFrom (s.heap.objs.size + 1) scope.names []).lookup x).isSome = true)) (hlen : names.length = args.length) (hnd : names.Nodup)
    (hcn : ((cellsFrom 0 scope.names []).map (·.1)).Nodup)
    (hx : InCallC s s.heap.objs.size (bindL (envOfC qual scope s.heap.objs.size f cdv).kindOf (names.zip vs) fun _ => none) (cellsFrom (s.heap.objs.size + 1) scope.names []) (bindC (envOfC qual scope s.heap.objs.size f cdv).kindOf (names.zip vs) fun _ => none) s₁) :
    Inv ⟨prog, w, K, p, loose, mean, mg, mb, dp, un, lv, gd, outer, base, g, s.heap.objs.size, envOfC qual scope s.heap.objs.size f cdv, envOfC qual scope s.heap.objs.size f cdv⟩ av (s.heap.objs.size :: (cellsFrom (s.heap.objs.size + 1) scope.names []).map (·.2)) (names.zip args) s₁ := by
  have dead : s.heap.get? s.heap.objs.size = none := dead_size _
  have dead' : ∀ a, s.heap.objs.size < a → s.heap.get? a = none := fun a h => Heap.get?_none_of_le (Nat.le_of_lt h)
  have gone : ∀ a, s.heap.get? a = none → g.get? a = none := fun a h => by
    cases e : g.get? a with
    | none => rfl
    | some o => rw [hgs a o e] at h; cases h
  have k := hx.toInCall.keep
  have hn := hx.toInCall.ns
  have nd : ((cellsFrom (s.heap.objs.size + 1) scope.names []).map (·.1)).Nodup := by
    rw [cellsFrom_names scope.names (s.heap.objs.size + 1) 0 [] [] rfl]; exact hcn
  have cellMem : ∀ a ∈ (cellsFrom (s.heap.objs.size + 1) scope.names []).map (·.2), s.heap.objs.size < a ∧ (s₁.heap.get? a).isSome = true := fun a ha => by
    obtain ⟨⟨n, c⟩, hq, rfl⟩ := List.mem_map.mp ha
    obtain ⟨o, ho, _⟩ := hx.cell n c (lookup_of_mem_nodup nd hq)
    exact ⟨hx.above n c hq, by show (s₁.heap.get? c).isSome = true; rw [ho]; rfl⟩
  have live₁ : (s₁.heap.get? s.heap.objs.size).isSome = true := by obtain ⟨o, _, _, ho, _⟩ := hn; rw [ho]; rfl
  refine ⟨⟨B, T, X, hk, hk, rfl, rfl, rfl, hD, hU⟩, fun a ha => ?_, ⟨_, ⟨hn, fun b o e => k b o (hgs b o e), Nat.le_of_eq hsz⟩⟩, fun a ha => ?_, ⟨.head _, _, hn⟩, fun x a h1 h2 => ?_, fun x y a h1 h2 => ?_, fun x a h1 => ?_, fun q => ?_, fun x d e => ?_, fun x y dx dy a h1 _ _ _ => ?_⟩
  · obtain ⟨o, ho⟩ := Option.isSome_iff_exists.mp (hav a ha).1
    refine ⟨by rw [k a o ho]; rfl, (hav a ha).2, fun q => ?_⟩
    rcases List.mem_cons.mp q with q | q
    · rw [q, dead] at ho; cases ho
    · rw [dead' a (cellMem a q).1] at ho; cases ho
  · rcases List.mem_cons.mp ha with q | q
    · subst q; exact ⟨gone _ dead, live₁⟩
    · exact ⟨gone _ (dead' a (cellMem a q).1), (cellMem a q).2⟩
  · have hm := mem_of_lookup h2
    exact ⟨.tail _ (List.mem_map.mpr ⟨_, hm, rfl⟩), _, hx.cell x a h2⟩
  · exact name_of_addr hx.apart (mem_of_lookup h1) (mem_of_lookup h2)
  · have hm : a ∈ (cellsFrom (s.heap.objs.size + 1) scope.names []).map (·.2) := List.mem_map.mpr ⟨(x, a), mem_of_lookup h1, rfl⟩
    refine ⟨(cellMem a hm).2, fun z => ?_⟩
    have := (hav a z).1
    rw [dead' a (cellMem a hm).1] at this; cases this
  · have := (hav _ q).1
    rw [dead] at this; cases this
  · obtain ⟨h1, v, h2, h3, h4, h5⟩ := zip_vals (k := (envOfC qual scope s.heap.objs.size f cdv).kindOf) (m := fun _ => none) (cm := fun _ => none) r fz hlen hnd x d e
    have hr : Rel (s.heap.objs.size :: (cellsFrom (s.heap.objs.size + 1) scope.names []).map (·.2) ++ av) s₁.heap d v := by
      refine Rel.kept k (Rel.sub (fun a ha => ?_) h2)
      rcases List.mem_append.mp ha with q | q
      · rcases List.mem_cons.mp q with q | q
        · exact .inr (q ▸ dead)
        · exact .inr (dead' a (cellMem a q).1)
      · exact .inl q
    refine ⟨v, ?_, hr, by cases d <;> first | exact h3 | (simp only [Froz] at h3)⟩
    rcases hloc x h1 with q | ⟨q, hc⟩
    · exact .inl ⟨q, _, hn, h4 q⟩
    · obtain ⟨a, ha⟩ := Option.isSome_iff_exists.mp hc
      refine .inr ⟨.inl q, a, ha, ?_⟩
      rw [← h5 (fun z => by rw [show (envOfC qual scope s.heap.objs.size f cdv).kindOf x = some .cell from q] at z; cases z)]
      exact hx.cell x a ha
  · obtain ⟨_, v, _, h3, _⟩ := zip_vals (k := (envOfC qual scope s.heap.objs.size f cdv).kindOf) (m := fun _ => none) (cm := fun _ => none) r fz hlen hnd x _ h1
    simp only [Froz] at h3
noncomputable def CALLK (prog : Program) (w : World) (K : Frag) (lv : Nat) (f : Addr) (args : List D) (kn : List Str) (kd : List D) (d : D) : Prop :=
  ∀ dp un gd outer base (s : Shared) p loose mean mg mb av vs ks (Q E : Value → Shared → Prop), dp + 1 + lv < recursionLimit → un + 3 + 20 * lv + 60 < cLine → Below (aTop dp un gd outer) base outer s.heap → K.In s.heap → Top p loose mean mg mb s.heap →
    (∀ a ∈ av, (s.heap.get? a).isSome = true ∧ K.lookup a = none) → RelL av s.heap args vs → RelL av s.heap kd ks → (∀ v s', Keeps s s' → Rel av s'.heap d v → Q v s') → wpAny (model prog w) (aTop dp un gd outer) (call (.ref f) vs (kn.zip ks)) Q E s
theorem call_ofK {prog : Program} {w : World} {K : Frag} {lv : Nat} {f : Addr} {args : List D} {kn : List Str} {kd : List D} {d : D} {names : List Str} {name qual : Str} {params : Arguments} {body : List Stmt} {scope : Scope} {dV kV doc pm cdv ct oc : Value} {an od : Option Addr} {osl : Array (Option Value)}
    (ho : K.lookup f = some ⟨oc, od, .func (fnOf name qual params body scope dV kV doc pm an cdv ct), osl⟩) (hcd : codeIn K cdv qual = true)
    (hbind : ∀ (s : Shared) (vs ks : List Value), s.heap.NoLimit → K.In s.heap → vs.length = args.length → ks.length = kd.length → BindsTo s (fnOf name qual params body scope dV kV doc pm an cdv ct) ⟨vs, kn.zip ks⟩ (names.zip (vs ++ ks)))
    (hloc : ∀ x ∈ names, scope.names.lookup x = some .local ∨ scope.names.lookup x = some .cell) (hlen : names.length = args.length + kd.length) (hnd : names.Nodup) (fz : FrozL args) (fk : FrozL kd)
    (hco : scope.isCoroutine = false) (hgen : scope.isGenerator = false) (hk : scope.kind = .function) (hcn : ((cellsFrom 0 scope.names []).map (·.1)).Nodup)
    (h : ∀ c : Cx, c.prog = prog → c.w = w → c.K = K → c.lv = lv → c.env.scope = scope → c.env.locals = c.L → c.env.cells = cellsFrom (c.L + 1) scope.names [] → ST c (names.zip (args ++ kd)) (execs body c.env) (fun fl _ => match fl with | .ret r => r = d | .next => d = .none | _ => False)) :
    CALLK prog w K lv f args kn kd d := by
  intro dp un gd outer base s p loose mean mg mb av vs ks Q E hD hU B X T hav r rk hQ
  refine wpAny_call ?_
  refine codeAny_call_function (Nat.lt_of_le_of_lt (by show dp ≤ dp + 1 + lv; omega) hD) (X _ _ ho) rfl hco hgen rfl (codeRec_of X hcd) (hbind s vs ks T.nolimit X r.length rk.length _ _ _ _ ?_)
  have hkind : ∀ x ∈ names, scope.names.lookup x = some .local ∨ (scope.names.lookup x = some .cell ∧ ((cellsFrom (s.heap.objs.size + 1) scope.names []).lookup x).isSome = true) := fun x hx => (hloc x hx).imp id fun q => ⟨q, cellsFrom_some scope.names _ [] (.inl q)⟩
  refine wpAny_newFunctionEnv_cells hk (fun x hx => hkind x.1 (List.of_mem_zip (show (x.1, x.2) ∈ names.zip (vs ++ ks) from hx)).1) fun env' he s' x => ?_
  subst he
  refine ⟨T.nolimit.keeps x.toInCall.keep, codeAny_func ?_⟩
  have i := startC (prog := prog) (w := w) (lv := lv) (qual := qual) (f := f) (cdv := cdv) hD hU (fun _ _ e => e) rfl B X T hav (RelL.append r rk) (FrozL.append fz fk) hk hkind (by rw [hlen, List.length_append]) hnd hcn x
  refine h _ rfl rfl rfl rfl rfl rfl rfl av _ _ i _ _ fun fl fw l' own' s'' q rf st i' => ?_
  obtain ⟨h', tk', e'⟩ := st.same
  obtain ⟨h₁, tk₁, e₁⟩ := x.toInCall.same
  have es : s'' = { s with heap := s''.heap, toks := s''.toks } := by rw [e', e₁]
  have kp : Keeps s s'' := ⟨s''.heap, s''.toks, es, fun b o e => by obtain ⟨m, F⟩ := i'.fr; exact F.keep b o e⟩
  cases fl with
  | next =>
    simp only [RelF] at rf
    subst rf
    subst q
    exact hQ _ _ kp (by simp only [Rel])
  | brk => exact q.elim
  | cont => exact q.elim
  | ret e =>
    simp only [RelF] at rf
    obtain ⟨v, rfl, rv, _⟩ := rf
    subst q
    exact hQ _ _ kp (Rel.sub (fun a ha => .inl (List.mem_append_right _ ha)) rv)
section
variable {c : Cx} {l : Loc} {Q : Fl → Loc → Prop}
end
end Mine
end
section
open PySem PySem.W PySem.Spec PySem.Calls PyProof.Rows
set_option Elab.async false
set_option linter.unusedVariables false
set_option maxRecDepth 100000
namespace Mine
section
variable {c : Cx} {l : Loc} {Q : Fl → Loc → Prop}
noncomputable def ORL (c : Cx) (l : Loc) (es : List Expr) (b : Bool) : Prop :=
  ∀ av own s, Inv c av own l s → ∀ (Q : Bool → Shared → Prop) (E : Value → Shared → Prop), (∀ s', Keeps s s' → Q b s') → wpAny c.M c.A (allTrue .Or es c.env) Q E s
theorem orl_true {e : Expr} {es : List Expr} {b : Bool} (h : TR c l e b) (hb : b = true) : ORL c l (e :: es) true := by
  subst hb
  intro av own s i Q E hQ
  exact wpAny_allTrue_Or_cons (h av own s i _ _ fun s' k => hQ s' k)
theorem orl_false {e : Expr} {es : List Expr} {b r : Bool} (h : TR c l e b) (hb : b = false) (hr : ORL c l es r) : ORL c l (e :: es) r := by
  subst hb
  intro av own s i Q E hQ
  refine wpAny_allTrue_Or_cons (h av own s i _ _ fun s₁ k₁ => ?_)
  exact hr av own s₁ (i.keeps k₁) _ _ fun s' k => hQ s' (kp_trans k₁ k)
theorem tr_orl {es : List Expr} {pos : Pos} {b : Bool} (h : ORL c l es b) : TR c l (.BoolOp .Or es pos) b := fun av own s i Q E hQ => wpAny_isTrue_BoolOp (h av own s i _ _ hQ)
theorem ev_smeth {o : Expr} {name : Str} {apos pos : Pos} {e : Expr} {es : List Expr} {id T : String} {d : D} {args : List D} {K : Frag} (e3 : c.K = K) (h₀ : EV c l o (.val (.type T))) (ht : typeOf (.type T) = pure (.type "type")) (hs : Manifest.isStub T = false)
    (hf : findCls K (.type T) (.type "type") name = some (.val (.builtin id))) (hh : handedIn (.builtin id) = true) (ha : EVL c l (e :: es) args) (h : BCALL c (.builtin id) args d)
    (hE : ∀ env, ∃ pl : Sem Bool, eval (.Call (.Attribute o name apos) (e :: es) [] pos) env = (do
      let ov ← eval o env
      standAt apos.atName
      let (f, first) ← holding [ov] (getMethod ov name pl)
      callWith pos f first (backTo pos (starEach (e :: es) env)) []) := by intro _; exact ⟨_, rfl⟩)
    (he : ∀ env, starEach (e :: es) env = (false, eval e env) :: starEach es env := by intro _; rfl) (hp : ∀ env, (backTo pos (starEach es env)).any (·.1) = false := by intro _; rfl) : EV c l (.Call (.Attribute o name apos) (e :: es) [] pos) d := by
  subst e3
  intro av own s i Q E hQ
  obtain ⟨pl, hE⟩ := hE c.env
  refine MethodCall_ (pl := pl) (h₀ av own s i _ _ fun v s₁ k₁ r₁ => ?_) hE
  simp only [Rel] at r₁
  subst r₁
  have i₁ := i.keeps k₁
  obtain ⟨m, F⟩ := i₁.fr
  refine method_type F i₁.ok.inK ht hs hf hh ?_
  have kt : Keeps s₁ { s₁ with toks := s₁.toks + 1 } := kp_tok _
  have i₂ := i₁.keeps kt
  refine callWith_builtin1 (ha av own _ i₂ pos _ _ fun vs s₂ k₂ r₂ => ?_) (he _) (hp _)
  exact h _ s₂ vs _ _ (i₂.keeps k₂).notOwn (i₂.keeps k₂).alive r₂ fun v s' k r => hQ v s' (kp_trans k₁ (kp_trans kt (kp_trans k₂ k))) r
noncomputable def transOf (frm to : List UInt8) : Array UInt8 := (frm.zip to).foldl (fun t (f, x) => t.setIfInBounds f.toNat x) ((Array.range 256).map (·.toUInt8))
noncomputable def transBy (t b : Array UInt8) : Array UInt8 := b.map fun x => t.getD x.toNat x
theorem foldl_set_size : ∀ (l : List (UInt8 × UInt8)) (t : Array UInt8), (l.foldl (fun t (f, x) => t.setIfInBounds f.toNat x) t).size = t.size
  | [], _ => rfl
  | (f, x) :: r, t => by
    rw [List.foldl_cons, foldl_set_size r]
    exact Array.size_setIfInBounds
theorem transOf_size (frm to : List UInt8) : (transOf frm to).size = 256 := by
  unfold transOf
  rw [foldl_set_size, Array.size_map, Array.size_range]
end
section
variable {prog : Program} {w : World} {A : Around} {E : Value → Shared → Prop} {s : Shared}
theorem entry_maketrans : entryFor table "bytes.maketrans" = some Builtin.«bytes.maketrans» := entryFor_of_tree (by kernel_rfl)
theorem plain_maketrans : plainId "bytes.maketrans" = true := by decide +kernel
theorem check_maketrans {a b : Array UInt8} {t u : Tok} : checkBuiltinCall "bytes.maketrans" ⟨[.bytes a t, .bytes b u], []⟩ = pure () := by first | kernel_rfl | rfl
theorem bytesLike_of {id : String} {b : Array UInt8} {t : Tok} : Builtin.Bytes.bytesLike id (.bytes b t) = pure b := by first | rfl | kernel_rfl
theorem call_static {id : String} {b : Builtin} {args : List Value} {Q : Value → Shared → Prop} (hp : plainId id = true) (hb : entryFor table id = some b) (hk : checkBuiltinCall id ⟨args, []⟩ = pure ())
    (hc : wpAny (model prog w) A.in1 (b ⟨args, []⟩) (fun fin s' => ∃ v, fin = .done (.ret v) ∧ Q v s') E s) : wpAny (model prog w) A (call (.builtin id) args) Q E s := by
  refine wpAny_call (codeAny_call_builtin hp hb ?_)
  have hfin := wpAny_mono hc (Q' := fun fin s' => match fin with
      | .done f => (match (Except.ok f : Result) with | .ok (.ret v) => Q v s' | .ok _ => False | .error e => E e s')
      | .again c' => c'.quiet = true ∧ codeAny (model prog w) A c' (fun r s' => match r with | .ok (.ret v) => Q v s' | .ok _ => False | .error e => E e s') s')
    (fun fin s' h' => by obtain ⟨v, rfl, hv⟩ := h'; exact hv) fun _ _ h' => h'
  rw [hk]
  exact wpAny_pure hfin
end
section
variable {c : Cx} {l : Loc} {Q : Fl → Loc → Prop}
theorem k_maketrans {a b : Array UInt8} (hs : a.size = b.size) : BCALL c (.builtin "bytes.maketrans") [.bytes a, .bytes b] (.bytes (transOf a.toList b.toList)) := by
  intro mu s vs Q E hn ha r hQ
  simp only [RelL, Rel] at r
  obtain ⟨_, _, rfl, ⟨t, rfl⟩, _, _, rfl, ⟨u, rfl⟩, rfl⟩ := r
  refine call_static plain_maketrans entry_maketrans check_maketrans ?_
  unfold Builtin.«bytes.maketrans» Builtin.Bytes.maketransM
  refine wpAny_bind (wpAny_of_eq (a := ()) (by first | rfl | kernel_rfl) ?_)
  refine wpAny_bind (wpAny_of_eq (a := ()) (by first | rfl | kernel_rfl) ?_)
  refine wpAny_bind (wpAny_of_eq (a := a) bytesLike_of ?_)
  refine wpAny_bind (wpAny_of_eq (a := b) bytesLike_of ?_)
  dsimp only
  rw [if_neg (by simp [hs])]
  refine wpAny_bind (wpAny_mkBytes (wpAny_pure ⟨_, rfl, hQ _ _ (kp_tok _) ?_⟩) ?_)
  · simp only [Rel]; exact ⟨_, rfl⟩
  · show (transOf a.toList b.toList).size ≤ sizeLine
    rw [transOf_size]; decide
end
theorem slot_bytes_translate : PySem.Slot "bytes" "translate" "bytes.translate" :=
  .of (owner := "bytes") (n := "translate") (by rw [typeLookup_type, builtinLookup_eq_fast]; kernel_rfl) (by decide +kernel) (by decide +kernel) (by decide +kernel)
    (by first | exact .inl (by decide +kernel) | exact .inr (by decide +kernel)) (by rw [isSubtype_type]; kernel_rfl)
theorem type_bytes_translate : typeOf (.builtin "bytes.translate") = pure (.type "method_descriptor") := by show builtinType _ = _; rw [builtinType_eq_fast]; kernel_rfl
theorem entry_bytes_translate : entryFor table "bytes.translate" = some Builtin.«bytes.translate» := entryFor_of_tree (by kernel_rfl)
theorem args_bytes_translate_2 (a b : Value) : argsOk "bytes.translate" ⟨[a, b], []⟩ := by
  unfold argsOk; rw [signature?_of (id := "bytes.translate") (n := ['e', 't', 'a', 'l', 's', 'n', 'a', 'r', 't']) (o := ['s', 'e', 't', 'y', 'b']) (by kernel_rfl) FB.owner_bytes]; kernel_rfl
section
variable {c : Cx} {l : Loc} {Q : Fl → Loc → Prop}
theorem m_translate {b : Array UInt8} : METH c (.bytes b) "translate" "bytes.translate" := by
  intro mu s v pl Q E r q
  simp only [Rel] at r
  obtain ⟨t, rfl⟩ := r
  with_reducible exact KBd.method_of (.bytes b t) (typeIs_bytes _ _ _) slot_bytes_translate type_bytes_translate KBd.noRef q
theorem k_translate {t b : Array UInt8} (ht : t.size = 256) (hb : b.size ≤ 100000) : BCALL c (.builtin "bytes.translate") [.bytes b, .bytes t] (.bytes (transBy t b)) := by
  intro mu s vs Q E hn ha r hQ
  simp only [RelL, Rel] at r
  obtain ⟨_, _, rfl, ⟨tb, rfl⟩, _, _, rfl, ⟨tt, rfl⟩, rfl⟩ := r
  refine wpAny_call (codeAny_call_builtin slot_bytes_translate.plain entry_bytes_translate (slot_bytes_translate.check _ _ _ _ _ _ _ _ (typeIs_bytes _ _ _) (args_bytes_translate_2 _ _) ?_))
  unfold Builtin.«bytes.translate» Builtin.Bytes.translateM
  dsimp only
  rw [if_neg (by simp), if_neg (by simp), if_neg (by simp)]
  refine wpAny_bind (wpAny_of_eq (a := t) bytesLike_of ?_)
  rw [if_neg (by simp [ht])]
  refine wpAny_bind (wpAny_pure ?_)
  show wpAny _ _ (pure #[] >>= fun delete => Builtin.Bytes.payload (Value.bytes b tb) >>= fun b₁ => _) _ _ _
  refine wpAny_bind (wpAny_pure ?_)
  refine wpAny_bind (wpAny_of_eq (a := b) (by first | rfl | kernel_rfl) ?_)
  have e : (Array.map (fun c => match some t with | some t => t.getD c.toNat c | none => c) (Array.filter (fun x => !(#[] : Array UInt8).contains x) b)) = transBy t b := by
    unfold transBy
    rw [show Array.filter (fun x => !(#[] : Array UInt8).contains x) b = b from by simp]
  rw [e]
  by_cases hq : (transBy t b == b) = true
  · rw [if_pos hq]
    refine wpAny_bind (wpAny_rule ?_)
    refine wpAny_bind (wpAny_of_eq (a := .bytes b tb) (by first | rfl | kernel_rfl) (wpAny_pure ?_))
    have q : transBy t b = b := eq_of_beq hq
    exact hQ _ _ kp_rfl (by rw [q]; simp only [Rel]; exact ⟨_, rfl⟩)
  · rw [if_neg hq]
    refine wpAny_bind ?_
    show wpAny _ _ (mkBytes (transBy t b)) _ _ _
    refine wpAny_mkBytes (wpAny_pure (hQ _ _ (kp_tok _) ?_)) ?_
    · simp only [Rel]; exact ⟨_, rfl⟩
    · unfold transBy
      rw [Array.size_map]
      exact Nat.le_trans hb (by decide)
theorem st_assertB {t : Expr} {msg : Option Expr} {pos : Pos} {b : Bool} (h : TR c l t b) (e : b = true) (q : Q .next l) : ST c l (exec (.Assert t msg pos) c.env) Q := st_assert (e ▸ h) q
end
theorem boot_type : bootBuiltins (Str.ofString "type") = some (.type "type") := by decide +kernel
theorem boot_bytes : bootBuiltins (Str.ofString "bytes") = some (.type "bytes") := by decide +kernel
theorem boot_bytearray : bootBuiltins (Str.ofString "bytearray") = some (.type "bytearray") := by decide +kernel
theorem boot_bool : bootBuiltins (Str.ofString "bool") = some (.type "bool") := by decide +kernel
theorem boot_int : bootBuiltins (Str.ofString "int") = some (.type "int") := by decide +kernel
theorem boot_float : bootBuiltins (Str.ofString "float") = some (.type "float") := by decide +kernel
theorem boot_complex : bootBuiltins (Str.ofString "complex") = some (.type "complex") := by decide +kernel
theorem boot_str : bootBuiltins (Str.ofString "str") = some (.type "str") := by decide +kernel
theorem boot_list : bootBuiltins (Str.ofString "list") = some (.type "list") := by decide +kernel
theorem boot_tuple : bootBuiltins (Str.ofString "tuple") = some (.type "tuple") := by decide +kernel
theorem boot_dict : bootBuiltins (Str.ofString "dict") = some (.type "dict") := by decide +kernel
theorem boot_set : bootBuiltins (Str.ofString "set") = some (.type "set") := by decide +kernel
theorem boot_frozenset : bootBuiltins (Str.ofString "frozenset") = some (.type "frozenset") := by decide +kernel
theorem boot_range : bootBuiltins (Str.ofString "range") = some (.type "range") := by decide +kernel
theorem boot_enumerate : bootBuiltins (Str.ofString "enumerate") = some (.type "enumerate") := by decide +kernel
theorem boot_len : bootBuiltins (Str.ofString "len") = some (.builtin "len") := by decide +kernel
theorem boot_isinstance : bootBuiltins (Str.ofString "isinstance") = some (.builtin "isinstance") := by decide +kernel
theorem boot_ord : bootBuiltins (Str.ofString "ord") = some (.builtin "ord") := by decide +kernel
theorem boot_chr : bootBuiltins (Str.ofString "chr") = some (.builtin "chr") := by decide +kernel
theorem boot_sum : bootBuiltins (Str.ofString "sum") = some (.builtin "sum") := by decide +kernel
theorem boot_min : bootBuiltins (Str.ofString "min") = some (.builtin "min") := by decide +kernel
end Mine
end
section
open PySem PySem.W PySem.Spec PySem.Calls PyProof.Rows
set_option Elab.async false
set_option linter.unusedVariables false
set_option maxRecDepth 100000
namespace Mine
section
variable {c : Cx} {l : Loc} {Q : Fl → Loc → Prop}
noncomputable def WB (c : Cx) (t : Expr) (body orelse : List Stmt) (Q : Fl → Loc → Prop) : Nat → Loc → Prop
  | 0, l => ∃ b, TR c l t b ∧ b = false ∧ ST c l (execs orelse c.env) Q
  | n + 1, l => ∃ b, TR c l t b ∧ (b = false → ST c l (execs orelse c.env) Q) ∧ (b = true → ST c l (execs body c.env) (fun fl l' => match fl with | .next => WB c t body orelse Q n l' | .cont => WB c t body orelse Q n l' | .brk => Q .next l' | .ret v => Q (.ret v) l'))
theorem st_whileB {t : Expr} {body orelse : List Stmt} {pos : Pos} (n : Nat) (h : WB c t body orelse Q n l) : ST c l (exec (.While t body orelse pos) c.env) Q := by
  refine st_while (fun n l => WB c t body orelse Q n l) n h fun n l h => ?_
  cases n with
  | zero =>
    obtain ⟨b, h1, rfl, h2⟩ := h
    exact ⟨false, h1, fun _ => h2, fun e => by cases e⟩
  | succ n =>
    obtain ⟨b, h1, h2, h3⟩ := h
    refine ⟨b, h1, h2, fun e => st_mono (h3 e) fun fl l' q => ?_⟩
    cases fl with
    | next => exact ⟨n, Nat.lt_succ_self n, q⟩
    | cont => exact ⟨n, Nat.lt_succ_self n, q⟩
    | brk => exact q
    | ret v => exact q
end
theorem bitOr_eq (x y : Int) : Builtin.bitOr x y = x + y - Builtin.bitAnd x y := by
  have h1 := bitXor_and x y
  have h2 : Builtin.bitXor x y = Builtin.bitOr x y - Builtin.bitAnd x y := rfl
  omega
theorem band_shift (k : Nat) : ∀ x y : Int, Builtin.bitAnd x (2 ^ k * y) = 2 ^ k * Builtin.bitAnd (x / 2 ^ k) y := by
  induction k with
  | zero => intro x y; simp
  | succ k ih =>
    intro x y
    have ec : (2 ^ (k + 1) * y : Int) = 2 * (2 ^ k * y) := by rw [Int.pow_succ, Int.mul_comm ((2 : Int) ^ k) 2, Int.mul_assoc]
    rw [ec, PySem.W.kbt_halves, Int.mul_ediv_cancel_left _ (by decide), if_neg (fun h => by rw [Int.mul_emod_right] at h; exact absurd h.2 (by decide)), ih, Int.add_zero]
    rw [Int.pow_succ, Int.mul_comm ((2 : Int) ^ k) 2, ← Int.ediv_ediv_of_nonneg (by decide), Int.mul_assoc]
theorem and_shift (x y : Int) (h0 : 0 ≤ y) (h1 : y < 256) : Builtin.bitAnd (x * 256) y = 0 := by
  rw [bitAnd_comm, Int.mul_comm, show (256 : Int) = 2 ^ 8 from rfl, band_shift, show y / 2 ^ 8 = 0 from by rw [show (2 : Int) ^ 8 = 256 from rfl]; omega, bitAnd_comm]
  have := bitAnd_range x (y := 0) (Int.le_refl _)
  omega
theorem step_lc {lc a : Int} (h0 : 0 ≤ a) (h1 : a < 256) : Builtin.bitAnd (Builtin.bitOr (lc * 2 ^ (8 : Int).toNat) a) 65535 = (lc * 256 + a) % 65536 := by
  have e : (2 : Int) ^ (8 : Int).toNat = 256 := by decide
  rw [e, bitOr_eq, and_shift _ _ h0 h1, bitAnd_m16]
  omega
theorem m6_lo (x : Int) : 0 ≤ Builtin.bitAnd x 63 := (bitAnd_range x (y := 63) (by decide)).1
theorem m6_hi (x : Int) : Builtin.bitAnd x 63 < 64 := by have := bitAnd_range x (y := 63) (by decide); omega
noncomputable def b64tab : List UInt8 := [65, 66, 67, 68, 69, 70, 71, 72, 73, 74, 75, 76, 77, 78, 79, 80, 81, 82, 83, 84, 85, 86, 87, 88, 89, 90, 97, 98, 99, 100, 101, 102, 103, 104, 105, 106, 107, 108, 109, 110, 111, 112, 113, 114, 115, 116, 117, 118, 119, 120, 121, 122, 48, 49, 50, 51, 52, 53, 54, 55, 56, 57, 43, 47]
noncomputable def b64 (k : Int) : Int := ((b64tab.getD k.toNat 0).toNat : Int)
theorem call_K0 {prog : Program} {w : World} {K : Frag} {lv : Nat} {f : Addr} {args : List D} {d : D} (C : CALLK prog w K lv f args [] [] d) : CALL prog w K lv f args d := by
  intro dp un gd outer base s p loose mean mg mb av vs Q E hD hU B X T hav r hQ
  exact C dp un gd outer base s p loose mean mg mb av vs [] Q E hD hU B X T hav r (by simp only [RelL]) hQ
noncomputable def unI : D → Int
  | .int i => i
  | _ => 0
theorem k_bytesE {c : Cx} {ds : List D} (e : (ds.map unI).map .int = ds) (hr : ∀ n ∈ ds.map unI, 0 ≤ n ∧ n < 256) (hz : (ds.map unI).length ≤ 100000) : BCALL c (.type "bytes") [.lst ds] (.bytes (byteArr (ds.map unI))) := by
  have := k_bytes (c := c) hr hz
  rw [e] at this
  exact this
end Mine
end
section
open PySem PySem.W PySem.Spec PySem.Calls PyProof.Rows
set_option Elab.async false
set_option linter.unusedVariables false
set_option maxRecDepth 100000
namespace Mine
section
variable {c : Cx} {l : Loc} {Q : Fl → Loc → Prop}
theorem str_ne {a b : String} (h : a ≠ b) : Str.ofString a ≠ Str.ofString b := fun e => h (ofStr_inj.mp e)
theorem filter_true {ds : List D} : ds.filter (fun _ => true) = ds := List.filter_eq_self.mpr fun _ _ => rfl
end
end Mine
end
section
open PySem PySem.W PySem.Spec PySem.Calls PyProof.Rows
set_option Elab.async false
set_option linter.unusedVariables false
set_option maxRecDepth 100000
namespace Mine
section
variable {c : Cx} {l : Loc} {Q : Fl → Loc → Prop}
theorem ev_neg {a : Expr} {pos : Pos} {i : Int} (h : EV c l a (.int i)) : EV c l (.UnaryOp .USub a pos) (.int (-i)) := fun av own s inv Q E hQ =>
  wpAny_UnaryOp (h av own s inv _ _ fun v s₁ k₁ r₁ => by
    simp only [Rel] at r₁
    obtain ⟨t, rfl⟩ := r₁
    exact PyProof.Rows.neg_int (hQ _ _ (kp_trans k₁ (kp_tok _)) (by simp only [Rel]; exact ⟨_, rfl⟩)))
end
end Mine
end
section
open PySem PySem.W PySem.Spec PySem.Calls PyProof.Rows
set_option Elab.async false
set_option linter.unusedVariables false
set_option maxRecDepth 100000
namespace Mine
theorem fin_all {n : Nat} {P : Int → Prop} (h : ∀ j : Fin n, P (j.1 : Int)) {k : Int} (h0 : 0 ≤ k) (h1 : k < n) : P k := by
  have := h ⟨k.toNat, by omega⟩
  rwa [Int.toNat_of_nonneg h0] at this
theorem ten {P : Int → Prop} (h : ∀ j : Fin 10, P (j.1 : Int)) {k : Int} (h0 : 0 ≤ k) (h1 : k ≤ 9) : P k := fin_all h h0 (by omega)
theorem fa0 {α : Type} {P : α → Prop} : ∀ d ∈ ([] : List α), P d := fun _ h => nomatch h
theorem fa1 {α : Type} {P : α → Prop} {a : α} {l : List α} (h : P a) (t : ∀ d ∈ l, P d) : ∀ d ∈ a :: l, P d := List.forall_mem_cons.mpr ⟨h, t⟩
theorem lt63 {x : Int} (h : x ≤ 9) : x < 2 ^ 63 := Int.lt_of_le_of_lt h (by decide)
section
variable {c : Cx} {l : Loc} {Q : Fl → Loc → Prop}
end
end Mine
end
section
open PySem PySem.W PySem.Spec PySem.Calls PyProof.Rows
set_option Elab.async false
set_option linter.unusedVariables false
set_option genSizeOfSpec false
set_option genInjectivity false
set_option maxRecDepth 100000
namespace Mine
inductive BF where
  | len | type | bytes | range | ord | chr | isinst | sum | min | bool | int | float | complex | str | bytearray | list | tuple | dict | set | frozenset
noncomputable def BF.nm : BF → Str
  | .len => "len" | .type => "type" | .bytes => "bytes" | .range => "range" | .ord => "ord" | .chr => "chr" | .isinst => "isinstance" | .sum => "sum" | .min => "min" | .bool => "bool" | .int => "int" | .float => "float"
  | .complex => "complex" | .str => "str" | .bytearray => "bytearray" | .list => "list" | .tuple => "tuple" | .dict => "dict" | .set => "set" | .frozenset => "frozenset"
noncomputable def BF.vl : BF → Value
  | .len => .builtin "len" | .type => .type "type" | .bytes => .type "bytes" | .range => .type "range" | .ord => .builtin "ord" | .chr => .builtin "chr" | .isinst => .builtin "isinstance" | .sum => .builtin "sum" | .min => .builtin "min"
  | .bool => .type "bool" | .int => .type "int" | .float => .type "float" | .complex => .type "complex" | .str => .type "str" | .bytearray => .type "bytearray" | .list => .type "list" | .tuple => .type "tuple" | .dict => .type "dict"
  | .set => .type "set" | .frozenset => .type "frozenset"
inductive MF where
  | find | strip | split | join | partition | translate
noncomputable def MF.nm : MF → Str
  | .find => "find" | .strip => "strip" | .split => "split" | .join => "join" | .partition => "partition" | .translate => "translate"
inductive RE where
  | v (i : Nat)
  | int (i : Int)
  | str (x : Str)
  | none
  | bool (b : Bool)
  | byt (b : List UInt8)
  | g (x : Str) (d : D)
  | b (f : BF)
  | bin (op : Operator) (a b : RE)
  | cmp (op : CmpOp) (a b : RE)
  | not (a : RE)
  | neg (a : RE)
  | and (a b : RE)
  | or (as : RE)
  | ite (t a b : RE)
  | itj (t a b : RE)
  | nil
  | cons (a as : RE)
  | lst (as : RE)
  | tup (as : RE)
  | sub (a b : RE)
  | cut (a lo hi : RE) (fl fh : Bool)
  | bc (f : BF) (as : RE)
  | fc (f : Str) (as : RE)
  | fk (f : Str) (as : RE) (k : Str) (e : RE)
  | me (m : MF) (o as : RE)
  | mt (as : RE)
  | comp (elt : RE) (i : Nat) (it test : RE) (ft : Bool) (cs : List Nat)
noncomputable def nst : Expr → Bool
  | .Starred .. => false
  | _ => true
noncomputable def nsu : Expr → Bool
  | .Call _ [] [] _ => false
  | _ => true
noncomputable def mform (o : Expr) (apos pos : Pos) (es : List Expr) : Bool := nsu o && Nat.blt es.length 30 && Nat.beq apos.endLine pos.line
noncomputable def shp : Expr → Bool
  | .Starred .. => false
  | .Slice .. => false
  | .Set .. => false
  | .ListComp .. => false
  | .SetComp .. => false
  | .DictComp .. => false
  | _ => true
noncomputable def nameAt (ns : List Str) (i : Nat) (x : Str) : Bool := match ns[i]? with
  | some y => y == x
  | .none => false
noncomputable def uniqAt : List Str → Nat → Str → Bool
  | [], _, _ => false
  | y :: r, 0, x => y == x && r.all fun z => !(z == x)
  | y :: r, n + 1, x => !(y == x) && uniqAt r n x
noncomputable def isK (S : Scope) (x : Str) (k : NameKind) : Bool := match S.names.lookup x with
  | some q => q == k
  | .none => false
noncomputable def glob (S : Scope) (x : Str) : Bool := isK S x .globalImplicit && !(x == ("__debug__" : Str))
noncomputable def compSc (S sc : Scope) (x : Str) : Bool :=
  sc.kind == .function && isK sc x .local && sc.names.all fun y => !(y.2 == .cell) && (!(y.2 == .local) || isK sc y.1 .local) && (!(y.2 == .free) || isK S y.1 .cell)
noncomputable def capOk (sc : Scope) (ns : List Str) (x : Str) (j : Nat) : Bool := match ns[j]? with
  | some y => !(y == x) && isK sc y .free && !(y == ("__classdict__" : Str))
  | .none => false
noncomputable def chk (ns : List Str) : RE → Scope → Bool → Expr → Bool
  | .v i => fun S top e => match e with | .Name x _ => nameAt ns i x && !(x == ("__debug__" : Str)) | _ => false
  | .int i => fun S top e => match e with | .Constant (.int j) _ _ => i == j | _ => false
  | .str x => fun S top e => match e with | .Constant (.str j) _ _ => x == j | _ => false
  | .none => fun S top e => match e with | .Constant .none _ _ => true | _ => false
  | .bool b => fun S top e => match e with | .Constant (.bool j) _ _ => b == j | _ => false
  | .byt b => fun S top e => match e with | .Constant (.bytes j) _ _ => b == j | _ => false
  | .g x d => fun S top e => match e with | .Name y _ => x == y && glob S y | _ => false
  | .b f => fun S top e => match e with | .Name y _ => f.nm == y && glob S y | _ => false
  | .bin op a b => fun S top e => match e with | .BinOp a' op' b' _ => op == op' && chk ns a S top a' && chk ns b S top b' | _ => false
  | .cmp op a b => fun S top e => match e with | .Compare a' [op'] [b'] _ => shp b' && op == op' && chk ns a S top a' && chk ns b S top b' | _ => false
  | .not a => fun S top e => match e with | .UnaryOp .Not a' _ => chk ns a S top a' | _ => false
  | .neg a => fun S top e => match e with | .UnaryOp .USub a' _ => chk ns a S top a' | _ => false
  | .and a b => fun S top e => match e with | .BoolOp .And [a', b'] _ => chk ns a S top a' && chk ns b S top b' | _ => false
  | .or as => fun S top e => match e with | .BoolOp .Or es p => chk ns as S top (.Tuple es 0 p) | _ => false
  | .ite t a b => fun S top e => match e with | .IfExp t' a' b' _ => chk ns t S top t' && chk ns a S top a' && chk ns b S top b' | _ => false
  | .itj t a b => fun S top e => match e with | .IfExp t' a' b' _ => chk ns t S top t' && chk ns a S top a' && chk ns b S top b' | _ => false
  | .nil => fun S top e => match e with | .Tuple [] 0 _ => true | _ => false
  | .cons a as => fun S top e => match e with | .Tuple (e :: es) 0 p => nst e && chk ns a S top e && chk ns as S top (.Tuple es 0 p) | _ => false
  | .lst as => fun S top e => match e with | .List es p => chk ns as S top (.Tuple es 0 p) | _ => false
  | .tup as => fun S top e => match e with | .Tuple es _ p => chk ns as S top (.Tuple es 0 p) | _ => false
  | .sub a b => fun S top e => match e with | .Subscript a' b' _ => shp b' && chk ns a S top a' && chk ns b S top b' | _ => false
  | .cut a lo hi fl fh => fun S top e => match e with
    | .Subscript a' (.Slice lo' hi' .none _) _ => chk ns a S top a' && (match lo' with | .none => !fl | some x => fl && chk ns lo S top x) && (match hi' with | .none => !fh | some x => fh && chk ns hi S top x)
    | _ => false
  | .bc f as => fun S top e => match e with | .Call (.Name y _) (x :: xs) [] p => f.nm == y && glob S y && chk ns as S top (.Tuple (x :: xs) 0 p) | _ => false
  | .fc f as => fun S top e => match e with | .Call (.Name y _) (x :: xs) [] p => f == y && glob S y && chk ns as S top (.Tuple (x :: xs) 0 p) | _ => false
  | .fk f as k v => fun S top e => match e with | .Call (.Name y _) (x :: xs) [⟨some k', v', _⟩] p => f == y && k == k' && glob S y && chk ns as S top (.Tuple (x :: xs) 0 p) && chk ns v S top v' | _ => false
  | .me m o as => fun S top e => match e with | .Call (.Attribute o' n q) (x :: xs) [] p => mform o' q p (x :: xs) && m.nm == n && chk ns o S top o' && chk ns as S top (.Tuple (x :: xs) 0 p) | _ => false
  | .mt as => fun S top e => match e with | .Call (.Attribute (.Name y w) n q) (x :: xs) [] p => mform (.Name y w) q p (x :: xs) && ("bytes" : Str) == y && ("maketrans" : Str) == n && glob S y && chk ns as S top (.Tuple (x :: xs) 0 p) | _ => false
  | .comp elt i it test ft cs => fun S top e => match e with
    | .ListComp elt' [⟨.Name x _, it', ifs, 0⟩] sc _ => top && shp it' && nameAt ns i x && compSc S sc x && cs.all (capOk sc ns x) && chk ns it S top it' && chk ns elt sc false elt' && (match ifs with | [] => !ft | t :: r => ft && r.isEmpty && chk ns test sc false t)
    | _ => false
noncomputable abbrev Env := List (Option D)
noncomputable def nth : Env → Nat → Option D
  | [], _ => .none
  | o :: _, 0 => o
  | _ :: r, n + 1 => nth r n
noncomputable def upd : Env → Nat → D → Env
  | [], _, _ => []
  | _ :: r, 0, d => some d :: r
  | o :: r, n + 1, d => o :: upd r n d
noncomputable def capE (ρ : Env) : List Nat → Env
  | [] => ρ.map fun _ => .none
  | j :: cs => match nth ρ j with
    | some d => upd (capE ρ cs) j d
    | .none => capE ρ cs
noncomputable def frozB : D → Bool
  | .mls _ => false
  | .tup l => frozBs l
  | .lst l => frozBs l
  | _ => true
where frozBs : List D → Bool
  | [] => true
  | d :: ds => frozB d && frozBs ds
structure Fx where
  prog : Program
  w : World
  K : Frag
  lv : Nat
  cl : Bool
noncomputable def FN (X : Fx) (f : Str) (ds : List D) (d : D) : Prop := ∃ a o fd lv', nsIn X.K mainGlobals f = some (some (.ref a)) ∧ X.K.lookup a = some o ∧ o.data = .func fd ∧ CALL X.prog X.w X.K lv' a ds d ∧ lv' + 1 ≤ X.lv
noncomputable def FNK (X : Fx) (f : Str) (ds : List D) (k : Str) (e d : D) : Prop := ∃ a o fd lv', nsIn X.K mainGlobals f = some (some (.ref a)) ∧ X.K.lookup a = some o ∧ o.data = .func fd ∧ CALLK X.prog X.w X.K lv' a ds [k] [e] d ∧ lv' + 1 ≤ X.lv
noncomputable def GV (X : Fx) (x : Str) (d : D) : Prop := ∃ v, nsIn X.K mainGlobals x = some (some v) ∧ ∀ mu h, X.K.In h → (∀ a ∈ mu, X.K.lookup a = .none) → Rel mu h d v
noncomputable def boolD (d : D) (K : Bool → Prop) : Prop := match d with
  | .bool b => K b
  | _ => False
noncomputable def lstD (d : D) (K : List D → Prop) : Prop := match d with
  | .lst l => K l
  | _ => False
noncomputable def intD (d : D) (K : Int → Prop) : Prop := match d with
  | .int i => K i
  | _ => False
noncomputable def strD (d : D) (K : Str → Prop) : Prop := match d with
  | .str i => K i
  | _ => False
noncomputable def bytD (d : D) (K : Array UInt8 → Prop) : Prop := match d with
  | .bytes i => K i
  | _ => False
noncomputable def valD (d : D) (K : Value → Prop) : Prop := match d with
  | .val i => K i
  | _ => False
noncomputable def nilD (l : List D) (P : Prop) : Prop := match l with
  | [] => P
  | _ :: _ => False
noncomputable def hdD (l : List D) (K : D → List D → Prop) : Prop := match l with
  | [] => False
  | x :: r => K x r
noncomputable def oneD (l : List D) (K : D → Prop) : Prop := hdD l fun x r => nilD r (K x)
noncomputable def twoD (l : List D) (K : D → D → Prop) : Prop := hdD l fun x r => oneD r fun y => K x y
noncomputable def truD (d : D) (K : Bool → Prop) : Prop := match d with
  | .bool b => K b
  | .int i => K (i != 0)
  | _ => False
inductive Md where
  | v | t | o | l
noncomputable def fin (K : D → Prop) (d : D) (m : Md) : Prop := match m with
  | .v => K d
  | .t => truD d fun b => K (.bool b)
  | _ => False
noncomputable def arD (x y : D) (K : Int → Int → Prop) : Prop := intD x fun a => intD y fun b => K a b
noncomputable def addD (x y : D) (K : D → Prop) : Prop := match x with
  | .int a => intD y fun b => K (.int (a + b))
  | .str a => strD y fun b => a.length + b.length ≤ sizeLine ∧ K (.str (a ++ b))
  | _ => False
noncomputable def binD (op : Operator) (x y : D) (K : D → Prop) : Prop := match op with
  | .Add => addD x y K
  | .Sub => arD x y fun a b => K (.int (a - b))
  | .Mult => arD x y fun a b => (-(2 ^ 64) < a ∧ a < 2 ^ 64) ∧ K (.int (a * b))
  | .FloorDiv => arD x y fun a b => (0 < b ∧ b < 1000000000000000000000000000000) ∧ K (.int (a / b))
  | .Mod => arD x y fun a b => 0 < b ∧ K (.int (a % b))
  | .Pow => arD x y fun a b => (0 ≤ b ∧ b ≤ 64 ∧ (a = 2 ∨ a = 8 ∨ a = 10)) ∧ K (.int (a ^ b.toNat))
  | .BitAnd => arD x y fun a b => K (.int (Builtin.bitAnd a b))
  | .BitOr => arD x y fun a b => K (.int (Builtin.bitOr a b))
  | .LShift => arD x y fun a b => (0 ≤ b ∧ b ≤ 64 ∧ -(2 ^ 64) < a ∧ a < 2 ^ 64) ∧ K (.int (a * 2 ^ b.toNat))
  | .RShift => arD x y fun a b => 0 ≤ b ∧ K (.int (a / 2 ^ b.toNat))
  | _ => False
noncomputable def augD (op : Operator) (x y : D) (K : D → Prop) : Prop := match op with
  | .Add => addD x y K
  | .Sub => arD x y fun a b => K (.int (a - b))
  | .FloorDiv => arD x y fun a b => (0 < b ∧ b < 10 ^ 9) ∧ K (.int (a / b))
  | _ => False
noncomputable def noneD (x : D) (K : Bool → Prop) : Prop := match x with
  | .none => K true
  | .bool _ => K false
  | .int _ => K false
  | .str _ => K false
  | .bytes _ => K false
  | _ => False
noncomputable def dataOk (x : D) : Prop := Plain x = true ∧ (toPy x).canLay0 = true ∧ (toPy x).depth ≤ 50
noncomputable def eqD (x y : D) (K : D → Prop) : Prop := match x with
  | .int a => intD y fun b => K (.bool (a == b))
  | .str a => strD y fun b => K (.bool (a == b))
  | x => (dataOk x ∧ dataOk y) ∧ K (.bool (PyData.eqv (toPy x) (toPy y)))
noncomputable def neD (x y : D) (K : D → Prop) : Prop := match x with
  | .int a => intD y fun b => K (.bool (a != b))
  | .str a => strD y fun b => K (.bool (a != b))
  | .bytes a => bytD y fun b => K (.bool (a.toList != b.toList))
  | x => (dataOk x ∧ dataOk y) ∧ K (.bool (!PyData.eqv (toPy x) (toPy y)))
noncomputable def isD (x y : D) (K : D → Prop) : Prop := match y with
  | .val b => valD x fun a => plainIs a b = true ∧ K (.bool (a == b))
  | .none => noneD x fun b => K (.bool b)
  | _ => False
noncomputable def isnD (x y : D) (K : D → Prop) : Prop := match y with
  | .none => noneD x fun b => K (.bool !b)
  | _ => False
noncomputable def inD (x y : D) (K : D → Prop) : Prop := match y with
  | .str b => strD x fun a => K (.bool (Txt.contains b a))
  | .lst l => (dataOk x ∧ Plains l = true ∧ PyData.canLayAll0 (toPys l) = true) ∧ K (.bool ((toPys l).any fun y => PyData.eqv y (toPy x)))
  | _ => False
noncomputable def ninD (x y : D) (K : D → Prop) : Prop := match y with
  | .mls l => (dataOk x ∧ Plains l = true ∧ PyData.canLayAll0 (toPys l) = true) ∧ K (.bool !((toPys l).any fun y => PyData.eqv y (toPy x)))
  | _ => False
noncomputable def cmD (op : CmpOp) (x y : D) (K : D → Prop) : Prop := match op with
  | .Eq => eqD x y K
  | .NotEq => neD x y K
  | .Lt => arD x y fun a b => K (.bool (decide (a < b)))
  | .LtE => arD x y fun a b => K (.bool (decide (a ≤ b)))
  | .Gt => arD x y fun a b => K (.bool (decide (b < a)))
  | .GtE => arD x y fun a b => K (.bool (decide (b ≤ a)))
  | .Is => isD x y K
  | .IsNot => isnD x y K
  | .In => inD x y K
  | .NotIn => ninD x y K
noncomputable def atD (ds : List D) (k : Int) (K : D → Prop) : Prop := (0 ≤ k ∧ k < 2 ^ 63) ∧ ∃ d, ds[k.toNat]? = some d ∧ K d
noncomputable def itD (x y : D) (K : D → Prop) : Prop := intD y fun k => match x with
  | .lst ds => atD ds k K
  | .mls ds => atD ds k K
  | .tup ds => atD ds k K
  | .str x => (-(x.length : Int) ≤ k ∧ k < x.length ∧ x.length ≤ 2 ^ 60) ∧ K (.str (Txt.item x k))
  | .bytes b => (0 ≤ k ∧ k < b.toList.length ∧ b.toList.length ≤ 2 ^ 30) ∧ K (.int (b.toList.getD k.toNat 0).toNat)
  | _ => False
noncomputable def partD (b : Bool) (w : (D → Prop) → Prop) (K : Option Int → Prop) : Prop := match b with
  | true => w fun y => intD y fun i => K (some i)
  | false => K .none
noncomputable def cutOk (n : Nat) (i j : Option Int) : Prop := n ≤ 1000 ∧ (∀ a, i = some a → 0 ≤ a ∧ a ≤ n) ∧ (∀ b, j = some b → 0 ≤ b) ∧ (∀ a b, i = some a → j = some b → a ≤ b ∧ b ≤ n)
noncomputable def cuD (x : D) (i j : Option Int) (K : D → Prop) : Prop := match x with
  | .str x => x.length ≤ sizeLine ∧ K (.str (Txt.slice x i j))
  | .lst ds => cutOk ds.length i j ∧ K (.lst (cutL ds i j))
  | _ => False
noncomputable def lenD (d : D) (K : D → Prop) : Prop := match d with
  | .str x => x.length ≤ 2 ^ 60 ∧ K (.int x.length)
  | .lst ds => ds.length ≤ 2 ^ 60 ∧ K (.int ds.length)
  | .bytes b => b.size ≤ 2 ^ 30 ∧ K (.int b.size)
  | _ => False
noncomputable def typeD (d : D) (K : D → Prop) : Prop := match d with
  | .bytes _ => K (.val (.type "bytes"))
  | .bool _ => K (.val (.type "bool"))
  | .int _ => K (.val (.type "int"))
  | .str _ => K (.val (.type "str"))
  | _ => False
noncomputable def rangeD (l : List D) (K : D → Prop) : Prop := hdD l fun x r => intD x fun n => match r with
  | [] => K (.rng 0 n 1)
  | y :: r => intD y fun b => oneD r fun z => intD z fun k => (k ≠ 0 ∧ k.natAbs < 1073741824) ∧ K (.rng n b k)
noncomputable def bcD (f : BF) (l : List D) (K : D → Prop) : Prop := match f with
  | .len => oneD l fun d => lenD d K
  | .type => oneD l fun d => typeD d K
  | .bytes => oneD l fun d => lstD d fun ds => ((ds.map unI).map .int = ds ∧ (∀ n ∈ ds.map unI, 0 ≤ n ∧ n < 256) ∧ (ds.map unI).length ≤ 100000) ∧ K (.bytes (byteArr (ds.map unI)))
  | .range => rangeD l K
  | .ord => oneD l fun d => strD d fun x => ∃ n, x = ⟨#[n]⟩ ∧ K (.int (n : Nat))
  | .chr => oneD l fun d => intD d fun i => (0 ≤ i ∧ i ≤ 1114111) ∧ K (.str ⟨#[i.toNat]⟩)
  | .isinst => twoD l fun x y => bytD x fun _ => valD y fun v => v = .type "bytes" ∧ K (.bool true)
  | _ => False
noncomputable def findD (x : Str) (l : List D) (K : D → Prop) : Prop := hdD l fun y r => strD y fun y => match r with
  | [] => K (.int (Txt.find x y))
  | z :: r => intD z fun i => nilD r (K (.int (Txt.find3 x y i)))
noncomputable def meD (m : MF) (o : D) (l : List D) (K : D → Prop) : Prop := match m with
  | .find => strD o fun x => findD x l K
  | .strip => strD o fun x => oneD l fun y => strD y fun y => x.length ≤ sizeLine ∧ K (.str (Txt.stripChars x y))
  | .split => strD o fun x => oneD l fun y => strD y fun y => ((y.length == 0) = false ∧ x.length ≤ sizeLine ∧ (Builtin.Str.partsBetween x (Builtin.Str.occurrences x y 0 x.length (x.length + 1)) y.length).length ≤ sizeLine) ∧ K (.lst ((Txt.split x y).map .str))
  | .join => strD o fun x => oneD l fun y => lstD y fun ds => ∃ ys, ds = ys.map .str ∧ JoinOk x ys = true ∧ K (.str (Txt.join x ys))
  | .partition => strD o fun x => oneD l fun y => strD y fun y => ((y.length == 0) = false ∧ x.length ≤ sizeLine) ∧ K (.tup [.str (Txt.partition x y).1, .str (Txt.partition x y).2.1, .str (Txt.partition x y).2.2])
  | .translate => bytD o fun b => oneD l fun t => bytD t fun t => (t.size = 256 ∧ b.size ≤ 100000) ∧ K (.bytes (transBy t b))
noncomputable def mtD (l : List D) (K : D → Prop) : Prop := twoD l fun a b => bytD a fun a => bytD b fun b => a.size = b.size ∧ K (.bytes (transOf a.toList b.toList))
noncomputable def srcD (d : D) (K : List D → Prop) : Prop := match d with
  | .lst ds => K ds
  | .tup ds => K ds
  | .str x => K (signsOf x)
  | .bytes b => K (bytesOf b)
  | .rng a b k => Builtin.Range.small a b k = true ∧ ∃ n : Nat, Builtin.Range.rangeSize a b k = n ∧ K (rngOf a k n)
  | _ => False
noncomputable def ifD (x : D) (A B : Prop) : Prop := boolD x fun p => (p = true → A) ∧ (p = false → B)
noncomputable def m0 (P : Prop) (m : Md) : Prop := match m with
  | .v => P
  | _ => False
noncomputable def m1 (P : Prop) (m : Md) : Prop := match m with
  | .t => P
  | _ => False
noncomputable def m01 (P : Prop) (m : Md) : Prop := match m with
  | .v => P
  | .t => P
  | _ => False
noncomputable def m23 (P Q : Prop) (m : Md) : Prop := match m with
  | .o => P
  | .l => Q
  | _ => False
noncomputable def wp (X : Fx) : RE → Md → Env → (D → Prop) → Prop
  | .v i => fun m ρ K => match nth ρ i with | some d => fin K d m | .none => False
  | .int i => fun m ρ K => fin K (.int i) m
  | .str x => fun m ρ K => fin K (.str x) m
  | .none => fun m ρ K => fin K .none m
  | .bool b => fun m ρ K => fin K (.bool b) m
  | .byt b => fun m ρ K => fin K (.bytes b.toArray) m
  | .g x d => fun m ρ K => GV X x d ∧ fin K d m
  | .b f => fun m ρ K => fin K (.val f.vl) m
  | .bin op a b => fun m ρ K => wp X a .v ρ fun x => wp X b .v ρ fun y => binD op x y fun d => fin K d m
  | .cmp op a b => fun m ρ K => m01 (wp X a .v ρ fun x => wp X b .v ρ fun y => cmD op x y K) m
  | .not a => fun m ρ K => m1 (wp X a .t ρ fun x => boolD x fun p => K (.bool !p)) m
  | .neg a => fun m ρ K => wp X a .v ρ fun x => intD x fun i => fin K (.int (-i)) m
  | .and a b => fun m ρ K => m01 (wp X a m ρ fun x => ifD x (wp X b m ρ fun y => boolD y fun q => K (.bool q)) (K (.bool false))) m
  | .or as => fun m ρ K => m1 (wp X as .o ρ K) m
  | .ite t a b => fun m ρ K => m0 (wp X t .t ρ fun x => ifD x (wp X a .v ρ K) (wp X b .v ρ K)) m
  | .itj t a b => fun m ρ K => m0 (wp X t .t ρ fun x => boolD x fun p => ∃ d, (p = true → wp X a .v ρ fun y => y = d) ∧ (p = false → wp X b .v ρ fun y => y = d) ∧ K d) m
  | .nil => fun m ρ K => m23 (K (.bool false)) (K (.lst [])) m
  | .cons a as => fun m ρ K => m23 (wp X a .t ρ fun x => ifD x (K (.bool true)) (wp X as .o ρ K)) (wp X a .v ρ fun d => wp X as .l ρ fun y => lstD y fun l => K (.lst (d :: l))) m
  | .lst as => fun m ρ K => m0 (wp X as .l ρ fun y => lstD y fun l => l.length ≤ 1000 ∧ K (.lst l)) m
  | .tup as => fun m ρ K => m0 (wp X as .l ρ fun y => lstD y fun l => l.length ≤ 1000 ∧ K (.tup l)) m
  | .sub a b => fun m ρ K => wp X a .v ρ fun x => wp X b .v ρ fun y => itD x y fun d => fin K d m
  | .cut a lo hi fl fh => fun m ρ K => wp X a .v ρ fun x => partD fl (wp X lo .v ρ) fun i => partD fh (wp X hi .v ρ) fun j => cuD x i j fun d => fin K d m
  | .bc f as => fun m ρ K => wp X as .l ρ fun y => lstD y fun l => bcD f l fun d => fin K d m
  | .fc f as => fun m ρ K => wp X as .l ρ fun y => lstD y fun l => ∃ d, FN X f l d ∧ fin K d m
  | .fk f as k v => fun m ρ K => wp X as .l ρ fun y => lstD y fun l => wp X v .v ρ fun e => ∃ d, FNK X f l k e d ∧ fin K d m
  | .me o ob as => fun m ρ K => wp X ob .v ρ fun x => wp X as .l ρ fun y => lstD y fun l => meD o x l fun d => fin K d m
  | .mt as => fun m ρ K => wp X as .l ρ fun y => lstD y fun l => mtD l fun d => fin K d m
  | .comp elt i it test ft cs => fun m ρ K => m0 (wp X it .v ρ fun s => srcD s fun items =>
      (frozB.frozBs items = true ∧ items.length ≤ 100000 ∧ cs.all (fun j => match nth ρ j with | some d => frozB d | .none => true) = true) ∧ (match ft with
      | false => ∃ f : D → D, (∀ d ∈ items, wp X elt .v (upd (capE ρ cs) i d) fun r => r = f d ∧ frozB r = true) ∧ K (.lst (items.map f))
      | true => ∃ (p : D → Bool) (f : D → D), (∀ d ∈ items, wp X test .t (upd (capE ρ cs) i d) fun r => r = .bool (p d)) ∧ (∀ d ∈ items, p d = true → wp X elt .v (upd (capE ρ cs) i d) fun r => r = f d ∧ frozB r = true) ∧ K (.lst ((items.filter p).map f)))) m
end Mine
end
section
open PySem PySem.W PySem.Spec PySem.Calls PyProof.Rows
set_option Elab.async false
set_option linter.unusedVariables false
set_option maxRecDepth 100000
namespace Mine
theorem nof {P : Prop} (h : false = true) : P := Bool.noConfusion h
theorem and2 {a b : Bool} (h : (a && b) = true) : a = true ∧ b = true := Bool.and_eq_true_iff.mp h
theorem nst_each {e : Expr} {es : List Expr} (h : nst e = true) (env : PySem.Env) : starEach (e :: es) env = (false, eval e env) :: starEach es env := by
  cases e <;> first | rfl | exact nof h
theorem nst_any {pos : Pos} {env : PySem.Env} : ∀ {es : List Expr}, (∀ e ∈ es, nst e = true) → (backTo pos (starEach es env)).any (·.1) = false
  | [], _ => rfl
  | e :: es, h => by
    rw [nst_each (h e (.head _))]
    exact nst_any fun x hx => h x (.tail _ hx)
theorem shp_swaps {e : Expr} {t : Option Expr} {n : Nat} (h : shp e = true) (env : PySem.Env) : swapsWith e t n env = pure false := by
  cases e <;> first | rfl | exact nof h
theorem shp_marks {e : Expr} {op : CmpOp} (h : shp e = true) : behindInMarks op e = false := by
  cases e <;> first | rfl | exact nof h
theorem shp_sub {e : Expr} (h : shp e = true) (o i : Value) : subscripted e false o i = operate [o, i] (getItem o i) := by
  cases e <;> first | rfl | exact nof h
theorem shp_fold {e : Expr} (h : shp e = true) (env : PySem.Env) (x : Value) : foldedSetIterable e env x = pure x := by
  cases e <;> first | rfl | exact nof h
structure CE (X : Fx) (S : Scope) (c : Cx) : Prop where
  prog : c.prog = X.prog
  w : c.w = X.w
  K : c.K = X.K
  lv : c.lv = X.lv
  gl : ∀ x, S.names.lookup x = some .globalImplicit → c.env.kindOf x = some .globalImplicit
structure CF (S : Scope) (c : Cx) : Prop where
  sc : c.env.scope = S
  loc : c.env.locals = c.L
  cells : c.env.cells = cellsFrom (c.L + 1) S.names []
structure XOk (X : Fx) : Prop where
  bl : ∀ f : BF, nsIn X.K mainGlobals f.nm = some none
  en : nsIn X.K mainGlobals "enumerate" = some none
  mt : findCls X.K (.type "bytes") (.type "type") "maketrans" = some (.val (.builtin "bytes.maketrans"))
noncomputable def Agr (ns : List Str) (ρ : Env) (l : Loc) : Prop := ∀ i d, nth ρ i = some d → ∃ x, ns[i]? = some x ∧ get l x = some d
theorem isK_out {S : Scope} {x : Str} {k : NameKind} (h : isK S x k = true) : S.names.lookup x = some k := by
  unfold isK at h
  split at h
  · next e => rw [e, eq_of_beq h]
  · exact nof h
theorem glob_out {S : Scope} {x : Str} (h : glob S x = true) : S.names.lookup x = some .globalImplicit ∧ (x == ("__debug__" : Str)) = false := by
  unfold glob at h
  obtain ⟨h1, h2⟩ := and2 h
  exact ⟨isK_out h1, by simpa using h2⟩
theorem nameAt_out {ns : List Str} {i : Nat} {x : Str} (h : nameAt ns i x = true) : ns[i]? = some x := by
  unfold nameAt at h
  split at h
  · next e => rw [e, eq_of_beq h]
  · exact nof h
theorem BF.boot (f : BF) : bootBuiltins f.nm = some f.vl := by
  cases f
  · exact boot_len
  · exact boot_type
  · exact boot_bytes
  · exact boot_range
  · exact boot_ord
  · exact boot_chr
  · exact boot_isinstance
  · exact boot_sum
  · exact boot_min
  · exact boot_bool
  · exact boot_int
  · exact boot_float
  · exact boot_complex
  · exact boot_str
  · exact boot_bytearray
  · exact boot_list
  · exact boot_tuple
  · exact boot_dict
  · exact boot_set
  · exact boot_frozenset
theorem BF.ne (f : BF) : f.nm ≠ "__name__" := by cases f <;> exact str_ne (by decide)
section
variable {X : Fx} {S : Scope} {c : Cx} {l : Loc}
theorem ev_b (ok : XOk X) (ce : CE X S c) {f : BF} {pos : Pos} (h : glob S f.nm = true) : EV c l (.Name f.nm pos) (.val f.vl) := by
  obtain ⟨h1, h2⟩ := glob_out h
  exact ev_blt (ce.gl _ h1) (ce.K ▸ ok.bl f) f.boot f.ne h2
theorem ev_gv (ce : CE X S c) {x : Str} {d : D} {pos : Pos} (h : glob S x = true) (g : GV X x d) : EV c l (.Name x pos) d := by
  obtain ⟨h1, h2⟩ := glob_out h
  obtain ⟨v, g1, g2⟩ := g
  exact ev_glob (ce.gl _ h1) (by rw [ce.K]; exact g1) (by rw [ce.K]; exact g2) h2
noncomputable def TV (e : Expr) : Prop := ∀ env, isTrue e env (eval e env) = (do let v ← eval e env; standAt e.pos; holding [v] (truthy v))
noncomputable def Out (c : Cx) (l : Loc) (e : Expr) (K : D → Prop) (m : Md) : Prop := match m with
  | .v => ∃ d, EV c l e d ∧ K d
  | .t => ∃ b, TR c l e b ∧ K (.bool b)
  | .o => ∃ es p, e = .Tuple es 0 p ∧ ∃ b, ORL c l es b ∧ K (.bool b)
  | .l => ∃ es p, e = .Tuple es 0 p ∧ (∀ x ∈ es, nst x = true) ∧ ∃ ds, EVL c l es ds ∧ K (.lst ds)
theorem boolD_out {d : D} {K : Bool → Prop} (h : boolD d K) : ∃ b, d = .bool b ∧ K b := by
  cases d with
  | bool b => exact ⟨b, rfl, h⟩
  | _ => exact h.elim
theorem lstD_out {d : D} {K : List D → Prop} (h : lstD d K) : ∃ b, d = .lst b ∧ K b := by
  cases d with
  | lst b => exact ⟨b, rfl, h⟩
  | _ => exact h.elim
theorem intD_out {d : D} {K : Int → Prop} (h : intD d K) : ∃ b, d = .int b ∧ K b := by
  cases d with
  | int b => exact ⟨b, rfl, h⟩
  | _ => exact h.elim
theorem strD_out {d : D} {K : Str → Prop} (h : strD d K) : ∃ b, d = .str b ∧ K b := by
  cases d with
  | str b => exact ⟨b, rfl, h⟩
  | _ => exact h.elim
theorem bytD_out {d : D} {K : Array UInt8 → Prop} (h : bytD d K) : ∃ b, d = .bytes b ∧ K b := by
  cases d with
  | bytes b => exact ⟨b, rfl, h⟩
  | _ => exact h.elim
theorem valD_out {d : D} {K : Value → Prop} (h : valD d K) : ∃ b, d = .val b ∧ K b := by
  cases d with
  | val b => exact ⟨b, rfl, h⟩
  | _ => exact h.elim
theorem nilD_out {l : List D} {P : Prop} (h : nilD l P) : l = [] ∧ P := by
  cases l with
  | nil => exact ⟨rfl, h⟩
  | cons _ _ => exact h.elim
theorem hdD_out {l : List D} {K : D → List D → Prop} (h : hdD l K) : ∃ x r, l = x :: r ∧ K x r := by
  cases l with
  | nil => exact h.elim
  | cons x r => exact ⟨x, r, rfl, h⟩
theorem oneD_out {l : List D} {K : D → Prop} (h : oneD l K) : ∃ x, l = [x] ∧ K x := by
  replace h := hdD_out h; obtain ⟨x, r, rfl, h⟩ := h
  replace h := nilD_out h; obtain ⟨rfl, h⟩ := h
  exact ⟨x, rfl, h⟩
theorem twoD_out {l : List D} {K : D → D → Prop} (h : twoD l K) : ∃ x y, l = [x, y] ∧ K x y := by
  replace h := hdD_out h; obtain ⟨x, r, rfl, h⟩ := h
  replace h := oneD_out h; obtain ⟨y, rfl, h⟩ := h
  exact ⟨x, y, rfl, h⟩
theorem arD_out {x y : D} {K : Int → Int → Prop} (h : arD x y K) : ∃ a b, x = .int a ∧ y = .int b ∧ K a b := by
  replace h := intD_out h; obtain ⟨a, rfl, h⟩ := h
  replace h := intD_out h; obtain ⟨b, rfl, h⟩ := h
  exact ⟨a, b, rfl, rfl, h⟩
theorem truD_out {d : D} {K : Bool → Prop} (h : truD d K) : ∃ b, TRUTH c d b ∧ K b := by
  cases d with
  | bool b => exact ⟨_, t_bool, h⟩
  | int b => exact ⟨_, t_int, h⟩
  | _ => exact h.elim
theorem out_fin {e : Expr} {d : D} {m : Md} {K : D → Prop} (h : EV c l e d) (tv : TV e) (f : fin K d m) : Out c l e K m := by
  cases m with
  | v => exact ⟨d, h, f⟩
  | t =>
    obtain ⟨b, t, k⟩ := truD_out (c := c) (show truD d _ from f)
    exact ⟨b, tr_val h t tv, k⟩
  | _ => exact f.elim
theorem bin_out {op : Operator} {x y : D} {K : D → Prop} (h : binD op x y K) : ∃ d, BIN c op x y d ∧ K d := by
  cases op with
  | Add =>
    cases x with
    | int a => replace h := intD_out h; obtain ⟨b, rfl, h⟩ := h; exact ⟨_, b_add, h⟩
    | str a => replace h := strD_out h; obtain ⟨b, rfl, h⟩ := h; exact ⟨_, b_cat h.1, h.2⟩
    | _ => exact h.elim
  | Sub => replace h := arD_out h; obtain ⟨a, b, rfl, rfl, h⟩ := h; exact ⟨_, b_sub, h⟩
  | Mult => replace h := arD_out h; obtain ⟨a, b, rfl, rfl, h⟩ := h; exact ⟨_, b_mul h.1.1 h.1.2, h.2⟩
  | FloorDiv => replace h := arD_out h; obtain ⟨a, b, rfl, rfl, h⟩ := h; exact ⟨_, b_div h.1.1 h.1.2, h.2⟩
  | Mod => replace h := arD_out h; obtain ⟨a, b, rfl, rfl, h⟩ := h; exact ⟨_, b_mod h.1, h.2⟩
  | Pow => replace h := arD_out h; obtain ⟨a, b, rfl, rfl, h⟩ := h; exact ⟨_, b_pow h.1.1 h.1.2.1 h.1.2.2 rfl, h.2⟩
  | BitAnd => replace h := arD_out h; obtain ⟨a, b, rfl, rfl, h⟩ := h; exact ⟨_, b_and, h⟩
  | BitOr => replace h := arD_out h; obtain ⟨a, b, rfl, rfl, h⟩ := h; exact ⟨_, b_or, h⟩
  | LShift => replace h := arD_out h; obtain ⟨a, b, rfl, rfl, h⟩ := h; exact ⟨_, b_shl h.1.1 h.1.2.1 h.1.2.2.1 h.1.2.2.2, h.2⟩
  | RShift => replace h := arD_out h; obtain ⟨a, b, rfl, rfl, h⟩ := h; exact ⟨_, b_shr h.1, h.2⟩
  | _ => exact h.elim
theorem aug_out {op : Operator} {x y : D} {K : D → Prop} (h : augD op x y K) : ∃ d, IBIN c op x y d ∧ K d := by
  cases op with
  | Add =>
    cases x with
    | int a => replace h := intD_out h; obtain ⟨b, rfl, h⟩ := h; exact ⟨_, ib_add, h⟩
    | str a => replace h := strD_out h; obtain ⟨b, rfl, h⟩ := h; exact ⟨_, ib_cat h.1, h.2⟩
    | _ => exact h.elim
  | Sub => replace h := arD_out h; obtain ⟨a, b, rfl, rfl, h⟩ := h; exact ⟨_, ib_sub, h⟩
  | FloorDiv => replace h := arD_out h; obtain ⟨a, b, rfl, rfl, h⟩ := h; exact ⟨_, ib_div h.1.1 h.1.2, h.2⟩
  | _ => exact h.elim
theorem noneD_out {d : D} {K : Bool → Prop} (h : noneD d K) : ∃ b, (∀ mu h v, Rel mu h d v → (v == Value.none) = b) ∧ K b := by
  cases d with
  | none => exact ⟨_, fun _ _ v (r : v = _) => by subst r; rfl, h⟩
  | bool b => exact ⟨_, fun _ _ v (r : v = _) => by subst r; rfl, h⟩
  | int b => exact ⟨_, fun _ _ v (r : ∃ t, v = _) => by obtain ⟨t, rfl⟩ := r; rfl, h⟩
  | str b => exact ⟨_, fun _ _ v (r : ∃ t, v = _) => by obtain ⟨t, rfl⟩ := r; rfl, h⟩
  | bytes b => exact ⟨_, fun _ _ v (r : ∃ t, v = _) => by obtain ⟨t, rfl⟩ := r; rfl, h⟩
  | _ => exact h.elim
theorem cm_data {x y : D} {K : D → Prop} (h : (dataOk x ∧ dataOk y) ∧ K (.bool (PyData.eqv (toPy x) (toPy y)))) : ∃ b, CMP c .Eq x y b ∧ K (.bool b) := by
  obtain ⟨⟨⟨p1, p2, p3⟩, q1, q2, q3⟩, h⟩ := h; exact ⟨_, c_deq p1 q1 p2 q2 p3, h⟩
theorem cm_ndata {x y : D} {K : D → Prop} (h : (dataOk x ∧ dataOk y) ∧ K (.bool (!PyData.eqv (toPy x) (toPy y)))) : ∃ b, CMP c .NotEq x y b ∧ K (.bool b) := by
  obtain ⟨⟨⟨p1, p2, p3⟩, q1, q2, q3⟩, h⟩ := h; exact ⟨_, c_dne p1 q1 p2 q2 p3, h⟩
theorem cm_out {op : CmpOp} {x y : D} {K : D → Prop} (h : cmD op x y K) : ∃ b, CMP c op x y b ∧ K (.bool b) := by
  cases op with
  | Eq =>
    cases x with
    | int a => replace h := intD_out h; obtain ⟨b, rfl, h⟩ := h; exact ⟨_, c_eq, h⟩
    | str a => replace h := strD_out h; obtain ⟨b, rfl, h⟩ := h; exact ⟨_, c_seq, h⟩
    | _ => exact cm_data h
  | NotEq =>
    cases x with
    | int a => replace h := intD_out h; obtain ⟨b, rfl, h⟩ := h; exact ⟨_, c_ne, h⟩
    | str a => replace h := strD_out h; obtain ⟨b, rfl, h⟩ := h; exact ⟨_, c_sne, h⟩
    | bytes a => replace h := bytD_out h; obtain ⟨b, rfl, h⟩ := h; exact ⟨_, c_bne, h⟩
    | _ => exact cm_ndata h
  | Lt => replace h := arD_out h; obtain ⟨a, b, rfl, rfl, h⟩ := h; exact ⟨_, c_lt, h⟩
  | LtE => replace h := arD_out h; obtain ⟨a, b, rfl, rfl, h⟩ := h; exact ⟨_, c_le, h⟩
  | Gt => replace h := arD_out h; obtain ⟨a, b, rfl, rfl, h⟩ := h; exact ⟨_, c_gt, h⟩
  | GtE => replace h := arD_out h; obtain ⟨a, b, rfl, rfl, h⟩ := h; exact ⟨_, c_ge, h⟩
  | Is =>
    cases y with
    | val b => replace h := valD_out h; obtain ⟨b, rfl, h⟩ := h; exact ⟨_, c_is h.1 rfl, h.2⟩
    | none => replace h := noneD_out (show noneD x (fun b => K (.bool b)) from h); obtain ⟨b, e, h⟩ := h; exact ⟨_, c_isNone e, h⟩
    | _ => exact h.elim
  | IsNot =>
    cases y with
    | none => replace h := noneD_out (show noneD x (fun b => K (.bool !b)) from h); obtain ⟨b, e, h⟩ := h; exact ⟨_, c_isNotNone e, h⟩
    | _ => exact h.elim
  | In =>
    cases y with
    | str b => replace h := strD_out h; obtain ⟨b, rfl, h⟩ := h; exact ⟨_, c_inS, h⟩
    | lst l => obtain ⟨⟨⟨p1, p2, p3⟩, q1, q2⟩, h⟩ := h; exact ⟨_, c_inL p1 q1 p2 q2 p3, h⟩
    | _ => exact h.elim
  | NotIn =>
    cases y with
    | mls l => obtain ⟨⟨⟨p1, p2, p3⟩, q1, q2⟩, h⟩ := h; exact ⟨_, c_notInM p1 q1 p2 q2 p3, h⟩
    | _ => exact h.elim
theorem it_out {x y : D} {K : D → Prop} (h : itD x y K) : ∃ d, ITEM c x y d ∧ K d := by
  replace h := intD_out h; obtain ⟨k, rfl, h⟩ := h
  cases x with
  | lst ds => obtain ⟨h1, d, h2, h3⟩ := h; exact ⟨d, i_lst h1.1 h1.2 h2, h3⟩
  | mls ds => obtain ⟨h1, d, h2, h3⟩ := h; exact ⟨d, i_mls h1.1 h1.2 h2, h3⟩
  | tup ds => obtain ⟨h1, d, h2, h3⟩ := h; exact ⟨d, i_tup h1.1 h1.2 h2, h3⟩
  | str x => exact ⟨_, i_str h.1.1 h.1.2.1 h.1.2.2, h.2⟩
  | bytes b => exact ⟨_, i_bytes (b := b.toList) h.1.1 h.1.2.1 h.1.2.2, h.2⟩
  | _ => exact h.elim
theorem cu_out {x : D} {i j : Option Int} {K : D → Prop} (h : cuD x i j K) : ∃ d, CUT c x i j d ∧ K d := by
  cases x with
  | str x => exact ⟨_, cut_str h.1, h.2⟩
  | lst l => obtain ⟨⟨h0, h1, h2, h3⟩, h⟩ := h; exact ⟨_, cut_lst h0 h1 h2 h3, h⟩
  | _ => exact h.elim
theorem bc_out {f : BF} {x : List D} {K : D → Prop} (h : bcD f x K) : ∃ d, BCALL c f.vl x d ∧ K d := by
  cases f with
  | len =>
    replace h := oneD_out h; obtain ⟨d, rfl, h⟩ := h
    cases d with
    | str x => exact ⟨_, k_lenS h.1, h.2⟩
    | lst x => exact ⟨_, k_lenL h.1, h.2⟩
    | bytes x => exact ⟨_, k_lenB h.1, h.2⟩
    | _ => exact h.elim
  | type =>
    replace h := oneD_out h; obtain ⟨d, rfl, h⟩ := h
    cases d with
    | bytes _ => exact ⟨_, k_type rfl rfl, h⟩
    | bool _ => exact ⟨_, k_type rfl rfl, h⟩
    | int _ => exact ⟨_, k_type rfl rfl, h⟩
    | str _ => exact ⟨_, k_type rfl rfl, h⟩
    | _ => exact h.elim
  | bytes =>
    replace h := oneD_out h; obtain ⟨d, rfl, h⟩ := h
    replace h := lstD_out h; obtain ⟨l, rfl, h⟩ := h
    exact ⟨_, k_bytesE h.1.1 h.1.2.1 h.1.2.2, h.2⟩
  | range =>
    replace h := hdD_out h; obtain ⟨d, r, rfl, h⟩ := h
    replace h := intD_out h; obtain ⟨a, rfl, h⟩ := h
    cases r with
    | nil => exact ⟨_, k_range1, h⟩
    | cons y r =>
      replace h := intD_out h; obtain ⟨b, rfl, h⟩ := h
      replace h := oneD_out h; obtain ⟨z, rfl, h⟩ := h
      replace h := intD_out h; obtain ⟨k, rfl, h⟩ := h
      exact ⟨_, k_range3 h.1.1 h.1.2, h.2⟩
  | ord =>
    replace h := oneD_out h; obtain ⟨d, rfl, h⟩ := h
    replace h := strD_out h; obtain ⟨x, rfl, n, rfl, h⟩ := h
    exact ⟨_, k_ord, h⟩
  | chr =>
    replace h := oneD_out h; obtain ⟨d, rfl, h⟩ := h
    replace h := intD_out h; obtain ⟨x, rfl, h⟩ := h
    exact ⟨_, k_chr h.1.1 h.1.2, h.2⟩
  | isinst =>
    replace h := twoD_out h; obtain ⟨x, y, rfl, h⟩ := h
    replace h := bytD_out h; obtain ⟨x, rfl, h⟩ := h
    replace h := valD_out h; obtain ⟨y, rfl, rfl, h⟩ := h
    exact ⟨_, k_isBytes, h⟩
  | _ => exact h.elim
theorem me_out {f : MF} {o : D} {x : List D} {K : D → Prop} (h : meD f o x K) : ∃ id d, METH c o f.nm id ∧ BCALL c (.builtin id) (o :: x) d ∧ K d := by
  cases f with
  | find =>
    replace h := strD_out h; obtain ⟨x, rfl, h⟩ := h
    replace h := hdD_out h; obtain ⟨y, r, rfl, h⟩ := h
    replace h := strD_out h; obtain ⟨y, rfl, h⟩ := h
    cases r with
    | nil => exact ⟨_, _, m_find, k_find, h⟩
    | cons z r =>
      replace h := intD_out h; obtain ⟨z, rfl, h⟩ := h
      replace h := nilD_out h; obtain ⟨rfl, h⟩ := h
      exact ⟨_, _, m_find, k_find3, h⟩
  | strip =>
    replace h := strD_out h; obtain ⟨x, rfl, h⟩ := h
    replace h := oneD_out h; obtain ⟨y, rfl, h⟩ := h
    replace h := strD_out h; obtain ⟨y, rfl, h⟩ := h
    exact ⟨_, _, m_strip, k_strip h.1, h.2⟩
  | split =>
    replace h := strD_out h; obtain ⟨x, rfl, h⟩ := h
    replace h := oneD_out h; obtain ⟨y, rfl, h⟩ := h
    replace h := strD_out h; obtain ⟨y, rfl, h⟩ := h
    exact ⟨_, _, m_split, k_split h.1.1 h.1.2.1 h.1.2.2, h.2⟩
  | join =>
    replace h := strD_out h; obtain ⟨x, rfl, h⟩ := h
    replace h := oneD_out h; obtain ⟨y, rfl, h⟩ := h
    replace h := lstD_out h; obtain ⟨_, rfl, ys, rfl, h1, h2⟩ := h
    exact ⟨_, _, m_join, k_join h1, h2⟩
  | partition =>
    replace h := strD_out h; obtain ⟨x, rfl, h⟩ := h
    replace h := oneD_out h; obtain ⟨y, rfl, h⟩ := h
    replace h := strD_out h; obtain ⟨y, rfl, h⟩ := h
    exact ⟨_, _, m_partition, k_partition h.1.1 h.1.2, h.2⟩
  | translate =>
    replace h := bytD_out h; obtain ⟨x, rfl, h⟩ := h
    replace h := oneD_out h; obtain ⟨y, rfl, h⟩ := h
    replace h := bytD_out h; obtain ⟨y, rfl, h⟩ := h
    exact ⟨_, _, m_translate, k_translate h.1.1 h.1.2, h.2⟩
theorem mt_out {x : List D} {K : D → Prop} (h : mtD x K) : ∃ d, BCALL c (.builtin "bytes.maketrans") x d ∧ K d := by
  replace h := twoD_out h; obtain ⟨x, y, rfl, h⟩ := h
  replace h := bytD_out h; obtain ⟨x, rfl, h⟩ := h
  replace h := bytD_out h; obtain ⟨y, rfl, h⟩ := h
  exact ⟨_, k_maketrans h.1, h.2⟩
theorem src_out {x : D} {K : List D → Prop} (h : srcD x K) : ∃ ds, SRCW c x ds ∧ K ds := by
  cases x with
  | lst _ => exact ⟨_, sw_lst, h⟩
  | tup _ => exact ⟨_, sw_tup, h⟩
  | str _ => exact ⟨_, sw_str, h⟩
  | bytes _ => exact ⟨_, sw_bytes, h⟩
  | rng _ _ _ => obtain ⟨h1, n, h2, h3⟩ := h; exact ⟨_, sw_rng h1 h2, h3⟩
  | _ => exact h.elim
end
mutual
theorem froz_of : ∀ {d : D}, frozB d = true → Froz d
  | .mls _, h => nof h
  | .tup l, h => frozs_of (ds := l) h
  | .lst l, h => frozs_of (ds := l) h
  | .none, _ => trivial
  | .bool _, _ => trivial
  | .int _, _ => trivial
  | .str _, _ => trivial
  | .bytes _, _ => trivial
  | .rng _ _ _, _ => trivial
  | .val _, _ => trivial
theorem frozs_of : ∀ {ds : List D}, frozB.frozBs ds = true → FrozL ds
  | [], _ => trivial
  | d :: ds, h => ⟨froz_of (and2 h).1, frozs_of (and2 h).2⟩
end
end Mine
end
section
open PySem PySem.W PySem.Spec PySem.Calls PyProof.Rows
set_option Elab.async false
set_option linter.unusedVariables false
set_option maxRecDepth 100000
namespace Mine
theorem clos_loop {env : PySem.Env} : ∀ (names : List (Str × NameKind)) (acc : List (Str × Addr)), (∀ y ∈ names, y.2 = .free → ∃ a, env.cells.lookup y.1 = some a) → (∀ q ∈ acc, env.cells.lookup q.1 = some q.2) →
    ∃ cl, (forIn names acc fun (x : Str × NameKind) (cs : List (Str × Addr)) => (if x.2 == NameKind.free then do let a ← cellOf env x.1; pure (ForInStep.yield ((x.1, a) :: cs)) else pure (ForInStep.yield cs) : Sem _)) = pure cl ∧
      (∀ q ∈ cl, env.cells.lookup q.1 = some q.2) ∧ (∀ y, (∃ a, acc.lookup y = some a) ∨ (y, NameKind.free) ∈ names → ∃ a, cl.lookup y = some a)
  | [], acc, _, h2 => ⟨acc, rfl, h2, fun y h => h.elim id fun q => nomatch q⟩
  | (x, k) :: r, acc, h1, h2 => by
    rw [List.forIn_cons]
    by_cases hk : k = .free
    · subst hk
      obtain ⟨a, ha⟩ := h1 _ (.head _) rfl
      obtain ⟨cl, e1, e2, e3⟩ := clos_loop r ((x, a) :: acc) (fun y hy => h1 y (.tail _ hy)) fun q hq => (List.mem_cons.mp hq).elim (fun z => z ▸ ha) (h2 q)
      refine ⟨cl, ?_, e2, fun y h => e3 y ?_⟩
      · rw [← e1]
        have hc : cellOf env x = pure a := by unfold cellOf; rw [ha]
        show ((do let a ← cellOf env x; pure (ForInStep.yield ((x, a) :: acc))) >>= _ : Sem _) = _
        rw [hc, pure_bind, pure_bind]
      · rcases h with ⟨b, hb⟩ | h
        · left
          rw [List.lookup_cons]
          by_cases q : (y == x) = true
          · simp only [q]; exact ⟨_, rfl⟩
          · simp only [q]; exact ⟨b, hb⟩
        · rcases List.mem_cons.mp h with e | h
          · left
            cases e
            rw [List.lookup_cons]
            simp only [beq_self_eq_true]; exact ⟨_, rfl⟩
          · exact .inr h
    · obtain ⟨cl, e1, e2, e3⟩ := clos_loop r acc (fun y hy => h1 y (.tail _ hy)) h2
      have hb : (k == NameKind.free) = false := by simpa using hk
      refine ⟨cl, ?_, e2, fun y h => e3 y (h.imp id fun q => ?_)⟩
      · rw [← e1]
        simp only [hb, Bool.false_eq_true, if_false, pure_bind]
      · rcases List.mem_cons.mp q with e | q
        · cases e; exact absurd rfl hk
        · exact q
theorem clos_ok {sc : Scope} {env : PySem.Env} (h : ∀ y ∈ sc.names, y.2 = .free → ∃ a, env.cells.lookup y.1 = some a) :
    ∃ cl, closureFor sc env = pure cl ∧ (∀ q ∈ cl, env.cells.lookup q.1 = some q.2) ∧ ∀ y, (y, NameKind.free) ∈ sc.names → ∃ a, cl.lookup y = some a := by
  obtain ⟨cl, e1, e2, e3⟩ := clos_loop (env := env) sc.names [] h (fun q e => nomatch e)
  refine ⟨cl, ?_, e2, fun y hy => e3 y (.inr hy)⟩
  show ((forIn sc.names [] fun (x : Str × NameKind) (cs : List (Str × Addr)) => (if x.2 == NameKind.free then do let a ← cellOf env x.1; pure (ForInStep.yield ((x.1, a) :: cs)) else pure (ForInStep.yield cs) : Sem _)) >>= fun r => pure r) = _
  rw [e1]; rfl
end Mine
end
section
open PySem PySem.W PySem.Spec PySem.Calls PyProof.Rows
set_option Elab.async false
set_option linter.unusedVariables false
set_option maxRecDepth 100000
namespace Mine
theorem nth_upd {i : Nat} {d : D} : ∀ {ρ : Env} {i j : Nat} {e : D}, nth (upd ρ i d) j = some e → (j = i ∧ e = d) ∨ (j ≠ i ∧ nth ρ j = some e)
  | [], _, _, _, h => by cases h
  | o :: r, 0, 0, e, h => .inl ⟨rfl, (Option.some.inj h).symm⟩
  | o :: r, 0, j + 1, e, h => .inr ⟨Nat.succ_ne_zero j, h⟩
  | o :: r, i + 1, 0, e, h => .inr ⟨(Nat.succ_ne_zero i).symm, h⟩
  | o :: r, i + 1, j + 1, e, h => (nth_upd (i := i) (ρ := r) (j := j) h).imp (fun q => ⟨congrArg (· + 1) q.1, q.2⟩) fun q => ⟨fun z => q.1 (Nat.succ.inj z), q.2⟩
theorem nth_none : ∀ {ρ : Env} {j : Nat} {e : D}, nth (ρ.map fun _ => none) j ≠ some e
  | [], _, _, h => by cases h
  | _ :: _, 0, _, h => by cases h
  | _ :: r, j + 1, _, h => nth_none (ρ := r) (j := j) h
theorem nth_cap {ρ : Env} : ∀ {cs : List Nat} {i : Nat} {e : D}, nth (capE ρ cs) i = some e → i ∈ cs ∧ nth ρ i = some e
  | [], i, e, h => absurd h nth_none
  | j :: cs, i, e, h => by
    unfold capE at h
    split at h
    · next d hd =>
      rcases nth_upd (i := i) h with ⟨rfl, rfl⟩ | ⟨_, h⟩
      · exact ⟨.head _, hd⟩
      · exact ⟨.tail _ (nth_cap h).1, (nth_cap h).2⟩
    · exact ⟨.tail _ (nth_cap h).1, (nth_cap h).2⟩
noncomputable def lcOf (ns : List Str) (ρ : Env) : List Nat → Loc
  | [] => []
  | j :: cs => match ns[j]?, nth ρ j with
    | some y, some d => (y, d) :: lcOf ns ρ cs
    | _, _ => lcOf ns ρ cs
theorem lcOf_out {ns : List Str} {ρ : Env} {y : Str} {d : D} : ∀ {cs : List Nat}, get (lcOf ns ρ cs) y = some d → ∃ j, j ∈ cs ∧ ns[j]? = some y ∧ nth ρ j = some d
  | [], h => by cases h
  | j :: cs, h => by
    unfold lcOf at h
    split at h
    · next e1 e2 =>
      simp only [get] at h
      split at h
      · next q => cases h; exact ⟨j, .head _, q ▸ e1, e2⟩
      · obtain ⟨k, h1, h2⟩ := lcOf_out h; exact ⟨k, .tail _ h1, h2⟩
    · obtain ⟨k, h1, h2⟩ := lcOf_out h; exact ⟨k, .tail _ h1, h2⟩
theorem lcOf_in {ns : List Str} {ρ : Env} {y : Str} {d : D} {j : Nat} (h2 : ns[j]? = some y) (h3 : nth ρ j = some d) : ∀ {cs : List Nat}, j ∈ cs → ∃ e, get (lcOf ns ρ cs) y = some e
  | k :: cs, h => by
    unfold lcOf
    rcases List.mem_cons.mp h with rfl | h
    · rw [h2, h3]; exact ⟨d, if_pos rfl⟩
    · obtain ⟨e, ih⟩ := lcOf_in h2 h3 h
      split
      · simp only [get]
        split
        · exact ⟨_, rfl⟩
        · exact ⟨e, ih⟩
      · exact ⟨e, ih⟩
theorem lookup_relabel_glob {env : PySem.Env} : ∀ {names : List (Str × NameKind)} {x : Str}, names.lookup x = some .globalImplicit →
    (names.map fun (n, k) => if (k == NameKind.free && env.scope.kind == .function && env.kindOf n == some .cell) then (n, NameKind.cell) else (n, k)).lookup x = some .globalImplicit
  | [], x, h => by cases h
  | (n, k) :: r, x, h => by
    show List.lookup x ((if (k == NameKind.free && env.scope.kind == .function && env.kindOf n == some .cell) = true then (n, NameKind.cell) else (n, k)) :: _) = _
    rw [List.lookup_cons] at h
    cases hx : x == n with
    | true =>
      simp only [hx] at h
      cases h
      rw [if_neg (by simp), List.lookup_cons, hx]
    | false =>
      simp only [hx] at h
      by_cases hc : (k == NameKind.free && env.scope.kind == .function && env.kindOf n == some .cell) = true
      · rw [if_pos hc, List.lookup_cons, hx]; exact lookup_relabel_glob h
      · rw [if_neg hc, List.lookup_cons, hx]; exact lookup_relabel_glob h
section
variable {X : Fx} {S : Scope} {c : Cx} {l : Loc} {ns : List Str} {ρ : Env}
theorem comp_ctx {sc : Scope} {x : Str} {i : Nat} {cs : List Nat} (ce : CE X S c) (cf : CF S c) (ag : Agr ns ρ l) (h : compSc S sc x = true) (hi : ns[i]? = some x) (hc : cs.all (capOk sc ns x) = true)
    (hf : cs.all (fun j => match nth ρ j with | some d => frozB d | none => true) = true) :
    ∃ cl, CompOk c sc cl x ∧ Sees c l sc cl (lcOf ns ρ cs) ∧ (∀ e, get (lcOf ns ρ cs) x ≠ some e) ∧ (∀ C, CE X sc (cx c sc cl C)) ∧ ∀ d, Agr ns (upd (capE ρ cs) i d) ((x, d) :: lcOf ns ρ cs) := by
  unfold compSc at h
  obtain ⟨h, h3⟩ := and2 h
  obtain ⟨h1, h2⟩ := and2 h
  have cell : ∀ y ∈ sc.names, y.2 = .free → S.names.lookup y.1 = some .cell := fun y hy e => by
    have := (and2 (List.all_eq_true.mp h3 y hy)).2
    rw [e] at this
    exact isK_out this
  have inCell : ∀ y, S.names.lookup y = some .cell → ∃ a, c.env.cells.lookup y = some a := fun y hy => by
    rw [cf.cells]; exact Option.isSome_iff_exists.mp (cellsFrom_some S.names _ [] (.inl hy))
  obtain ⟨cl, e1, e2', e3⟩ := clos_ok (sc := sc) (env := c.env) fun y hy e => inCell _ (cell y hy e)
  have e2 : ∀ y a, cl.lookup y = some a → c.env.cells.lookup y = some a := fun y a h => e2' _ (mem_of_lookup h)
  have capX : ∀ j ∈ cs, ∀ y, ns[j]? = some y → y ≠ x ∧ sc.names.lookup y = some .free ∧ (y == ("__classdict__" : Str)) = false := fun j hj y hy => by
    have := List.all_eq_true.mp hc j hj
    unfold capOk at this
    rw [hy] at this
    obtain ⟨q, q3⟩ := and2 this
    obtain ⟨q1, q2⟩ := and2 q
    exact ⟨by simpa using q1, isK_out q2, by simpa using q3⟩
  refine ⟨cl, ⟨e1, fun y hy e => ?_, eq_of_beq h1, fun y hy e => ?_, isK_out h2, e2⟩, ⟨fun y d hd => ?_⟩, fun e he => ?_, fun C => ⟨ce.prog, ce.w, ce.K, ce.lv, fun y hy => lookup_relabel_glob hy⟩, fun d j e he => ?_⟩
  · have := (and2 (and2 (List.all_eq_true.mp h3 y hy)).1).1
    rw [e] at this; exact nof this
  · have := (and2 (and2 (List.all_eq_true.mp h3 y hy)).1).2
    rw [e] at this; exact isK_out this
  · obtain ⟨j, hj, n1, n2⟩ := lcOf_out hd
    obtain ⟨_, q2, q3⟩ := capX j hj y n1
    obtain ⟨y', n1', g⟩ := ag j d n2
    rw [n1] at n1'; cases n1'
    have fr := List.all_eq_true.mp hf j hj
    rw [n2] at fr
    have hm : (y, NameKind.free) ∈ sc.names := mem_of_lookup q2
    exact ⟨g, froz_of fr, q2, q3, e3 y hm, .inl (by rw [Env.kindOf, cf.sc]; exact cell _ hm rfl)⟩
  · obtain ⟨j, hj, n1, n2⟩ := lcOf_out he
    exact (capX j hj x n1).1 rfl
  · rcases nth_upd (i := i) he with ⟨rfl, rfl⟩ | ⟨_, he⟩
    · exact ⟨x, hi, if_pos rfl⟩
    · obtain ⟨hj, n2⟩ := nth_cap he
      obtain ⟨y, n1, g⟩ := ag j e n2
      refine ⟨y, n1, ?_⟩
      obtain ⟨e', ge⟩ := lcOf_in n1 n2 hj
      obtain ⟨k, hk, m1, m2⟩ := lcOf_out ge
      obtain ⟨y', m1', g'⟩ := ag k e' m2
      rw [m1] at m1'; cases m1'
      rw [g] at g'; cases g'
      simp only [get]
      rw [if_neg (capX j hj y n1).1]; exact ge
end
end Mine
end
section
open PySem PySem.W PySem.Spec PySem.Calls PyProof.Rows
set_option Elab.async false
set_option linter.unusedVariables false
set_option maxRecDepth 100000
namespace Mine
theorem and3 {a b c : Bool} (h : (a && b && c) = true) : a = true ∧ b = true ∧ c = true := ⟨(and2 (and2 h).1).1, (and2 (and2 h).1).2, (and2 h).2⟩
theorem and4 {a b c d : Bool} (h : (a && b && c && d) = true) : a = true ∧ b = true ∧ c = true ∧ d = true := ⟨(and3 (and2 h).1).1, (and3 (and2 h).1).2.1, (and3 (and2 h).1).2.2, (and2 h).2⟩
theorem m0_out {P : Prop} {m : Md} (h : m0 P m) : m = .v ∧ P := by
  cases m with
  | v => exact ⟨rfl, h⟩
  | _ => exact h.elim
theorem m1_out {P : Prop} {m : Md} (h : m1 P m) : m = .t ∧ P := by
  cases m with
  | t => exact ⟨rfl, h⟩
  | _ => exact h.elim
theorem m01_out {P : Prop} {m : Md} (h : m01 P m) : (m = .v ∨ m = .t) ∧ P := by
  cases m with
  | v => exact ⟨.inl rfl, h⟩
  | t => exact ⟨.inr rfl, h⟩
  | _ => exact h.elim
theorem m23_out {P Q : Prop} {m : Md} (h : m23 P Q m) : (m = .o ∧ P) ∨ (m = .l ∧ Q) := by
  cases m with
  | o => exact .inl ⟨rfl, h⟩
  | l => exact .inr ⟨rfl, h⟩
  | _ => exact h.elim
theorem ifD_out {x : D} {A B : Prop} (h : ifD x A B) : ∃ p, x = .bool p ∧ (p = true → A) ∧ (p = false → B) := boolD_out h
section
variable {X : Fx} {ns : List Str}
noncomputable abbrev SND (X : Fx) (ns : List Str) (r : RE) : Prop := ∀ {c : Cx} {S : Scope} {top : Bool} {l : Loc} {ρ : Env} {m : Md} {e : Expr} {K : D → Prop}, CE X S c → (top = true → CF S c) → Agr ns ρ l → chk ns r S top e = true → wp X r m ρ K → Out c l e K m
theorem part_snd {fl : Bool} {lo : RE} {lo' : Option Expr} {c : Cx} {S : Scope} {top : Bool} {l : Loc} {ρ : Env} {K : Option Int → Prop} (H : SND X ns lo) (ce : CE X S c) (cf : top = true → CF S c) (ag : Agr ns ρ l)
    (hc : (match lo' with | .none => !fl | some x => fl && chk ns lo S top x) = true) (hw : partD fl (wp X lo .v ρ) K) : ∃ i, Part c l lo' i ∧ K i := by
  cases lo' with
  | none =>
    cases fl with
    | true => exact nof hc
    | false => exact ⟨none, Part.none, hw⟩
  | some x =>
    obtain ⟨h1, h2⟩ := and2 hc
    subst h1
    obtain ⟨d, h, k⟩ := H ce cf ag h2 (show wp X lo .v ρ _ from hw)
    obtain ⟨i, rfl, k⟩ := intD_out k
    exact ⟨some i, Part.some h, k⟩
theorem fn_snd {f : Str} {xs : List Expr} {x : Expr} {px pos : Pos} {ds : List D} {d : D} {c : Cx} {S : Scope} {l : Loc} (ce : CE X S c) (hg : glob S f = true) (hn : nst x = true) (ha : EVL c l (x :: xs) ds) (h : FN X f ds d) : EV c l (.Call (.Name f px) (x :: xs) [] pos) d := by
  obtain ⟨a, o, fd, lv', g1, g2, g3, g4, g5⟩ := h
  obtain ⟨h1, h2⟩ := glob_out hg
  exact ev_call (ev_globV (ce.gl _ h1) (by rw [ce.K]; exact g1) h2) (by rw [ce.K]; exact g2) g3 ha (call_at ce.prog ce.w ce.K g4) (by rw [ce.lv]; exact g5) (nst_each hn)
theorem fnk_snd {f k : Str} {xs : List Expr} {x v : Expr} {px kp pos : Pos} {ds : List D} {d e : D} {c : Cx} {S : Scope} {l : Loc} (ce : CE X S c) (hg : glob S f = true) (hn : nst x = true) (ha : EVL c l (x :: xs) ds) (hv : EV c l v e) (h : FNK X f ds k e d) : EV c l (.Call (.Name f px) (x :: xs) [⟨some k, v, kp⟩] pos) d := by
  obtain ⟨a, o, fd, lv', g1, g2, g3, g4, g5⟩ := h
  obtain ⟨h1, h2⟩ := glob_out hg
  intro av own s i Q E hQ
  rw [show eval (.Call (.Name f px) (x :: xs) [⟨some k, v, kp⟩] pos) c.env = (do callWith pos (← eval (.Name f px) c.env) [] (backTo pos (starEach (x :: xs) c.env)) (backToKw pos (keywordEach [⟨some k, v, kp⟩] c.env))) from rfl]
  refine wpAny_bind (ev_globV (ce.gl _ h1) (by rw [ce.K]; exact g1) h2 av own s i _ _ fun vv s₁ k₁ r₁ => ?_)
  simp only [Rel] at r₁
  subst r₁
  have i₁ := i.keeps k₁
  have g4' : CALLK c.prog c.w c.K lv' a ds [k] [e] d := by rw [ce.prog, ce.w, ce.K]; exact g4
  refine callWith_function_kw (o := o) (fd := fd) (evalArgs_kw2 rfl (ha av own s₁ i₁ pos _ _ fun vs s₂ k₂ r₂ => kwAll_cons (hv av own s₂ (i₁.keeps k₂) _ _ fun kv s₃ k₃ r₃ => kwAll_nil ⟨⟨((i₁.keeps k₂).keeps k₃).keepK _ _ (by rw [ce.K]; exact g2), g3⟩, ?_⟩)) (nst_each hn _))
  have i₃ := (i₁.keeps k₂).keeps k₃
  obtain ⟨m, F⟩ := i₃.fr
  have hD := i₃.ok.roomD
  have hU := i₃.ok.roomU
  have hl := ce.lv
  refine g4' (c.dp + 1) (c.un + 3) c.gd (c.fenv :: c.outer) c.base s₃ c.p c.loose c.mean c.mg c.mb (own ++ av) vs [kv] Q E (by omega) (by omega) (pushX i₃.ok.below F i₃.ok.frame i₃.ok.fkind) i₃.keepK (i₃.ok.top.keeps F.keep) (fun a ha => ⟨?_, notK i₃ a ha⟩) (r₂.kept (kp_kept k₃)) (by simp only [RelL]; exact ⟨kv, [], rfl, r₃, rfl⟩) fun v s' k r => hQ v s' (kp_trans k₁ (kp_trans k₂ (kp_trans k₃ k))) r
  exact i₃.alive a ha
theorem base_shape {o : Expr} {name : Str} {w : Sem Value} {env : PySem.Env} (h : nsu o = true) : attributeBase o name env w = w := by
  cases o with
  | Call f as ks p =>
    cases f with
    | Name _ _ =>
      cases as with
      | cons _ _ => rfl
      | nil =>
        cases ks with
        | cons _ _ => rfl
        | nil => exact nof h
    | _ => rfl
  | _ => rfl
theorem form_shape {es : List Expr} {pos : Pos} {env : PySem.Env} (hn : ∀ y ∈ es, nst y = true) (hl : es.length < 30) : methodCallForm (es.length + ([] : List Keyword).length) (backTo pos (starEach es env)) (backToKw pos (keywordEach [] env)) = true := by
  have e : (backTo pos (starEach es env)).all (!·.1) = true := by
    have := nst_any (pos := pos) (env := env) hn
    rw [List.all_eq_true]
    intro x hx
    have := (List.any_eq_false.mp this) x hx
    simpa using this
  show (_ && true && decide (es.length < 30)) = true
  rw [e, decide_eq_true hl]; rfl
theorem call_shape {o : Expr} {name : Str} {apos pos : Pos} {es : List Expr} (hm : mform o apos pos es = true) (hn : ∀ y ∈ es, nst y = true) (env : PySem.Env) : ∃ pl : Sem Bool, eval (.Call (.Attribute o name apos) es [] pos) env = (do
      let ov ← eval o env
      standAt apos.atName
      let (f, first) ← holding [ov] (getMethod ov name pl)
      callWith pos f first (backTo pos (starEach es env)) []) := by
  obtain ⟨h1, h2, h3⟩ := and3 hm
  refine ⟨(do return (← importBound o env).getD true), ?_⟩
  show (do
    let ov ← attributeBase o name env (eval o env)
    standAt apos.atName
    methodCall o name apos pos env ov (es.length + ([] : List Keyword).length) (backTo pos (starEach es env)) (backToKw pos (keywordEach [] env))) = _
  rw [base_shape h1]
  unfold methodCall
  rw [form_shape hn (Nat.le_of_ble_eq_true h2)]
  have hp : methodCallPos true o env apos pos = pure pos := by
    unfold methodCallPos
    rw [if_pos (by simp only [Nat.eq_of_beq_eq_true h3, beq_self_eq_true, Bool.or_true])]
  rw [hp]
  rfl
theorem me_snd {o x : Expr} {name : Str} {apos pos : Pos} {xs : List Expr} {id : String} {d₀ d : D} {ds : List D} {c : Cx} {l : Loc} (hf : mform o apos pos (x :: xs) = true) (h₀ : EV c l o d₀) (hm : METH c d₀ name id) (hn : ∀ y ∈ x :: xs, nst y = true) (ha : EVL c l (x :: xs) ds) (h : BCALL c (.builtin id) (d₀ :: ds) d) : EV c l (.Call (.Attribute o name apos) (x :: xs) [] pos) d :=
  ev_meth h₀ hm ha h (call_shape hf hn) (nst_each (hn _ (.head _))) fun env => nst_any fun y hy => hn y (.tail _ hy)
theorem bc_snd {f : BF} {x : Expr} {px pos : Pos} {xs : List Expr} {d : D} {ds : List D} {c : Cx} {l : Loc} (h₀ : EV c l (.Name f.nm px) (.val f.vl)) (hn : ∀ y ∈ x :: xs, nst y = true) (ha : EVL c l (x :: xs) ds) (h : BCALL c f.vl ds d) : EV c l (.Call (.Name f.nm px) (x :: xs) [] pos) d := by
  have he := fun env => nst_each (es := xs) (hn _ (.head _)) env
  have hp : ∀ env, (backTo pos (starEach xs env)).any (·.1) = false := fun env => nst_any fun y hy => hn y (.tail _ hy)
  generalize f.nm = nm at *
  cases f <;> first | exact ev_bcall h₀ ha h he hp | exact ev_tcall h₀ ha h he hp
theorem orl_nil {c : Cx} {l : Loc} : ORL c l [] false := fun av own s i Q E hQ => wpAny_allTrue_Or_nil (hQ s kp_rfl)
theorem type_type : typeOf (.type "bytes") = pure (.type "type") := by exact rfl
theorem one_test {c : Cx} {l : Loc} {ifs : List Expr} {b : Bool} (h : ifs = []) (hb : b = true) : Tests c l ifs b := by
  subst h; subst hb; exact Tests.nil
theorem comp_snd {elt it test : RE} {i : Nat} {ft : Bool} {cs : List Nat} {c : Cx} {S sc : Scope} {l : Loc} {ρ : Env} {elt' it' : Expr} {x : Str} {ifs : List Expr} {K : D → Prop}
    (H1 : SND X ns elt) (H2 : SND X ns it) (H3 : SND X ns test) (ce : CE X S c) (cf : CF S c) (ag : Agr ns ρ l) (hsh : shp it' = true) (hn : nameAt ns i x = true) (hsc : compSc S sc x = true) (hcs : cs.all (capOk sc ns x) = true) (hit : chk ns it S true it' = true) (helt : chk ns elt sc false elt' = true)
    (hte : (match ifs with | [] => !ft | t :: r => ft && r.isEmpty && chk ns test sc false t) = true)
    (hw : wp X it .v ρ fun s => srcD s fun items =>
      (frozB.frozBs items = true ∧ items.length ≤ 100000 ∧ cs.all (fun j => match nth ρ j with | some d => frozB d | .none => true) = true) ∧ (match (generalizing := false) ft with
      | false => ∃ f : D → D, (∀ d ∈ items, wp X elt .v (upd (capE ρ cs) i d) fun r => r = f d ∧ frozB r = true) ∧ K (.lst (items.map f))
      | true => ∃ (p : D → Bool) (f : D → D), (∀ d ∈ items, wp X test .t (upd (capE ρ cs) i d) fun r => r = .bool (p d)) ∧ (∀ d ∈ items, p d = true → wp X elt .v (upd (capE ρ cs) i d) fun r => r = f d ∧ frozB r = true) ∧ K (.lst ((items.filter p).map f)))) :
    ∃ (cl : List (Str × Addr)) (lc : Loc) (items : List D) (p : D → Bool) (f : D → D), CompOk c sc cl x ∧ Sees c l sc cl lc ∧ (∀ e, get lc x ≠ some e) ∧ ITERW c l it' items ∧ FrozL items ∧ items.length ≤ 100000 ∧
      (∀ C, ∀ d ∈ items, Tests (cx c sc cl C) ((x, d) :: lc) ifs (p d)) ∧ (∀ C, ∀ d ∈ items, p d = true → EV (cx c sc cl C) ((x, d) :: lc) elt' (f d)) ∧ (∀ d ∈ items, p d = true → Froz (f d)) ∧ K (.lst ((items.filter p).map f)) := by
  obtain ⟨s, hs, hw⟩ := H2 ce (fun _ => cf) ag hit hw
  obtain ⟨items, hsrc, ⟨hz, hl, hf⟩, hw⟩ := src_out (c := c) hw
  obtain ⟨cl, k, sees, hx, ce', ag'⟩ := comp_ctx (i := i) ce cf ag hsc (nameAt_out hn) hcs hf
  have elt_ : ∀ (f : D → D) C d, (wp X elt .v (upd (capE ρ cs) i d) fun r => r = f d ∧ frozB r = true) → EV (cx c sc cl C) ((x, d) :: lcOf ns ρ cs) elt' (f d) ∧ frozB (f d) = true := fun f C d h => by
    obtain ⟨r, h1, rfl, h3⟩ := H1 (ce' C) (fun e => nof e) (ag' d) helt h
    exact ⟨h1, h3⟩
  cases ft with
  | false =>
    obtain ⟨f, h1, hk⟩ := hw
    have e : ifs = [] := by
      cases ifs with
      | nil => rfl
      | cons _ _ => exact nof hte
    refine ⟨cl, _, items, fun _ => true, f, k, sees, hx, itw_ev hs hsrc, frozs_of hz, hl, fun C d hd => one_test e rfl, fun C d hd _ => (elt_ f C d (h1 d hd)).1, fun d hd _ => froz_of (elt_ f 0 d (h1 d hd)).2, ?_⟩
    rw [filter_true]; exact hk
  | true =>
    obtain ⟨p, f, h0, h1, hk⟩ := hw
    refine ⟨cl, _, items, p, f, k, sees, hx, itw_ev hs hsrc, frozs_of hz, hl, fun C d hd => ?_, fun C d hd q => (elt_ f C d (h1 d hd q)).1, fun d hd q => froz_of (elt_ f 0 d (h1 d hd q)).2, hk⟩
    cases ifs with
    | nil => exact nof hte
    | cons t r =>
      obtain ⟨_, q2, q3⟩ := and3 hte
      obtain rfl : r = [] := List.isEmpty_iff.mp q2
      obtain ⟨b, h2, h3⟩ := H3 (ce' C) (fun e => nof e) (ag' d) q3 (h0 d hd)
      cases h3
      exact Tests.one h2
end
end Mine
end
section
open PySem PySem.W PySem.Spec PySem.Calls PyProof.Rows
set_option Elab.async false
set_option linter.unusedVariables false
set_option maxRecDepth 100000
namespace Mine
section
variable {X : Fx} {ns : List Str}
theorem ag_name {c : Cx} {l : Loc} {ρ : Env} {i : Nat} {x : Str} {p : Pos} {d : D} (ag : Agr ns ρ l) (h : (nameAt ns i x && !(x == ("__debug__" : Str))) = true) (e : nth ρ i = some d) : EV c l (.Name x p) d := by
  obtain ⟨h1, h2⟩ := and2 h
  obtain ⟨y, n1, g⟩ := ag i d e
  rw [nameAt_out h1] at n1; cases n1
  exact ev_name g (by simpa using h2)
theorem snd (ok : XOk X) : ∀ (r : RE), SND X ns r
  | .v i, c, S, top, l, ρ, m, e, K, ce, cf, ag, hc, hw => by
    cases e with
    | Name x p =>
      cases e : nth ρ i with
      | none => have q : (match nth ρ i with | some d => fin K d m | .none => False) := hw; rw [e] at q; exact q.elim
      | some d => have q : (match nth ρ i with | some d => fin K d m | .none => False) := hw; rw [e] at q; exact out_fin (ag_name ag hc e) (fun _ => rfl) q
    | _ => exact nof hc
  | .int i, c, S, top, l, ρ, m, e, K, ce, cf, ag, hc, hw => by
    cases e with
    | Constant k _ p =>
      cases k with
      | int j => rw [← show i = j from eq_of_beq hc]; exact out_fin ev_int (fun _ => rfl) hw
      | _ => exact nof hc
    | _ => exact nof hc
  | .str i, c, S, top, l, ρ, m, e, K, ce, cf, ag, hc, hw => by
    cases e with
    | Constant k _ p =>
      cases k with
      | str j => rw [← show i = j from eq_of_beq hc]; exact out_fin ev_str (fun _ => rfl) hw
      | _ => exact nof hc
    | _ => exact nof hc
  | .none, c, S, top, l, ρ, m, e, K, ce, cf, ag, hc, hw => by
    cases e with
    | Constant k _ p =>
      cases k with
      | none => exact out_fin ev_none (fun _ => rfl) hw
      | _ => exact nof hc
    | _ => exact nof hc
  | .bool i, c, S, top, l, ρ, m, e, K, ce, cf, ag, hc, hw => by
    cases e with
    | Constant k _ p =>
      cases k with
      | bool j => rw [← show i = j from eq_of_beq hc]; exact out_fin ev_bool (fun _ => rfl) hw
      | _ => exact nof hc
    | _ => exact nof hc
  | .byt i, c, S, top, l, ρ, m, e, K, ce, cf, ag, hc, hw => by
    cases e with
    | Constant k _ p =>
      cases k with
      | bytes j => rw [← show i = j from eq_of_beq hc]; exact out_fin ev_bytes (fun _ => rfl) hw
      | _ => exact nof hc
    | _ => exact nof hc
  | .g x d, c, S, top, l, ρ, m, e, K, ce, cf, ag, hc, hw => by
    cases e with
    | Name y p =>
      obtain ⟨h1, h2⟩ := and2 hc
      exact out_fin (ev_gv ce h2 ((show x = y from eq_of_beq h1) ▸ hw.1)) (fun _ => rfl) hw.2
    | _ => exact nof hc
  | .b f, c, S, top, l, ρ, m, e, K, ce, cf, ag, hc, hw => by
    cases e with
    | Name y p =>
      obtain ⟨h1, h2⟩ := and2 hc
      rw [← show f.nm = y from eq_of_beq h1] at h2 ⊢
      exact out_fin (ev_b ok ce h2) (fun _ => rfl) hw
    | _ => exact nof hc
  | .bin op a b, c, S, top, l, ρ, m, e, K, ce, cf, ag, hc, hw => by
    cases e with
    | BinOp a' op' b' p =>
      obtain ⟨h1, h2, h3⟩ := and3 hc
      rw [← show op = op' from eq_of_beq h1]
      obtain ⟨x, e1, hw⟩ := snd ok a ce cf ag h2 (show wp X a .v ρ _ from hw)
      obtain ⟨y, e2, hw⟩ := snd ok b ce cf ag h3 hw
      obtain ⟨d, e3, hw⟩ := bin_out (c := c) hw
      exact out_fin (ev_bin e1 e2 e3) (fun _ => rfl) hw
    | _ => exact nof hc
  | .cmp op a b, c, S, top, l, ρ, m, e, K, ce, cf, ag, hc, hw => by
    cases e with
    | Compare a' ops bs p =>
      cases ops with
      | nil => exact nof hc
      | cons op' ops =>
        cases ops with
        | cons _ _ => exact nof hc
        | nil =>
          cases bs with
          | nil => exact nof hc
          | cons b' bs =>
            cases bs with
            | cons _ _ => exact nof hc
            | nil =>
              obtain ⟨h0, h1, h2, h3⟩ := and4 hc
              rw [← show op = op' from eq_of_beq h1]
              replace hw := m01_out hw; obtain ⟨hm, hw⟩ := hw
              obtain ⟨x, e1, hw⟩ := snd ok a ce cf ag h2 hw
              obtain ⟨y, e2, hw⟩ := snd ok b ce cf ag h3 hw
              obtain ⟨d, e3, hw⟩ := cm_out (c := c) hw
              rcases hm with rfl | rfl
              · exact ⟨_, ev_cmp e1 e2 e3 (shp_marks h0), hw⟩
              · exact ⟨_, tr_cmp e1 e2 e3 (shp_marks h0), hw⟩
    | _ => exact nof hc
  | .not a, c, S, top, l, ρ, m, e, K, ce, cf, ag, hc, hw => by
    cases e with
    | UnaryOp op a' p =>
      cases op with
      | Not =>
        replace hw := m1_out hw; obtain ⟨rfl, hw⟩ := hw
        obtain ⟨b, e1, hw⟩ := snd ok a ce cf ag hc hw
        exact ⟨_, tr_not e1, hw⟩
      | _ => exact nof hc
    | _ => exact nof hc
  | .neg a, c, S, top, l, ρ, m, e, K, ce, cf, ag, hc, hw => by
    cases e with
    | UnaryOp op a' p =>
      cases op with
      | USub =>
        obtain ⟨x, e1, hw⟩ := snd ok a ce cf ag hc (show wp X a .v ρ _ from hw)
        obtain ⟨i, rfl, hw⟩ := intD_out hw
        exact out_fin (ev_neg e1) (fun _ => rfl) hw
      | _ => exact nof hc
    | _ => exact nof hc
  | .and a b, c, S, top, l, ρ, m, e, K, ce, cf, ag, hc, hw => by
    cases e with
    | BoolOp op es p =>
      cases op with
      | Or => exact nof hc
      | And =>
        cases es with
        | nil => exact nof hc
        | cons a' es =>
          cases es with
          | nil => exact nof hc
          | cons b' es =>
            cases es with
            | cons _ _ => exact nof hc
            | nil =>
              obtain ⟨h1, h2⟩ := and2 hc
              replace hw := m01_out hw; obtain ⟨hm, hw⟩ := hw
              rcases hm with rfl | rfl
              · obtain ⟨x, e1, hw⟩ := snd ok a ce cf ag h1 hw
                obtain ⟨q, rfl, k1, k2⟩ := ifD_out hw
                cases q with
                | false => exact ⟨_, ev_and (b₂ := false) e1 (fun z => nof z), k2 rfl⟩
                | true =>
                  obtain ⟨y, e2, hw⟩ := snd ok b ce cf ag h2 (k1 rfl)
                  obtain ⟨q, rfl, hw⟩ := boolD_out hw
                  exact ⟨_, ev_and e1 (fun _ => e2), hw⟩
              · obtain ⟨q, e1, k1, k2⟩ := snd ok a ce cf ag h1 hw
                cases q with
                | false => exact ⟨_, tr_and2 (b₂ := false) e1 (fun z => nof z), k2 rfl⟩
                | true =>
                  obtain ⟨q, e2, hw⟩ := snd ok b ce cf ag h2 (k1 rfl)
                  exact ⟨_, tr_and2 e1 (fun _ => e2), hw⟩
    | _ => exact nof hc
  | .or as, c, S, top, l, ρ, m, e, K, ce, cf, ag, hc, hw => by
    cases e with
    | BoolOp op es p =>
      cases op with
      | And => exact nof hc
      | Or =>
        replace hw := m1_out hw; obtain ⟨rfl, hw⟩ := hw
        obtain ⟨es', p', he, b, h, k⟩ := snd ok as ce cf ag hc hw
        cases he
        exact ⟨b, tr_orl h, k⟩
    | _ => exact nof hc
  | .ite t a b, c, S, top, l, ρ, m, e, K, ce, cf, ag, hc, hw => by
    cases e with
    | IfExp t' a' b' p =>
      obtain ⟨h1, h2, h3⟩ := and3 hc
      replace hw := m0_out hw; obtain ⟨rfl, hw⟩ := hw
      obtain ⟨q, e1, k1, k2⟩ := snd ok t ce cf ag h1 hw
      cases q with
      | true =>
        obtain ⟨d, e2, k⟩ := snd ok a ce cf ag h2 (k1 rfl)
        exact ⟨d, ev_if (d₂ := d) e1 (fun _ => e2) (fun z => nof z.symm), k⟩
      | false =>
        obtain ⟨d, e2, k⟩ := snd ok b ce cf ag h3 (k2 rfl)
        exact ⟨d, ev_if (d₁ := d) e1 (fun z => nof z) (fun _ => e2), k⟩
    | _ => exact nof hc
  | .itj t a b, c, S, top, l, ρ, m, e, K, ce, cf, ag, hc, hw => by
    cases e with
    | IfExp t' a' b' p =>
      obtain ⟨h1, h2, h3⟩ := and3 hc
      replace hw := m0_out hw; obtain ⟨rfl, hw⟩ := hw
      obtain ⟨q, e1, d, k1, k2, k⟩ := snd ok t ce cf ag h1 hw
      cases q with
      | true =>
        obtain ⟨d', e2, rfl⟩ := snd ok a ce cf ag h2 (k1 rfl)
        exact ⟨d', ev_if (d₂ := d') e1 (fun _ => e2) (fun z => nof z.symm), k⟩
      | false =>
        obtain ⟨d', e2, rfl⟩ := snd ok b ce cf ag h3 (k2 rfl)
        exact ⟨d', ev_if (d₁ := d') e1 (fun z => nof z) (fun _ => e2), k⟩
    | _ => exact nof hc
  | .nil, c, S, top, l, ρ, m, e, K, ce, cf, ag, hc, hw => by
    cases e with
    | Tuple es k p =>
      cases es with
      | cons _ _ => exact nof hc
      | nil =>
        cases k with
        | succ _ => exact nof hc
        | zero =>
          rcases m23_out hw with ⟨rfl, hw⟩ | ⟨rfl, hw⟩
          · exact ⟨[], p, rfl, false, orl_nil, hw⟩
          · exact ⟨[], p, rfl, (fun _ h => nomatch h), [], evl_nil, hw⟩
    | _ => exact nof hc
  | .cons a as, c, S, top, l, ρ, m, e, K, ce, cf, ag, hc, hw => by
    cases e with
    | Tuple es k p =>
      cases es with
      | nil => exact nof hc
      | cons x xs =>
        cases k with
        | succ _ => exact nof hc
        | zero =>
          obtain ⟨h0, h1, h2⟩ := and3 hc
          rcases m23_out hw with ⟨rfl, hw⟩ | ⟨rfl, hw⟩
          · obtain ⟨q, e1, k1, k2⟩ := snd ok a ce cf ag h1 hw
            cases q with
            | true => exact ⟨x :: xs, p, rfl, true, orl_true e1 rfl, k1 rfl⟩
            | false =>
              obtain ⟨es', p', he, b, h, k⟩ := snd ok as ce cf ag h2 (k2 rfl)
              cases he
              exact ⟨x :: xs, p, rfl, b, orl_false e1 rfl h, k⟩
          · obtain ⟨d, e1, hw⟩ := snd ok a ce cf ag h1 hw
            obtain ⟨es', p', he, hn, ds, h, k⟩ := snd ok as ce cf ag h2 hw
            cases he
            exact ⟨x :: xs, p, rfl, (fun y hy => (List.mem_cons.mp hy).elim (fun z => z ▸ h0) (hn y)), d :: ds, evl_cons e1 h (nst_each h0), k⟩
    | _ => exact nof hc
  | .lst as, c, S, top, l, ρ, m, e, K, ce, cf, ag, hc, hw => by
    cases e with
    | List es p =>
      replace hw := m0_out hw; obtain ⟨rfl, hw⟩ := hw
      obtain ⟨es', p', he, hn, ds, h, k⟩ := snd ok as ce cf ag hc hw
      cases he
      exact ⟨_, ev_list h k.1, k.2⟩
    | _ => exact nof hc
  | .tup as, c, S, top, l, ρ, m, e, K, ce, cf, ag, hc, hw => by
    cases e with
    | Tuple es kk p =>
      replace hw := m0_out hw; obtain ⟨rfl, hw⟩ := hw
      obtain ⟨es', p', he, hn, ds, h, k⟩ := snd ok as ce cf ag hc hw
      cases he
      exact ⟨_, ev_tuple h k.1, k.2⟩
    | _ => exact nof hc
  | .sub a b, c, S, top, l, ρ, m, e, K, ce, cf, ag, hc, hw => by
    cases e with
    | Subscript a' b' p =>
      obtain ⟨h1, h2, h3⟩ := and3 hc
      obtain ⟨x, e1, hw⟩ := snd ok a ce cf ag h2 (show wp X a .v ρ _ from hw)
      obtain ⟨y, e2, hw⟩ := snd ok b ce cf ag h3 hw
      obtain ⟨d, e3, hw⟩ := it_out (c := c) hw
      exact out_fin (ev_sub e1 e2 e3 (shp_sub h1)) (fun _ => rfl) hw
    | _ => exact nof hc
  | .cut a lo hi fl fh, c, S, top, l, ρ, m, e, K, ce, cf, ag, hc, hw => by
    cases e with
    | Subscript a' b' p =>
      cases b' with
      | Slice lo' hi' st' p' =>
        cases st' with
        | some _ => exact nof hc
        | none =>
          obtain ⟨h1, h2, h3⟩ := and3 hc
          obtain ⟨x, e1, hw⟩ := snd ok a ce cf ag h1 (show wp X a .v ρ _ from hw)
          obtain ⟨i, p1, hw⟩ := part_snd (snd ok lo) ce cf ag h2 hw
          obtain ⟨j, p2, hw⟩ := part_snd (snd ok hi) ce cf ag h3 hw
          obtain ⟨d, e3, hw⟩ := cu_out (c := c) hw
          exact out_fin (ev_cut e1 p1 p2 e3) (fun _ => rfl) hw
      | _ => exact nof hc
    | _ => exact nof hc
  | .bc f as, c, S, top, l, ρ, m, e, K, ce, cf, ag, hc, hw => by
    cases e with
    | Call fn es kw p =>
      cases fn with
      | Name y q =>
        cases es with
        | nil => exact nof hc
        | cons x xs =>
          cases kw with
          | cons _ _ => exact nof hc
          | nil =>
            obtain ⟨h1, h2, h3⟩ := and3 hc
            obtain ⟨es', p', he, hn, ds, h, k⟩ := snd ok as ce cf ag h3 (show wp X as .l ρ _ from hw)
            cases he
            obtain ⟨d, e3, hw⟩ := bc_out (c := c) k
            rw [← show f.nm = y from eq_of_beq h1] at h2 ⊢
            exact out_fin (bc_snd (ev_b ok ce h2) hn h e3) (fun _ => rfl) hw
      | _ => exact nof hc
    | _ => exact nof hc
  | .fc f as, c, S, top, l, ρ, m, e, K, ce, cf, ag, hc, hw => by
    cases e with
    | Call fn es kw p =>
      cases fn with
      | Name y q =>
        cases es with
        | nil => exact nof hc
        | cons x xs =>
          cases kw with
          | cons _ _ => exact nof hc
          | nil =>
            obtain ⟨h1, h2, h3⟩ := and3 hc
            obtain ⟨es', p', he, hn, ds, h, d, k, hw⟩ := snd ok as ce cf ag h3 (show wp X as .l ρ _ from hw)
            cases he
            rw [← show f = y from eq_of_beq h1] at h2 ⊢
            exact out_fin (fn_snd ce h2 (hn _ (.head _)) h k) (fun _ => rfl) hw
      | _ => exact nof hc
    | _ => exact nof hc
  | .fk f as k v, c, S, top, l, ρ, m, e, K, ce, cf, ag, hc, hw => by
    cases e with
    | Call fn es kw p =>
      cases fn with
      | Name y q =>
        cases es with
        | nil => exact nof hc
        | cons x xs =>
          cases kw with
          | nil => exact nof hc
          | cons k1 ks =>
            cases ks with
            | cons _ _ => cases k1 with | mk n _ _ => cases n <;> exact nof hc
            | nil =>
              cases k1 with
              | mk n v' q' =>
                cases n with
                | none => exact nof hc
                | some n =>
                  obtain ⟨hc, h5⟩ := and2 hc
                  obtain ⟨h1, h2, h3, h4⟩ := and4 hc
                  obtain ⟨es', p', he, hn, ds, h, hw⟩ := snd ok as ce cf ag h4 (show wp X as .l ρ _ from hw)
                  cases he
                  obtain ⟨ev, e2, d, g, hw⟩ := snd ok v ce cf ag h5 hw
                  rw [← show f = y from eq_of_beq h1] at h3 ⊢
                  rw [← show k = n from eq_of_beq h2]
                  exact out_fin (fnk_snd ce h3 (hn _ (.head _)) h e2 g) (fun _ => rfl) hw
      | _ => exact nof hc
    | _ => exact nof hc
  | .me o ob as, c, S, top, l, ρ, m, e, K, ce, cf, ag, hc, hw => by
    cases e with
    | Call fn es kw p =>
      cases fn with
      | Attribute o' n q =>
        cases es with
        | nil => exact nof hc
        | cons x xs =>
          cases kw with
          | cons _ _ => exact nof hc
          | nil =>
            obtain ⟨h0, h1, h2, h3⟩ := and4 hc
            obtain ⟨d₀, e1, hw⟩ := snd ok ob ce cf ag h2 (show wp X ob .v ρ _ from hw)
            obtain ⟨es', p', he, hn, ds, h, k⟩ := snd ok as ce cf ag h3 hw
            cases he
            obtain ⟨id, d, e2, e3, hw⟩ := me_out (c := c) k
            rw [← show o.nm = n from eq_of_beq h1]
            exact out_fin (me_snd h0 e1 e2 hn h e3) (fun _ => rfl) hw
      | _ => exact nof hc
    | _ => exact nof hc
  | .mt as, c, S, top, l, ρ, m, e, K, ce, cf, ag, hc, hw => by
    cases e with
    | Call fn es kw p =>
      cases fn with
      | Attribute o' n q =>
        cases o' with
        | Name y w =>
          cases es with
          | nil => exact nof hc
          | cons x xs =>
            cases kw with
            | cons _ _ => exact nof hc
            | nil =>
              obtain ⟨hc, h3⟩ := and2 hc
              obtain ⟨h0, h1, h2, h4⟩ := and4 hc
              obtain ⟨es', p', he, hn, ds, h, k⟩ := snd ok as ce cf ag h3 (show wp X as .l ρ _ from hw)
              cases he
              obtain ⟨d, e3, hw⟩ := mt_out (c := c) (show mtD ds (fun d => fin K d m) from k)
              rw [← show ("bytes" : Str) = y from eq_of_beq h1] at h0 h4 ⊢
              rw [← show ("maketrans" : Str) = n from eq_of_beq h2]
              exact out_fin (ev_smeth ce.K (ev_b ok ce (f := .bytes) h4) type_type (by decide +kernel) ok.mt (by decide +kernel) h e3 (call_shape h0 hn) (nst_each (hn _ (.head _))) fun env => nst_any fun y hy => hn y (.tail _ hy)) (fun _ => rfl) hw
        | _ => exact nof hc
      | _ => exact nof hc
    | _ => exact nof hc
  | .comp elt i it test ft cs, c, S, top, l, ρ, m, e, K, ce, cf, ag, hc, hw => by
    cases e with
    | ListComp elt' gs sc p =>
      cases gs with
      | nil => exact nof hc
      | cons g gs =>
        cases g with
        | mk t it' ifs k =>
          cases t with
          | Name x q =>
            cases gs with
            | cons _ _ => exact nof (by cases k with | ofNat n => (cases n <;> exact hc) | negSucc _ => exact hc)
            | nil =>
              by_cases hk : k = 0
              · subst hk
                obtain ⟨hc, h8⟩ := and2 hc
                obtain ⟨hc, h7⟩ := and2 hc
                obtain ⟨hc, h6⟩ := and2 hc
                obtain ⟨hc, h5⟩ := and2 hc
                obtain ⟨h1, h2, h3, h4⟩ := and4 hc
                subst h1
                replace hw := m0_out hw; obtain ⟨rfl, hw⟩ := hw
                obtain ⟨cl, lc, items, pp, f, k1, k2, k3, k4, k5, k6, k7, k8, k9, k⟩ := comp_snd (snd ok elt) (snd ok it) (snd ok test) ce (cf rfl) ag h2 h3 h4 h5 h6 h7 h8 hw
                exact ⟨_, ev_comp pp f k1 k2 k3 k4 k5 k6 k7 k8 k9 (shp_fold h2), k⟩
              · exact nof (by cases k with | ofNat n => (cases n with | zero => exact absurd rfl hk | succ _ => exact hc) | negSucc _ => exact hc)
          | _ => exact nof hc
    | _ => exact nof hc
end
end Mine
end
section
open PySem PySem.W PySem.Spec PySem.Calls PyProof.Rows
set_option Elab.async false
set_option linter.unusedVariables false
set_option maxRecDepth 100000
namespace Mine
noncomputable def under (l : List (Code × Pos)) : Prop := (l.any fun x => x.1.isCaller) = true
noncomputable def hasC (b : Bool) (Γ : PySem.Ctx) : Prop := b = true → Γ.code.isCaller = true ∨ under Γ.below
noncomputable def belowC (b : Bool) (Γ : PySem.Ctx) : Prop := b = true → under Γ.below
noncomputable def wpM {α : Type} (b : Bool) (M : Model) (A : Around) (t : Sem α) (Q : α → Shared → Prop) (E : Value → Shared → Prop) (s : Shared) : Prop :=
  ∀ Γ p, Γ.In A → hasC b Γ → Sem.wp M Γ t (fun a _ s' => Q a s') (fun e _ s' => E e s') p s
noncomputable def codeM (b : Bool) (M : Model) (A : Around) (c : Code) (R : Result → Shared → Prop) (s : Shared) : Prop :=
  ∀ Γ p, Γ.code = c → Γ.Below A → belowC b Γ → wpCode M Γ R p s
section
variable {α β : Type} {b : Bool} {M : Model} {A : Around} {E : Value → Shared → Prop} {s : Shared}
theorem wm_of {t : Sem α} {Q : α → Shared → Prop} (h : wpAny M A t Q E s) : wpM b M A t Q E s := fun Γ p hΓ _ => h Γ p hΓ
theorem wm_to {t : Sem α} {Q : α → Shared → Prop} (h : wpM false M A t Q E s) : wpAny M A t Q E s := fun Γ p hΓ => h Γ p hΓ fun q => nof q
theorem wm_mono {t : Sem α} {Q Q' : α → Shared → Prop} {E' : Value → Shared → Prop} (h : wpM b M A t Q E s) (hQ : ∀ a s, Q a s → Q' a s) (hE : ∀ e s, E e s → E' e s) : wpM b M A t Q' E' s :=
  fun Γ p hΓ hc => Sem.wp_mono M Γ t (fun a _ s => hQ a s) (fun e _ s => hE e s) p s (h Γ p hΓ hc)
theorem wm_bind {m : Sem α} {f : α → Sem β} {Q : β → Shared → Prop} (h : wpM b M A m (fun a s' => wpM b M A (f a) Q E s') E s) : wpM b M A (m >>= f) Q E s := fun Γ p hΓ hc => by
  rw [Sem.wp_bind']
  exact Sem.wp_mono M Γ m (fun a p' s' h' => h' Γ p' hΓ hc) (fun _ _ _ h' => h') p s (h Γ p hΓ hc)
theorem wm_seq {m : Sem α} {f : α → Sem β} {Q : β → Shared → Prop} (h : wpAny M A m (fun a s' => wpM b M A (f a) Q E s') E s) : wpM b M A (m >>= f) Q E s := wm_bind (wm_of h)
theorem wm_pure {a : α} {Q : α → Shared → Prop} (h : Q a s) : wpM b M A (pure a) Q E s := wm_of (wpAny_pure h)
theorem wm_holding {vs : List Value} {m : Sem α} {Q : α → Shared → Prop} (h : wpM b M A m Q E s) : wpM b M A (holding vs m) Q E s := fun Γ p hΓ hc => by
  rw [Sem.wp_holding]; exact h Γ p hΓ hc
theorem wm_onRaise {m : Sem α} {k : Value → Sem Unit} {Q : α → Shared → Prop} (h : wpM b M A m Q (fun e s' => wpM b M A (k e) (fun _ s'' => E e s'') E s') s) : wpM b M A (m.onRaise k) Q E s := fun Γ p hΓ hc => by
  rw [Sem.wp_onRaise]
  exact Sem.wp_mono M Γ m (fun _ _ _ h' => h') (fun e p' s' h' => h' Γ p' hΓ hc) p s (h Γ p hΓ hc)
theorem wm_attempt {m : Sem α} {Q : Except Value α → Shared → Prop} (h : wpM b M A m (fun a => Q (.ok a)) (fun e => Q (.error e)) s) : wpM b M A m.attempt Q E s := fun Γ p hΓ hc => by
  rw [Sem.wp_attempt]; exact h Γ p hΓ hc
theorem under_cons {c : Code} {p : Pos} {l : List (Code × Pos)} (h : c.isCaller = true ∨ under l) : under ((c, p) :: l) := by
  unfold under at *
  rw [List.any_cons, Bool.or_eq_true_iff]; exact h
theorem wm_runValue {c : Code} {Q : Value → Shared → Prop} (hc : codeM b M A c (fun r s' => match r with | .ok (.ret v) => Q v s' | .ok _ => False | .error e => E e s') s) : wpM b M A (runValue c) Q E s := fun Γ p hΓ hu => by
  rw [Sem.wp_runValue]
  exact hc _ p rfl (hΓ.enter c none p (by intro x; cases x)) fun q => under_cons (hu q)
theorem wm_call {f : Value} {pos : List Value} {kw : List (Str × Value)} {Q : Value → Shared → Prop} (hc : codeM b M A (.call f ⟨pos, kw⟩) (fun r s' => match r with | .ok (.ret v) => Q v s' | .ok _ => False | .error e => E e s') s) :
    wpM b M A (call f pos kw) Q E s := wm_runValue hc
theorem cm_of {c : Code} {R : Result → Shared → Prop} (h : codeAny M A c R s) : codeM b M A c R s := fun Γ p hc hΓ _ => h Γ p hc hΓ
theorem cm_mono {c : Code} {R R' : Result → Shared → Prop} (h : codeM b M A c R s) (hR : ∀ r s, R r s → R' r s) : codeM b M A c R' s := fun Γ p hc hΓ hu => wpCode_mono hR (h Γ p hc hΓ hu)
theorem cm_tree {c : Code} {R : Result → Shared → Prop}
    (h : wpM b M (A.under c) (M.den c) (fun fin s' => match fin with | .done f => R (.ok f) s' | .again c' => c'.quiet = true ∧ codeM b M A c' R s') (fun e s' => R (.error e) s') s) : codeM b M A c R s := fun Γ p hc hΓ hu => by
  rw [wpCode_iff_wp, hc]
  refine Sem.wp_mono M Γ _ (fun fin p' s' h' => ?_) (fun _ _ _ h' => h') p s (h Γ p (hc ▸ hΓ.in) fun q => .inr (hu q))
  cases fin with
  | done f => exact h'
  | again c' => exact ⟨h'.1, h'.2 (Γ.goto c') p' rfl (hΓ.goto c') hu⟩
theorem cm_loop {c : Code} {R : Result → Shared → Prop} (hq : c.quiet = true) (I : Nat → Shared → Prop)
    (turn : ∀ n s, I n s → wpM b M (A.under c) (M.den c) (fun fin s' => match fin with
        | .done f => R (.ok f) s'
        | .again c' => (c' = c ∧ ∃ m, m < n ∧ I m s') ∨ (c'.quiet = true ∧ codeM b M A c' R s')) (fun e s' => R (.error e) s') s) : ∀ (n : Nat) {s : Shared}, I n s → codeM b M A c R s := by
  intro n
  induction n using Nat.strongRecOn with
  | ind n ih =>
    intro s h
    refine cm_tree (wm_mono (turn n s h) (fun fin s' hf => ?_) fun _ _ h' => h')
    cases fin with
    | done f => exact hf
    | again c' =>
      rcases hf with ⟨rfl, m, hm, hI⟩ | hf
      · exact ⟨hq, ih m hm hI⟩
      · exact hf
end
section
variable {b : Bool} {prog : Program} {w : World} {A : Around} {E : Value → Shared → Prop} {s : Shared} {env : PySem.Env}
theorem wm_execs_cons {M : Model} {st : Stmt} {rest : List Stmt} {Q : Flow → Shared → Prop} (h : wpM b M A (exec st env) (fun f s' => match f with | .next => wpM b M A (execs rest env) Q E s' | f => Q f s') E s) : wpM b M A (execs (st :: rest) env) Q E s := fun Γ p hΓ hu => by
  rw [execs_cons, Sem.wp_bind']
  refine Sem.wp_mono M Γ _ (fun f p' s' h' => ?_) (fun _ _ _ h' => h') _ _ (h Γ p hΓ hu)
  cases f <;> first | exact h' Γ p' hΓ hu | exact h'
theorem wm_If {M : Model} {test : Expr} {body orelse : List Stmt} {pos : Pos} {Q : Flow → Shared → Prop} (h : wpM b M A (isTrue test env (eval test env)) (fun b' s₂ => if b' then wpM b M A (execs body env) Q E s₂ else wpM b M A (execs orelse env) Q E s₂) E s) :
    wpM b M A (exec (.If test body orelse pos) env) Q E s := fun Γ p hΓ hu => by
  simp only [exec_If, Sem.wp_bind', Sem.wp_cmd_standAt]
  refine Sem.wp_mono M Γ _ (fun b' p₂ s₂ h₂ => ?_) (fun _ _ _ h' => h') _ _ (h Γ _ hΓ hu)
  cases b' <;> exact h₂ Γ p₂ hΓ hu
theorem wm_Assign {M : Model} {x : Str} {pos' pos : Pos} {value : Expr} {Q : Flow → Shared → Prop} (h : wpM b M A (eval value env) (fun v s₁ => wpAny M A (storeName env x v) (fun _ => Q .next) E s₁) E s)
    (hs : swapsWith value (some (.Name x pos')) pos.line env = pure false) : wpM b M A (exec (.Assign [.Name x pos'] value pos) env) Q E s := fun Γ p hΓ hu => by
  simp only [exec_Assign_Name env x pos' value pos hs, Sem.wp_bind', Sem.wp_cmd_standAt, Sem.wp_bindName, Sem.wp_pure']
  exact Sem.wp_mono M Γ _ (fun v _ s₁ h₁ => h₁ Γ _ hΓ) (fun _ _ _ h' => h') _ _ (h Γ _ hΓ hu)
theorem cm_func {body : List Stmt} {R : Result → Shared → Prop}
    (h : wpM b (model prog w) (A.deeper env) (execs body env) (fun f s' => R (.ok (.ret (match f with | .ret v => v | _ => .none))) s')
      (fun e s' => wpAny (model prog w) (A.deeper env) (leaving env e) (fun _ s'' => R (.error e) s'') (fun e' s'' => R (.error e') s'') s') s) : codeM b (model prog w) A (.func body env) R s := by
  refine cm_tree ?_
  show wpM b _ (A.deeper env) (do point; match ← (execs body env).onRaise (leaving env) with | .ret v => ret v | _ => ret .none) _ _ s
  refine wm_seq (wpAny_point (wm_bind (wm_onRaise (wm_mono h (fun f s' h' => ?_) fun _ _ h' => wm_of h'))))
  cases f <;> exact wm_pure h'
theorem cm_call {a : Addr} {args : Args} {o : Obj} {fd : FuncData} {body : List Stmt} {R : Result → Shared → Prop} (hroom : A.depth < recursionLimit) (ho : s.heap.get? a = some o)
    (hd' : o.data = .func fd) (hco : fd.scope.isCoroutine = false) (hgen : fd.scope.isGenerator = false) (hbody : fd.body = .stmts body) (hcd : s.heap.CodeRec fd.code fd.qualname)
    (h : wpAny (model prog w) A.in1 (bindArgs fd args) (fun binds s₁ => wpAny (model prog w) A.in1 (newFunctionEnv fd.scope fd.globals fd.closure binds (fd.qualname ++ ".<locals>.") (some a) fd.code none fd.builtins)
        (fun env s₂ => s₂.heap.NoLimit ∧ codeM b (model prog w) A (.func body env) R s₂) (fun e s' => R (.error e) s') s₁) (fun e s' => R (.error e) s') s) : codeM b (model prog w) A (.call (.ref a) args) R s := by
  refine cm_tree ?_
  show wpM b _ A.in1 (callAny (.ref a) args) _ _ s
  simp only [callAny]
  refine wm_seq (wpAny_load ho ?_)
  obtain ⟨c, oc, vs, tq, hc, hoc, hdc, hq⟩ := hcd
  simp only [hd', callFunction, hco, hgen, hbody, hc]
  rw [hc] at h
  refine wm_seq (m := field (.ref c) 1) (wpAny_field hoc hdc hq (wm_seq (wpAny_pure ?_)))
  refine wm_seq (wpAny_mono h (fun binds s₁ h₁ => wm_seq (wpAny_mono h₁ (fun env s₂ h₂ => wm_seq (wpAny_enterFrame h₂.1 hroom (wm_pure (And.intro rfl h₂.2)))) fun _ _ h' => h')) fun _ _ h' => h')
theorem wm_keep {M : Model} {α : Type} {vs : List Value} {m : Sem α} {Q : α → Shared → Prop} (h : wpM b M A m Q E s) : wpM b M A (m.keep vs) Q E s := fun Γ p hΓ hu => by
  rw [Sem.wp_keep]; exact h Γ p hΓ hu
theorem wm_callWith {pos : Pos} {a : Addr} {o : Obj} {fd : FuncData} {first : List Value} {args : List (Bool × Sem Value)} {keywords : List (Option Str × Sem Value)} {Q : Value → Shared → Prop} (hs : (args.any (·.1) || keywords.any (·.1.isNone)) = false)
    (h : wpAny (model prog w) A (evalArgs (.ref a) true args keywords) (fun x s₁ => (s₁.heap.get? a = some o ∧ o.data = .func fd) ∧ wpM b (model prog w) A (call (.ref a) (first ++ x.pos) x.kw) Q E s₁) E s) :
    wpM b (model prog w) A (callWith pos (.ref a) first args keywords) Q E s := by
  unfold callWith
  refine wm_seq (wpAny_holding (wpAny_mono h (fun x s₁ h₁ => wm_seq (wpAny_standAt ?_)) fun _ _ x => x))
  have tail : ∀ {t : Sem Value}, wpM b (model prog w) A t Q E s₁ → wpM b (model prog w) A (t >>= fun r => holding [r] point >>= fun _ => pure r) Q E s₁ :=
    fun ht => wm_bind (wm_mono ht (fun r s₂ hr => wm_seq (wpAny_holding (wpAny_point (wm_pure hr)))) fun _ _ x => x)
  rw [hs]
  refine wm_seq (m := keeperOf (.ref a)) ?_
  unfold keeperOf
  refine wpAny_bind (wpAny_load h₁.1.1 ?_)
  rw [h₁.1.2]
  refine wpAny_pure ?_
  by_cases hl : args.length + 2 * keywords.length > 30
  · simp only [hl, if_true]
    exact tail h₁.2
  · simp only [hl, if_false]
    exact tail (by unfold callMarked; exact wm_keep h₁.2)
end
end Mine
end
section
open PySem PySem.W PySem.Spec PySem.Calls PyProof.Rows
set_option Elab.async false
set_option linter.unusedVariables false
set_option genSizeOfSpec false
set_option genInjectivity false
set_option maxRecDepth 100000
namespace Mine
inductive RS where
  | done
  | set (i : Nat) (e : RE) (rest : RS)
  | setc (i : Nat) (elt : RE) (j : Nat) (it test : RE) (ft : Bool) (cs : List Nat) (rest : RS)
  | new (i : Nat) (as : RE) (rest : RS)
  | unp (is : List Nat) (e : RE) (rest : RS)
  | uns (is : List Nat) (as : RE) (rest : RS)
  | aug (i : Nat) (op : Operator) (e : RE) (rest : RS)
  | app (i : Nat) (e : RE) (rest : RS)
  | ite (t : RE) (a b rest : RS)
  | itj (t : RE) (a b rest : RS)
  | for_ (is : List Nat) (en : Bool) (src : RE) (body orelse rest : RS)
  | while_ (t : RE) (body orelse rest : RS)
  | ret (e : RE)
  | brk
  | cont
  | asrt (t : RE) (rest : RS)
  | frz (i : Nat) (rest : RS)
  | rse (x : Str) (C : Addr) (e : RE)
  | seti (i : Nat) (e : RE) (rest : RS)
  | fls
noncomputable def namesAt (S : Scope) (ns : List Str) : List Nat → List Expr → Bool
  | [], [] => true
  | i :: is, .Name x _ :: es => uniqAt ns i x && (isK S x .local || isK S x .cell) && namesAt S ns is es
  | _, _ => false
noncomputable def storeAt (S : Scope) (ns : List Str) (i : Nat) (x : Str) : Bool := uniqAt ns i x && (isK S x .local || isK S x .cell)
noncomputable def tgtAt (S : Scope) (ns : List Str) (is : List Nat) (t : Expr) : Bool := match t with
  | .Name x _ => match is with
    | [i] => storeAt S ns i x
    | _ => false
  | .Tuple es _ _ => !(Nat.beq is.length 1) && namesAt S ns is es
  | _ => false
noncomputable def nmsOf (ts : List Expr) : List Str := ts.map fun t => match t with | .Name x _ => x | _ => Str.empty
noncomputable def pureOf {α : Type} : Sem α → Option α
  | .pure a => some a
  | _ => none
noncomputable def envS (S : Scope) : PySem.Env := { scope := S, locals := 0, globals := 0, cells := [] }
noncomputable def swapOk (ts vs : List Expr) (S : Scope) : Bool := match pureOf (swappedStores [.Tuple ts 0 ⟨0, 0, 0, 0⟩] (.Tuple vs 0 ⟨0, 0, 0, 0⟩) (envS S)) with
  | some (some l) => l == nmsOf ts
  | _ => false
noncomputable def isTupD : Expr → Bool
  | .Tuple _ _ _ => true
  | _ => false
noncomputable def chkS (S : Scope) (ns : List Str) : RS → List Stmt → Bool
  | .done => fun ss => match ss with | [] => true | _ => false
  | .set i e rest => fun ss => match ss with
    | .Assign [.Name x _] v _ :: ss => storeAt S ns i x && shp v && chk ns e S true v && chkS S ns rest ss
    | _ => false
  | .setc i elt j it test ft cs rest => fun ss => match ss with
    | .Assign [.Name y q] (.ListComp elt' [⟨.Name x _, it', ifs, 0⟩] sc p) pos :: ss =>
      chk ns (.comp elt j it test ft cs) S true (.ListComp elt' [⟨.Name x q, it', ifs, 0⟩] sc p) && uniqAt ns i y && isK S y .local && S.kind == .function && q.line == p.line && !(sc.names.any fun (n, k) => n == y && (k == .local || k == .cell)) && chkS S ns rest ss
    | _ => false
  | .new i as rest => fun ss => match ss with
    | .Assign [.Name x _] (.List es p) _ :: ss => uniqAt ns i x && isK S x .local && chk ns as S true (.Tuple es 0 p) && chkS S ns rest ss
    | _ => false
  | .unp is e rest => fun ss => match ss with
    | .Assign [.Tuple ts k p] v _ :: ss => tgtAt S ns is (.Tuple ts k p) && shp v && !(isTupD v) && chk ns e S true v && chkS S ns rest ss
    | _ => false
  | .uns is as rest => fun ss => match ss with
    | .Assign [.Tuple ts _ _] (.Tuple es _ p) _ :: ss => namesAt S ns is ts && swapOk ts es S && chk ns as S true (.Tuple es 0 p) && chkS S ns rest ss
    | _ => false
  | .aug i op e rest => fun ss => match ss with
    | .AugAssign (.Name x _) op' v _ :: ss => storeAt S ns i x && op == op' && chk ns e S true v && chkS S ns rest ss
    | _ => false
  | .app i e rest => fun ss => match ss with
    | .Expr (.Call (.Attribute (.Name x _) n apos) [v] [] p) _ :: ss => uniqAt ns i x && !(x == ("__debug__" : Str)) && n == ("append" : Str) && nst v && mform (.Name x p) apos p [v] && chk ns e S true v && chkS S ns rest ss
    | _ => false
  | .ite t a b rest => fun ss => match ss with
    | .If t' a' b' _ :: ss => chk ns t S true t' && chkS S ns a a' && chkS S ns b b' && chkS S ns rest ss
    | _ => false
  | .itj t a b rest => fun ss => match ss with
    | .If t' a' b' _ :: ss => chk ns t S true t' && chkS S ns a a' && chkS S ns b b' && chkS S ns rest ss
    | _ => false
  | .for_ is en src body orelse rest => fun ss => match ss with
    | .For t it b' o' _ :: ss => tgtAt S ns is t && shp it && (match en with
      | false => chk ns src S true it
      | true => match t, it with
        | .Tuple _ _ _, .Call (.Name y _) [v] [] _ => ("enumerate" : Str) == y && glob S y && nst v && chk ns src S true v
        | _, _ => false) && chkS S ns body b' && chkS S ns orelse o' && chkS S ns rest ss
    | _ => false
  | .while_ t body orelse rest => fun ss => match ss with
    | .While t' b' o' _ :: ss => chk ns t S true t' && chkS S ns body b' && chkS S ns orelse o' && chkS S ns rest ss
    | _ => false
  | .ret e => fun ss => match ss with
    | .Return (some v) _ :: _ => chk ns e S true v
    | _ => false
  | .brk => fun ss => match ss with | .Break _ :: _ => true | _ => false
  | .cont => fun ss => match ss with | .Continue _ :: _ => true | _ => false
  | .asrt t rest => fun ss => match ss with
    | .Assert t' _ _ :: ss => chk ns t S true t' && chkS S ns rest ss
    | _ => false
  | .frz i rest => fun ss => (match ns[i]? with | some x => uniqAt ns i x | .none => false) && chkS S ns rest ss
  | .rse x C e => fun ss => match ss with
    | .Raise (some (.Call (.Name y _) [v] [] _)) .none _ :: _ => x == y && glob S y && nst v && chk ns e S true v
    | _ => false
  | .seti i e rest => fun ss => match ss with
    | .Assign [.Name x _] (.Call (.Name y _) [v] [] _) _ :: ss => storeAt S ns i x && ("int" : Str) == y && glob S y && nst v && chk ns e S true v && chkS S ns rest ss
    | _ => false
  | .fls => fun ss => true
inductive Ov where
  | next | brk | cont
  | ret (d : D)
  | exc (C : Addr) (x : Str)
  | ve
noncomputable def ovf : Fl → Ov
  | .next => .next
  | .brk => .brk
  | .cont => .cont
  | .ret d => .ret d
noncomputable abbrev PQ := Ov → Env → Prop
noncomputable def seqQ (W : Env → PQ → Prop) (Q : PQ) : PQ := fun o ρ => match o with
  | .next => W ρ Q
  | o => Q o ρ
noncomputable def joinQ (ρ₁ : Env) (Q : PQ) : PQ := fun o ρ => match o with
  | .next => ρ = ρ₁
  | o => Q o ρ
noncomputable def loopQ (N : Env → Prop) (Q : PQ) : PQ := fun o ρ => match o with
  | .next => N ρ
  | .cont => N ρ
  | .brk => Q .next ρ
  | .ret d => Q (.ret d) ρ
  | _ => False
noncomputable def noX (Q : PQ) : PQ := fun o ρ => match o with
  | .exc _ _ => False
  | .ve => False
  | o => Q o ρ
noncomputable def updAll : Env → List Nat → List D → Env
  | ρ, i :: is, d :: ds => updAll (upd ρ i d) is ds
  | ρ, _, _ => ρ
noncomputable def asgE (is : List Nat) (ρ : Env) (d : D) (K : Env → Prop) : Prop := match is with
  | [i] => (match d with
    | .tup _ => False
    | d => K (upd ρ i d))
  | is => match d with
    | .tup ds => is.length = ds.length ∧ K (updAll ρ is ds)
    | _ => False
noncomputable def wpFor (is : List Nat) (B O : Env → PQ → Prop) (Q : PQ) : List D → Env → Prop
  | [], ρ => O ρ (noX Q)
  | d :: ds, ρ => asgE is ρ d fun ρ' => B ρ' (loopQ (wpFor is B O Q ds) Q)
noncomputable def wpWh (T : Env → (D → Prop) → Prop) (B O : Env → PQ → Prop) (Q : PQ) : Nat → Env → Prop
  | 0, ρ => T ρ fun x => ifD x False (O ρ (noX Q))
  | n + 1, ρ => T ρ fun x => ifD x (B ρ (loopQ (wpWh T B O Q n) Q)) (O ρ (noX Q))
noncomputable def mlsAt (o : Option D) (K : List D → Prop) : Prop := match o with
  | some d => (match d with
    | .mls l => K l
    | _ => False)
  | .none => False
noncomputable def at_ (o : Option D) (K : D → Prop) : Prop := match o with
  | some d => K d
  | .none => False
noncomputable def tupD (d : D) (K : List D → Prop) : Prop := match d with
  | .tup l => K l
  | _ => False
noncomputable def intOf (x : Str) : Option Int := PySem.intText? x
noncomputable def wpS (X : Fx) : RS → Env → PQ → Prop
  | .done => fun ρ Q => Q .next ρ
  | .set i e rest => fun ρ Q => wp X e .v ρ fun d => frozB d = true ∧ wpS X rest (upd ρ i d) Q
  | .setc i elt j it test ft cs rest => fun ρ Q => wp X (.comp elt j it test ft cs) .v ρ fun d => frozB d = true ∧ wpS X rest (upd ρ i d) Q
  | .new i as rest => fun ρ Q => wp X as .l ρ fun y => lstD y fun l => (l.length ≤ 1000 ∧ frozB.frozBs l = true) ∧ wpS X rest (upd ρ i (.mls l)) Q
  | .unp is e rest => fun ρ Q => wp X e .v ρ fun d => frozB d = true ∧ asgE is ρ d fun ρ' => wpS X rest ρ' Q
  | .uns is as rest => fun ρ Q => wp X as .l ρ fun y => lstD y fun l => (l.length ≤ 1000 ∧ frozB.frozBs l = true ∧ is.length = l.length) ∧ wpS X rest (updAll ρ (List.reverseAux is []) (List.reverseAux l [])) Q
  | .aug i op e rest => fun ρ Q => at_ (nth ρ i) fun d₀ => wp X e .v ρ fun d₁ => augD op d₀ d₁ fun d => frozB d = true ∧ wpS X rest (upd ρ i d) Q
  | .app i e rest => fun ρ Q => mlsAt (nth ρ i) fun l => wp X e .v ρ fun d => (frozB d = true ∧ l.length ≤ 100000) ∧ wpS X rest (upd ρ i (.mls (l ++ [d]))) Q
  | .ite t a b rest => fun ρ Q => wp X t .t ρ fun x => ifD x (wpS X a ρ (seqQ (wpS X rest) Q)) (wpS X b ρ (seqQ (wpS X rest) Q))
  | .itj t a b rest => fun ρ Q => wp X t .t ρ fun x => boolD x fun p => ∃ ρ₁, (p = true → wpS X a ρ (joinQ ρ₁ Q)) ∧ (p = false → wpS X b ρ (joinQ ρ₁ Q)) ∧ wpS X rest ρ₁ Q
  | .for_ is en src body orelse rest => fun ρ Q => X.cl = false ∧ wp X src .v ρ fun d => (match en with
    | false => fun (K : List D → Prop) => srcD d K
    | true => fun K => tupD d fun ds => K (enumFrom 0 ds)) fun items => frozB.frozBs items = true ∧ wpFor is (wpS X body) (wpS X orelse) (seqQ (wpS X rest) Q) items ρ
  | .while_ t body orelse rest => fun ρ Q => X.cl = false ∧ ∃ n, wpWh (wp X t .t) (wpS X body) (wpS X orelse) (seqQ (wpS X rest) Q) n ρ
  | .ret e => fun ρ Q => wp X e .v ρ fun d => frozB d = true ∧ Q (.ret d) ρ
  | .brk => fun ρ Q => Q .brk ρ
  | .cont => fun ρ Q => Q .cont ρ
  | .asrt t rest => fun ρ Q => wp X t .t ρ fun x => boolD x fun p => p = true ∧ wpS X rest ρ Q
  | .frz i rest => fun ρ Q => mlsAt (nth ρ i) fun l => wpS X rest (upd ρ i (.lst l)) Q
  | .rse x C e => fun ρ Q => wp X e .v ρ fun d => strD d fun t => (nsIn X.K mainGlobals x = some (some (.ref C)) ∧ excIn X.K C [.type "Exception", .type "BaseException", .type "object"] "Exception.__new__" = true) ∧ Q (.exc C t) ρ
  | .seti i e rest => fun ρ Q => X.cl = true ∧ wp X e .v ρ fun d => strD d fun t => (t.length ≤ 640 ∧ (reprText t).length ≤ sizeLine) ∧ ((∃ n, intOf t = some n ∧ wpS X rest (upd ρ i (.int n)) Q) ∨ (intOf t = .none ∧ Q .ve ρ))
  | .fls => fun ρ Q => False
end Mine
end
section
open PySem PySem.W PySem.Spec PySem.Calls PyProof.Rows
set_option Elab.async false
set_option linter.unusedVariables false
set_option maxRecDepth 100000
namespace Mine
noncomputable def SamS (s s' : Shared) : Prop := ∃ tk, s' = { s with heap := s'.heap, toks := tk }
theorem SamS.step {own own' : List Addr} {s s₁ s' : Shared} (k : Step own s own' s₁) (h : SamS s₁ s') : SamS s s' := by
  obtain ⟨h', tk, rfl⟩ := k.same
  obtain ⟨tk', e⟩ := h
  exact ⟨tk', e⟩
structure XE (c : Cx) (s : Shared) (E : Value → Shared → Prop) (Q : Ov → Prop) : Prop where
  own : ∀ C x tx e h m s', Q (.exc C x) → Fr c.h₀ c.L h m → Heap.MadeExcOf h s'.heap e (.ref C) [.str x tx] → SamS s s' → E (.ref e) s'
  ve : ∀ e h m s', Q .ve → Fr c.h₀ c.L h m → Heap.NewExc h s'.heap e "ValueError" → SamS s s' → E (.ref e) s'
noncomputable def STX (b : Bool) (c : Cx) (l : Loc) (t : Sem Flow) (Q : Ov → Loc → Prop) : Prop :=
  ∀ av own s, Inv c av own l s → ∀ (R : Flow → Shared → Prop) (E : Value → Shared → Prop),
    (∀ fl f l' own' s', Q (ovf fl) l' → RelF (own' ++ av) s'.heap fl f → Step own s own' s' → Inv c av own' l' s' → R f s') → XE c s E (fun o => ∃ l', Q o l') → wpM b c.M c.A t R E s
section
variable {b : Bool} {c : Cx} {l : Loc} {Q : Ov → Loc → Prop}
theorem stx_of {t : Sem Flow} (h : ST c l t (fun fl l' => Q (ovf fl) l')) : STX b c l t Q := fun av own s i R E hR _ => wm_of (h av own s i R E hR)
theorem stx_to {t : Sem Flow} (h : STX false c l t Q) (h1 : ∀ C x l', ¬ Q (.exc C x) l') (h2 : ∀ l', ¬ Q .ve l') : ST c l t (fun fl l' => Q (ovf fl) l') := fun av own s i R E hR =>
  wm_to (h av own s i R E hR ⟨fun C x _ _ _ _ _ q => q.elim fun l' q => (h1 C x l' q).elim, fun _ _ _ _ q => q.elim fun l' q => (h2 l' q).elim⟩)
theorem stx_mono {t : Sem Flow} {Q' : Ov → Loc → Prop} (h : STX b c l t Q') (k : ∀ o l', Q' o l' → Q o l') : STX b c l t Q := fun av own s i R E hR x =>
  h av own s i R E (fun fl f l' own' s' q => hR fl f l' own' s' (k _ _ q)) ⟨fun C y tx e h m s' q => x.own C y tx e h m s' (q.elim fun l' q => ⟨l', k _ _ q⟩), fun e h m s' q => x.ve e h m s' (q.elim fun l' q => ⟨l', k _ _ q⟩)⟩
theorem stx_cons {st : Stmt} {rest : List Stmt} (h : STX b c l (exec st c.env) (fun o l' => match o with | .next => STX b c l' (execs rest c.env) Q | o => Q o l')) : STX b c l (execs (st :: rest) c.env) Q := by
  intro av own s i R E hR hx
  refine wm_execs_cons (h av own s i _ _ (fun fl f l' own' s' q r k i' => ?_) ⟨fun C y tx e h m s' q => hx.own C y tx e h m s' q, fun e h m s' q => hx.ve e h m s' q⟩)
  cases fl with
  | next =>
    simp only [RelF] at r
    subst r
    exact q av own' s' i' R E (fun fl f l'' own'' s'' q' r' k' i'' => hR fl f l'' own'' s'' q' r' (k.trans k') i'') ⟨fun C y tx e h m s' q e1 e2 e3 => hx.own C y tx e h m s' q e1 e2 (e3.step k), fun e h m s' q e1 e2 e3 => hx.ve e h m s' q e1 e2 (e3.step k)⟩
  | brk => simp only [RelF] at r; subst r; exact hR .brk _ l' own' s' q (by simp only [RelF]) k i'
  | cont => simp only [RelF] at r; subst r; exact hR .cont _ l' own' s' q (by simp only [RelF]) k i'
  | ret d =>
    have r' := r
    simp only [RelF] at r
    obtain ⟨v, rfl, r1, r2⟩ := r
    exact hR (.ret d) _ l' own' s' q r' k i'
theorem stx_if {t : Expr} {body orelse : List Stmt} {pos : Pos} {p : Bool} (ht : TR c l t p) (h₁ : p = true → STX b c l (execs body c.env) Q) (h₂ : p = false → STX b c l (execs orelse c.env) Q) : STX b c l (exec (.If t body orelse pos) c.env) Q := by
  intro av own s i R E hR hx
  refine wm_If (wm_of (ht av own s i _ _ fun s₁ k₁ => ?_))
  have st := Step.of (own := own) k₁
  have hx' : XE c s₁ E (fun o => ∃ l', Q o l') := ⟨fun C y tx e h m s' q e1 e2 e3 => hx.own C y tx e h m s' q e1 e2 (e3.step st), fun e h m s' q e1 e2 e3 => hx.ve e h m s' q e1 e2 (e3.step st)⟩
  cases p with
  | true => exact h₁ rfl av own s₁ (i.keeps k₁) R E (fun fl f l' own' s' q r k i' => hR fl f l' own' s' q r (st.trans k) i') hx'
  | false => exact h₂ rfl av own s₁ (i.keeps k₁) R E (fun fl f l' own' s' q r k i' => hR fl f l' own' s' q r (st.trans k) i') hx'
end
theorem uniq_out : ∀ {ns : List Str} {i : Nat} {x : Str}, uniqAt ns i x = true → ns[i]? = some x ∧ ∀ j, ns[j]? = some x → j = i
  | [], _, _, h => nof h
  | y :: r, 0, x, h => by
    obtain ⟨h1, h2⟩ := and2 h
    have e : y = x := eq_of_beq h1
    subst e
    refine ⟨rfl, fun j hj => ?_⟩
    cases j with
    | zero => rfl
    | succ j =>
      have hm : y ∈ r := List.mem_of_getElem? hj
      have := List.all_eq_true.mp h2 y hm
      simp at this
  | y :: r, n + 1, x, h => by
    obtain ⟨h1, h2⟩ := and2 h
    obtain ⟨e1, e2⟩ := uniq_out h2
    refine ⟨e1, fun j hj => ?_⟩
    cases j with
    | zero =>
      have e : y = x := Option.some.inj hj
      subst e
      simp at h1
    | succ j => exact congrArg (· + 1) (e2 j hj)
section
variable {X : Fx} {S : Scope} {c : Cx} {l : Loc} {ns : List Str} {ρ : Env}
theorem agr_upd {i : Nat} {x : Str} {d : D} (ag : Agr ns ρ l) (h : uniqAt ns i x = true) : Agr ns (upd ρ i d) (put l x d) := fun j e he => by
  obtain ⟨h1, h2⟩ := uniq_out h
  rcases nth_upd (i := i) he with ⟨rfl, rfl⟩ | ⟨hj, he⟩
  · exact ⟨x, h1, by rw [get_put, if_pos rfl]⟩
  · obtain ⟨y, n1, g⟩ := ag j e he
    refine ⟨y, n1, ?_⟩
    rw [get_put, if_neg (fun (z : y = x) => hj (h2 j (z ▸ n1)))]; exact g
theorem slot_of (cf : CF S c) {x : Str} (h : (isK S x .local || isK S x .cell) = true) : Slot c x := by
  rcases Bool.or_eq_true_iff.mp h with h | h
  · exact .loc cf.loc (by rw [Env.kindOf, cf.sc]; exact isK_out h)
  · obtain ⟨a, ha⟩ := Option.isSome_iff_exists.mp (cellsFrom_some S.names (c.L + 1) [] (.inl (isK_out h)))
    exact .cell (a := a) (by rw [Env.kindOf, cf.sc]; exact isK_out h) (by rw [cf.cells]; exact ha)
noncomputable def uniqL (ns : List Str) : List Nat → List Str → Prop
  | [], [] => True
  | i :: is, x :: xs => uniqAt ns i x = true ∧ uniqL ns is xs
  | _, _ => False
theorem uniqL_app {ns : List Str} : ∀ {is js : List Nat} {xs ys : List Str}, uniqL ns is xs → uniqL ns js ys → uniqL ns (is ++ js) (xs ++ ys)
  | [], js, [], ys, _, h => h
  | [], _, _ :: _, _, h, _ => h.elim
  | _ :: _, _, [], _, h, _ => h.elim
  | i :: is, js, x :: xs, ys, h, q => ⟨h.1, uniqL_app h.2 q⟩
theorem uniqL_rev {ns : List Str} : ∀ {is : List Nat} {xs : List Str}, uniqL ns is xs → uniqL ns is.reverse xs.reverse
  | [], [], h => h
  | [], _ :: _, h => h.elim
  | _ :: _, [], h => h.elim
  | i :: is, x :: xs, h => by
    rw [List.reverse_cons, List.reverse_cons]
    exact uniqL_app (uniqL_rev h.2) ⟨h.1, trivial⟩
theorem names_out (cf : CF S c) : ∀ {is : List Nat} {es : List Expr}, namesAt S ns is es = true → ∃ xs : List (Str × Pos), es = xs.map (fun x => .Name x.1 x.2) ∧ (∀ x ∈ xs, Slot c x.1) ∧ xs.length = is.length ∧
    uniqL ns is (xs.map (·.1))
  | [], [], _ => ⟨[], rfl, (fun _ h => nomatch h), rfl, trivial⟩
  | [], _ :: _, h => nof h
  | _ :: _, [], h => nof h
  | i :: is, e :: es, h => by
    cases e with
    | Name x p =>
      obtain ⟨h1, h2, h3⟩ := and3 h
      obtain ⟨xs, rfl, k1, k2, k3⟩ := names_out cf h3
      refine ⟨(x, p) :: xs, rfl, fun y hy => ?_, congrArg (· + 1) k2, h1, k3⟩
      rcases List.mem_cons.mp hy with rfl | hy
      · exact slot_of cf h2
      · exact k1 y hy
    | _ => exact nof h
theorem agr_all : ∀ {is : List Nat} {xs : List Str} {ρ : Env} {l : Loc} {ds : List D}, uniqL ns is xs → Agr ns ρ l → Agr ns (updAll ρ is ds) (putAll l xs ds)
  | [], [], ρ, l, ds, _, ag => by cases ds <;> exact ag
  | [], _ :: _, _, _, _, h, _ => h.elim
  | _ :: _, [], _, _, _, h, _ => h.elim
  | i :: is, x :: xs, ρ, l, [], _, ag => ag
  | i :: is, x :: xs, ρ, l, d :: ds, h, ag => agr_all (is := is) (xs := xs) (ds := ds) h.2 (agr_upd ag h.1)
theorem tgt_out (cf : CF S c) {is : List Nat} {t : Expr} {d : D} {K : Env → Prop} (ag : Agr ns ρ l) (h : tgtAt S ns is t = true) (hk : asgE is ρ d K) : ∃ l' ρ', ASG c t l d l' ∧ Agr ns ρ' l' ∧ K ρ' := by
  cases t with
  | Name x p =>
    cases is with
    | nil => exact nof h
    | cons i is =>
      cases is with
      | cons _ _ => exact nof h
      | nil =>
        obtain ⟨h1, h2⟩ := and2 h
        cases d with
        | tup _ => exact hk.elim
        | _ => exact ⟨_, _, asg_name (slot_of cf h2) (fun _ q => nomatch q) rfl, agr_upd ag h1, hk⟩
  | Tuple ts k p =>
    obtain ⟨h1, h2⟩ := and2 h
    obtain ⟨xs, rfl, k1, k2, k3⟩ := names_out cf h2
    have main : ∀ ds, d = .tup ds → (is.length = ds.length ∧ K (updAll ρ is ds)) → ∃ l' ρ', ASG c (.Tuple (xs.map fun x => .Name x.1 x.2) k p) l d l' ∧ Agr ns ρ' l' ∧ K ρ' := fun ds e q => by
      subst e
      exact ⟨_, _, asg_tup rfl k1 (k2.trans q.1) rfl, agr_all k3 ag, q.2⟩
    cases is with
    | nil =>
      cases d with
      | tup ds => exact main ds rfl hk
      | _ => exact hk.elim
    | cons i is =>
      cases is with
      | nil => exact nof h1
      | cons _ _ =>
        cases d with
        | tup ds => exact main ds rfl hk
        | _ => exact hk.elim
  | _ => exact nof h
end
end Mine
end
section
open PySem PySem.W PySem.Spec PySem.Calls PyProof.Rows
set_option Elab.async false
set_option linter.unusedVariables false
set_option maxRecDepth 100000
namespace Mine
noncomputable def Lift (ns : List Str) (Q : PQ) : Ov → Loc → Prop := fun o l' => ∃ ρ', Agr ns ρ' l' ∧ Q o ρ'
theorem swap_env {ts : List Expr} {v : Expr} {env env' : PySem.Env} (h : env.scope = env'.scope) : swappedStores ts v env = swappedStores ts v env' := by
  obtain ⟨⟩ := env
  obtain ⟨⟩ := env'
  cases h
  rfl
theorem swap_out {ts vs : List Expr} {S : Scope} {env : PySem.Env} {k k' : Nat} {p p' : Pos} (sc : env.scope = S) (h : swapOk ts vs S = true) : swappedStores [.Tuple ts k p] (.Tuple vs k' p') env = pure (some (nmsOf ts)) := by
  rw [swap_env (env' := envS S) sc]
  unfold swapOk at h
  have e : swappedStores [.Tuple ts k p] (.Tuple vs k' p') (envS S) = swappedStores [.Tuple ts 0 ⟨0, 0, 0, 0⟩] (.Tuple vs 0 ⟨0, 0, 0, 0⟩) (envS S) := rfl
  rw [e]
  generalize swappedStores [.Tuple ts 0 ⟨0, 0, 0, 0⟩] (.Tuple vs 0 ⟨0, 0, 0, 0⟩) (envS S) = m at h ⊢
  cases m with
  | pure o =>
    cases o with
    | none => exact nof h
    | some l => rw [show l = nmsOf ts from eq_of_beq h]; rfl
  | _ => exact nof h
theorem setc_swaps {elt : Expr} {gs : List Comprehension} {sc S : Scope} {p q : Pos} {y : Str} {n : Nat} {env : PySem.Env} (e : env.scope = S) (h1 : isK S y .local = true) (h2 : (S.kind == .function) = true) (h3 : (q.line == p.line) = true)
    (h4 : (!(sc.names.any fun (n, k) => n == y && (k == .local || k == .cell))) = true) : swapsWith (.ListComp elt gs sc p) (some (.Name y q)) n env = pure true := by
  have eK : env.blockKind = .function := by unfold Env.blockKind; rw [e, eq_of_beq h2]; rfl
  have e1 : env.kindOf y = some .local := by rw [Env.kindOf, e]; exact isK_out h1
  show (pure (env.blockKind == .function && env.kindOf y == some .local && q.line == p.line && !(sc.names.any fun (n, k) => n == y && (k == .local || k == .cell))) : Sem Bool) = _
  rw [h4, h3, eK, e1]; rfl
section
variable {X : Fx} {S : Scope} {ns : List Str} {b : Bool} {c : Cx} {l : Loc}
theorem stx_freeze {t : Sem Flow} {x : Str} {its : List D} {Q : Ov → Loc → Prop} (hx : get l x = some (.mls its)) (h : STX b c (put l x (.lst its)) t Q) : STX b c l t Q := by
  intro av own s i R E hR hX
  obtain ⟨own', sub, i'⟩ := i.freeze hx
  exact h av own' s i' R E (fun fl f l'' own'' s'' q r st i'' => hR fl f l'' own'' s'' q r ⟨st.same, fun b o hb e => st.kept b o (fun z => hb (sub b z)) e, fun a ha => (st.new a ha).imp (sub a) id⟩ i'') hX
theorem loop_of {is : List Nat} {t : Expr} {bs os : List Stmt} {B O : Env → PQ → Prop} {Q : PQ} (cf : CF S c) (ht : tgtAt S ns is t = true)
    (hB : ∀ {ρ l Q}, Agr ns ρ l → B ρ Q → STX false c l (execs bs c.env) (Lift ns Q)) (hO : ∀ {ρ l Q}, Agr ns ρ l → O ρ Q → STX false c l (execs os c.env) (Lift ns Q)) :
    ∀ {items : List D} {ρ : Env} {l : Loc}, Agr ns ρ l → wpFor is B O Q items ρ → LOOP c t bs os (fun fl l' => Lift ns Q (ovf fl) l') items l
  | [], ρ, l, ag, h => by
    have := stx_to (hO ag (show O ρ (noX Q) from h)) (fun _ _ _ q => q.elim fun _ z => z.2) (fun _ q => q.elim fun _ z => z.2)
    exact st_mono this fun fl l' q => by cases fl <;> exact q
  | d :: ds, ρ, l, ag, h => by
    obtain ⟨l', ρ', ha, ag', hb⟩ := tgt_out cf ag ht (show asgE is ρ d _ from h)
    refine ⟨l', ha, ?_⟩
    have := stx_to (hB ag' hb) (fun _ _ _ q => q.elim fun _ z => z.2) (fun _ q => q.elim fun _ z => z.2)
    refine st_mono this fun fl l'' q => ?_
    obtain ⟨ρ'', ag'', q⟩ := q
    cases fl with
    | next => exact loop_of cf ht hB hO ag'' q
    | cont => exact loop_of cf ht hB hO ag'' q
    | brk => exact ⟨ρ'', ag'', q⟩
    | ret v => exact ⟨ρ'', ag'', q⟩
theorem while_of {t : Expr} {bs os : List Stmt} {T : Env → (D → Prop) → Prop} {B O : Env → PQ → Prop} {Q : PQ}
    (hT : ∀ {ρ l K}, Agr ns ρ l → T ρ K → ∃ b, TR c l t b ∧ K (.bool b))
    (hB : ∀ {ρ l Q}, Agr ns ρ l → B ρ Q → STX false c l (execs bs c.env) (Lift ns Q)) (hO : ∀ {ρ l Q}, Agr ns ρ l → O ρ Q → STX false c l (execs os c.env) (Lift ns Q)) :
    ∀ {n : Nat} {ρ : Env} {l : Loc}, Agr ns ρ l → wpWh T B O Q n ρ → WB c t bs os (fun fl l' => Lift ns Q (ovf fl) l') n l
  | 0, ρ, l, ag, h => by
    obtain ⟨p, e, k1, k2⟩ := hT ag (show T ρ _ from h)
    cases p with
    | true => exact (k1 rfl).elim
    | false =>
      refine ⟨false, e, rfl, st_mono (stx_to (hO ag (k2 rfl)) (fun _ _ _ q => q.elim fun _ z => z.2) (fun _ q => q.elim fun _ z => z.2)) fun fl l' q => by cases fl <;> exact q⟩
  | n + 1, ρ, l, ag, h => by
    obtain ⟨p, e, k1, k2⟩ := hT ag (show T ρ _ from h)
    refine ⟨p, e, fun z => ?_, fun z => ?_⟩
    · exact st_mono (stx_to (hO ag (k2 z)) (fun _ _ _ q => q.elim fun _ z => z.2) (fun _ q => q.elim fun _ z => z.2)) fun fl l' q => by cases fl <;> exact q
    · refine st_mono (stx_to (hB ag (k1 z)) (fun _ _ _ q => q.elim fun _ z => z.2) (fun _ q => q.elim fun _ z => z.2)) fun fl l'' q => ?_
      obtain ⟨ρ'', ag'', q⟩ := q
      cases fl with
      | next => exact while_of hT hB hO ag'' q
      | cont => exact while_of hT hB hO ag'' q
      | brk => exact ⟨ρ'', ag'', q⟩
      | ret v => exact ⟨ρ'', ag'', q⟩
end
end Mine
end
section
open PySem PySem.W PySem.Spec PySem.Calls PyProof.Rows
set_option Elab.async false
set_option linter.unusedVariables false
set_option maxRecDepth 100000
namespace Mine
section
variable {X : Fx} {S : Scope} {ns : List Str} {c : Cx} {l : Loc} {ρ : Env}
theorem kind_cf (cf : CF S c) {x : Str} {k : NameKind} (h : isK S x k = true) : c.env.kindOf x = some k := by rw [Env.kindOf, cf.sc]; exact isK_out h
theorem get_ag {i : Nat} {x : Str} {d : D} (ag : Agr ns ρ l) (h : uniqAt ns i x = true) (e : nth ρ i = some d) : get l x = some d := by
  obtain ⟨y, n1, g⟩ := ag i d e
  rw [(uniq_out h).1] at n1; cases n1
  exact g
theorem at_out {o : Option D} {K : D → Prop} (h : at_ o K) : ∃ d, o = some d ∧ K d := by
  cases o with
  | none => exact h.elim
  | some d => exact ⟨d, rfl, h⟩
theorem mls_out {o : Option D} {K : List D → Prop} (h : mlsAt o K) : ∃ d, o = some (.mls d) ∧ K d := by
  cases o with
  | none => exact h.elim
  | some d =>
    cases d with
    | mls l => exact ⟨l, rfl, h⟩
    | _ => exact h.elim
theorem tupD_out {d : D} {K : List D → Prop} (h : tupD d K) : ∃ b, d = .tup b ∧ K b := by
  cases d with
  | tup b => exact ⟨b, rfl, h⟩
  | _ => exact h.elim
noncomputable abbrev SNS (X : Fx) (S : Scope) (ns : List Str) (r : RS) : Prop := ∀ {c : Cx} {l : Loc} {ρ : Env} {ss : List Stmt} {Q : PQ}, CE X S c → CF S c → Agr ns ρ l → chkS S ns r ss = true → wpS X r ρ Q → STX X.cl c l (execs ss c.env) (Lift ns Q)
theorem go_on {b : Bool} {st : Stmt} {ss : List Stmt} {Q : Ov → Loc → Prop} {l' : Loc} (h : ST c l (exec st c.env) (fun fl l'' => fl = .next ∧ l'' = l')) (k : STX b c l' (execs ss c.env) Q) : STX b c l (execs (st :: ss) c.env) Q :=
  stx_cons (stx_of (st_mono h fun fl l'' q => by obtain ⟨rfl, rfl⟩ := q; exact k))
theorem seq_lift {b : Bool} {r : RS} {ss : List Stmt} {Q : PQ} (H : SNS X S ns r) (hb : X.cl = b) (ce : CE X S c) (cf : CF S c) (hc : chkS S ns r ss = true) {o : Ov} {l' : Loc} (h : Lift ns (seqQ (wpS X r) Q) o l') :
    match (generalizing := false) o with | .next => STX b c l' (execs ss c.env) (Lift ns Q) | o => Lift ns Q o l' := by
  obtain ⟨ρ', ag, q⟩ := h
  cases o with
  | next => exact hb ▸ H ce cf ag hc q
  | _ => exact ⟨ρ', ag, q⟩
theorem ite_snd {t : RE} {a b rest : RS} {t' : Expr} {as bs ss : List Stmt} {pos : Pos} {Q Q' : PQ} (ok : XOk X) (Ha : SNS X S ns a) (Hb : SNS X S ns b) (ce : CE X S c) (cf : CF S c) (ag : Agr ns ρ l) (h1 : chk ns t S true t' = true) (h2 : chkS S ns a as = true) (h3 : chkS S ns b bs = true)
    (hk : ∀ o l', Lift ns Q' o l' → match o with | .next => STX X.cl c l' (execs ss c.env) (Lift ns Q) | o => Lift ns Q o l') (hw : wp X t .t ρ fun x => ifD x (wpS X a ρ Q') (wpS X b ρ Q')) : STX X.cl c l (execs (.If t' as bs pos :: ss) c.env) (Lift ns Q) := by
  obtain ⟨p, e1, k1, k2⟩ := snd ok t ce (fun _ => cf) ag h1 hw
  exact stx_cons (stx_if e1 (fun z => stx_mono (Ha ce cf ag h2 (k1 z)) fun o l' q => hk o l' q) fun z => stx_mono (Hb ce cf ag h3 (k2 z)) fun o l' q => hk o l' q)
theorem for_snd {is : List Nat} {en : Bool} {src : RE} {body orelse rest : RS} {t it : Expr} {bs os ss : List Stmt} {pos : Pos} {Q : PQ} (ok : XOk X) (HB : SNS X S ns body) (HO : SNS X S ns orelse) (HR : SNS X S ns rest) (ce : CE X S c) (cf : CF S c) (ag : Agr ns ρ l)
    (h1 : tgtAt S ns is t = true) (h2 : shp it = true) (h3 : (match (generalizing := false) en with
      | false => chk ns src S true it
      | true => match (generalizing := false) t, it with
        | .Tuple _ _ _, .Call (.Name y _) [v] [] _ => ("enumerate" : Str) == y && glob S y && nst v && chk ns src S true v
        | _, _ => false) = true) (h4 : chkS S ns body bs = true) (h5 : chkS S ns orelse os = true) (h6 : chkS S ns rest ss = true) (hb : X.cl = false)
    (hw : wp X src .v ρ fun d => (match en with
      | false => fun (K : List D → Prop) => srcD d K
      | true => fun K => tupD d fun ds => K (enumFrom 0 ds)) fun items => frozB.frozBs items = true ∧ wpFor is (wpS X body) (wpS X orelse) (seqQ (wpS X rest) Q) items ρ) : STX X.cl c l (execs (.For t it bs os pos :: ss) c.env) (Lift ns Q) := by
  have H : ∀ {items : List D}, ITER c l t it items → frozB.frozBs items = true → wpFor is (wpS X body) (wpS X orelse) (seqQ (wpS X rest) Q) items ρ → STX X.cl c l (execs (.For t it bs os pos :: ss) c.env) (Lift ns Q) := fun hi hz hf => by
    refine stx_cons (stx_of (st_mono (st_for hi (frozs_of hz) (loop_of cf h1 (fun ag' h => hb ▸ HB ce cf ag' h4 h) (fun ag' h => hb ▸ HO ce cf ag' h5 h) ag hf) (shp_fold h2)) fun fl l' q => ?_))
    have := seq_lift HR rfl ce cf h6 q
    cases fl <;> exact this
  cases en with
  | false =>
    obtain ⟨d, e1, hw⟩ := snd ok src ce (fun _ => cf) ag h3 hw
    obtain ⟨items, e2, hz, hf⟩ := src_out (c := c) hw
    exact H (it_ev e1 (src_w e2)) hz hf
  | true =>
    cases t with
    | Tuple ts k p =>
      cases it with
      | Call f es kw q =>
        cases f with
        | Name y r =>
          cases es with
          | nil => exact nof h3
          | cons v es =>
            cases es with
            | cons _ _ => exact nof h3
            | nil =>
              cases kw with
              | cons _ _ => exact nof h3
              | nil =>
                obtain ⟨e0, g0, n0, c0⟩ := and4 h3
                obtain ⟨d, e1, hw⟩ := snd ok src ce (fun _ => cf) ag c0 hw
                obtain ⟨ds, rfl, hz, hf⟩ := tupD_out hw
                rw [← show ("enumerate" : Str) = y from eq_of_beq e0] at g0 H ⊢
                obtain ⟨g1, g2⟩ := glob_out g0
                exact H (it_enum (ev_blt (ce.gl _ g1) (ce.K ▸ ok.en) boot_enumerate (str_ne (by decide)) g2) e1 (nst_each n0)) hz hf
        | _ => exact nof h3
      | _ => exact nof h3
    | _ => exact nof h3
structure Rz (X : Fx) (S : Scope) (ns : List Str) : Prop where
  rse : ∀ {c : Cx} {l : Loc} {ρ : Env} {ss : List Stmt} {Q : PQ} (x : Str) (C : Addr) (e : RE), CE X S c → CF S c → Agr ns ρ l → chkS S ns (.rse x C e) ss = true → wpS X (.rse x C e) ρ Q → STX X.cl c l (execs ss c.env) (Lift ns Q)
  seti : ∀ {c : Cx} {l : Loc} {ρ : Env} {ss : List Stmt} {Q : PQ} (i : Nat) (e : RE) (rest : RS), SNS X S ns rest → CE X S c → CF S c → Agr ns ρ l → chkS S ns (.seti i e rest) ss = true → wpS X (.seti i e rest) ρ Q → STX X.cl c l (execs ss c.env) (Lift ns Q)
theorem sndS (ok : XOk X) (rz : Rz X S ns) : ∀ (r : RS), SNS X S ns r
  | .done, c, l, ρ, ss, Q, ce, cf, ag, hc, hw => by
    cases ss with
    | nil => exact stx_of (st_nil ⟨ρ, ag, hw⟩)
    | cons _ _ => exact nof hc
  | .set i e rest, c, l, ρ, ss, Q, ce, cf, ag, hc, hw => by
    cases ss with
    | nil => exact nof hc
    | cons st ss =>
      cases st with
      | Assign ts v pos =>
        cases ts with
        | nil => exact nof hc
        | cons t ts =>
          cases t with
          | Name x p =>
            cases ts with
            | cons _ _ => exact nof hc
            | nil =>
              obtain ⟨h1, h2, h3, h4⟩ := and4 hc
              obtain ⟨h5, h6⟩ := and2 h1
              obtain ⟨d, e1, hz, hw⟩ := snd ok e ce (fun _ => cf) ag h3 (show wp X e .v ρ _ from hw)
              exact go_on (st_set (slot_of cf h6) e1 (froz_of hz) rfl ⟨rfl, rfl⟩ (shp_swaps h2)) (sndS ok rz rest ce cf (agr_upd ag h5) h4 hw)
          | _ => exact nof hc
      | _ => exact nof hc
  | .setc i elt j it test ft cs rest, c, l, ρ, ss, Q, ce, cf, ag, hc, hw => by
    cases ss with
    | nil => exact nof hc
    | cons st ss =>
      cases st with
      | Assign ts v pos =>
        cases ts with
        | nil => exact nof hc
        | cons t ts =>
          cases t with
          | Name y q =>
            cases ts with
            | cons _ _ => exact nof hc
            | nil =>
              cases v with
              | ListComp elt' gs sc p =>
                cases gs with
                | nil => exact nof hc
                | cons g gs =>
                  cases g with
                  | mk t it' ifs k =>
                    cases t with
                    | Name x q' =>
                      cases gs with
                      | cons _ _ => exact nof (by cases k with | ofNat n => (cases n <;> exact hc) | negSucc _ => exact hc)
                      | nil =>
                        by_cases hk : k = 0
                        · subst hk
                          obtain ⟨hc, g7⟩ := and2 hc
                          obtain ⟨hc, g6⟩ := and2 hc
                          obtain ⟨hc, g5⟩ := and2 hc
                          obtain ⟨hc, g4⟩ := and2 hc
                          obtain ⟨hc, g2, g3⟩ := and3 hc
                          obtain ⟨hc, h8⟩ := and2 hc
                          obtain ⟨hc, h7⟩ := and2 hc
                          obtain ⟨hc, h6⟩ := and2 hc
                          obtain ⟨hc, h5⟩ := and2 hc
                          obtain ⟨_, h2, h3, h4⟩ := and4 hc
                          obtain ⟨cl, lc, items, pp, f, k1, k2, k3, k4, k5, k6, k7, k8, k9, kz, kk⟩ := comp_snd (K := fun d => frozB d = true ∧ wpS X rest (upd ρ i d) Q) (fun {c S top l ρ m e K} => snd ok elt (c := c) (S := S) (top := top) (l := l) (ρ := ρ) (m := m) (e := e) (K := K)) (snd ok it) (snd ok test) ce cf ag h2 h3 h4 h5 h6 h7 h8 hw
                          exact go_on (st_comp pp f (setc_swaps cf.sc g3 g4 g5 g6) cf.loc (kind_cf cf g3) k1 k2 k3 k4 k5 k6 k7 k8 k9 rfl ⟨rfl, rfl⟩ (shp_fold h2)) (sndS ok rz rest ce cf (agr_upd ag g2) g7 kk)
                        · exact nof (by cases k with | ofNat n => (cases n with | zero => exact absurd rfl hk | succ _ => exact hc) | negSucc _ => exact hc)
                    | _ => exact nof hc
              | _ => exact nof hc
          | _ => exact nof hc
      | _ => exact nof hc
  | .new i as rest, c, l, ρ, ss, Q, ce, cf, ag, hc, hw => by
    cases ss with
    | nil => exact nof hc
    | cons st ss =>
      cases st with
      | Assign ts v pos =>
        cases ts with
        | nil => exact nof hc
        | cons t ts =>
          cases t with
          | Name x p =>
            cases ts with
            | cons _ _ => exact nof hc
            | nil =>
              cases v with
              | List es q =>
                obtain ⟨h1, h2, h3, h4⟩ := and4 hc
                obtain ⟨es', p', he, hn, ds, e1, ⟨z1, z2⟩, hw⟩ := snd ok as ce (fun _ => cf) ag h3 (show wp X as .l ρ _ from hw)
                cases he
                exact go_on (st_newlist cf.loc (kind_cf cf h2) e1 z1 (frozs_of z2) rfl ⟨rfl, rfl⟩) (sndS ok rz rest ce cf (agr_upd ag h1) h4 hw)
              | _ => exact nof hc
          | _ => exact nof hc
      | _ => exact nof hc
  | .unp is e rest, c, l, ρ, ss, Q, ce, cf, ag, hc, hw => by
    cases ss with
    | nil => exact nof hc
    | cons st ss =>
      cases st with
      | Assign ts v pos =>
        cases ts with
        | nil => exact nof hc
        | cons t ts =>
          cases t with
          | Tuple es k p =>
            cases ts with
            | cons _ _ => exact nof hc
            | nil =>
              obtain ⟨hc, h5⟩ := and2 hc
              obtain ⟨h1, h2, h3, h4⟩ := and4 hc
              obtain ⟨d, e1, hz, hw⟩ := snd ok e ce (fun _ => cf) ag h4 (show wp X e .v ρ _ from hw)
              obtain ⟨l', ρ', ha, ag', hw⟩ := tgt_out cf ag h1 hw
              refine go_on (st_unpack e1 (froz_of hz) ha ⟨rfl, rfl⟩ (fun env => show swapsWith v (some (.Tuple es k p)) pos.line env = pure false from shp_swaps h2 env) ?_) (sndS ok rz rest ce cf ag' h5 hw)
              intro env
              cases v <;> first | rfl | exact nof h3
          | _ => exact nof hc
      | _ => exact nof hc
  | .uns is as rest, c, l, ρ, ss, Q, ce, cf, ag, hc, hw => by
    cases ss with
    | nil => exact nof hc
    | cons st ss =>
      cases st with
      | Assign ts v pos =>
        cases ts with
        | nil => exact nof hc
        | cons t ts =>
          cases t with
          | Tuple xs k p =>
            cases ts with
            | cons _ _ => exact nof hc
            | nil =>
              cases v with
              | Tuple es k' p' =>
                obtain ⟨h1, h2, h3, h4⟩ := and4 hc
                obtain ⟨es', p'', he, hn, ds, e1, ⟨z1, z2, z3⟩, hw⟩ := snd ok as ce (fun _ => cf) ag h3 (show wp X as .l ρ _ from hw)
                cases he
                obtain ⟨ys, rfl, k1, k2, k3⟩ := names_out cf h1
                have en : nmsOf (ys.map fun x => Expr.Name x.1 x.2) = ys.map (·.1) := by unfold nmsOf; rw [List.map_map]; rfl
                refine go_on (st_unpackS (swap_out cf.sc h2) e1 z1 (frozs_of z2) (fun x hx => ?_) (by rw [en, List.length_map, k2, z3]) rfl ⟨rfl, rfl⟩ (fun _ => rfl)) (sndS ok rz rest ce cf (agr_all (uniqL_rev ?_) ag) h4 hw)
                · rw [en] at hx
                  obtain ⟨y, hy, rfl⟩ := List.mem_map.mp (List.mem_reverse.mp hx)
                  exact k1 y hy
                · rw [en]; exact k3
              | _ => exact nof hc
          | _ => exact nof hc
      | _ => exact nof hc
  | .aug i op e rest, c, l, ρ, ss, Q, ce, cf, ag, hc, hw => by
    cases ss with
    | nil => exact nof hc
    | cons st ss =>
      cases st with
      | AugAssign t op' v pos =>
        cases t with
        | Name x p =>
          obtain ⟨h1, h2, h3, h4⟩ := and4 hc
          obtain ⟨h5, h6⟩ := and2 h1
          rw [← show op = op' from eq_of_beq h2]
          obtain ⟨d₀, e0, hw⟩ := at_out (show at_ (nth ρ i) _ from hw)
          obtain ⟨d₁, e1, hw⟩ := snd ok e ce (fun _ => cf) ag h3 hw
          obtain ⟨d, e2, hz, hw⟩ := aug_out (c := c) hw
          exact go_on (st_augS (slot_of cf h6) (get_ag ag h5 e0) e1 e2 (froz_of hz) rfl ⟨rfl, rfl⟩) (sndS ok rz rest ce cf (agr_upd ag h5) h4 hw)
        | _ => exact nof hc
      | _ => exact nof hc
  | .app i e rest, c, l, ρ, ss, Q, ce, cf, ag, hc, hw => by
    cases ss with
    | nil => exact nof hc
    | cons st ss =>
      cases st with
      | Expr v pos =>
        cases v with
        | Call f es kw p =>
          cases f with
          | Attribute o n apos =>
            cases o with
            | Name x q =>
              cases es with
              | nil => exact nof hc
              | cons v es =>
                cases es with
                | cons _ _ => exact nof hc
                | nil =>
                  cases kw with
                  | cons _ _ => exact nof hc
                  | nil =>
                    obtain ⟨hc, h7⟩ := and2 hc
                    obtain ⟨hc, h6⟩ := and2 hc
                    obtain ⟨hc, h5⟩ := and2 hc
                    obtain ⟨h1, h2, h3, h4⟩ := and4 hc
                    rw [show n = ("append" : Str) from eq_of_beq h3]
                    obtain ⟨its, e0, hw⟩ := mls_out (show mlsAt (nth ρ i) _ from hw)
                    obtain ⟨d, e1, ⟨z1, z2⟩, hw⟩ := snd ok e ce (fun _ => cf) ag h6 hw
                    exact go_on (st_append (get_ag ag h1 e0) e1 (froz_of z1) z2 rfl ⟨rfl, rfl⟩ (call_shape (by exact h5) (fun y hy => by rw [List.mem_singleton.mp hy]; exact h4)) (nst_each h4) (by simpa using h2)) (sndS ok rz rest ce cf (agr_upd ag h1) h7 hw)
            | _ => exact nof hc
          | _ => exact nof hc
        | _ => exact nof hc
      | _ => exact nof hc
  | .ite t a b rest, c, l, ρ, ss, Q, ce, cf, ag, hc, hw => by
    cases ss with
    | nil => exact nof hc
    | cons st ss =>
      cases st with
      | If t' as bs pos =>
        obtain ⟨h1, h2, h3, h4⟩ := and4 hc
        exact ite_snd (rest := rest) ok (sndS ok rz a) (sndS ok rz b) ce cf ag h1 h2 h3 (fun o l' q => seq_lift (sndS ok rz rest) rfl ce cf h4 q) hw
      | _ => exact nof hc
  | .itj t a b rest, c, l, ρ, ss, Q, ce, cf, ag, hc, hw => by
    cases ss with
    | nil => exact nof hc
    | cons st ss =>
      cases st with
      | If t' as bs pos =>
        obtain ⟨h1, h2, h3, h4⟩ := and4 hc
        obtain ⟨p, e1, ρ₁, k1, k2, k3⟩ := snd ok t ce (fun _ => cf) ag h1 (show wp X t .t ρ _ from hw)
        have hk : ∀ o l', Lift ns (joinQ ρ₁ Q) o l' → match o with | .next => STX X.cl c l' (execs ss c.env) (Lift ns Q) | o => Lift ns Q o l' := fun o l' q => by
          obtain ⟨ρ', ag', q⟩ := q
          cases o with
          | next => exact sndS ok rz rest ce cf (show Agr ns ρ₁ l' from (show ρ' = ρ₁ from q) ▸ ag') h4 k3
          | _ => exact ⟨ρ', ag', q⟩
        exact stx_cons (stx_if e1 (fun z => stx_mono (sndS ok rz a ce cf ag h2 (k1 z)) hk) fun z => stx_mono (sndS ok rz b ce cf ag h3 (k2 z)) hk)
      | _ => exact nof hc
  | .for_ is en src body orelse rest, c, l, ρ, ss, Q, ce, cf, ag, hc, hw => by
    cases ss with
    | nil => exact nof hc
    | cons st ss =>
      cases st with
      | For t it bs os pos =>
        obtain ⟨hc, h6⟩ := and2 hc
        obtain ⟨hc, h5⟩ := and2 hc
        obtain ⟨h1, h2, h3, h4⟩ := and4 hc
        exact for_snd ok (sndS ok rz body) (sndS ok rz orelse) (sndS ok rz rest) ce cf ag h1 h2 h3 h4 h5 h6 hw.1 hw.2
      | _ => exact nof hc
  | .while_ t body orelse rest, c, l, ρ, ss, Q, ce, cf, ag, hc, hw => by
    cases ss with
    | nil => exact nof hc
    | cons st ss =>
      cases st with
      | While t' bs os pos =>
        obtain ⟨h1, h2, h3, h4⟩ := and4 hc
        obtain ⟨hb, n, hw⟩ := hw
        refine stx_cons (stx_of (st_mono (st_whileB n (while_of (fun {ρ l K} ag' h => (show Out c l t' K .t from snd ok t ce (fun _ => cf) ag' h1 h)) (fun ag' h => hb ▸ sndS ok rz body ce cf ag' h2 h) (fun ag' h => hb ▸ sndS ok rz orelse ce cf ag' h3 h) ag hw)) fun fl l' q => ?_))
        have := seq_lift (sndS ok rz rest) rfl ce cf h4 q
        cases fl <;> exact this
      | _ => exact nof hc
  | .ret e, c, l, ρ, ss, Q, ce, cf, ag, hc, hw => by
    cases ss with
    | nil => exact nof hc
    | cons st ss =>
      cases st with
      | Return v pos =>
        cases v with
        | none => exact nof hc
        | some v =>
          obtain ⟨d, e1, hz, hw⟩ := snd ok e ce (fun _ => cf) ag hc (show wp X e .v ρ _ from hw)
          exact stx_cons (stx_of (st_ret e1 (froz_of hz) ⟨ρ, ag, hw⟩))
      | _ => exact nof hc
  | .brk, c, l, ρ, ss, Q, ce, cf, ag, hc, hw => by
    cases ss with
    | nil => exact nof hc
    | cons st ss =>
      cases st with
      | Break pos => exact stx_cons (stx_of (st_break ⟨ρ, ag, hw⟩))
      | _ => exact nof hc
  | .cont, c, l, ρ, ss, Q, ce, cf, ag, hc, hw => by
    cases ss with
    | nil => exact nof hc
    | cons st ss =>
      cases st with
      | Continue pos => exact stx_cons (stx_of (st_cont ⟨ρ, ag, hw⟩))
      | _ => exact nof hc
  | .asrt t rest, c, l, ρ, ss, Q, ce, cf, ag, hc, hw => by
    cases ss with
    | nil => exact nof hc
    | cons st ss =>
      cases st with
      | Assert t' m pos =>
        obtain ⟨h1, h2⟩ := and2 hc
        obtain ⟨p, e1, hp, hw⟩ := snd ok t ce (fun _ => cf) ag h1 (show wp X t .t ρ _ from hw)
        exact go_on (st_assertB e1 hp ⟨rfl, rfl⟩) (sndS ok rz rest ce cf ag h2 hw)
      | _ => exact nof hc
  | .frz i rest, c, l, ρ, ss, Q, ce, cf, ag, hc, hw => by
    obtain ⟨hu, hc⟩ := and2 hc
    obtain ⟨its, e0, hw⟩ := mls_out (show mlsAt (nth ρ i) _ from hw)
    obtain ⟨x, hx, _⟩ := ag i _ e0
    have hu' : uniqAt ns i x = true := by rw [hx] at hu; exact hu
    exact stx_freeze (get_ag ag hu' e0) (sndS ok rz rest ce cf (agr_upd ag hu') hc hw)
  | .rse x C e, c, l, ρ, ss, Q, ce, cf, ag, hc, hw => rz.rse x C e ce cf ag hc hw
  | .fls, c, l, ρ, ss, Q, ce, cf, ag, hc, hw => hw.elim
  | .seti i e rest, c, l, ρ, ss, Q, ce, cf, ag, hc, hw => rz.seti i e rest (sndS ok rz rest) ce cf ag hc hw
end
end Mine
end
section
open PySem PySem.W PySem.Spec PySem.Calls PyProof.Rows
set_option Elab.async false
set_option linter.unusedVariables false
set_option maxRecDepth 100000
namespace Mine
noncomputable def nones : Nat → Env
  | 0 => []
  | n + 1 => none :: nones n
noncomputable def ini : List D → Nat → Env
  | [], k => nones k
  | d :: ds, k => some d :: ini ds k
noncomputable def endQ (d : D) : PQ := fun o _ => match o with
  | .ret r => r = d
  | .next => d = .none
  | _ => False
noncomputable def nodupB : List Str → Bool
  | [] => true
  | x :: xs => xs.all (fun y => !(x == y)) && nodupB xs
theorem nodup_of : ∀ {xs : List Str}, nodupB xs = true → xs.Nodup
  | [], _ => List.nodup_nil
  | x :: xs, h => List.nodup_cons.mpr ⟨fun hm => by
      have := List.all_eq_true.mp (and2 h).1 x hm
      simp at this, nodup_of (and2 h).2⟩
noncomputable def fnChk (S : Scope) (names : List Str) : Bool :=
  names.all (fun x => isK S x .local || isK S x .cell) && nodupB names && !S.isCoroutine && !S.isGenerator && S.kind == .function && nodupB ((cellsFrom 0 S.names []).map (·.1))
theorem nth_nil : ∀ {k i : Nat} {d : D}, nth (nones k) i ≠ some d
  | 0, _, _, h => by cases h
  | k + 1, 0, _, h => by cases h
  | k + 1, i + 1, _, h => nth_nil (k := k) (i := i) h
theorem agr_ini {more : List Str} {k : Nat} : ∀ {names : List Str} {args : List D}, names.length = args.length → names.Nodup → Agr (names ++ more) (ini args k) (names.zip args)
  | [], [], _, _ => fun i d h => absurd h nth_nil
  | x :: xs, d :: ds, hl, hn => fun i e h => by
    cases i with
    | zero =>
      refine ⟨x, rfl, ?_⟩
      rw [← Option.some.inj (show some d = some e from h)]
      exact if_pos rfl
    | succ i =>
      obtain ⟨y, h1, h2⟩ := agr_ini (more := more) (k := k) (Nat.succ.inj hl) (List.nodup_cons.mp hn).2 i e h
      refine ⟨y, h1, ?_⟩
      have hy : y ∈ xs := by
        have : ∀ {xs : List Str} {ds : List D}, get (xs.zip ds) y = some e → y ∈ xs := by
          intro xs
          induction xs with
          | nil => intro ds h; cases h
          | cons z zs ih =>
            intro ds h
            cases ds with
            | nil => cases h
            | cons f fs =>
              simp only [List.zip_cons_cons, get] at h
              by_cases q : y = z
              · rw [q]; exact .head _
              · rw [if_neg q] at h; exact .tail _ (ih h)
        exact this h2
      simp only [List.zip_cons_cons, get]
      rw [if_neg (fun (q : y = x) => (List.nodup_cons.mp hn).1 (q ▸ hy))]; exact h2
  | [], _ :: _, hl, _ => by cases hl
  | _ :: _, [], hl, _ => by cases hl
section
variable {X : Fx} {S : Scope} {names more : List Str} {f : Addr} {args : List D} {d : D} {name qual : Str} {params : Arguments} {body : List Stmt} {dV kV doc pm cdv ct oc : Value} {an od : Option Addr} {osl : Array (Option Value)} {r : RS} {k : Nat}
theorem fnChk_out (h : fnChk S names = true) : (∀ x ∈ names, S.names.lookup x = some .local ∨ S.names.lookup x = some .cell) ∧ names.Nodup ∧ S.isCoroutine = false ∧ S.isGenerator = false ∧ S.kind = .function ∧ ((cellsFrom 0 S.names []).map (·.1)).Nodup := by
  unfold fnChk at h
  obtain ⟨h, h6⟩ := and2 h
  obtain ⟨h, h5⟩ := and2 h
  obtain ⟨h1, h2, h3, h4⟩ := and4 h
  refine ⟨fun x hx => ?_, nodup_of h2, by simpa using h3, by simpa using h4, eq_of_beq h5, nodup_of h6⟩
  exact (Bool.or_eq_true_iff.mp (List.all_eq_true.mp h1 x hx)).imp isK_out isK_out
theorem fn_okK {kn : List Str} {kd : List D} (ok : XOk X) (rz : Rz X S (names ++ more)) (hcl : X.cl = false) (ho : X.K.lookup f = some ⟨oc, od, .func (fnOf name qual params body S dV kV doc pm an cdv ct), osl⟩) (hcd : codeIn X.K cdv qual = true)
    (hb : ∀ (s : Shared) (vs ks : List Value), s.heap.NoLimit → X.K.In s.heap → vs.length = args.length → ks.length = kd.length → BindsTo s (fnOf name qual params body S dV kV doc pm an cdv ct) ⟨vs, kn.zip ks⟩ (names.zip (vs ++ ks)))
    (hl : names.length = args.length + kd.length) (hz : frozB.frozBs args = true) (hz' : frozB.frozBs kd = true) (hck : fnChk S names = true) (hc : chkS S (names ++ more) r body = true) (h : wpS X r (ini (args ++ kd) k) (endQ d)) :
    CALLK X.prog X.w X.K X.lv f args kn kd d := by
  obtain ⟨k1, k2, k3, k4, k5, k6⟩ := fnChk_out hck
  refine call_ofK ho hcd hb k1 hl k2 (frozs_of hz) (frozs_of hz') k3 k4 k5 k6 fun c e1 e2 e3 e4 e5 e6 e7 => ?_
  have ce : CE X S c := ⟨e1, e2, e3, e4, fun x hx => by rw [Env.kindOf, e5]; exact hx⟩
  have := sndS ok rz r ce ⟨e5, e6, e7⟩ (agr_ini (more := more) (k := k) (by rw [hl, List.length_append]) k2) hc h
  rw [hcl] at this
  refine st_mono (stx_to this (fun _ _ _ q => q.elim fun _ z => z.2) (fun _ q => q.elim fun _ z => z.2)) fun fl l' q => ?_
  obtain ⟨ρ', _, q⟩ := q
  cases fl <;> exact q
theorem fn_ok (ok : XOk X) (rz : Rz X S (names ++ more)) (hcl : X.cl = false) (ho : X.K.lookup f = some ⟨oc, od, .func (fnOf name qual params body S dV kV doc pm an cdv ct), osl⟩) (hcd : codeIn X.K cdv qual = true)
    (hb : ∀ (s : Shared) (vs : List Value), s.heap.NoLimit → X.K.In s.heap → vs.length = args.length → BindsTo s (fnOf name qual params body S dV kV doc pm an cdv ct) ⟨vs, []⟩ (names.zip vs))
    (hl : names.length = args.length) (hz : frozB.frozBs args = true) (hck : fnChk S names = true) (hc : chkS S (names ++ more) r body = true) (h : wpS X r (ini args k) (endQ d)) :
    CALL X.prog X.w X.K X.lv f args d := by
  refine call_K0 (fn_okK (kn := []) (kd := []) ok rz hcl ho hcd (fun s vs ks n x h1 h2 => ?_) hl hz rfl hck hc ((List.append_nil args).symm ▸ h))
  have : ks = [] := List.length_eq_zero_iff.mp h2
  subst this
  rw [List.append_nil]; exact hb s vs n x h1
theorem fn_at {prog : Program} {w : World} {K : Frag} {lv lv' : Nat} {x : Str} {ds : List D} {o : Obj} {fd : FuncData} {cl : Bool} (C : CALL prog w K lv' f ds d) (hg : nsIn K mainGlobals x = some (some (.ref f))) (ho : K.lookup f = some o) (hd : o.data = .func fd) (hl : lv' + 1 ≤ lv) : FN ⟨prog, w, K, lv, cl⟩ x ds d := ⟨f, o, fd, lv', hg, ho, hd, C, hl⟩
theorem fnk_at {prog : Program} {w : World} {K : Frag} {lv lv' : Nat} {x kn : Str} {ds : List D} {e : D} {o : Obj} {fd : FuncData} {cl : Bool} (C : CALLK prog w K lv' f ds [kn] [e] d) (hg : nsIn K mainGlobals x = some (some (.ref f))) (ho : K.lookup f = some o) (hd : o.data = .func fd) (hl : lv' + 1 ≤ lv) : FNK ⟨prog, w, K, lv, cl⟩ x ds kn e d := ⟨f, o, fd, lv', hg, ho, hd, C, hl⟩
theorem hb1 {s : Shared} {fd : FuncData} {names : List Str} (h : ∀ a, BindsTo s fd ⟨[a], []⟩ (names.zip [a])) : ∀ vs : List Value, vs.length = 1 → BindsTo s fd ⟨vs, []⟩ (names.zip vs)
  | [a], _ => h a
theorem hb2 {s : Shared} {fd : FuncData} {names : List Str} (h : ∀ a b, BindsTo s fd ⟨[a, b], []⟩ (names.zip [a, b])) : ∀ vs : List Value, vs.length = 2 → BindsTo s fd ⟨vs, []⟩ (names.zip vs)
  | [a, b], _ => h a b
theorem hb3 {s : Shared} {fd : FuncData} {names : List Str} (h : ∀ a b c, BindsTo s fd ⟨[a, b, c], []⟩ (names.zip [a, b, c])) : ∀ vs : List Value, vs.length = 3 → BindsTo s fd ⟨vs, []⟩ (names.zip vs)
  | [a, b, c], _ => h a b c
theorem hb11 {s : Shared} {fd : FuncData} {names kn : List Str} (h : ∀ a b, BindsTo s fd ⟨[a], kn.zip [b]⟩ (names.zip ([a] ++ [b]))) : ∀ vs ks : List Value, vs.length = 1 → ks.length = 1 → BindsTo s fd ⟨vs, kn.zip ks⟩ (names.zip (vs ++ ks))
  | [a], [b], _, _ => h a b
theorem hb20 {s : Shared} {fd : FuncData} {names kn : List Str} (h : ∀ a b, BindsTo s fd ⟨[a, b], kn.zip []⟩ (names.zip ([a, b] ++ []))) : ∀ vs ks : List Value, vs.length = 2 → ks.length = 0 → BindsTo s fd ⟨vs, kn.zip ks⟩ (names.zip (vs ++ ks))
  | [a, b], [], _, _ => h a b
theorem fn_by {prog : Program} {w : World} {K : Frag} {lv : Nat} (ok : XOk ⟨prog, w, K, lv, false⟩) (rz : Rz ⟨prog, w, K, lv, false⟩ S (names ++ more)) (ho : K.lookup f = some ⟨oc, od, .func (fnOf name qual params body S dV kV doc pm an cdv ct), osl⟩) (hcd : codeIn K cdv qual = true)
    (hb : ∀ (s : Shared) (vs : List Value), s.heap.NoLimit → K.In s.heap → vs.length = args.length → BindsTo s (fnOf name qual params body S dV kV doc pm an cdv ct) ⟨vs, []⟩ (names.zip vs))
    (hl : names.length = args.length) (hz : frozB.frozBs args = true) (hck : fnChk S names = true) (hc : chkS S (names ++ more) r body = true) (h : wpS ⟨prog, w, K, lv, false⟩ r (ini args k) (endQ d)) :
    CALL prog w K lv f args d := fn_ok ok rz rfl ho hcd hb hl hz hck hc h
theorem fn_byK {prog : Program} {w : World} {K : Frag} {lv : Nat} {kn : List Str} {kd : List D} (ok : XOk ⟨prog, w, K, lv, false⟩) (rz : Rz ⟨prog, w, K, lv, false⟩ S (names ++ more)) (ho : K.lookup f = some ⟨oc, od, .func (fnOf name qual params body S dV kV doc pm an cdv ct), osl⟩) (hcd : codeIn K cdv qual = true)
    (hb : ∀ (s : Shared) (vs ks : List Value), s.heap.NoLimit → K.In s.heap → vs.length = args.length → ks.length = kd.length → BindsTo s (fnOf name qual params body S dV kV doc pm an cdv ct) ⟨vs, kn.zip ks⟩ (names.zip (vs ++ ks)))
    (hl : names.length = args.length + kd.length) (hz : frozB.frozBs args = true) (hz' : frozB.frozBs kd = true) (hck : fnChk S names = true) (hc : chkS S (names ++ more) r body = true) (h : wpS ⟨prog, w, K, lv, false⟩ r (ini (args ++ kd) k) (endQ d)) :
    CALLK prog w K lv f args kn kd d := fn_okK ok rz rfl ho hcd hb hl hz hz' hck hc h
end
end Mine
end
section
open PySem PySem.W PySem.Spec PySem.Calls PyProof.Rows
set_option Elab.async false
set_option linter.unusedVariables false
set_option maxRecDepth 100000
namespace Mine
theorem endsC {prog : Program} {w : World} {t : Sem PySem.Fin} {s : Shared} {R : Result → Shared → Prop} (hreg : s.asleep)
    (h : wpM true (model prog w) callerA t (fun fin s' => ∃ f, fin = .done f ∧ (R (.ok f) s' ∧ leftWithCleanup s'.gens = false)) (fun e s' => R (.error e) s' ∧ leftWithCleanup s'.gens = false) s) :
    ∃ n r s' s'', runN (denote table) prog w n s ⟨t, .builtin "claim.caller" {}, default, []⟩ = .halted (outcomeOf r) s' ∧ schedN (denote table) prog w n (.single s ⟨t, .builtin "claim.caller" {}, default, []⟩) = .halted (outcomeOf r) s' ∧ s'.forget = s''.forget ∧ R r s'' := by
  have h0 := h ⟨.builtin "claim.caller" {}, none, none, [], none⟩ default caller_in fun _ => .inl rfl
  obtain ⟨n, r, s₁, s₂, hs, hn, hfo, hR⟩ := wp_halts_full (M := model prog w) (R := R) hreg (Sem.wp_mono _ _ t (fun fin _ s' q => by obtain ⟨f, rfl, q⟩ := q; exact q) (fun _ _ _ q => q) default s h0)
  exact ⟨n, r, s₂, s₁, hn, hs, hfo, hR⟩
section
variable {c : ClaimW}
theorem fromC {tree : List Value → Sem PySem.Fin} {w : World} {s : Shared} {free : Addr → Prop} {gens : Prop} {kept : Heap → Prop} (hz : s.asleep) (hg : s.gens = #[])
    (spec : ∀ args, c.pre args = true → WData.layableAll args = true → ∀ ord : List DictEntry → List DictEntry, (∀ l, (ord l).Perm l) → ∃ vs s₁, layAllW c.records (classAt s.heap) w.params ord args s = some (vs, s₁) ∧
      wpM true (model c.prog w) callerA (tree vs) (fun fin s' => ∃ f, fin = .done f ∧ (c.Ends s args vs s₁ (.ok f) s' ∧ s'.os = s.os ∧ AllBare s'.gens ∧ kept s'.heap)) (fun e s' => c.Ends s args vs s₁ (.error e) s' ∧ s'.os = s.os ∧ AllBare s'.gens ∧ kept s'.heap) s₁) :
    c.CallFrom (fun vs => ⟨tree vs, .builtin "claim.caller" {}, default, []⟩) w free gens kept s := fun args h1 h2 ord h3 => by
  obtain ⟨vs, s₁, laid, run⟩ := spec args h1 h2 ord h3
  obtain ⟨_, _, _, life⟩ := layAllW_rest _ _ _ laid
  obtain ⟨k, r, s', s'', hr, hs, hf, he, ho, hk⟩ := endsC (R := fun r s' => c.Ends s args vs s₁ r s' ∧ s'.os = s.os ∧ kept s'.heap) (Shared.asleep_of_life life hz)
    (wm_mono run (fun fin s' q => by obtain ⟨f, e, q1, q2, q3, q4⟩ := q; exact ⟨f, e, ⟨q1, q2, q4⟩, leftWithCleanup_false_of_bare q3⟩) fun e s' q => ⟨⟨q.1, q.2.1, q.2.2.2⟩, leftWithCleanup_false_of_bare q.2.2.1⟩)
  obtain ⟨eh, _, _, eo, _⟩ := Shared.forget_eq hf
  have he := he.congr eh
  rw [← eh] at hk
  rw [← eo] at ho
  refine ⟨vs, s₁, laid, k, _, s', hs, ?_, (fun _ i x hx => by rw [hg] at hx; simp at hx), hk, by rw [(runN_life _ _ _ hr).trans life], Shared.rest_eq ho⟩
  exact he.imp (fun ⟨v, e, d1, d2, d3, d4, d5⟩ => ⟨v, by rw [e]; rfl, d1, d2, d3, fun b o y _ => d4 b o y, d5⟩) fun ⟨e, ob, cls, q, d1, d2, d3, d4, d5⟩ => ⟨e, ob, cls, by rw [q]; rfl, d1, d2, d3, d4, fun b o y _ => d5 b o y⟩
end
noncomputable abbrev WalkC (q : Program) (loose : List Str) (XP : (Str → Option Value) → Heap → Prop) {α : Type} (Yf : Shared → α) (Ya : World → α) (r : RowW) (d : DefRec) (kwd : List (Str × Expr)) (run : Value → List Value → Sem Value) : Prop :=
  ∀ (w : World) (s₀ s₁ : Shared) (mg mb : Str → Option Value), Ground q loose r.records XP w s₀ mg mb s₁.heap → Yf s₀ = Ya w → ∀ (a : Addr) (o : Obj) (pm cd doc dV kV : Value), s₁.heap.get? a = some o →
    o.data = .func { docDef d.name d.params d.body d.scope pm cd doc with defaults := dV, kwdefaults := kV } → s₁.heap.CodeRec cd d.name → Dflts mg s₁.heap d.params kwd dV kV → mg d.name = some (.ref a) → s₁.gens = #[] →
    ∀ (args : List WData) (vals : List Value) (as : List Addr), Laid r.records w s₀ s₁ args vals as → r.claim.pre args = true → WData.layableAll args = true → ReadsAllW r.records (classAt s₀.heap) s₁.heap vals args as → WellAll w.params s₁.heap vals args → (∀ a ∈ as, (a == sysModules) = false) →
      wpM true (model r.prog w) callerA (run (.ref a) vals) (fun v s' => GoodWG r.claim (classAt s₀.heap) (ExcName.means s₀.heap) args s₁ (.ok (.ret v)) s')
        (fun e s' => GoodWG r.claim (classAt s₀.heap) (ExcName.means s₀.heap) args s₁ (.error e) s') s₁
class Later (C : outParam Prop) : Prop where
  h : C
noncomputable abbrev By {C : Prop} (i : Later C) (P : Prop) : Prop := P
theorem PySem.W.holds_openX {r : OpenRow} {q : Program} {loose : List Str} {Xt : Shared → Bool} {XP : (Str → Option Value) → Heap → Prop} {α : Type} {Yf : Shared → α} {Ya : World → α} {d : DefRec} {kwd : List (Str × Expr)} {N : Nat} {C : Prop} [later : Later C]
    (sure : Bool) (hX : ∀ s, Xt s = true → XP (s.heap.nsMap mainGlobals) s.heap) (hXk : ∀ mg h h', XP mg h → (∀ b o, h.get? b = some o → h'.get? b = some o) → XP mg h')
    (hdef : defOf q r.name = some (d, kwd)) (hp : r.prog.theDef r.name = some (d.params, d.body, d.scope)) (hk : kwWritten? d.params.kwonlyargs d.params.kw_defaults = some kwd) (hRf : ∀ s, Xt s = true → RecFacts r.records s.heap) (hwr : (!r.writes || r.records.isEmpty) = true)
    (k1 : r.wellSaid = true) (ok : (chainsOk q && opensWell r.prog && (frees r.toRowW && r.within.isEmpty)) = true) (hb : r.prog.bare) (hw : r.toRowW.promised)
    (call : By later (LeftO r.prog q loose Xt Yf Ya N ∧ WalkC q loose XP Yf Ya r.toRowW d kwd fun f vs => PySem.call f vs)) (yes : sure = true := by change true = true; rfl) : r.Holds := by
  obtain ⟨left, call⟩ := call
  obtain ⟨ok, k5⟩ := and2 ok
  obtain ⟨hch, o1⟩ := and2 ok
  obtain ⟨k5, k6⟩ := and2 k5
  obtain ⟨hsame, hu, ha, hap, hm⟩ := frees_parts k5
  refine ⟨k1, hw, ⟨hb, o1, by show r.toRowW.makers.map _ = []; rw [hm]; rfl⟩, hw.witness, fun w => ⟨(left.behind hX hch w).1, fun s' hs' => ?_⟩⟩
  obtain ⟨s₀, hf, hg0, s, hT, hz, hgens, hg, G00, y⟩ := (left.behind (XP := fun mg h => XP mg h ∧ RecFacts r.records h) (fun s hs => ⟨hX s hs, hRf s hs⟩) hch w).2 s' hs'
  have G0 : Ground q loose [] XP w s (s.heap.nsMap mainGlobals) (s.heap.nsMap builtinsNs) s.heap := ⟨G00.T, G00.B, G00.D, G00.TE, G00.TD, G00.W, G00.X.1, G00.cls, G00.has, G00.apart, G00.once, G00.K⟩
  have RF := G00.X.2
  have hgens : s.gens = #[] := Array.eq_empty_of_size_eq_zero (beq_iff_eq.mp hgens)
  have G : Ground q loose r.toRowW.records XP w s _ _ s.heap := RF.ground G0
  refine ⟨s₀, hf, hg0, s, hT, fun n hn => ?_, RF.1, RF.2.1, fromC (c := r.toRowW.claim) hz hgens fun args hpre hlay ord hord => ?_⟩
  · obtain rfl : n = r.name := by split at hn <;> simp_all
    exact pinned_of_view hg G0 hdef hp hk
  obtain ⟨⟨vs, s₁⟩, laid⟩ := Option.isSome_iff_exists.mp (layAllW_isSome (P := w.params) (ord := ord) G.has args r.toRowW.args s (pre_splitW hpre).1)
  have keeps := layAllW_keeps _ _ _ laid
  have rest := layAllW_rest _ _ _ laid
  obtain ⟨as, hrd, hin, hold⟩ := reads_layAllW hord _ _ _ laid hlay s₁.heap (fun _ _ e => e)
  have L : Laid r.toRowW.records w s s₁ args vs as := ⟨⟨ord, hord, laid⟩, hrd, hin, hold, keeps, rest.1.trans hgens, rest.2.2.1⟩
  have G₁ := G.keeps hXk keeps
  obtain ⟨a, o, pm, cd, doc, dV, kV, h1, h2, h3, h4, h5⟩ := G₁.fn hdef
  have run := call w s s₁ _ _ G₁ y a o pm cd doc dV kV h2 h3 h4 h5 (defOf_name hdef ▸ h1) L.gens args vs as L hpre hlay L.reads L.well (L.low G.low)
  have hi := ident_freeW hu ha hap
  have hwi : r.toRowW.claim.within = [] := List.isEmpty_iff.mp k6
  refine ⟨vs, s₁, laid, wm_seq (wpAny_nsGet G₁.T.g ?_)⟩
  rw [h1]
  refine wm_bind (wm_mono run (fun v s' g => wm_pure ⟨_, rfl, ?_⟩) fun e s' g => ?_)
  · have z := g.laid (c := r.toRowW.claim) hsame hwi hi L
    exact ⟨z.1, z.2.1, z.2.2, fun q => ⟨namesKept_of hT hg _ keeps g.2.1.old, noTable hwr q⟩⟩
  · have z := g.laid (c := r.toRowW.claim) hsame hwi hi L
    exact ⟨z.1, z.2.1, z.2.2, fun q => ⟨namesKept_of hT hg _ keeps g.2.1.old, noTable hwr q⟩⟩
end Mine
end
section
open PySem PySem.W PySem.Spec PySem.Calls PyProof.Rows PySem.NumText
set_option Elab.async false
set_option linter.unusedVariables false
set_option maxRecDepth 100000
namespace Mine
theorem sp_none {x : Str} {t : Tok} {n : Str} (h : typeLookup (.type "str") n = pure none) : specialOf (.str x t) n = pure none := by
  unfold specialOf
  simp only [show typeOf (.str x t) = pure (.type "str") from rfl, pure_bind, h]
theorem cs_none {x : Str} {t : Tok} {n : Str} (h : typeLookup (.type "str") n = pure none) : callSpecial? (.str x t) n = pure none := by
  unfold callSpecial?
  rw [sp_none h, pure_bind]
theorem io_shape (x : Str) (t : Tok) : (int_private% "intFromObject") (.str x t) = (int_private% "intFromText") (.str x t) (numTextOf x) 10 := by
  show (callSpecial? (.str x t) "__int__" >>= _) = _
  rw [cs_none KIN.str_int, pure_bind]
  show (specialOf (.str x t) "__index__" >>= _) = _
  rw [sp_none KIN.str_idx, pure_bind]
  show (specialOf (.str x t) "__trunc__" >>= _) = _
  rw [sp_none KIN.str_trunc, pure_bind]
  rfl
theorem isType_int : isType (.type "int") = pure true := by first | rfl | kernel_rfl
theorem in_shape (x : Str) (t : Tok) : Builtin.«int.__new__» ⟨[.type "int", .str x t], []⟩ = ((int_private% "intFromText") (.str x t) (numTextOf x) 10 >>= fun v => ret v) := by
  show (isType (.type "int") >>= _) = _
  rw [isType_int, pure_bind]
  show (isSubtype (.type "int") (.type "int") >>= _) = _
  rw [F.conv_sub_int, pure_bind]
  show (Bind.madeHere "int.__new__" (.type "int") >>= _) = _
  rw [F.madeHere_int, pure_bind]
  show ((int_private% "intFromObject") (.str x t) >>= _) = _
  rw [io_shape]
  rfl
theorem tc_shape (x : Str) (t : Tok) : ∃ k, Builtin.«type.__call__» ⟨[.type "int", .str x t], []⟩ = (holding [.builtin "int.__new__"] (call (.builtin "int.__new__") [.type "int", .str x t] []) >>= k) := by
  have ft := F.called_int
  obtain ⟨c, tl, hmro⟩ := ft.mro
  have hmade := ft.made
  have h1 := ft.notType
  have h2 := ft.canCreate
  have hct := F.typeCall_int_1 (.str x t)
  unfold Builtin.«type.__call__»
  simp only [h1, h2, hct, hmro, hmade, pure_bind, Bool.false_eq_true, if_false, List.isEmpty_cons]
  exact ⟨_, rfl⟩
noncomputable def complaint (shown : Str) : Str := ((s!"invalid literal for int() with base {10}: " : String) ++ ⟨shown.cps.extract 0 200⟩ : Str)
noncomputable def refusal (x : Str) (t : Tok) : Sem Value := do
  rule "int.__new__.invalid-literal"
  let shown ← pyRepr (.str x t)
  let m ← mkStr (complaint shown)
  let r ← newExc (.type "ValueError") [m]
  markTheRefusal ["int.__new__"] r
  raiseNew r
theorem ft_shape {x : Str} {t : Tok} (hl : x.length ≤ 640) (h : PySem.intText? x = none) : (int_private% "intFromText") (.str x t) (numTextOf x) 10 = refusal x t := by
  have hs : (numSeenOf x).length ≤ 640 := Nat.le_trans (seen_length x) hl
  rcases read0 x hs with ⟨n, h1, _⟩ | ⟨_, h2 | ⟨i, h2, h3⟩⟩
  · rw [h] at h1; cases h1
  · show (ite ((numSeenOf x).length ≤ 640) _ _) = _
    rw [if_pos hs, pure_bind]
    simp only [h2]
    rfl
  · show (ite ((numSeenOf x).length ≤ 640) _ _) = _
    rw [if_pos hs, pure_bind]
    simp only [h2, h3]
    rfl
section
variable {prog : Program} {w : World} {A : Around} {E : Value → Shared → Prop} {s : Shared}
theorem no_mark {M : Model} {own : List String} {e : Value} {Q : Unit → Shared → Prop} (h : Q () s) : wpM true M A (markTheRefusal own e) Q E s := fun Γ p hΓ hu => by
  have e1 : pythonCodeMadeTheCall own (((Γ.code, p) :: Γ.below).map (·.1)) = false := by
    have : ((((Γ.code, p) :: Γ.below).map (·.1)).any Code.isCaller) = true := by
      have := under_cons (p := p) (hu rfl)
      unfold under at this
      rw [List.any_map]; exact this
    show (!((((Γ.code, p) :: Γ.below).map (·.1)).any Code.isCaller) && _ && _) = false
    rw [this]; rfl
  unfold markTheRefusal
  rw [Sem.wp_bind']
  show Sem.wp M Γ (if pythonCodeMadeTheCall own (((Γ.code, p) :: Γ.below).map (·.1)) = true then _ else _) _ _ p s
  rw [e1]
  exact h
theorem refuses {x : Str} {t : Tok} {Q : Value → Shared → Prop} (hr : (reprText x).length ≤ sizeLine) (hh : A.handled = none) (h : ∀ h' tk e, Heap.NewExc s.heap h' e "ValueError" → E (.ref e) { s with heap := h', toks := tk }) : wpM true (model prog w) A (refusal x t) Q E s := by
  unfold refusal
  refine wm_seq (wpAny_rule (wm_seq (wpAny_pyRepr_str ?_ hr)))
  refine wm_seq (wpAny_mkStr ?_ ?_)
  · refine wm_seq (wpAny_newExc_plain plainExc_ValueError (fun h' e hm => ?_) (by show 1 ≤ sizeLine; decide))
    refine wm_bind (no_mark ?_)
    exact wm_of (wpAny_raiseNew_none hh (h _ _ _ hm.newExc))
  · unfold complaint
    have : ((⟨(reprText x).cps.extract 0 200⟩ : Str)).length ≤ 200 := by
      show ((reprText x).cps.extract 0 200).size ≤ 200
      rw [Array.size_extract]; omega
    rw [len_app]
    have e1 : (Str.ofString (s!"invalid literal for int() with base {10}: " : String)).length = 40 := by decide +kernel
    have := szl
    show (Str.ofString _).length + _ ≤ _
    omega
theorem cm_builtin {b : Bool} {id : String} {args : Args} {B : Builtin} {R : Result → Shared → Prop} (hb : entryFor table id = some B)
    (h : wpM b (model prog w) (A.under (.builtin id args)) (B args) (fun fin s' => match fin with | .done f => R (.ok f) s' | .again c' => c'.quiet = true ∧ codeM b (model prog w) A c' R s') (fun e s' => R (.error e) s') s) : codeM b (model prog w) A (.builtin id args) R s := by
  refine cm_tree ?_
  show wpM b _ _ (match entryFor table id with | some B => B args | none => unsupported ((withoutEnding? id "#data").getD id)) _ _ s
  rw [hb]; exact h
theorem cm_callBuiltin {b : Bool} {id : String} {args : Args} {B : Builtin} {R : Result → Shared → Prop} (hq : (Code.builtin id args).quiet = true) (hb : entryFor table id = some B) (hk : checkBuiltinCall id args = pure ())
    (h : wpM b (model prog w) (A.under (.builtin id args)) (B args) (fun fin s' => match fin with | .done f => R (.ok f) s' | .again c' => c'.quiet = true ∧ codeM b (model prog w) A c' R s') (fun e s' => R (.error e) s') s) : codeM b (model prog w) A (.call (.builtin id) args) R s := by
  refine cm_tree ?_
  show wpM b _ A.in1 (do checkBuiltinCall id args; again (.builtin id args)) _ _ s
  rw [hk, pure_bind]
  exact wm_pure ⟨hq, cm_builtin hb h⟩
theorem int_refuses {x : Str} {t : Tok} {Q : Value → Shared → Prop} (hl : x.length ≤ 640) (hn : PySem.intText? x = none) (hr : (reprText x).length ≤ sizeLine) (hh : A.handled = none)
    (h : ∀ h' tk e, Heap.NewExc s.heap h' e "ValueError" → E (.ref e) { s with heap := h', toks := tk }) : wpM true (model prog w) A (call (.type "int") [.str x t]) Q E s := by
  refine wm_call (cm_tree ?_)
  show wpM true _ _ (callAny (.type "int") _) _ _ _
  refine wm_pure ⟨Code.quiet_builtin _ (by decide +kernel), cm_builtin F.entry_type_call ?_⟩
  obtain ⟨k, e⟩ := tc_shape x t
  rw [Around.under_plain (weight_type_call_type "int" _ []) (units_type_call_type "int" _ [])]
  show wpM true _ _ (Builtin.«type.__call__» ⟨[.type "int", .str x t], []⟩) _ _ _
  rw [e]
  refine wm_bind (wm_holding (wm_call (cm_callBuiltin (plainId_quiet F.called_int.plain _) F.entry_int_new (F.newCall_int_1 _) ?_)))
  rw [Around.under_plainId F.called_int.plain]
  rw [in_shape, ft_shape hl hn]
  exact wm_bind (refuses hr hh h)
end
end Mine
end
section
open PySem PySem.W PySem.Spec PySem.Calls PyProof.Rows
set_option Elab.async false
set_option linter.unusedVariables false
set_option maxRecDepth 100000
namespace Mine
section
variable {prog : Program} {w : World} {A : Around} {E : Value → Shared → Prop} {s : Shared} {b : Bool}
theorem wm_callType {pos : Pos} {T : String} {first : List Value} {args : List (Bool × Sem Value)} {Q : Value → Shared → Prop} (hp : args.any (·.1) = false)
    (h : wpAny (model prog w) A (evalArgs (.type T) true args []) (fun a s₁ => wpM b (model prog w) A (call (.type T) (first ++ a.pos) a.kw) Q E s₁) E s) : wpM b (model prog w) A (callWith pos (.type T) first args []) Q E s := by
  unfold callWith
  refine wm_seq (wpAny_holding (wpAny_mono h (fun a s₁ h₁ => wm_seq (wpAny_standAt ?_)) fun _ _ x => x))
  simp only [hp, List.any_nil, Bool.or_false]
  refine wm_seq (wpAny_pure ?_)
  exact wm_bind (wm_mono h₁ (fun r s₂ hr => wm_seq (wpAny_holding (wpAny_point (wm_pure hr)))) fun _ _ x => x)
end
section
variable {X : Fx} {S : Scope} {ns : List Str}
theorem seti_snd (ok : XOk X) {c : Cx} {l : Loc} {ρ : Env} {ss : List Stmt} {Q : PQ} (i : Nat) (e : RE) (rest : RS) (H : SNS X S ns rest) (ce : CE X S c) (cf : CF S c) (ag : Agr ns ρ l) (hc : chkS S ns (.seti i e rest) ss = true) (hw : wpS X (.seti i e rest) ρ Q) : STX X.cl c l (execs ss c.env) (Lift ns Q) := by
  cases ss with
  | nil => exact nof hc
  | cons st ss =>
    cases st with
    | Assign ts v pos =>
      cases ts with
      | nil => exact nof hc
      | cons t ts =>
        cases t with
        | Name x p =>
          cases ts with
          | cons _ _ => exact nof hc
          | nil =>
            cases v with
            | Call f es kw q =>
              cases f with
              | Name y r =>
                cases es with
                | nil => exact nof hc
                | cons v es =>
                  cases es with
                  | cons _ _ => exact nof hc
                  | nil =>
                    cases kw with
                    | cons _ _ => exact nof hc
                    | nil =>
                      obtain ⟨hc, h6⟩ := and2 hc
                      obtain ⟨hc, h5⟩ := and2 hc
                      obtain ⟨h1, h2, h3, h4⟩ := and4 hc
                      obtain ⟨h7, h8⟩ := and2 h1
                      obtain ⟨hcl, hw⟩ := hw
                      rw [← show ("int" : Str) = y from eq_of_beq h2] at h3 ⊢
                      obtain ⟨d, e1, hw⟩ := snd ok e ce (fun _ => cf) ag h5 hw
                      obtain ⟨t, rfl, ⟨hl, hr⟩, hw⟩ := strD_out hw
                      refine stx_cons ?_
                      rw [hcl]
                      intro av own s inv R E hR hX
                      refine wm_Assign ?_ (by rfl)
                      rw [show eval (.Call (.Name ("int" : Str) r) [v] [] q) c.env = (do callWith q (← eval (.Name ("int" : Str) r) c.env) [] (backTo q (starEach [v] c.env)) []) from rfl]
                      refine wm_seq (ev_b ok ce (f := .int) h3 av own s inv _ _ fun v₁ s₁ k₁ r₁ => ?_)
                      simp only [Rel] at r₁
                      subst r₁
                      have i₁ := inv.keeps k₁
                      refine wm_callType (nst_any (fun z hz => by rw [List.mem_singleton.mp hz]; exact h4)) ?_
                      rw [show backTo q (starEach [v] c.env) = (false, eval v c.env) :: backTo q (starEach [] c.env) from by rw [nst_each h4]; rfl]
                      refine evalArgs_plain ?_
                      rw [show ((false, eval v c.env) :: backTo q (starEach [] c.env) : List (Bool × Sem Value)) = backTo q (starEach [v] c.env) from by rw [nst_each h4]; rfl]
                      refine spliced_more (e1 av own s₁ i₁ _ _ fun v₂ s₂ k₂ r₂ => spliced_none ?_) (nst_each h4 _)
                      simp only [Rel] at r₂
                      obtain ⟨tk, rfl⟩ := r₂
                      have i₂ := i₁.keeps k₂
                      have k12 := kp_trans k₁ k₂
                      rcases hw with ⟨n, hn, hw⟩ | ⟨hn, hw⟩
                      · refine wm_of (KIN.call_text hn hl ?_)
                        have kt : Keeps s₂ { s₂ with toks := s₂.toks + 1 } := kp_tok _
                        refine storeN (i₂.keeps kt) (slot_of cf h8) (d := .int n) (by simp only [Rel]; exact ⟨_, rfl⟩) (by simp only [Froz]) fun s' k i' => ?_
                        exact hR .next _ _ own s' (hcl ▸ H ce cf (agr_upd ag h7) h6 hw) (by simp only [RelF]) ((Step.of (kp_trans k12 kt)).trans k) i'
                      · refine int_refuses hl hn hr rfl fun h' tk' e hx => ?_
                        obtain ⟨m, F⟩ := i₂.fr
                        obtain ⟨hh, tt, e2, _⟩ := k12
                        refine hX.ve e s₂.heap m _ ⟨l, ?_⟩ F hx ⟨tk', by rw [e2]⟩
                        exact ⟨ρ, ag, hw⟩
              | _ => exact nof hc
            | _ => exact nof hc
        | _ => exact nof hc
    | _ => exact nof hc
theorem rse_snd (ok : XOk X) {c : Cx} {l : Loc} {ρ : Env} {ss : List Stmt} {Q : PQ} (x : Str) (C : Addr) (e : RE) (ce : CE X S c) (cf : CF S c) (ag : Agr ns ρ l) (hc : chkS S ns (.rse x C e) ss = true) (hw : wpS X (.rse x C e) ρ Q) : STX X.cl c l (execs ss c.env) (Lift ns Q) := by
  cases ss with
  | nil => exact nof hc
  | cons st ss =>
    cases st with
    | Raise o o' pos =>
      cases o with
      | none => exact nof hc
      | some o =>
        cases o with
        | Call f es kw q =>
          cases f with
          | Name y r =>
            cases es with
            | nil => exact nof hc
            | cons v es =>
              cases es with
              | cons _ _ => exact nof hc
              | nil =>
                cases kw with
                | cons _ _ => exact nof hc
                | nil =>
                  cases o' with
                  | some _ => exact nof hc
                  | none =>
                    obtain ⟨h1, h2, h3, h4⟩ := and4 hc
                    rw [← show x = y from eq_of_beq h1] at h2 ⊢
                    obtain ⟨g1, g2⟩ := glob_out h2
                    obtain ⟨d, e1, hw⟩ := snd ok e ce (fun _ => cf) ag h4 (show wp X e .v ρ _ from hw)
                    obtain ⟨t, rfl, ⟨ex, q2⟩, hw⟩ := strD_out hw
                    refine stx_cons ?_
                    intro av own s inv R E hR hX
                    have hk : c.K.In c.h₀ := inv.ok.inK
                    obtain ⟨m, F⟩ := inv.fr
                    obtain ⟨tl, N, nm, qn, bs, hdct, sn, sub, ab, col, dd, k0, k1, k2, k3, k5, mN, hC, hN, hni, T⟩ := (own_of_in (x := x) (C := C) hk (topRead_of inv.ok.top) (by rw [ce.K]; exact ex) (by rw [ce.K]; exact q2)).obj
                    refine wm_of (wpAny_Raise_call_subT (C := C) (nm := nm) (q := qn) (N := N) (bs := bs) (bm := tl) (hdct := hdct) (sn := sn) (sub := sub) (ab := ab) (col := col) (dd := dd) (k0 := k0) (k1 := k1) (k2 := k2) (k3 := k3) (k5 := k5)
                      PySem.F.excBase_Exception (mN := mN) (T.hasType PySem.F.excBase_Exception.hasBase) rfl (nst_any (fun z hz => by rw [List.mem_singleton.mp hz]; exact h3)) hni ?_)
                    refine ev_globV (ce.gl _ g1) (by rw [ce.K]; exact ex) g2 av own s inv _ _ fun v₁ s₁ k₁ r₁ => ?_
                    simp only [Rel] at r₁
                    subst r₁
                    refine ⟨rfl, ?_⟩
                    have i₁ := inv.keeps k₁
                    rw [show backTo q (starEach [v] c.env) = (false, eval v c.env) :: backTo q (starEach [] c.env) from by rw [nst_each h3]; rfl]
                    refine evalArgs_plain ?_
                    rw [show ((false, eval v c.env) :: backTo q (starEach [] c.env) : List (Bool × Sem Value)) = backTo q (starEach [v] c.env) from by rw [nst_each h3]; rfl]
                    refine spliced_more (e1 av own s₁ i₁ _ _ fun v₂ s₂ k₂ r₂ => spliced_none ?_) (nst_each h3 _)
                    simp only [Rel] at r₂
                    obtain ⟨tk, rfl⟩ := r₂
                    have i₂ := i₁.keeps k₂
                    obtain ⟨m₂, F₂⟩ := i₂.fr
                    obtain ⟨hh, tt, e2, _⟩ := kp_trans k₁ k₂
                    refine ⟨rfl, (by show 1 ≤ sizeLine; decide), F₂.keep _ _ hC, hN.keeps F₂.keep, T.keeps F₂.keep, fun h' ee hm => ?_⟩
                    exact hX.own C t tk ee s₂.heap m₂ _ ⟨l, ρ, ag, hw⟩ F₂ hm ⟨s₂.toks, by rw [e2]⟩
          | _ => exact nof hc
        | _ => exact nof hc
    | _ => exact nof hc
theorem rz_of (ok : XOk X) : Rz X S ns := ⟨fun x C e ce cf ag hc hw => rse_snd ok x C e ce cf ag hc hw, fun i e rest H ce cf ag hc hw => seti_snd ok i e rest H ce cf ag hc hw⟩
end
end Mine
end
section
open PySem PySem.W PySem.Spec PySem.Calls PyProof.Rows
set_option Elab.async false
set_option linter.unusedVariables false
set_option maxRecDepth 100000
namespace Mine
structure XP (base : Heap) (outer : List PySem.Env) (s : Shared) (E : Value → Shared → Prop) (Q : Ov → Prop) : Prop where
  own : ∀ C x tx e t h' tk, Q (.exc C x) → RaisedS base s.heap outer e (.ref C) t [.str x tx] [] h' → s.heap.UpToSlots h' → E (.ref e) { s with heap := h', toks := tk }
  ve : ∀ e h' tk, Q .ve → RaisedSN base s.heap outer e (.type "ValueError") [] h' → s.heap.UpToSlots h' → E (.ref e) { s with heap := h', toks := tk }
noncomputable def CALLX (prog : Program) (w : World) (K : Frag) (lv : Nat) (f : Addr) (args : List D) (Q : Ov → Prop) : Prop :=
  ∀ dp un gd outer base (s : Shared) p loose mean mg mb av vs (R E : Value → Shared → Prop), dp + 1 + lv < recursionLimit → un + 3 + 20 * lv + 60 < cLine → Below (aTop dp un gd outer) base outer s.heap → K.In s.heap → Top p loose mean mg mb s.heap →
    (∀ a ∈ av, (s.heap.get? a).isSome = true ∧ K.lookup a = none) → RelL av s.heap args vs → (∀ d v s', Q (.ret d) → Keeps s s' → Rel av s'.heap d v → R v s') → XP base outer s E Q → wpM true (model prog w) (aTop dp un gd outer) (call (.ref f) vs) R E s
noncomputable def endX (Q : Ov → Prop) : PQ := fun o _ => match o with
  | .next => Q (.ret .none)
  | .brk => False
  | .cont => False
  | o => Q o
theorem news_nil {g : Heap} {L : Addr} {h : Heap} : News g L h [] := fun q hq => nomatch hq
theorem nocells : ∀ {names : List (Str × NameKind)} {n : Nat} {acc : List (Str × Addr)}, (∀ x ∈ names, x.2 ≠ .cell) → cellsFrom n names acc = acc
  | [], _, _, _ => rfl
  | (x, k) :: r, n, acc, h => by
    unfold cellsFrom
    rw [if_neg (by simpa using h (x, k) (.head _))]
    exact nocells fun y hy => h y (.tail _ hy)
theorem fn_byX {prog : Program} {w : World} {K : Frag} {lv : Nat} {S : Scope} {names more : List Str} {f : Addr} {args : List D} {Q : Ov → Prop} {name qual : Str} {params : Arguments} {body : List Stmt} {dV kV doc pm cdv ct oc : Value} {an od : Option Addr} {osl : Array (Option Value)} {r : RS} {k : Nat}
    (ok : XOk ⟨prog, w, K, lv, true⟩) (ho : K.lookup f = some ⟨oc, od, .func (fnOf name qual params body S dV kV doc pm an cdv ct), osl⟩) (hcd : codeIn K cdv qual = true)
    (hb : ∀ (s : Shared) (vs : List Value), vs.length = args.length → BindsTo s (fnOf name qual params body S dV kV doc pm an cdv ct) ⟨vs, []⟩ (names.zip vs))
    (hl : names.length = args.length) (hz : frozB.frozBs args = true) (hck : fnChk S names = true) (hnc : (S.names.all fun x => !(x.2 == .cell)) = true) (hc : chkS S (names ++ more) r body = true) (h : wpS ⟨prog, w, K, lv, true⟩ r (ini args k) (endX Q)) :
    CALLX prog w K lv f args Q := by
  obtain ⟨k1, k2, k3, k4, k5, k6⟩ := fnChk_out hck
  have hnc' : ∀ x ∈ S.names, x.2 ≠ .cell := fun x hx => by simpa using List.all_eq_true.mp hnc x hx
  have hloc : ∀ x ∈ names, S.names.lookup x = some .local := fun x hx => (k1 x hx).resolve_right fun e => hnc' _ (mem_of_lookup e) rfl
  intro dp un gd outer base s p loose mean mg mb av vs R E hD hU B X T hav rl hR hX
  refine wm_call (cm_call (o := _) (fd := fnOf name qual params body S dV kV doc pm an cdv ct) (body := body) (Nat.lt_of_le_of_lt (by show dp ≤ dp + 1 + lv; omega) hD) (X _ _ ho) rfl k3 k4 rfl (codeRec_of X hcd) (hb s vs rl.length _ _ _ _ ?_))
  refine wpAny_newFunctionEnv hnc' (fun x hx => hloc _ (List.of_mem_zip (show (x.1, x.2) ∈ names.zip vs from hx)).1) (fun h₀ hns₀ hsb₀ => ⟨T.nolimit.fresh _ hsb₀, cm_func ?_⟩) k5
  have hk₀ : Kept s.heap h₀ := fun b o e => hsb₀.extBut b o (Nat.ne_of_lt (Heap.lt_size e)) (Heap.get?_push_of_some _ e)
  have i := start (prog := prog) (w := w) (lv := lv) (qual := qual) (f := f) (cdv := cdv) (tk := s.toks + (names.zip vs).length) hD hU B X T hav rl (frozs_of hz) k5 hnc' hloc hl k2 hns₀ hk₀
  have ce : CE ⟨prog, w, K, lv, true⟩ S ⟨prog, w, K, p, loose, mean, mg, mb, dp, un, lv, gd, outer, base, s.heap, s.heap.objs.size, envOf qual S s.heap.objs.size f cdv, envOf qual S s.heap.objs.size f cdv⟩ := ⟨rfl, rfl, rfl, rfl, fun x hx => hx⟩
  have := sndS ok (rz_of ok) r ce ⟨rfl, rfl, (nocells hnc').symm⟩ (agr_ini (more := more) (k := k) hl k2) hc h
  refine this av _ _ i _ _ (fun fl fw l' own' s' q rf st i' => ?_) ⟨fun C x tx e h m s' q F hm hs => ?_, fun e h m s' q F hx hs => ?_⟩
  · obtain ⟨h', tk', rfl⟩ := st.same
    have kp : Keeps s { s with heap := h', toks := tk' } := ⟨h', tk', rfl, fun b o e => by obtain ⟨m, F⟩ := i'.fr; exact F.keep b o e⟩
    obtain ⟨ρ', _, q⟩ := q
    cases fl with
    | next =>
      simp only [RelF] at rf
      subst rf
      exact hR _ _ _ q kp (by simp only [Rel])
    | brk => exact q.elim
    | cont => exact q.elim
    | ret e =>
      simp only [RelF] at rf
      obtain ⟨v, rfl, rv, _⟩ := rf
      exact hR _ _ _ q kp (Rel.sub (fun a ha => .inl (List.mem_append_right _ ha)) rv)
  · obtain ⟨l', ρ', _, q⟩ := q
    obtain ⟨tk, e1⟩ := hs
    refine leave_raiseS B hm F news_nil (fun h' t hr _ hu => ?_) k5
    rw [e1]
    exact hX.own C x tx e t h' tk q hr hu
  · obtain ⟨l', ρ', _, q⟩ := q
    obtain ⟨tk, e1⟩ := hs
    refine leave_newS B hx F news_nil (fun h' hr _ hu => ?_) k5
    rw [e1]
    exact hX.ve e h' tk q hr hu
end Mine
end
section
open PySem PySem.W PySem.Spec PySem.Calls PyProof.Rows
set_option Elab.async false
set_option linter.unusedVariables false
set_option maxRecDepth 100000
namespace Mine
section
variable {prog : Program} {w : World} {A : Around} {E : Value → Shared → Prop} {s : Shared} {b : Bool} {env : PySem.Env}
theorem wm_Try {body orelse : List Stmt} {h₀ : ExceptHandler} {hs : List ExceptHandler} {pos : Pos} {Q : Flow → Shared → Prop}
    (h : wpM b (model prog w) A (execs body env) (fun f s₁ => match f with | .next => wpAny (model prog w) A (execs orelse env) Q E s₁ | f => Q f s₁)
      (fun e s₁ => wpAny (model prog w) A (noteFrame e env) (fun _ s₂ => wpAny (model prog w) A (setFlight e none) (fun _ s₃ => wpAny (model prog w) A (handleBy e env (h₀ :: hs)) Q E s₃) E s₂) E s₁) s) :
    wpM b (model prog w) A (exec (.Try body (h₀ :: hs) orelse [] pos) env) Q E s := by
  rw [arm_exec_Try]
  refine wm_seq (wpAny_standAt ?_)
  unfold tryStmt
  simp only [List.isEmpty_nil, if_true, List.isEmpty_cons, Bool.false_eq_true, if_false, Bool.false_and]
  refine wm_bind (wm_attempt (wm_mono h (fun f s₁ q => ?_) fun e s₁ q => wm_of (wpAny_bind (wpAny_mono q (fun _ _ q => wpAny_bind q) fun _ _ z => z))))
  cases f with
  | next => exact wm_of q
  | _ => exact wm_pure q
theorem wm_Return {M : Model} {e : Expr} {pos : Pos} {Q : Flow → Shared → Prop} (h : wpM b M A (eval e env) (fun v s' => Q (.ret v) s') E s) : wpM b M A (exec (.Return (some e) pos) env) Q E s := fun Γ p hΓ hu => by
  simp only [exec_Return_some, Sem.wp_bind', Sem.wp_cmd_standAt, Sem.wp_pure']
  exact h Γ _ hΓ hu
theorem cm_expr {e : Expr} {R : Result → Shared → Prop} (h : wpM b (model prog w) (A.deeper env) (eval e env) (fun v s' => R (.ok (.ret v)) s') (fun e' s' => wpAny (model prog w) (A.deeper env) (leaving env e') (fun _ s'' => R (.error e') s'') (fun e'' s'' => R (.error e'') s'') s') s) :
    codeM b (model prog w) A (.expr e env) R s := by
  refine cm_tree ?_
  show wpM b _ (A.deeper env) (do point; ret (← (eval e env).onRaise (leaving env))) _ _ s
  exact wm_seq (wpAny_point (wm_bind (wm_onRaise (wm_mono h (fun v s' q => wm_pure q) fun _ _ q => wm_of q))))
theorem cm_callE {a : Addr} {args : Args} {o : Obj} {fd : FuncData} {body : Expr} {R : Result → Shared → Prop} (hroom : A.depth < recursionLimit) (ho : s.heap.get? a = some o)
    (hd' : o.data = .func fd) (hco : fd.scope.isCoroutine = false) (hgen : fd.scope.isGenerator = false) (hbody : fd.body = .expr body) (hcd : s.heap.CodeRec fd.code fd.qualname)
    (h : wpAny (model prog w) A.in1 (bindArgs fd args) (fun binds s₁ => wpAny (model prog w) A.in1 (newFunctionEnv fd.scope fd.globals fd.closure binds (fd.qualname ++ ".<locals>.") (some a) fd.code none fd.builtins)
        (fun env s₂ => s₂.heap.NoLimit ∧ codeM b (model prog w) A (.expr body env) R s₂) (fun e s' => R (.error e) s') s₁) (fun e s' => R (.error e) s') s) : codeM b (model prog w) A (.call (.ref a) args) R s := by
  refine cm_tree ?_
  show wpM b _ A.in1 (callAny (.ref a) args) _ _ s
  simp only [callAny]
  refine wm_seq (wpAny_load ho ?_)
  obtain ⟨c, oc, vs, tq, hc, hoc, hdc, hq⟩ := hcd
  simp only [hd', callFunction, hco, hgen, hbody, hc]
  rw [hc] at h
  refine wm_seq (m := field (.ref c) 1) (wpAny_field hoc hdc hq (wm_seq (wpAny_pure ?_)))
  refine wm_seq (wpAny_mono h (fun binds s₁ h₁ => wm_seq (wpAny_mono h₁ (fun env s₂ h₂ => wm_seq (wpAny_enterFrame h₂.1 hroom (wm_pure (And.intro rfl h₂.2)))) fun _ _ h' => h')) fun _ _ h' => h')
end
section
variable {M : Model} {A : Around} {E : Value → Shared → Prop} {s' : Shared} {base g g₂ : Heap} {outer : List PySem.Env} {env : PySem.Env} {L e t : Addr} {cls : Value} {vs : List Value} {m : Str → Option Value} {Q : Unit → Shared → Prop}
theorem mem_env {b : Addr} (hf : env.frame = some L) (hm : b ∈ (env :: outer).filterMap (·.frame)) : b = L ∨ b ∈ outer.filterMap (·.frame) := by
  rw [List.filterMap_cons, hf] at hm
  exact List.mem_cons.mp hm
theorem bg_env {B : Heap} (F : Fr g L g₂ m) (hf : env.frame = some L) (h : ∀ b o, g₂.get? b = some o → b ∉ (env :: outer).filterMap (·.frame) → B.get? b = some o) : ∀ b o, g.get? b = some o → b ∉ outer.filterMap (·.frame) → B.get? b = some o := fun b o q nm => h b o (F.keep b o q) fun hm => by
  rcases mem_env hf hm with z | z
  · rw [z, kts_self F] at q; cases q
  · exact nm z
theorem leaveS_any (hA : A.frames = some (env :: outer)) (hf : env.frame = some L) (F : Fr g L g₂ m) (R : RaisedS base g₂ (env :: outer) e cls t vs [] s'.heap) (hQ : ∀ h', RaisedS base g outer e cls t vs [] h' → s'.heap.UpToSlots h' → Q () { s' with heap := h' }) : wpAny M A (leaving env (.ref e)) Q E s' := by
  obtain ⟨⟨B, hB, hBG, hl, hfl, hnew⟩, htup⟩ := R
  exact wpAny_leaves_onW hA hf hfl fun h' x1 x2 => hQ h' ⟨⟨B, hB, bg_env F hf hBG, (fun q hq => absurd hq List.not_mem_nil), x1, hnew⟩, htup.of_slots x2⟩ x2
theorem leaveSN_any (hA : A.frames = some (env :: outer)) (hf : env.frame = some L) (F : Fr g L g₂ m) (R : RaisedSN base g₂ (env :: outer) e cls [] s'.heap) (hQ : ∀ h', RaisedSN base g outer e cls [] h' → s'.heap.UpToSlots h' → Q () { s' with heap := h' }) : wpAny M A (leaving env (.ref e)) Q E s' := by
  obtain ⟨B, a0, hB, hBG, hl, hfl⟩ := R
  exact wpAny_leaves_onW hA hf hfl fun h' x1 x2 => hQ h' ⟨B, a0, hB, bg_env F hf hBG, (fun q hq => absurd hq List.not_mem_nil), x1⟩ x2
end
theorem callX_ev {c : Cx} {l : Loc} {prog : Program} {w : World} {K : Frag} {lv lv' : Nat} {f : Str} {fa : Addr} {xs : List Expr} {x : Expr} {px pos : Pos} {ds : List D} {o : Obj} {fd : FuncData} {Qo : Ov → Prop} (e1 : c.prog = prog) (e2 : c.w = w) (e3 : c.K = K) (e4 : c.lv = lv)
    (hx : c.env.kindOf f = some .globalImplicit) (hdb : (f == ("__debug__" : Str)) = false) (hg : nsIn K mainGlobals f = some (some (.ref fa))) (ho : K.lookup fa = some o) (hd : o.data = .func fd) (hn : ∀ y ∈ x :: xs, nst y = true) (ha : EVL c l (x :: xs) ds) (C : CALLX prog w K lv' fa ds Qo) (hlv : lv' + 1 ≤ lv)
    {av own : List Addr} {s : Shared} (i : Inv c av own l s) {R E : Value → Shared → Prop} (hR : ∀ d v s', Qo (.ret d) → Keeps s s' → Rel (own ++ av) s'.heap d v → R v s') (hX : ∀ s', Keeps s s' → (∃ m, Fr c.h₀ c.L s'.heap m) → XP c.base (c.fenv :: c.outer) s' E Qo) :
    wpM true c.M c.A (eval (.Call (.Name f px) (x :: xs) [] pos) c.env) R E s := by
  subst e1; subst e2; subst e3
  rw [show eval (.Call (.Name f px) (x :: xs) [] pos) c.env = (do callWith pos (← eval (.Name f px) c.env) [] (backTo pos (starEach (x :: xs) c.env)) []) from rfl]
  refine wm_seq (ev_globV hx hg hdb av own s i _ _ fun vv s₁ k₁ r₁ => ?_)
  simp only [Rel] at r₁
  subst r₁
  have i₁ := i.keeps k₁
  have hE : backTo pos (starEach (x :: xs) c.env) = (false, eval x c.env) :: backTo pos (starEach xs c.env) := by rw [nst_each (hn _ (.head _))]; rfl
  refine wm_callWith (o := o) (fd := fd) (by rw [nst_any hn]; rfl) ?_
  rw [hE]
  refine evalArgs_plain ?_
  rw [← hE]
  refine ha av own s₁ i₁ pos _ _ fun vs s₂ k₂ r₂ => ⟨⟨(i₁.keeps k₂).keepK _ _ ho, hd⟩, ?_⟩
  have i₂ := i₁.keeps k₂
  obtain ⟨m, F⟩ := i₂.fr
  have hD := i₂.ok.roomD
  have hU := i₂.ok.roomU
  refine C (c.dp + 1) (c.un + 3) c.gd (c.fenv :: c.outer) c.base s₂ c.p c.loose c.mean c.mg c.mb (own ++ av) vs R E (by omega) (by omega) (pushX i₂.ok.below F i₂.ok.frame i₂.ok.fkind) i₂.keepK (i₂.ok.top.keeps F.keep) (fun a ha => ⟨i₂.alive a ha, notK i₂ a ha⟩) r₂ (fun d v s' q k r => hR d v s' q (kp_trans k₁ (kp_trans k₂ k)) r) (hX s₂ (kp_trans k₁ k₂) ⟨m, F⟩)
end Mine
end
section
open PySem PySem.W PySem.Spec PySem.Calls PyProof.Rows
set_option Elab.async false
set_option linter.unusedVariables false
set_option maxRecDepth 100000
namespace Mine
noncomputable abbrev noP : Arguments := { posonlyargs := [], args := [], vararg := none, kwonlyargs := [], kw_defaults := [], kwarg := none, defaults := [] }
structure Clos (h : Heap) (cl : List (Str × Addr)) (l : Loc) : Prop where
  inj : ∀ x y a, cl.lookup x = some a → cl.lookup y = some a → x = y
  cell : ∀ q ∈ cl, ∃ v, h.IsCell q.2 v
  val : ∀ x d, get l x = some d → ∃ y t a, d = .str y ∧ cl.lookup x = some a ∧ h.IsCell a (some (.str y t))
theorem startL {prog : Program} {w : World} {K : Frag} {p : Program} {loose : List Str} {mean : ExcName → Option Value} {mg mb : Str → Option Value} {dp un lv : Nat} {gd : Option (List Code)} {outer : List PySem.Env} {base : Heap} {s : Shared} {av : List Addr} {h₁ : Heap} {tk : Nat}
    {qual : Str} {scope : Scope} {f : Addr} {cdv : Value} {cl : List (Str × Addr)} {l : Loc}
    (hD : dp + 1 + lv < recursionLimit) (hU : un + 3 + 20 * lv + 60 < cLine) (B : Below (aTop dp un gd outer) base outer s.heap) (X : K.In s.heap) (T : Top p loose mean mg mb s.heap) (hav : ∀ a ∈ av, (s.heap.get? a).isSome = true ∧ K.lookup a = none)
    (hc : Clos s.heap cl l) (hca : ∀ x a, cl.lookup x = some a → a ∉ av) (hk : scope.kind = .function) (hcell : ∀ x ∈ scope.names, x.2 ≠ .cell) (hfree : ∀ x d, get l x = some d → scope.names.lookup x = some .free ∧ (x == ("__classdict__" : Str)) = false)
    (hn : h₁.Ns s.heap.objs.size fun _ => none) (k : Kept s.heap h₁) :
    Inv ⟨prog, w, K, p, loose, mean, mg, mb, dp, un, lv, gd, outer, base, s.heap, s.heap.objs.size, envX qual scope s.heap.objs.size f cdv cl, envX qual scope s.heap.objs.size f cdv cl⟩ av [s.heap.objs.size] l { s with heap := h₁, toks := tk } := by
  have live₁ : (h₁.get? s.heap.objs.size).isSome = true := by obtain ⟨o, _, _, ho, _⟩ := hn; rw [ho]; rfl
  have alive : ∀ a, (s.heap.get? a).isSome = true → (h₁.get? a).isSome = true := fun a h => by
    obtain ⟨o, ho⟩ := Option.isSome_iff_exists.mp h
    rw [k a o ho]; rfl
  refine ⟨⟨B, T, X, hk, hk, rfl, rfl, rfl, hD, hU⟩, fun a ha => ⟨alive a (hav a ha).1, (hav a ha).2, fun q => ?_⟩, ⟨_, ⟨hn, k, Nat.le_refl _⟩⟩, fun a ha => ?_, ⟨.head _, _, hn⟩, fun x a h1 _ => ?_, hc.inj, fun x a h1 => ?_, fun q => ?_, fun x d e => ?_, fun x y dx dy a h1 _ _ _ => ?_⟩
  · have := (hav a ha).1
    rw [List.mem_singleton.mp q, dead_size] at this; cases this
  · rw [List.mem_singleton.mp ha]
    exact ⟨dead_size _, live₁⟩
  · exact absurd rfl (hcell _ (mem_of_lookup (show scope.names.lookup x = some .cell from h1)))
  · obtain ⟨v, o, ho, _⟩ := hc.cell _ (mem_of_lookup h1)
    exact ⟨alive a (by rw [show s.heap.get? a = some o from ho]; rfl), hca x a h1⟩
  · have := (hav _ q).1
    rw [dead_size] at this; cases this
  · obtain ⟨y, t, a, rfl, h1, h2⟩ := hc.val x d e
    exact ⟨.str y t, .inr ⟨.inr ⟨(hfree x _ e).1, (hfree x _ e).2⟩, a, h1, h2.keeps k⟩, by simp only [Rel]; exact ⟨t, rfl⟩, by simp only [Froz]⟩
  · obtain ⟨_, _, _, h2, _⟩ := hc.val x _ h1
    cases h2
theorem lamX {prog : Program} {w : World} {K : Frag} {lv lv' : Nat} {fn : Str} {fa : Addr} {xs : List Expr} {x : Expr} {px pos : Pos} {ds : List D} {ofn : Obj} {fdn : FuncData} {Qo : Ov → Prop} {l : Loc} {qual : Str} {scope : Scope} {cl : List (Str × Addr)} {pm cv ctv : Value}
    (hg : nsIn K mainGlobals fn = some (some (.ref fa))) (hfo : K.lookup fa = some ofn) (hfd : ofn.data = .func fdn) (hdb : (fn == ("__debug__" : Str)) = false) (hx : scope.names.lookup fn = some .globalImplicit) (hns : ∀ y ∈ x :: xs, nst y = true) (C : CALLX prog w K lv' fa ds Qo) (hlv : lv' + 1 ≤ lv)
    (hk : scope.kind = .function) (hcell : ∀ x ∈ scope.names, x.2 ≠ .cell) (hco : scope.isCoroutine = false) (hgen : scope.isGenerator = false) (hfree : ∀ x d, get l x = some d → scope.names.lookup x = some .free ∧ (x == ("__classdict__" : Str)) = false)
    (ha : ∀ c : Cx, EVL c l (x :: xs) ds) (hshape : ∀ d, Qo (.ret d) → ∃ y n, d = .tup [.str y, .int n])
    {dp un : Nat} {gd : Option (List Code)} {outer : List PySem.Env} {base : Heap} {s : Shared} {p : Program} {loose : List Str} {mean : ExcName → Option Value} {mg mb : Str → Option Value} {av : List Addr} {f : Addr} {o : Obj} {R E : Value → Shared → Prop}
    (hD : dp + 1 + lv < recursionLimit) (hU : un + 3 + 20 * lv + 60 < cLine) (B : Below (aTop dp un gd outer) base outer s.heap) (X : K.In s.heap) (T : Top p loose mean mg mb s.heap) (hav : ∀ a ∈ av, (s.heap.get? a).isSome = true ∧ K.lookup a = none)
    (ho : s.heap.get? f = some o) (hd : o.data = .func (kla_fn "<lambda>" qual noP (.Call (.Name fn px) (x :: xs) [] pos) scope cl pm cv ctv)) (hcd : s.heap.CodeRec cv qual) (hc : Clos s.heap cl l)
    (hR : ∀ d v s', Qo (.ret d) → Keeps s s' → Rel av s'.heap d v → R v s') (hX : XP base outer s E Qo) : wpM true (model prog w) (aTop dp un gd outer) (call (.ref f) []) R E s := by
  refine wm_call (cm_callE (o := o) (fd := kla_fn "<lambda>" qual noP (.Call (.Name fn px) (x :: xs) [] pos) scope cl pm cv ctv) (Nat.lt_of_le_of_lt (by show dp ≤ dp + 1 + lv; omega) hD) ho hd hco hgen rfl hcd ?_)
  rw [show bindArgs (kla_fn "<lambda>" qual noP (.Call (.Name fn px) (x :: xs) [] pos) scope cl pm cv ctv) ⟨[], []⟩ = pure [] from rfl]
  refine wpAny_pure (wpAny_newFunctionEnv (binds := []) hcell (fun y hy => nomatch hy) (fun h₁ hns₁ hsb => ⟨T.nolimit.fresh _ hsb, ?_⟩) hk)
  show codeM _ _ _ (.expr _ (envX qual scope s.heap.objs.size f cv cl)) _ _
  have hk₁ : Kept s.heap h₁ := fun b o e => hsb.extBut b o (Nat.ne_of_lt (Heap.lt_size e)) (Heap.get?_push_of_some _ e)
  let cells := cl.map (·.2)
  have cellOf : ∀ a ∈ av, a ∈ av.filter (fun a => !(cells.contains a)) ∨ ∃ v, s.heap.IsCell a v := fun a ha => by
    by_cases q : a ∈ cells
    · obtain ⟨⟨y, b⟩, hm, rfl⟩ := List.mem_map.mp q
      exact .inr (hc.cell _ hm)
    · left
      rw [List.mem_filter]
      exact ⟨ha, by simpa using q⟩
  have hca : ∀ x a, cl.lookup x = some a → a ∉ av.filter (fun a => !(cells.contains a)) := fun x a e q => by
    have := (List.mem_filter.mp q).2
    have hm : a ∈ cells := List.mem_map.mpr ⟨(x, a), mem_of_lookup e, rfl⟩
    simp [hm] at this
  have i := startL (prog := prog) (w := w) (lv := lv) (qual := qual) (f := f) (cdv := cv) (tk := s.toks + 0) hD hU B X T (av := av.filter (fun a => !(cells.contains a))) (fun a ha => hav a (List.mem_filter.mp ha).1) hc hca hk hcell hfree hns₁ hk₁
  refine cm_expr (callX_ev (c := ⟨prog, w, K, p, loose, mean, mg, mb, dp, un, lv, gd, outer, base, s.heap, s.heap.objs.size, envX qual scope s.heap.objs.size f cv cl, envX qual scope s.heap.objs.size f cv cl⟩) rfl rfl rfl rfl hx hdb hg hfo hfd hns (ha _) C hlv i (fun d v s' q kk r => ?_) fun s' kk ff => ⟨fun Cc y ty e t h' tk q r u => ?_, fun e h' tk q r u => ?_⟩)
  · obtain ⟨hh, tt, rfl, k2⟩ := kk
    have kp : Keeps s { s with heap := hh, toks := tt } := ⟨hh, tt, rfl, fun b o e => k2 b o (hk₁ b o e)⟩
    obtain ⟨y, n, rfl⟩ := hshape d q
    refine hR _ _ _ q kp ?_
    simp only [Rel] at r ⊢
    obtain ⟨a, vs, e, hna, hT, hr⟩ := r
    refine ⟨a, vs, e, fun hm => ?_, hT, ?_⟩
    · rcases cellOf a hm with z | ⟨v', z⟩
      · exact hna (List.mem_append_right _ z)
      · have z' := z.keeps (kp_kept kp)
        obtain ⟨o1, ho1, hc1⟩ := z'
        obtain ⟨o2, ho2, _, m, hd2⟩ := hT
        rw [ho1] at ho2; cases ho2; rw [hc1] at hd2; cases hd2
    · simp only [RelL, Rel] at hr ⊢; exact hr
  · obtain ⟨hh, tt, rfl, k2⟩ := kk
    obtain ⟨mm, F⟩ := ff
    refine leaveS_any (Around.frames_deeper B.stack) rfl F r fun h'' r' u' => ?_
    exact hX.own Cc y ty e t h'' tk q r' ((Heap.UpToSlots.of_keeps fun b o e => k2 b o (hk₁ b o e)).trans (u.trans u'))
  · obtain ⟨hh, tt, rfl, k2⟩ := kk
    obtain ⟨mm, F⟩ := ff
    refine leaveSN_any (Around.frames_deeper B.stack) rfl F r fun h'' r' u' => ?_
    exact hX.ve e h'' tk q r' ((Heap.UpToSlots.of_keeps fun b o e => k2 b o (hk₁ b o e)).trans (u.trans u'))
end Mine
end
section
open PySem PySem.W PySem.Spec PySem.Calls PyProof.Rows
set_option Elab.async false
set_option linter.unusedVariables false
set_option maxRecDepth 100000
namespace Mine
structure OwnExc (K : Frag) (h : Heap) (e C t : Addr) (m : Str) (tk : Tok) : Prop where
  inK : K.In h
  obj : ∃ oe ws, h.get? e = some oe ∧ oe.cls = .ref C ∧ oe.data = .fields ws ∧ ws[0]? = some (.ref t)
  tup : h.TupAt t [.str m tk]
  str : findIn K (.ref C) "__str__" = some (some (.builtin "BaseException.__str__"))
  sub : subIn K (.ref C) (.type "BaseException") = some true
section
variable {prog : Program} {w : World} {A : Around} {E : Value → Shared → Prop} {s : Shared} {K : Frag} {e C t : Addr} {m : Str} {tk : Tok}
theorem OwnExc.ty {h : Heap} {M : Model} (x : OwnExc K h e C t m tk) : Looks M h (typeOf (.ref e)) (.ref C) := by
  obtain ⟨oe, ws, h1, h2, _⟩ := x.obj
  rw [← h2]
  exact (Looks.ld h1).andThen .now
open Builtin Builtin.Str Builtin.BaseException Builtin.Exceptions in
theorem own_bexc {Q : Fin → Shared → Prop} (x : OwnExc K s.heap e C t m tk) (hq : Q (.done (.ret (.str m tk))) s) : wpAny (model prog w) A (Builtin.«BaseException.__str__» ⟨[.ref e], []⟩) Q E s := by
  obtain ⟨oe, vs, ho, _, hd, h0⟩ := x.obj
  obtain ⟨ot, k, hto, _, htd⟩ := x.tup
  have ba : ∀ {Q : Value × List Value → Shared → Prop}, Q (.ref t, [.str m tk]) s → wpAny (model prog w) A (bexcArgs (.ref e)) Q E s := fun hq => by
    unfold bexcArgs
    exact wpAny_bind (wpAny_field ho hd h0 (wpAny_bind (wpAny_seqItems hto htd (wpAny_pure hq))))
  unfold Builtin.«BaseException.__str__»
  repeat (first | with_reducible refine ba ?_ | wp_step)
  exact hq
theorem own_check {E : Value → Shared → Prop} {M : Model} {Q : Unit → Shared → Prop} (x : OwnExc K s.heap e C t m tk) (hq : Q () s) : wpAny M A (checkBuiltinCall "BaseException.__str__" ⟨[.ref e], []⟩) Q E s := by
  have hk : builtinKind "BaseException.__str__" = some .slot := by decide +kernel
  have hs : splitId "BaseException.__str__" = some ("BaseException", "__str__") := by decide +kernel
  simp only [checkBuiltinCall, hk, hs]
  refine wpAny_bind ?_
  unfold isInstance
  refine wpAny_bind (x.ty.here ((looks_subIn x.inK x.sub).here ?_))
  simp only [Bool.not_true, Bool.false_eq_true, if_false]
  have ha := PySem.F.args_bexc_str (.ref e)
  cases hsig : Manifest.signature? "BaseException.__str__" with
  | none => exact wpAny_pure hq
  | some sig =>
    simp only [argsOk, hsig] at ha
    have h2 : Bind.checkArgs "BaseException.__str__" sig ⟨[.ref e], []⟩ = pure () := ha
    show wpAny M A (Bind.checkArgs "BaseException.__str__" sig ⟨[.ref e], []⟩) Q E s
    rw [h2]; exact wpAny_pure hq
theorem own_call {Q : Value → Shared → Prop} (x : OwnExc K s.heap e C t m tk) (hq : Q (.str m tk) s) : wpAny (model prog w) A (call (.builtin "BaseException.__str__") [.ref e]) Q E s :=
  wpAny_call (codeAny_call_builtin PySem.F.excStr_Exception.str.plain PySem.F.entry_bexc_str (own_check x (wpAny_mono (own_bexc (Q := fun fin s' => fin = .done (.ret (.str m tk)) ∧ Q (.str m tk) s') x ⟨rfl, hq⟩) (fun fin s' h' => by obtain ⟨rfl, h'⟩ := h'; exact h') fun _ _ z => z)))
open Builtin Builtin.Str in
theorem own_strOf {Q : Value → Shared → Prop} (hu : A.units < cLine) (x : OwnExc K s.heap e C t m tk) (hq : Q (.str m tk) s) : wpAny (model prog w) A (strOf (.ref e)) Q E s := by
  unfold PySem.Builtin.Str.strOf
  rw [show isExactStr (.ref e) = false from rfl]
  refine wpAny_bind (m := cRoomFor _ _) (wpAny_cRoomFor hu ?_)
  refine wpAny_bind (m := callSpecial? (.ref e) (Str.ofString "__str__")) (wpAny_bind (wpAny_bind (x.ty.here ((looks_findIn x.inK x.str).here ?_))))
  dsimp only
  rw [PySem.F.excStr_Exception.str.bind]
  exact wpAny_holding (wpAny_bind (wpAny_pure (wpAny_bind (own_call x (wpAny_pure (wpAny_pure hq))))))
theorem own_str {Q : Value → Shared → Prop} (hu : A.units + 2 < cLine) (x : OwnExc K s.heap e C t m tk) (h : Q (.str m tk) s) : wpAny (model prog w) A (call (.type "str") [.ref e]) Q E s :=
  callType_new PySem.F.called_str (by decide) (PySem.F.typeCall_str_1 _) (PySem.F.newCall_str_1 _) (fun obj => PySem.F.args_object_init_2 obj _) PySem.F.entry_str_new
    (meets_str_new (S := fun A' R s' => A'.units + 1 < cLine ∧ OwnExc K s'.heap e C t m tk ∧ R (.ok (.ret (.str m tk))) s')
      fun _ _ A' _ _ hq => own_strOf (A := A'.in1) hq.1 hq.2.1 hq.2.2)
    ⟨(show A.units + 1 + 1 < cLine from hu), x, typeIs_str _ _ _, h⟩
end
end Mine
end
section
open PySem PySem.W PySem.Spec PySem.Calls PyProof.Rows
set_option Elab.async false
set_option linter.unusedVariables false
set_option maxRecDepth 100000
namespace Mine
section
variable {prog : Program} {w : World} {A : Around} {E : Value → Shared → Prop} {s : Shared} {K : Frag} {g : Heap} {L a e t C : Addr} {m mg mb : Str → Option Value} {cd : Value} {p : Program} {loose : List Str} {qual n word x : Str} {scope : Scope} {tx : Tok} {k k2 : Nat} {p1 p2 p3 p4 p5 p6 : Pos} {Q : Flow → Shared → Prop}
theorem suite_str (hu : A.units + 2 < cLine) (F : Fr g L s.heap m) (hm : m n = some (.ref e)) (X : K.In g) (T : TopRead p loose mg mb g) (hs : nsIn K mainGlobals "str" = some none) (ox : OwnExc K s.heap e C t x tx)
    (hk : scope.kind = .function) (hl : scope.names.lookup n = some .local) (hg : scope.names.lookup ("str" : Str) = some .globalImplicit) (hd : (n == ("__debug__" : Str)) = false)
    (hQ : ∀ v s', Keeps s s' → (∃ q vs, v = .ref q ∧ s.heap.get? q = none ∧ IsTup s'.heap q vs.toArray ∧ ∃ t1 t2, vs = [.str word t1, .str x t2]) → Q (.ret v) s') :
    wpAny (model prog w) A (execs [.Return (some (.Tuple [.Constant (.str word) k p1, .Call (.Name "str" p2) [.Name n p3] [] p4] k2 p5)) p6] (envOf qual scope L a cd)) Q E s := by
  refine wpAny_execs_cons (wpAny_Return_some (wpAny_Tuple (wpAny_items_cons (wpAny_Constant_str (wpAny_items_cons ?_)))))
  have F' : Fr g L ({ s with toks := s.toks + 1 } : Shared).heap m := F
  have ox' : OwnExc K ({ s with toks := s.toks + 1 } : Shared).heap e C t x tx := ox
  rw [show eval (.Call (.Name "str" p2) [.Name n p3] [] p4) (envOf qual scope L a cd) = (do callWith p4 (← eval (.Name "str" p2) (envOf qual scope L a cd)) [] (backTo p4 (starEach [.Name n p3] (envOf qual scope L a cd))) []) from rfl]
  refine wpAny_bind (name_B F' X T hs PyProof.Rows.Boot.«str» (by decide) ?_ hk hg (by decide))
  refine PyProof.Rows.callWith_type1 (wpAny_items_cons (wpAny_Name (wpAny_loadName_local hk hl F'.ns hm (wpAny_items_nil ?_)) hd)) rfl rfl
  refine own_str hu ox' ?_
  refine wpAny_items_nil ⟨by show 2 ≤ sizeLine; decide, hQ _ _ (kp_trans (kp_tok _) (kp_push _)) ⟨_, _, rfl, dead_size _, ⟨_, Heap.get?_push_size _ rfl, rfl, _, rfl⟩, _, _, rfl⟩⟩
theorem suite_one (hQ : ∀ v s', Keeps s s' → (∃ q vs, v = .ref q ∧ s.heap.get? q = none ∧ IsTup s'.heap q vs.toArray ∧ ∃ t1, vs = [.str word t1]) → Q (.ret v) s') :
    wpAny (model prog w) A (execs [.Return (some (.Tuple [.Constant (.str word) k p1] k2 p5)) p6] (envOf qual scope L a cd)) Q E s := by
  refine wpAny_execs_cons (wpAny_Return_some (wpAny_Tuple (wpAny_items_cons (wpAny_Constant_str (wpAny_items_nil ?_)))))
  exact ⟨by show 1 ≤ sizeLine; decide, hQ _ _ (kp_trans (kp_tok _) (kp_push _)) ⟨_, _, rfl, dead_size _, ⟨_, Heap.get?_push_size _ rfl, rfl, _, rfl⟩, _, rfl⟩⟩
end
noncomputable def Moved (fs : List Addr) (h h' : Heap) : Prop := ∃ g', KtsTurn fs h g' ∧ ∀ b o, g'.get? b = some o → h'.get? b = some o
theorem moved_of {fs : List Addr} {h h' : Heap} (k : Kept h h') : Moved fs h h' := ⟨h, .refl, k⟩
noncomputable def THK (prog : Program) (w : World) (K : Frag) (lv : Nat) (f : Addr) (P : Heap → Prop) (Qo : Ov → Prop) : Prop :=
  ∀ {dp un : Nat} {gd : Option (List Code)} {outer : List PySem.Env} {base : Heap} {s : Shared} {p : Program} {loose : List Str} {mean : ExcName → Option Value} {mg mb : Str → Option Value} {av : List Addr} {R E : Value → Shared → Prop},
    dp + 1 + lv < recursionLimit → un + 3 + 20 * lv + 60 < cLine → Below (aTop dp un gd outer) base outer s.heap → K.In s.heap → Top p loose mean mg mb s.heap → (∀ a ∈ av, (s.heap.get? a).isSome = true ∧ K.lookup a = none) →
    P s.heap → (∀ d v s', Qo (.ret d) → Keeps s s' → Rel av s'.heap d v → R v s') → XP base outer s E Qo → wpM true (model prog w) (aTop dp un gd outer) (call (.ref f) []) R E s
noncomputable def caughtQ (Cr Cp : Addr) (Qo : Ov → Prop) (d : D) : Prop :=
  Qo (.ret d) ∨ (∃ x, Qo (.exc Cr x) ∧ d = .tup [.str "refused", .str x]) ∨ (∃ x, Qo (.exc Cp x) ∧ d = .tup [.str "spoiled", .str x]) ∨ (Qo .ve ∧ d = .tup [.str "unread"])
structure CKn (K : Frag) (Cr Cp : Addr) : Prop where
  nr : nsIn K mainGlobals "error_reply" = some (some (.ref Cr))
  np : nsIn K mainGlobals "error_proto" = some (some (.ref Cp))
  nv : nsIn K mainGlobals "ValueError" = some none
  ns : nsIn K mainGlobals "str" = some none
  rr : exmOne K (.ref Cr) (.ref Cr) = some true
  pr : exmOne K (.ref Cp) (.ref Cr) = some false
  pp : exmOne K (.ref Cp) (.ref Cp) = some true
  vr : exmOne K (.type "ValueError") (.ref Cr) = some false
  vp : exmOne K (.type "ValueError") (.ref Cp) = some false
  vv : exmOne K (.type "ValueError") (.type "ValueError") = some true
  sr : findIn K (.ref Cr) "__str__" = some (some (.builtin "BaseException.__str__"))
  sp : findIn K (.ref Cp) "__str__" = some (some (.builtin "BaseException.__str__"))
  br : subIn K (.ref Cr) (.type "BaseException") = some true
  bp : subIn K (.ref Cp) (.type "BaseException") = some true
noncomputable abbrev hNamed (cls word : Str) (q1 q2 q3 q4 q5 q6 q7 q8 : Pos) : ExceptHandler := .ExceptHandler (some (.Name cls q1)) (some "error") [.Return (some (.Tuple [.Constant (.str word) 0 q2, .Call (.Name "str" q3) [.Name "error" q4] [] q5] 0 q6)) q7] q8
structure CSc (S : Scope) : Prop where
  k : S.kind = .function
  co : S.isCoroutine = false
  ge : S.isGenerator = false
  nc : ∀ x ∈ S.names, x.2 ≠ .cell
  d : S.names.lookup ("deed" : Str) = some .local
  e : S.names.lookup ("error" : Str) = some .local
  r : S.names.lookup ("error_reply" : Str) = some .globalImplicit
  p : S.names.lookup ("error_proto" : Str) = some .globalImplicit
  v : S.names.lookup ("ValueError" : Str) = some .globalImplicit
  s : S.names.lookup ("str" : Str) = some .globalImplicit
section
variable {prog : Program} {w : World} {K : Frag} {lv lv' : Nat} {S : Scope} {ca f Cr Cp : Addr} {P : Heap → Prop} {Qo : Ov → Prop} {name qual : Str} {params : Arguments} {dV kV doc pm cdv ct oc : Value} {an od : Option Addr} {osl : Array (Option Value)}
  {a1 a2 a3 a4 b1 b2 b3 b4 b5 b6 b7 b8 c1 c2 c3 c4 c5 c6 c7 c8 d1 d2 d3 d4 d5 : Pos}
  {dp un : Nat} {gd : Option (List Code)} {outer : List PySem.Env} {base : Heap} {s : Shared} {p : Program} {loose : List Str} {mean : ExcName → Option Value} {mg mb : Str → Option Value} {av : List Addr} {R E : Value → Shared → Prop}
theorem rel_new {fs : List Addr} {ds : List D} {h₀ g₄ h₄ h₅ : Heap} {q : Addr} {vs : List Value} (T : KtsTurn fs h₀ g₄) (k : Kept g₄ h₄) (hq : h₄.get? q = none) (hT : IsTup h₅ q vs.toArray) (hr : ∀ mu h, RelL mu h ds vs) (hav : ∀ a ∈ av, (h₀.get? a).isSome = true) : Rel av h₅ (.tup ds) (.ref q) := by
  simp only [Rel]
  refine ⟨q, vs, rfl, fun hm => ?_, hT, hr _ _⟩
  obtain ⟨o, ho⟩ := Option.isSome_iff_exists.mp (hav q hm)
  obtain ⟨sl, h1⟩ := T.up ho
  have := k _ _ h1
  rw [hq] at this; cases this
theorem suite_end {M : Model} {A : Around} {E : Value → Shared → Prop} {fs : List Addr} {ds : List D} {v : Value} {s₄ s₅ : Shared} {h₀ g₄ : Heap} {L a : Addr} {m : Str → Option Value} {pos : Pos} {Q : Value → Shared → Prop} (T : KtsTurn fs h₀ g₄) (F : Fr g₄ L s₄.heap m) (hk : S.kind = .function) (he : S.names.lookup ("error" : Str) = some .local) (k : Keeps s₄ s₅) (hs : SamS s s₄)
    (hv : ∃ q vs, v = .ref q ∧ s₄.heap.get? q = none ∧ IsTup s₅.heap q vs.toArray ∧ ∀ mu h, RelL mu h ds vs) (hav : ∀ a ∈ av, (h₀.get? a).isSome = true)
    (hQ : ∀ s', Moved fs h₀ s'.heap → SamS s s' → Rel av s'.heap (.tup ds) v → Q v s') :
    wpAny M A (do bindName (envOf qual S L a cdv) "error" .none; unbindBehindTheSuite (envOf qual S L a cdv) "error" pos) (fun _ s₆ => Q v s₆) E s₅ := by
  obtain ⟨h', tk, rfl, kk⟩ := k
  obtain ⟨q, vs, rfl, hq, hT, hr⟩ := hv
  have F₅ : Fr g₄ L h' m := ⟨F.ns.keeps kk, fun b o e => kk b o (F.keep b o e), F.above⟩
  refine wpAny_nameGoes (m := m) he F₅.ns (by show (S.kind == .class || (S.kind == .module && _)) = false; rw [hk]; rfl) fun h₆ m' hn hs₆ => ?_
  have F₆ := F₅.set hn hs₆
  have hL : q ≠ L := fun z => by
    obtain ⟨o, _, _, ho, _⟩ := F.ns
    rw [← z, hq] at ho; cases ho
  refine hQ _ ⟨g₄, T, F₆.keep⟩ ?_ (rel_new T F.keep hq ?_ hr hav)
  · obtain ⟨tk', e⟩ := hs
    exact ⟨_, by rw [e]⟩
  · obtain ⟨o, ho, hx⟩ := hT
    exact ⟨o, (hs₆.2 q hL).trans ho, hx⟩
theorem own_of_got {g h : Heap} {L e t C : Addr} {news : List (Addr × Obj)} {x : Str} {tk : Tok} (X : K.In h) (N : News g L h news) (G : Got news e t (.ref C) [.str x tk]) (hs : findIn K (.ref C) "__str__" = some (some (.builtin "BaseException.__str__"))) (hb : subIn K (.ref C) (.type "BaseException") = some true) : OwnExc K h e C t x tk := by
  obtain ⟨oe, ot, ws, nt, h1, h2, hc, hd, h0, htc, htd⟩ := G
  exact ⟨X, ⟨oe, ws, N.get h1, hc, hd, h0⟩, ⟨ot, nt, N.get h2, htc, htd⟩, hs, hb⟩
theorem caughtX (hex : ∀ C x, Qo (.exc C x) → C = Cr ∨ C = Cp) (ck : CKn K Cr Cp) (sc : CSc S) (hPk : ∀ h h', Kept h h' → P h → P h') (hPo : ∀ h, P h → ∃ o fd, h.get? f = some o ∧ o.data = .func fd)
    (ho : K.lookup ca = some ⟨oc, od, .func (fnOf name qual params [.Try [.Return (some (.Call (.Name "deed" a1) [] [] a2)) a3] [hNamed "error_reply" "refused" b1 b2 b3 b4 b5 b6 b7 b8, hNamed "error_proto" "spoiled" c1 c2 c3 c4 c5 c6 c7 c8, .ExceptHandler (some (.Name "ValueError" d1)) none [.Return (some (.Tuple [.Constant (.str "unread") 0 d2] 0 d3)) d4] d5] [] [] a4] S dV kV doc pm an cdv ct), osl⟩) (hcd : codeIn K cdv qual = true)
    (hb : ∀ (s : Shared) (v : Value), BindsTo s (fnOf name qual params [.Try [.Return (some (.Call (.Name "deed" a1) [] [] a2)) a3] [hNamed "error_reply" "refused" b1 b2 b3 b4 b5 b6 b7 b8, hNamed "error_proto" "spoiled" c1 c2 c3 c4 c5 c6 c7 c8, .ExceptHandler (some (.Name "ValueError" d1)) none [.Return (some (.Tuple [.Constant (.str "unread") 0 d2] 0 d3)) d4] d5] [] [] a4] S dV kV doc pm an cdv ct) ⟨[v], []⟩ [("deed", v)])
    (TH : THK prog w K lv' f P Qo) (hlv : lv' + 1 ≤ lv)
    (hD : dp + 1 + lv < recursionLimit) (hU : un + 3 + 20 * lv + 60 < cLine) (B : Below (aTop dp un gd outer) base outer s.heap) (X : K.In s.heap) (XB : K.In base) (T : Top p loose mean mg mb s.heap) (TB : Top p loose mean mg mb base) (DD : KtsDicts (outer.filterMap (·.frame)) s.heap)
    (hav : ∀ a ∈ av, (s.heap.get? a).isSome = true ∧ K.lookup a = none) (hP : P s.heap)
    (hR : ∀ d v s', caughtQ Cr Cp Qo d → Moved (outer.filterMap (·.frame)) s.heap s'.heap → SamS s s' → Rel av s'.heap d v → R v s') : wpM true (model prog w) (aTop dp un gd outer) (call (.ref ca) [.ref f]) R E s := by
  have hav' : ∀ a ∈ av, (s.heap.get? a).isSome = true := fun a ha => (hav a ha).1
  refine wm_call (cm_call (o := _) (fd := fnOf name qual params _ S dV kV doc pm an cdv ct) (Nat.lt_of_le_of_lt (by show dp ≤ dp + 1 + lv; omega) hD) (X _ _ ho) rfl sc.co sc.ge rfl (codeRec_of X hcd) (hb s (.ref f) _ _ _ _ ?_))
  refine wpAny_newFunctionEnv sc.nc (fun x hx => by rw [List.mem_singleton.mp hx]; exact sc.d) (fun h₀ hns₀ hsb₀ => ⟨T.nolimit.fresh _ hsb₀, cm_func ?_⟩) sc.k
  have hk₀ : Kept s.heap h₀ := fun b o e => hsb₀.extBut b o (Nat.ne_of_lt (Heap.lt_size e)) (Heap.get?_push_of_some _ e)
  have i := start (prog := prog) (w := w) (lv := lv) (qual := qual) (f := ca) (cdv := cdv) (tk := s.toks + 1) (names := [("deed" : Str)]) (args := [.val (.ref f)]) (vs := [.ref f]) hD hU B X T hav (by simp only [RelL, Rel]; exact ⟨_, _, rfl, rfl, rfl⟩) (by simp only [FrozL, Froz]; trivial) sc.k sc.nc (fun x hx => by rw [List.mem_singleton.mp hx]; exact sc.d) rfl (by decide) hns₀ hk₀
  refine wm_execs_cons (wm_Try (wm_execs_cons (wm_Return ?_)))
  rw [show ∀ env, eval (.Call (.Name "deed" a1) [] [] a2) env = (do callWith a2 (← eval (.Name "deed" a1) env) [] (backTo a2 (starEach [] env)) []) from fun _ => rfl]
  refine wm_seq (ev_name (d := .val (.ref f)) rfl (by decide) av _ _ i _ _ fun v s₂ k₂ r₂ => ?_)
  simp only [Rel] at r₂
  subst r₂
  have i₂ := i.keeps k₂
  obtain ⟨m, F⟩ := i₂.fr
  have hP₂ : P s₂.heap := hPk _ _ (kp_kept k₂) (hPk _ _ hk₀ hP)
  obtain ⟨of, fdf, hof, hdf⟩ := hPo _ hP₂
  refine wm_callWith (o := of) (fd := fdf) rfl (evalArgs_nil3 ⟨⟨hof, hdf⟩, ?_⟩)
  obtain ⟨hh, tt, rfl, kk⟩ := k₂
  have kS : Kept s.heap hh := fun b o e => kk b o (hk₀ b o e)
  have sS : SamS s { s with heap := hh, toks := tt } := ⟨tt, rfl⟩
  have hu : ((((aTop dp un gd outer).deeper (envOf qual S s.heap.objs.size ca cdv)).mark none).units) + 2 < cLine := by show un + 3 + 2 < cLine; omega
  refine TH (dp := dp + 1) (un := un + 3) (gd := gd) (outer := envOf qual S s.heap.objs.size ca cdv :: outer) (base := base) (av := [s.heap.objs.size] ++ av) (by omega) (by omega) (pushX i₂.ok.below F i₂.ok.frame i₂.ok.fkind) i₂.keepK (i₂.ok.top.keeps F.keep) (fun a ha => ⟨i₂.alive a ha, notK i₂ a ha⟩) hP₂ (fun d v s' q k r => ?_) ⟨fun C x tx e t h' tk q r u => ?_, fun e h' tk q r u => ?_⟩
  · obtain ⟨h3, t3, rfl, k3⟩ := k
    exact hR d v _ (.inl q) (moved_of fun b o e => k3 b o (kS b o e)) ⟨t3, rfl⟩ (Rel.sub (fun a ha => .inl (List.mem_append_right _ ha)) r)
  · refine kts_lookS r F B u DD fun h₃ r₃ u₃ => ?_
    rcases hex C x q with rfl | rfl
    · refine hit_SB r₃ F B u₃ XB TB DD .refl (test_name (.inl ck.nr) ck.rr sc.k sc.r (by decide)) (fun h₄ g₄ n₄ t₄ T₄ F₄ N₄ G₄ _ B₄ X₄ P₄ D₄ => ?_) sc.k sc.e
      exact suite_str hu F₄ (if_pos rfl) X₄ (topRead_of P₄) ck.ns (own_of_got (X₄.keeps F₄.keep) N₄ G₄ ck.sr ck.br) sc.k sc.e sc.s (by decide) fun v s5 k5 hv =>
        suite_end (ds := [.str "refused", .str x]) T₄ F₄ sc.k sc.e k5 ⟨t₄, rfl⟩ (by obtain ⟨q5, vs, h1, h2, h3, t1, t2, h4⟩ := hv; exact ⟨q5, vs, h1, h2, h3, fun mu h => by rw [h4]; simp only [RelL, Rel]; exact ⟨_, _, rfl, ⟨_, rfl⟩, _, _, rfl, ⟨_, rfl⟩, rfl⟩⟩) hav' fun s' mv sm rl => hR _ _ _ (.inr (.inl ⟨x, q, rfl⟩)) mv sm rl
    · refine pass_S r₃ F B u₃ XB TB DD (test_name (.inl ck.nr) ck.pr sc.k sc.r (by decide)) fun h₃ r₃ u₃ => ?_
      refine hit_SB r₃ F B u₃ XB TB DD .refl (test_name (.inl ck.np) ck.pp sc.k sc.p (by decide)) (fun h₄ g₄ n₄ t₄ T₄ F₄ N₄ G₄ _ B₄ X₄ P₄ D₄ => ?_) sc.k sc.e
      exact suite_str hu F₄ (if_pos rfl) X₄ (topRead_of P₄) ck.ns (own_of_got (X₄.keeps F₄.keep) N₄ G₄ ck.sp ck.bp) sc.k sc.e sc.s (by decide) fun v s5 k5 hv =>
        suite_end (ds := [.str "spoiled", .str x]) T₄ F₄ sc.k sc.e k5 ⟨t₄, rfl⟩ (by obtain ⟨q5, vs, h1, h2, h3, t1, t2, h4⟩ := hv; exact ⟨q5, vs, h1, h2, h3, fun mu h => by rw [h4]; simp only [RelL, Rel]; exact ⟨_, _, rfl, ⟨_, rfl⟩, _, _, rfl, ⟨_, rfl⟩, rfl⟩⟩) hav' fun s' mv sm rl => hR _ _ _ (.inr (.inr (.inl ⟨x, q, rfl⟩))) mv sm rl
  · refine kts_lookSN r F B u DD fun h₃ r₃ u₃ => ?_
    refine pass_SN r₃ F B u₃ XB TB DD (test_name (.inl ck.nr) ck.vr sc.k sc.r (by decide)) fun h₃ r₃ u₃ => ?_
    refine pass_SN r₃ F B u₃ XB TB DD (test_name (.inl ck.np) ck.vp sc.k sc.p (by decide)) fun h₃ r₃ u₃ => ?_
    refine hit_SN0 r₃ F B u₃ XB TB DD .refl (test_name (.inr ⟨ck.nv, PyProof.Rows.Boot.«ValueError», by decide⟩) ck.vv sc.k sc.v (by decide)) (fun h₄ g₄ T₄ F₄ N₄ B₄ X₄ P₄ D₄ => ?_)
    refine suite_one fun v s5 k5 hv => ?_
    obtain ⟨q5, vs, rfl, h2, h3, t1, rfl⟩ := hv
    obtain ⟨h5, t5, rfl, k5⟩ := k5
    exact hR (.tup [.str "unread"]) _ _ (.inr (.inr (.inr ⟨q, rfl⟩))) ⟨g₄, T₄, fun b o z => k5 b o (F₄.keep b o z)⟩ ⟨t5, rfl⟩ (rel_new (fs := outer.filterMap (·.frame)) T₄ F₄.keep h2 h3 (fun mu h => by simp only [RelL, Rel]; exact ⟨_, _, rfl, ⟨_, rfl⟩, rfl⟩) hav')
end
end Mine
end
section
open PySem PySem.W PySem.Spec PySem.Calls PyProof.Rows
set_option Elab.async false
set_option linter.unusedVariables false
set_option maxRecDepth 100000
namespace Mine
theorem Inv.chg {c : Cx} {av own : List Addr} {l : Loc} {s : Shared} (i : Inv c av own l s) {g : Heap} {h' : Heap} {tk : Nat} (ch : List Addr) (ok' : Cx.Ok { c with h₀ := g }) (fr' : ∃ m, Fr g c.L h' m) (none' : ∀ b, c.h₀.get? b = none → g.get? b = none)
    (hch : ∀ a ∈ ch, a = c.env.locals ∨ a ∈ av) (k : KeptBut ch s.heap h') (alive : ∀ a, (s.heap.get? a).isSome = true → (h'.get? a).isSome = true) (hns : ∀ m, s.heap.Ns c.env.locals m → h'.Ns c.env.locals m) :
    Inv { c with h₀ := g } av own l { s with heap := h', toks := tk } := by
  have hsub : ∀ a ∈ ch, a ∈ own ++ av := fun a ha => (hch a ha).elim (fun e => List.mem_append_left _ (e ▸ i.loc.1)) (List.mem_append_right _)
  have kB : KeptBut (own ++ av) s.heap h' := fun b o hb e => k b o (fun z => hb (hsub b z)) e
  have nd : ∀ {a : Addr} {o : Obj}, s.heap.get? a = some o → (∀ es n, o.data ≠ .dict es n) → a ∉ av → h'.get? a = some o := fun {a} {o} ho hd hv => k a o (fun z => by
    rcases hch a z with e | e
    · obtain ⟨_, o', es, ep, h1, h2, _⟩ := i.loc.2
      rw [e] at ho
      rw [ho] at h1; cases h1
      exact hd _ _ h2
    · exact hv e) ho
  have kc : ∀ {a : Addr} {v : Option Value}, a ∉ av → s.heap.IsCell a v → h'.IsCell a v := fun {a v} hv ⟨o, ho, hd⟩ => ⟨o, nd ho (fun es n q => by rw [hd] at q; cases q) hv, hd⟩
  have kn : ∀ {x : Str} {v : Value}, NameIs c.env s.heap x v → NameIs c.env h' x v := fun {x v} n => by
    rcases n with ⟨q, m, hn, e⟩ | ⟨q, a, ha, hc⟩
    · exact .inl ⟨q, m, hns m hn, e⟩
    · exact .inr ⟨q, a, ha, kc (i.cel x a ha).2 hc⟩
  refine ⟨ok', fun a ha => ⟨alive a (i.keep a ha).1, (i.keep a ha).2⟩, fr', fun a ha => ⟨none' a (i.mine a ha).1, alive a (i.mine a ha).2⟩, ⟨i.loc.1, ?_⟩, fun x a h1 h2 => ?_, i.inj, fun x a h1 => ⟨alive a (i.cel x a h1).1, (i.cel x a h1).2⟩, i.off, fun x d h1 => ?_, fun x y dx dy a h1 h2 n1 n2 => ?_⟩
  · obtain ⟨m, hm⟩ := i.loc.2
    exact ⟨m, hns m hm⟩
  · obtain ⟨h3, v, h4⟩ := i.cell x a h1 h2
    exact ⟨h3, v, kc (i.cel x a h2).2 h4⟩
  · obtain ⟨v, n, r, q⟩ := i.val x d h1
    refine ⟨v, kn n, ?_, q⟩
    cases d with
    | mls its =>
      obtain ⟨hf, a, rfl, ha⟩ := q
      simp only [Rel] at r ⊢
      obtain ⟨a', vs, e, hp, hr⟩ := r
      cases e
      refine ⟨a, vs, rfl, ?_, RelL.but kB hf hr⟩
      obtain ⟨dx, e⟩ := hp
      exact ⟨dx, nd e (fun es n q => by cases q) (fun z => (i.keep a z).2.2 ha)⟩
    | _ => exact Rel.but kB q r
  · obtain ⟨v, m1, _, _⟩ := i.val x _ h1
    obtain ⟨w, m2, _, _⟩ := i.val y _ h2
    have e1 := (kn m1).agree n1
    have e2 := (kn m2).agree n2
    subst e1; subst e2
    exact i.apart x y dx dy _ h1 h2 m1 m2
end Mine
end
section
open PySem PySem.W PySem.Spec PySem.Calls PyProof.Rows
set_option Elab.async false
set_option linter.unusedVariables false
set_option maxRecDepth 100000
namespace Mine
noncomputable def Tab (ps₀ : Array Value) (P : Addr) (lpos : Pos) (q : Str) (own : List Addr) (h : Heap) : Prop :=
  ∃ ps : Array Value, (∃ more, ps = ps₀ ++ more) ∧ h.get? P = some (tabObj ps) ∧ TriplesOk ps.toList ∧ (codeAmong lpos ps.toList = none ∨ ∃ c', codeAmong lpos ps.toList = some (.ref c') ∧ h.CodeRec (.ref c') q ∧ c' ≠ P ∧ c' ∉ own)
theorem codeRec_but {h h' : Heap} {c' P : Addr} {q : Str} (k : KeptBut [P] h h') (x : h.CodeRec (.ref c') q) (hne : c' ≠ P) : h'.CodeRec (.ref c') q := by
  obtain ⟨c, oc, vs, tq, e, h1, h2, h3⟩ := x
  cases e
  exact ⟨_, oc, vs, tq, rfl, k _ _ (by simpa using hne) h1, h2, h3⟩
theorem Tab.step {ps₀ : Array Value} {P : Addr} {lpos : Pos} {q : Str} {own own' av : List Addr} {s s' : Shared} (x : Tab ps₀ P lpos q (own ++ av) s.heap) (st : Step own s own' s') (hP : P ∉ own) : Tab ps₀ P lpos q (own' ++ av) s'.heap := by
  obtain ⟨ps, h0, h1, h2, h3⟩ := x
  refine ⟨ps, h0, st.kept _ _ hP h1, h2, h3.imp id fun ⟨c', e1, ⟨c2, oc, vs, tq, z1, z2, z3, z4⟩, e3, e4⟩ => ?_⟩
  cases z1
  refine ⟨c', e1, ⟨c', oc, vs, tq, rfl, st.kept _ _ (fun q => e4 (List.mem_append_left _ q)) z2, z3, z4⟩, e3, fun hm => ?_⟩
  rcases List.mem_append.mp hm with hm | hm
  · rcases st.new _ hm with z | z
    · exact e4 (List.mem_append_left _ z)
    · rw [z2] at z; cases z
  · exact e4 (List.mem_append_right _ hm)
theorem Tab.sub {ps₀ : Array Value} {P : Addr} {lpos : Pos} {q : Str} {own own' : List Addr} {h : Heap} (x : Tab ps₀ P lpos q own h) (k : ∀ a ∈ own', a ∈ own ∨ h.get? a = none) : Tab ps₀ P lpos q own' h := by
  obtain ⟨ps, h0, h1, h2, h3⟩ := x
  refine ⟨ps, h0, h1, h2, h3.imp id fun ⟨c', e1, e2, e3, e4⟩ => ⟨c', e1, e2, e3, fun hm => ?_⟩⟩
  obtain ⟨c2, oc, vs, tq, z1, z2, z3, z4⟩ := e2
  cases z1
  rcases k _ hm with z | z
  · exact e4 z
  · rw [z2] at z; cases z
theorem Tab.kept {ps₀ : Array Value} {P : Addr} {lpos : Pos} {q : Str} {own : List Addr} {h h' : Heap} (x : Tab ps₀ P lpos q own h) (k : Kept h h') : Tab ps₀ P lpos q own h' := by
  obtain ⟨ps, h0, h1, h2, h3⟩ := x
  exact ⟨ps, h0, k _ _ h1, h2, h3.imp id fun ⟨c', e1, e2, e3⟩ => ⟨c', e1, codeRec_but (fun b o _ e => k b o e) e2 e3.1, e3⟩⟩
noncomputable def LamAt (h : Heap) (f : Addr) (q : Str) (body : Expr) (sc : Scope) (cells : List (Str × Addr)) : Prop :=
  ∃ o pm cv ctv cl, h.get? f = some o ∧ o.data = .func (kla_fn "<lambda>" q noP body sc cl pm cv ctv) ∧ h.CodeRec cv q ∧ (∀ q ∈ cl, cells.lookup q.1 = some q.2) ∧ ∀ y, (y, NameKind.free) ∈ sc.names → ∃ a, cl.lookup y = some a
theorem mkLam {c : Cx} {av own : List Addr} {l : Loc} {s : Shared} {ps₀ : Array Value} {P cc : Addr} {lpos : Pos} {body : Expr} {lsc : Scope} {Q E : Value → Shared → Prop} (i : Inv c av own l s) (T : Tab ps₀ P lpos (c.env.qual ++ "<lambda>") (own ++ av) s.heap) (hP : c.h₀.get? P = none) (hPa : P ∈ av) (hcode : c.env.code = .ref cc) (C : CodeHd c.h₀ cc P)
    (hfree : ∀ y ∈ lsc.names, y.2 = .free → ∃ a, c.env.cells.lookup y.1 = some a)
    (hQ : ∀ f s', Inv c av own l s' → Tab ps₀ P lpos (c.env.qual ++ "<lambda>") (own ++ av) s'.heap → LamAt s'.heap f (c.env.qual ++ "<lambda>") body lsc c.env.cells → KeptBut [P] s.heap s'.heap → SamS s s' → Q (.ref f) s') :
    wpAny c.M c.A (eval (.Lambda noP body lsc lpos) c.env) Q E s := by
  refine kla_eval rfl ?_
  obtain ⟨clos, hcl, e2, e3⟩ := clos_ok hfree
  obtain ⟨ps, ⟨more, hmore⟩, hPs, ht, hc⟩ := T
  obtain ⟨m, F⟩ := i.fr
  have hgs := i.ok.top.g.keeps F.keep
  obtain ⟨bm, ob, b1, b2, b3, b4, b5, b6⟩ := i.ok.top.bmain
  have hgP : mainGlobals ≠ P := fun q => by
    obtain ⟨o, es, ep, e, hd, _⟩ := hgs
    rw [q, hPs] at e; cases e; cases hd
  have hbP : bm ≠ P := fun q => by
    have e := F.keep _ _ b3
    rw [q, hPs] at e; cases e; cases b4
  have hbG : bm ≠ mainGlobals := fun q => by
    obtain ⟨o, es, ep, e, hd, _⟩ := i.ok.top.g
    rw [q, e] at b3; cases b3; rw [hd] at b6; cases b6
  have hb : s.heap.BuiltinsAt c.mg P := ⟨bm, ob, b1, b2, hbG, hbP, F.keep _ _ b3, b4, b5, b6⟩
  have hge : c.env.globals = mainGlobals := i.ok.glob
  have hLP : c.env.locals ≠ P := fun z => (i.keep P hPa).2.2 (z ▸ i.loc.1)
  have hL : c.L ≠ P := fun z => i.off (z ▸ hPa)
  rcases hc with hnf | ⟨c', hf, hrec, hne⟩
  · have nown : ∀ c' : Addr, s.heap.objs.size ≤ c' → c' ∉ own ++ av := fun c' hge hm => by
      obtain ⟨o, ho⟩ := Option.isSome_iff_exists.mp (i.alive c' hm)
      exact absurd (Heap.lt_size ho) (Nat.not_lt.mpr hge)
    refine kla_makeFunction (mg := c.mg) hcl hge hgs hcode (C.keeps F.keep) hPs ht hnf hgP hb fun c' ctv h' tk hx hge hlt hrec htb => ?_
    have kb : KeptBut [P] s.heap (h'.push (kla_obj "<lambda>" (c.env.qual ++ "<lambda>") noP body lsc clos ((c.mg "__name__").getD .none) c' ctv)) := fun b o hb' e => Heap.get?_push_of_some _ (hx b o (by simpa using hb') e)
    have hcP : c' ≠ P := fun z => absurd (z ▸ hge) (Nat.not_le.mpr (Heap.lt_size hPs))
    refine hQ h'.objs.size _ (i.chg (g := c.h₀) [P] i.ok ⟨m, (F.ns.extBut hx hL).push _, fun b o e => kb b o (fun z => by rw [List.mem_singleton.mp z, hP] at e; cases e) (F.keep b o e), F.above⟩ (fun _ e => e) (fun a ha => .inr (List.mem_singleton.mp ha ▸ hPa)) kb (fun a ha => ?_) (fun m' hn => (hn.extBut hx hLP).push _)) ?_ ?_ kb ⟨tk, rfl⟩
    · by_cases z : a = P
      · rw [z, Heap.get?_push_of_some _ htb]; rfl
      · obtain ⟨o, ho⟩ := Option.isSome_iff_exists.mp ha
        rw [kb a o (by simpa using z) ho]; rfl
    · refine ⟨_, ⟨more ++ #[rawInt lpos.line, rawInt lpos.col, .ref c'], by rw [hmore, Array.append_assoc]⟩, Heap.get?_push_of_some _ htb, ?_, .inr ⟨c', ?_, ?_, hcP, nown c' hge⟩⟩
      · rw [Array.toList_append]; exact TriplesOk_snoc _ _ _ _ ht
      · rw [Array.toList_append]; exact codeAmong_snoc _ ht hnf
      · exact codeRec_but (fun b o _ e => Heap.get?_push_of_some _ e) hrec hcP
    · exact ⟨_, _, _, _, clos, Heap.get?_push_size _ rfl, rfl, codeRec_but (P := P) (fun b o _ e => Heap.get?_push_of_some _ e) hrec hcP, e2, e3⟩
  · refine kla_makeFunctionHit (mg := c.mg) hcl hge hgs hcode (C.keeps F.keep) hPs ht hf hb fun ctv h' tk kp hsz => ?_
    have kp' : Kept s.heap (h'.push { cls := .type "function", data := .func (kla_fn "<lambda>" (c.env.qual ++ "<lambda>") noP body lsc clos ((c.mg "__name__").getD .none) (.ref c') ctv) }) := fun b o e => Heap.get?_push_of_some _ (kp b o e)
    refine hQ h'.objs.size _ (i.kept (s' := { s with heap := _, toks := tk }) kp') (Tab.kept ⟨ps, ⟨more, hmore⟩, hPs, ht, .inr ⟨c', hf, hrec, hne⟩⟩ kp') ⟨_, _, _, _, clos, Heap.get?_push_size _ rfl, rfl, codeRec_but (P := P) (fun b o _ e => kp' b o e) hrec hne.1, e2, e3⟩ (fun b o _ e => kp' b o e) ⟨tk, rfl⟩
end Mine
end
section
open PySem PySem.W PySem.Spec PySem.Calls PyProof.Rows
set_option Elab.async false
set_option linter.unusedVariables false
set_option maxRecDepth 100000
namespace Mine
noncomputable def CAUGHT (prog : Program) (w : World) (K : Frag) (lv : Nat) (ca Cr Cp : Addr) : Prop :=
  ∀ {lv' : Nat} {f : Addr} {P : Heap → Prop} {Qo : Ov → Prop} {dp un : Nat} {gd : Option (List Code)} {outer : List PySem.Env} {base : Heap} {s : Shared} {p : Program} {loose : List Str} {mean : ExcName → Option Value} {mg mb : Str → Option Value} {av : List Addr} {R E : Value → Shared → Prop},
    (∀ C x, Qo (.exc C x) → C = Cr ∨ C = Cp) → (∀ h h', Kept h h' → P h → P h') → (∀ h, P h → ∃ o fd, h.get? f = some o ∧ o.data = .func fd) → THK prog w K lv' f P Qo → lv' + 1 ≤ lv →
    dp + 1 + lv < recursionLimit → un + 3 + 20 * lv + 60 < cLine → Below (aTop dp un gd outer) base outer s.heap → K.In s.heap → K.In base → Top p loose mean mg mb s.heap → Top p loose mean mg mb base → KtsDicts (outer.filterMap (·.frame)) s.heap →
    (∀ a ∈ av, (s.heap.get? a).isSome = true ∧ K.lookup a = none) → P s.heap →
    (∀ d v s', caughtQ Cr Cp Qo d → Moved (outer.filterMap (·.frame)) s.heap s'.heap → SamS s s' → Rel av s'.heap d v → R v s') → wpM true (model prog w) (aTop dp un gd outer) (call (.ref ca) [.ref f]) R E s
structure LamOK (prog : Program) (w : World) (K : Frag) (lv' lv : Nat) (fn : Str) (fa : Addr) (xs : List Expr) (x : Expr) (ds : List D) (lam : Loc) (lsc : Scope) (Qo : Ov → Prop) : Prop where
  g : nsIn K mainGlobals fn = some (some (.ref fa))
  o : ∃ ofn fdn, K.lookup fa = some ofn ∧ ofn.data = .func fdn
  db : (fn == ("__debug__" : Str)) = false
  xg : lsc.names.lookup fn = some .globalImplicit
  ns : ∀ y ∈ x :: xs, nst y = true
  C : CALLX prog w K lv' fa ds Qo
  lv : lv' + 1 ≤ lv
  k : lsc.kind = .function
  cell : ∀ x ∈ lsc.names, x.2 ≠ .cell
  co : lsc.isCoroutine = false
  ge : lsc.isGenerator = false
  free : ∀ x d, get lam x = some d → lsc.names.lookup x = some .free ∧ (x == ("__classdict__" : Str)) = false
  ha : ∀ c : Cx, EVL c lam (x :: xs) ds
  shape : ∀ d, Qo (.ret d) → ∃ y n, d = .tup [.str y, .int n]
theorem Clos.kept {h h' : Heap} {cl : List (Str × Addr)} {l : Loc} (x : Clos h cl l) (k : Kept h h') : Clos h' cl l :=
  ⟨x.inj, fun q hq => let ⟨v, hv⟩ := x.cell q hq; ⟨v, hv.keeps k⟩, fun y d e => let ⟨z, t, a, h1, h2, h3⟩ := x.val y d e; ⟨z, t, a, h1, h2, h3.keeps k⟩⟩
theorem lamTHK {prog : Program} {w : World} {K : Frag} {lv' lv : Nat} {fn : Str} {fa : Addr} {xs : List Expr} {x : Expr} {ds : List D} {lam : Loc} {lsc : Scope} {Qo : Ov → Prop} {px pos : Pos} {f : Addr} {o : Obj} {q : Str} {cl : List (Str × Addr)} {pm cv ctv : Value} (hd : o.data = .func (kla_fn "<lambda>" q noP (.Call (.Name fn px) (x :: xs) [] pos) lsc cl pm cv ctv)) (H : LamOK prog w K lv' lv fn fa xs x ds lam lsc Qo) :
    THK prog w K lv f (fun h => h.get? f = some o ∧ h.CodeRec cv q ∧ Clos h cl lam) Qo := fun hD hU B X T hav hp hR hX => by
  obtain ⟨ofn, fdn, h1, h2⟩ := H.o
  exact lamX H.g h1 h2 H.db H.xg H.ns H.C H.lv H.k H.cell H.co H.ge H.free H.ha H.shape hD hU B X T hav hp.1 hd hp.2.1 hp.2.2 hR hX
theorem Inv.moved {c : Cx} {av own : List Addr} {l : Loc} {s s' : Shared} (i : Inv c av own l s) (hs : SamS s s') (hm : Moved ((c.fenv :: c.outer).filterMap (·.frame)) s.heap s'.heap) (hloc : c.env.locals = c.L) (hfs : ∀ b ∈ c.outer.filterMap (·.frame), b ∈ av) (XB : c.K.In c.base) (TB : Top c.p c.loose c.mean c.mg c.mb c.base) :
    ∃ g, KtsTurn (c.outer.filterMap (·.frame)) c.h₀ g ∧ Inv { c with h₀ := g } av own l s' := by
  obtain ⟨tk, es⟩ := hs
  obtain ⟨m, F⟩ := i.fr
  obtain ⟨g₃, T, k⟩ := hm
  have K₀ := i.ok.below
  have up : ∀ b o, s.heap.get? b = some o → ∃ sl, s'.heap.get? b = some { o with slots := sl } := fun b o e => by
    obtain ⟨sl, h⟩ := T.up e
    exact ⟨sl, k _ _ h⟩
  have hfm : (c.fenv :: c.outer).filterMap (·.frame) = c.L :: c.outer.filterMap (·.frame) := by rw [List.filterMap_cons, i.ok.frame]
  rw [hfm] at T
  have oth : ∀ b o, s.heap.get? b = some o → b ∉ c.L :: c.outer.filterMap (·.frame) → s'.heap.get? b = some o := fun b o e n => k _ _ (T.other b o e n)
  obtain ⟨T', S'⟩ := kts_turn_at (h := s'.heap) (fs := c.outer.filterMap (·.frame)) (g := c.h₀)
    (fun b hb => by
      obtain ⟨_, o, ho, _⟩ := K₀.frames.mem hb
      exact ⟨o, ho⟩)
    (fun b o e nm => oth b o (F.keep b o e) (fun z => by
      rcases List.mem_cons.mp z with z | z
      · rw [z, kts_self F] at e; cases e
      · exact nm z))
    (fun b o e _ => up b o (F.keep b o e))
  have us : s.heap.UpToSlots s'.heap := fun b o e _ => up b o e
  refine ⟨_, T', ?_⟩
  have B' : Below (aTop c.dp c.un c.gd c.outer) c.base c.outer (ktsHeap s'.heap (c.outer.filterMap (·.frame)) c.h₀) := ⟨K₀.stack, fun b o e => T'.other b o (K₀.stays b o e) (fun hm => by
    rw [(K₀.frames.mem hm).1] at e; cases e), K₀.frames.of_keeps fun b o e _ => by
      obtain ⟨sl, hs⟩ := T'.up e
      exact ⟨_, hs, rfl⟩⟩
  rw [es]
  refine i.chg (c.L :: c.outer.filterMap (·.frame)) ⟨B', TB.keeps B'.stays, XB.keeps B'.stays, i.ok.kind, i.ok.fkind, i.ok.frame, i.ok.glob, i.ok.blt, i.ok.roomD, i.ok.roomU⟩ ⟨m, us.ns F.ns, S', by rw [T'.size]; exact F.above⟩ T'.none_ (fun a ha => ?_) (fun b o n e => oth b o e n) (fun a ha => ?_) fun m' hn => us.ns hn
  · rcases List.mem_cons.mp ha with z | z
    · exact .inl (z.trans hloc.symm)
    · exact .inr (hfs a z)
  · obtain ⟨o, ho⟩ := Option.isSome_iff_exists.mp ha
    obtain ⟨sl, h⟩ := up a o ho
    rw [h]; rfl
end Mine
end
section
open PySem PySem.W PySem.Spec PySem.Calls PyProof.Rows
set_option Elab.async false
set_option linter.unusedVariables false
set_option maxRecDepth 100000
namespace Mine
theorem callLam {c : Cx} {av own : List Addr} {l : Loc} {s : Shared} {prog : Program} {w : World} {K : Frag} {lv lvc lv' : Nat} {ps₀ : Array Value} {P cc ca Cr Cp fa : Addr} {cn fn : Str} {q1 q2 px pos lpos : Pos} {xs : List Expr} {x : Expr} {ds : List D} {lam : Loc} {lsc : Scope} {Qo : Ov → Prop} {R E : Value → Shared → Prop}
    (e1 : c.prog = prog) (e2 : c.w = w) (e3 : c.K = K) (e4 : c.lv = lv) (hC : CAUGHT prog w K lvc ca Cr Cp) (hlvc : lvc + 1 ≤ lv) (H : LamOK prog w K lv' lv0 fn fa xs x ds lam lsc Qo) (hlv0 : lv0 + 1 ≤ lvc) (hex : ∀ C x, Qo (.exc C x) → C = Cr ∨ C = Cp)
    (hx : c.env.kindOf cn = some .globalImplicit) (hdb : (cn == ("__debug__" : Str)) = false) (hg : nsIn K mainGlobals cn = some (some (.ref ca))) (ho : ∃ o fd, K.lookup ca = some o ∧ o.data = .func fd)
    (hcells : ∀ x a, c.env.cells.lookup x = some a → c.env.kindOf x = some .cell) (hfree : ∀ y ∈ lsc.names, y.2 = .free → ∃ a, c.env.cells.lookup y.1 = some a) (hlam : ∀ x d, get lam x = some d → ∃ y, d = .str y ∧ get l x = some (.str y))
    (hP : c.h₀.get? P = none) (hPa : P ∈ av) (hcode : c.env.code = .ref cc) (C : CodeHd c.h₀ cc P) (hloc : c.env.locals = c.L) (hfs : ∀ b ∈ c.outer.filterMap (·.frame), b ∈ av) (XB : c.K.In c.base) (TB : Top c.p c.loose c.mean c.mg c.mb c.base) (DD : KtsDicts (c.outer.filterMap (·.frame)) c.h₀)
    (i : Inv c av own l s) (Tb : Tab ps₀ P lpos (c.env.qual ++ "<lambda>") (own ++ av) s.heap)
    (hR : ∀ d v s' g, caughtQ Cr Cp Qo d → KtsTurn (c.outer.filterMap (·.frame)) c.h₀ g → Inv { c with h₀ := g } av own l s' → Tab ps₀ P lpos (c.env.qual ++ "<lambda>") (own ++ av) s'.heap → SamS s s' → Rel (own ++ av) s'.heap d v → R v s') :
    wpM true c.M c.A (eval (.Call (.Name cn q1) [.Lambda noP (.Call (.Name fn px) (x :: xs) [] pos) lsc lpos] [] q2) c.env) R E s := by
  subst e1; subst e2; subst e3; subst e4
  rw [show eval (.Call (.Name cn q1) [.Lambda noP (.Call (.Name fn px) (x :: xs) [] pos) lsc lpos] [] q2) c.env = (do callWith q2 (← eval (.Name cn q1) c.env) [] (backTo q2 (starEach [.Lambda noP (.Call (.Name fn px) (x :: xs) [] pos) lsc lpos] c.env)) []) from rfl]
  refine wm_seq (ev_globV hx hg hdb av own s i _ _ fun vv s₁ k₁ r₁ => ?_)
  simp only [Rel] at r₁
  subst r₁
  have i₁ := i.keeps k₁
  obtain ⟨oc, fdc, ho, hd⟩ := ho
  refine wm_callWith (o := oc) (fd := fdc) rfl ?_
  refine evalArgs_plain (wpAny_items_cons (mkLam (P := P) i₁ (Tb.kept (kp_kept k₁)) hP hPa hcode C hfree fun f s₂ i₂ T₂ L₂ kb₂ ss₂ => wpAny_items_nil ⟨⟨i₂.keepK _ _ ho, hd⟩, ?_⟩))
  obtain ⟨o, pm, cv, ctv, cl, f1, f2, f3, f4, f5⟩ := L₂
  obtain ⟨m, F⟩ := i₂.fr
  have hclos : Clos s₂.heap cl lam := by
    refine ⟨fun x y a h1 h2 => i₂.inj x y a (f4 _ (mem_of_lookup h1)) (f4 _ (mem_of_lookup h2)), fun q hq => ?_, fun y d hy => ?_⟩
    · have := f4 q hq
      obtain ⟨_, v, hv⟩ := i₂.cell q.1 q.2 (hcells _ _ this) this
      exact ⟨v, hv⟩
    · obtain ⟨z, rfl, hz⟩ := hlam y d hy
      obtain ⟨v, n, r, _⟩ := i₂.val y _ hz
      simp only [Rel] at r
      obtain ⟨t, rfl⟩ := r
      obtain ⟨hfr, _⟩ := H.free y _ hy
      obtain ⟨a, ha⟩ := f5 y (mem_of_lookup hfr)
      have hca := f4 _ (mem_of_lookup ha)
      refine ⟨z, t, a, rfl, ha, ?_⟩
      rcases n with ⟨q, _⟩ | ⟨_, a', ha', hc⟩
      · rw [hcells _ _ hca] at q; cases q
      · have : a' = a := Option.some.inj (ha'.symm.trans hca)
        subst this
        exact hc
  have hfm : (c.fenv :: c.outer).filterMap (·.frame) = c.L :: c.outer.filterMap (·.frame) := by rw [List.filterMap_cons, i.ok.frame]
  have DD' : KtsDicts ((c.fenv :: c.outer).filterMap (·.frame)) s₂.heap := fun b hb => by
    rw [hfm] at hb
    rcases List.mem_cons.mp hb with z | z
    · obtain ⟨o', es, ep, h1, h2, _⟩ := F.ns
      exact ⟨o', es, ep, z ▸ h1, h2⟩
    · obtain ⟨o', es, n, h1, h2⟩ := DD b z
      exact ⟨o', es, n, F.keep _ _ h1, h2⟩
  have hD := i.ok.roomD
  have hU := i.ok.roomU
  refine hC (lv' := lv0) (P := fun h => h.get? f = some o ∧ h.CodeRec cv (c.env.qual ++ "<lambda>") ∧ Clos h cl lam) (Qo := Qo) (dp := c.dp + 1) (un := c.un + 3) (gd := c.gd) (outer := c.fenv :: c.outer) (base := c.base) (av := own ++ av) hex (fun h h' k hp => ⟨k _ _ hp.1, hp.2.1.keeps k, hp.2.2.kept k⟩) (fun h hp => ⟨o, _, hp.1, f2⟩) (lamTHK f2 H) hlv0 (by omega) (by omega) (pushX i₂.ok.below F i₂.ok.frame i₂.ok.fkind) i₂.keepK XB (i₂.ok.top.keeps F.keep) TB DD' (fun a ha => ⟨i₂.alive a ha, notK i₂ a ha⟩) ⟨f1, f3, hclos⟩ fun d v s₃ cq mv ss rl => ?_
  obtain ⟨g, T', i₃⟩ := i₂.moved ss mv hloc hfs XB TB
  have s12 : SamS s s₃ := by
    obtain ⟨h1, t1, rfl, _⟩ := k₁
    obtain ⟨t2, e2⟩ := ss₂
    obtain ⟨t3, e3⟩ := ss
    exact ⟨t3, by rw [e3, e2]⟩
  refine hR d v s₃ g cq T' i₃ ?_ s12 rl
  obtain ⟨ps, h0, h1, h2, h3⟩ := T₂
  obtain ⟨g₃, T3, k3⟩ := mv
  have hother : ∀ b o, s₂.heap.get? b = some o → (∀ es n, o.data ≠ .dict es n) → s₃.heap.get? b = some o := fun b o e hn => k3 _ _ (T3.other b o e fun hb => by
    obtain ⟨o', es, n, h1', h2'⟩ := DD' b hb
    rw [e] at h1'; cases h1'
    exact hn _ _ h2')
  refine ⟨ps, h0, hother _ _ h1 (fun es n q => by cases q), h2, h3.imp id fun ⟨c', y1, ⟨c2, oc, vs, tq, z1, z2, z3, z4⟩, y3⟩ => ⟨c', y1, ⟨c2, oc, vs, tq, z1, hother _ _ z2 (fun es n q => by rw [z3] at q; cases q), z3, z4⟩, y3⟩⟩
end Mine
end
section
open PySem PySem.W PySem.Spec PySem.Calls PyProof.Rows
set_option Elab.async false
set_option linter.unusedVariables false
set_option maxRecDepth 100000
namespace Mine
theorem execs_app {env : PySem.Env} {ts : List Stmt} : ∀ {ss : List Stmt}, execs (ss ++ ts) env = (execs ss env >>= fun f => match f with | .next => execs ts env | f => pure f)
  | [] => by rw [List.nil_append, execs_nil, pure_bind]
  | st :: ss => by
    rw [List.cons_append, execs_cons, execs_cons, bind_assoc]
    congr 1
    funext f
    cases f with
    | next => exact execs_app
    | _ => exact (pure_bind _ _).symm
theorem wm_execs_app {b : Bool} {M : Model} {A : Around} {env : PySem.Env} {ss ts : List Stmt} {Q : Flow → Shared → Prop} {E : Value → Shared → Prop} {s : Shared} (h : wpM b M A (execs ss env) (fun f s' => match f with | .next => wpM b M A (execs ts env) Q E s' | f => Q f s') E s) : wpM b M A (execs (ss ++ ts) env) Q E s := by
  rw [execs_app]
  refine wm_bind (wm_mono h (fun f s' q => ?_) fun _ _ z => z)
  cases f with
  | next => exact q
  | _ => exact wm_pure q
structure Chg (P : Addr) (fs : List Addr) (h h' : Heap) : Prop where
  other : ∀ b o, h.get? b = some o → b ≠ P → b ∉ fs → h'.get? b = some o
  frame : ∀ b o, h.get? b = some o → b ∈ fs → b ≠ P → ∃ sl, h'.get? b = some { o with slots := sl }
theorem hide_get {h : Heap} {P b : Addr} {o : Obj} (e : h.get? b = some o) (n : b ≠ P) : (hideAll h [P]).get? b = some o := hideAll_get _ e (by simpa using n)
theorem below_hide {A : Around} {base h : Heap} {outer : List PySem.Env} {P : Addr} (B : Below A base outer h) (hb : base.get? P = none) (hf : P ∉ outer.filterMap (·.frame)) : Below A base outer (hideAll h [P]) :=
  ⟨B.stack, fun b o e => hide_get (B.stays b o e) (fun z => by rw [z, hb] at e; cases e), funFrames_hideAll B.frames fun env he a ha q => hf (List.mem_filterMap.mpr ⟨env, he, by rw [q, List.mem_singleton.mp ha]⟩)⟩
noncomputable def RIGHT (prog : Program) (w : World) (K : Frag) (lv : Nat) (f P : Addr) (ps₀ : Array Value) (lpos : Pos) (lq : Str) (args : List D) (res : D) : Prop :=
  ∀ dp un gd outer base (s : Shared) p loose mean mg mb av vs (R E : Value → Shared → Prop), dp + 1 + lv < recursionLimit → un + 3 + 20 * lv + 60 < cLine → Below (aTop dp un gd outer) base outer s.heap → K.In base → Top p loose mean mg mb base → base.get? P = none → KtsDicts (outer.filterMap (·.frame)) s.heap →
    (∀ a ∈ av, (s.heap.get? a).isSome = true ∧ K.lookup a = none) → P ∈ av → (∀ b ∈ outer.filterMap (·.frame), b ∈ av) → Tab ps₀ P lpos lq av s.heap → RelL av s.heap args vs →
    (∀ v s', Chg P (outer.filterMap (·.frame)) s.heap s'.heap → Tab ps₀ P lpos lq av s'.heap → SamS s s' → Rel av s'.heap res v → R v s') → wpM true (model prog w) (aTop dp un gd outer) (call (.ref f) vs) R E s
noncomputable def rightQ (X : Fx) (lv lvc lv' : Nat) (Cr Cp fa : Addr) (fn : Str) (xs : List Expr) (x : Expr) (lsc : Scope) (ns : List Str) (ig : Nat) (r₂ : RS) (res : D) : PQ := fun o ρ => match o with
  | .next => ∃ lam ds Qo lv0, LamOK X.prog X.w X.K lv' lv0 fn fa xs x ds lam lsc Qo ∧ lv0 + 1 ≤ lvc ∧ (∀ C x, Qo (.exc C x) → C = Cr ∨ C = Cp) ∧ (∀ z d, get lam z = some d → ∃ j y, d = .str y ∧ ns[j]? = some z ∧ nth ρ j = some (.str y)) ∧
      ∀ d, caughtQ Cr Cp Qo d → frozB d = true ∧ wpS X r₂ (upd ρ ig d) (endQ res)
  | .ret d => d = res
  | _ => False
theorem rightX {prog : Program} {w : World} {K : Frag} {lv lvc lv' k ig : Nat} {f ca Cr Cp fa P cc : Addr} {S lsc : Scope} {names more : List Str} {args : List D} {res : D} {name qual gn cn fn : Str} {params : Arguments} {body b₁ : List Stmt} {dV kV doc pm ct oc : Value} {an od : Option Addr} {osl : Array (Option Value)} {ps₀ : Array Value} {q1 q2 q3 q4 q5 px pos lpos : Pos} {xs : List Expr} {x e₂ : Expr} {r₁ r₂ : RS}
    (hC : CAUGHT prog w K lvc ca Cr Cp) (hlvc : lvc + 1 ≤ lv) (ok : XOk ⟨prog, w, K, lv, true⟩)
    (ho : K.lookup f = some ⟨oc, od, .func (fnOf name qual params body S dV kV doc pm an (.ref cc) ct), osl⟩) (hcd : codeIn K (.ref cc) qual = true)
    (hb : ∀ (s : Shared) (vs : List Value), vs.length = args.length → BindsTo s (fnOf name qual params body S dV kV doc pm an (.ref cc) ct) ⟨vs, []⟩ (names.zip vs))
    (hbody : body = b₁ ++ [.Assign [.Name gn q3] (.Call (.Name cn q1) [.Lambda noP (.Call (.Name fn px) (x :: xs) [] pos) lsc lpos] [] q2) q4, .Return (some e₂) q5])
    (hl : names.length = args.length) (hz : frozB.frozBs args = true) (hck : fnChk S names = true) (hc1 : chkS S (names ++ more) r₁ b₁ = true) (hc2 : chkS S (names ++ more) r₂ [.Return (some e₂) q5] = true)
    (hgn : storeAt S (names ++ more) ig gn = true) (hcn : glob S cn = true) (hcg : nsIn K mainGlobals cn = some (some (.ref ca))) (hco : ∃ o fd, K.lookup ca = some o ∧ o.data = .func fd)
    (hcellsS : ∀ n x a, (cellsFrom n S.names []).lookup x = some a → S.names.lookup x = some .cell) (hfree : ∀ y ∈ lsc.names, y.2 = .free → S.names.lookup y.1 = some .cell)
    (hCC : ∀ h, K.In h → CodeHd h cc P) (hKP : K.lookup P = none)
    (h : wpS ⟨prog, w, K, lv, true⟩ r₁ (ini args k) (rightQ ⟨prog, w, K, lv, true⟩ lv lvc lv' Cr Cp fa fn xs x lsc (names ++ more) ig r₂ res)) : RIGHT prog w K lv f P ps₀ lpos (qual ++ ".<locals>." ++ "<lambda>") args res := by
  intro dp un gd outer base s p loose mean mg mb av vs R E hD hU B XB TB hbP DD hav hPa hfs Tb rl hR
  obtain ⟨k1, k2, k3, k4, k5, k6⟩ := fnChk_out hck
  have X : K.In s.heap := XB.keeps B.stays
  have hPt : ∃ ps, s.heap.get? P = some (tabObj ps) := by obtain ⟨ps, _, h1, _⟩ := Tb; exact ⟨ps, h1⟩
  have hPf : P ∉ outer.filterMap (·.frame) := fun z => by
    obtain ⟨o, es, n, h1, h2⟩ := DD P z
    obtain ⟨ps, h3⟩ := hPt
    rw [h1] at h3; cases h3; cases h2
  have B' := below_hide B hbP hPf
  have X' : K.In (hideAll s.heap [P]) := XB.keeps B'.stays
  have T' := TB.keeps B'.stays
  have T : Top p loose mean mg mb s.heap := TB.keeps B.stays
  subst hbody
  refine wm_call (cm_call (o := _) (fd := fnOf name qual params _ S dV kV doc pm an (.ref cc) ct) (Nat.lt_of_le_of_lt (by show dp ≤ dp + 1 + lv; omega) hD) (X _ _ ho) rfl k3 k4 rfl (codeRec_of X hcd) (hb s vs rl.length _ _ _ _ ?_))
  have hkind : ∀ x ∈ names, S.names.lookup x = some .local ∨ (S.names.lookup x = some .cell ∧ ((cellsFrom (s.heap.objs.size + 1) S.names []).lookup x).isSome = true) := fun x hx => (k1 x hx).imp id fun q => ⟨q, cellsFrom_some S.names _ [] (.inl q)⟩
  refine wpAny_newFunctionEnv_cells k5 (fun x hx => hkind x.1 (List.of_mem_zip (show (x.1, x.2) ∈ names.zip vs from hx)).1) fun env' he s₁ xc => ?_
  subst he
  refine ⟨T.nolimit.keeps xc.toInCall.keep, cm_func ?_⟩
  have i := startC (prog := prog) (w := w) (lv := lv) (qual := qual) (f := f) (cdv := .ref cc) hD hU (fun b o e => of_hideAll _ e) (hideAll_size _ _) B' X' T' hav rl (frozs_of hz) k5 hkind hl k2 k6 xc
  have ce : CE ⟨prog, w, K, lv, true⟩ S ⟨prog, w, K, p, loose, mean, mg, mb, dp, un, lv, gd, outer, base, hideAll s.heap [P], s.heap.objs.size, envOfC qual S s.heap.objs.size f (.ref cc), envOfC qual S s.heap.objs.size f (.ref cc)⟩ := ⟨rfl, rfl, rfl, rfl, fun x hx => hx⟩
  have cf : CF S ⟨prog, w, K, p, loose, mean, mg, mb, dp, un, lv, gd, outer, base, hideAll s.heap [P], s.heap.objs.size, envOfC qual S s.heap.objs.size f (.ref cc), envOfC qual S s.heap.objs.size f (.ref cc)⟩ := ⟨rfl, rfl, rfl⟩
  refine wm_execs_app ?_
  refine sndS ok (rz_of ok) r₁ ce cf (agr_ini (more := more) (k := k) hl k2) hc1 h av _ _ i _ _ (fun fl fw l' own' s' q rf st i' => ?_) ⟨fun C y ty e hh m s' q => q.elim fun l' q => q.elim fun ρ' q => q.2.elim, fun e hh m s' q => q.elim fun l' q => q.elim fun ρ' q => q.2.elim⟩
  have hP₀ : (hideAll s.heap [P]).get? P = none := hideAll_none _ (.head _)
  have fresh : ∀ a ∈ s.heap.objs.size :: (cellsFrom (s.heap.objs.size + 1) S.names []).map (·.2), s.heap.get? a = none := fun a ha => by
    cases e : s.heap.get? a with
    | none => rfl
    | some o =>
      have h1 := (i.mine a ha).1
      rw [hide_get e (fun (z : a = P) => (i.keep P hPa).2.2 (z ▸ ha))] at h1; cases h1
  have hPown : P ∉ s.heap.objs.size :: (cellsFrom (s.heap.objs.size + 1) S.names []).map (·.2) := (i.keep P hPa).2.2
  have Tb₁ := ((Tb.sub (own' := (s.heap.objs.size :: (cellsFrom (s.heap.objs.size + 1) S.names []).map (·.2)) ++ av) fun a ha => (List.mem_append.mp ha).elim (fun z => .inr (fresh a z)) .inl).kept xc.toInCall.keep).step st hPown
  obtain ⟨h₁, tk₁, e₁⟩ := xc.toInCall.same
  obtain ⟨h', tk', e'⟩ := st.same
  have sm' : SamS s s' := ⟨tk', by rw [e', e₁]⟩
  have chg : ∀ {g : Heap} {l₄ : Loc} {own₄ : List Addr} {s₄ : Shared}, KtsTurn (outer.filterMap (·.frame)) (hideAll s.heap [P]) g → Inv ⟨prog, w, K, p, loose, mean, mg, mb, dp, un, lv, gd, outer, base, g, s.heap.objs.size, envOfC qual S s.heap.objs.size f (.ref cc), envOfC qual S s.heap.objs.size f (.ref cc)⟩ av own₄ l₄ s₄ → Chg P (outer.filterMap (·.frame)) s.heap s₄.heap := fun T i₄ => by
    obtain ⟨m₄, F₄⟩ := i₄.fr
    exact ⟨fun b o e n hf => F₄.keep _ _ (T.other b o (hide_get e n) hf), fun b o e hf n => let ⟨sl, h⟩ := T.frame b o (hide_get e n) hf; ⟨sl, F₄.keep _ _ h⟩⟩
  obtain ⟨ρ', ag, q⟩ := q
  cases fl with
  | brk => exact q.elim
  | cont => exact q.elim
  | ret d =>
    simp only [RelF] at rf
    obtain ⟨v, rfl, rv, _⟩ := rf
    have hd : d = res := q
    subst hd
    exact hR _ _ (chg .refl i') (Tb₁.sub fun a ha => .inl (List.mem_append_right _ ha)) sm' (Rel.sub (fun a ha => .inl (List.mem_append_right _ ha)) rv)
  | next =>
    simp only [RelF] at rf
    subst rf
    obtain ⟨lam, ds, Qo, lv0, HL, h0, hex, hlam, hq⟩ := q
    obtain ⟨hg1, hg2⟩ := and2 hgn
    obtain ⟨hcn1, hcn2⟩ := glob_out hcn
    refine wm_execs_cons (wm_Assign (callLam (c := ⟨prog, w, K, p, loose, mean, mg, mb, dp, un, lv, gd, outer, base, hideAll s.heap [P], s.heap.objs.size, envOfC qual S s.heap.objs.size f (.ref cc), envOfC qual S s.heap.objs.size f (.ref cc)⟩) (P := P) (prog := prog) (w := w) (K := K) (lv := lv) rfl rfl rfl rfl hC hlvc HL h0 hex hcn1 hcn2 hcg hco (fun x a h => hcellsS _ x a h) (fun y hy e => Option.isSome_iff_exists.mp (cellsFrom_some S.names _ [] (.inl (hfree y hy e)))) (fun z d hz => by
      obtain ⟨j, y, e1, e2, e3⟩ := hlam z d hz
      obtain ⟨z', e4, e5⟩ := ag j _ e3
      rw [e2] at e4; cases e4
      exact ⟨y, e1, e5⟩) hP₀ hPa rfl (hCC _ X') rfl hfs XB TB ?_ i' Tb₁ fun d v s₃ g cq T₃ i₃ Tb₃ ss₃ rl₃ => ?_) (by rfl))
    · intro b hb
      obtain ⟨o, es, n, h1, h2⟩ := DD b hb
      exact ⟨o, es, n, hide_get h1 (fun z => hPf (z ▸ hb)), h2⟩
    · obtain ⟨hz2, hw2⟩ := hq d cq
      have ce' : CE ⟨prog, w, K, lv, true⟩ S ⟨prog, w, K, p, loose, mean, mg, mb, dp, un, lv, gd, outer, base, g, s.heap.objs.size, envOfC qual S s.heap.objs.size f (.ref cc), envOfC qual S s.heap.objs.size f (.ref cc)⟩ := ⟨rfl, rfl, rfl, rfl, fun x hx => hx⟩
      have cf' : CF S ⟨prog, w, K, p, loose, mean, mg, mb, dp, un, lv, gd, outer, base, g, s.heap.objs.size, envOfC qual S s.heap.objs.size f (.ref cc), envOfC qual S s.heap.objs.size f (.ref cc)⟩ := ⟨rfl, rfl, rfl⟩
      refine storeN i₃ (slot_of cf' hg2) (d := d) rl₃ (froz_of hz2) fun s₄ k₄ i₄ => ?_
      refine sndS ok (rz_of ok) r₂ ce' cf' (agr_upd ag hg1) hc2 hw2 av _ _ i₄ _ _ (fun fl fw l5 own5 s5 q rf st5 i5 => ?_) ⟨fun C y ty e hh m s' q => q.elim fun l' q => q.elim fun ρ' q => q.2.elim, fun e hh m s' q => q.elim fun l' q => q.elim fun ρ' q => q.2.elim⟩
      have Tb₅ := (Tb₃.step k₄ (i'.keep P hPa).2.2).step st5 (i₄.keep P hPa).2.2
      obtain ⟨t3, e3⟩ := ss₃
      obtain ⟨h4, t4, e4⟩ := k₄.same
      obtain ⟨h5, t5, e5⟩ := st5.same
      have sm5 : SamS s s5 := ⟨t5, by rw [e5, e4, e3, e', e₁]⟩
      obtain ⟨ρ5, _, q⟩ := q
      cases fl with
      | brk => exact q.elim
      | cont => exact q.elim
      | next =>
        simp only [RelF] at rf
        subst rf
        have hd : res = .none := q
        subst hd
        exact hR _ _ (chg T₃ i5) (Tb₅.sub fun a ha => .inl (List.mem_append_right _ ha)) sm5 (by simp only [Rel])
      | ret d =>
        simp only [RelF] at rf
        obtain ⟨v, rfl, rv, _⟩ := rf
        have hd : d = res := q
        subst hd
        exact hR _ _ (chg T₃ i5) (Tb₅.sub fun a ha => .inl (List.mem_append_right _ ha)) sm5 (Rel.sub (fun a ha => .inl (List.mem_append_right _ ha)) rv)
end Mine
end
section
open PySem PySem.W PySem.Spec PySem.Calls PyProof.Rows
set_option Elab.async false
set_option linter.unusedVariables false
set_option maxRecDepth 100000
namespace Mine
section
variable {M : Model} {A : Around} {E : Value → Shared → Prop} {s : Shared} {b : Bool} {env : PySem.Env}
theorem wm_run {c : Code} {Q : Flow → Shared → Prop} (hc : codeM b M A c (fun r s' => match r with | .ok f => Q f s' | .error e => E e s') s) : wpM b M A (run c none) Q E s := fun Γ p hΓ hu => by
  rw [Sem.wp_run]
  exact hc _ p rfl (hΓ.enter c none p (by intro x; cases x)) fun q => under_cons (hu q)
theorem wm_runOwn {c : Code} {Q : Flow → Shared → Prop} (hc : codeM b M A c (fun r s' => match r with | .ok f => Q f s' | .error e => cameBackBy M A env E e s') s) : wpM b M A (runOwn c env none) Q E s := by
  unfold runOwn
  exact wm_onRaise (wm_run (cm_mono hc fun r s' h => by cases r with | ok f => exact h | error e => exact wm_of h))
theorem wm_For {target iter body orelse pos} {Q : Flow → Shared → Prop}
    (h : wpAny M A (eval iter env) (fun x s₁ => wpAny M A (pyIter x) (fun it s₂ =>
      codeM b M A (.forLoop target it body orelse env) (fun r s' => match r with | .ok f => Q f s' | .error e => cameBackBy M A env E e s') s₂) E s₁) E s)
    (hs : ∀ x, foldedSetIterable iter env x = pure x := by intro _; rfl) : wpM b M A (exec (.For target iter body orelse pos) env) Q E s := by
  rw [exec_For]
  refine wm_seq (wpAny_standAt (wm_seq (wpAny_mono h (fun x s₁ h₁ => wm_seq (wpAny_of_eq (hs x) (wm_seq (wpAny_standAt (wm_seq (wpAny_holding (wpAny_mono h₁ (fun it s₂ h₂ => wm_runOwn h₂) fun _ _ h' => h'))))))) fun _ _ h' => h')))
end
section
variable {prog : Program} {w : World} {A : Around} {E : Value → Shared → Prop} {s : Shared} {b : Bool} {env : PySem.Env}
theorem cm_forLoop {R : Result → Shared → Prop} {target : Expr} {it : Value} {body orelse : List Stmt} (I : Nat → Shared → Prop)
    (turn : ∀ n s, I n s → wpAny (model prog w) A (pyNext it) (fun r s₁ => match r with
      | none => wpAny (model prog w) A (execs orelse env) (fun f s₃ => R (.ok f) s₃) (notedBy (model prog w) A env fun e s' => R (.error e) s') s₁
      | some v => wpAny (model prog w) A (letOwnedTupleGo target it v) (fun _ s₁' =>
          wpAny (model prog w) A (assign target env v) (fun _ s₂ => wpM b (model prog w) A (execs body env) (fun f s₃ => match f with
            | .next => ∃ m, m < n ∧ I m s₃
            | .cont => ∃ m, m < n ∧ I m s₃
            | .brk => R (.ok .next) s₃
            | .ret v => R (.ok (.ret v)) s₃) (notedBy (model prog w) A env fun e s' => R (.error e) s') s₂) (notedBy (model prog w) A env fun e s' => R (.error e) s') s₁') (notedBy (model prog w) A env fun e s' => R (.error e) s') s₁) (notedBy (model prog w) A env fun e s' => R (.error e) s') s)
    (n : Nat) (h : I n s) : codeM b (model prog w) A (.forLoop target it body orelse env) R s := by
  refine cm_loop rfl I (fun n s hI => ?_) n h
  show wpM b _ A ((forTurn target it body orelse env).onRaise (fun x => do noteFrame x env; theTreesLotGoes x)) _ _ s
  refine wm_onRaise (wm_mono (E := notedBy (model prog w) A env fun e s' => R (.error e) s') ?_ (fun _ _ q => q) fun _ _ hx => wm_of (wpAny_bind (wpAny_mono hx (fun _ _ e => wpAny_theTreesLotGoes e) fun _ _ e => e)))
  simp only [forTurn]
  refine wm_seq (wpAny_standAt (wm_seq (wpAny_onRaise (wpAny_mono (turn n s hI) (fun r s₁ h₁ => ?_) fun _ _ h' => wpAny_standAt h'))))
  cases r with
  | none => exact wm_pure (.inr ⟨rfl, cm_of (codeAny_block h₁)⟩)
  | some v =>
    refine wm_seq (wpAny_mono h₁ (fun _ s₁' h₁' => ?_) fun _ _ h' => h')
    refine wm_seq (wpAny_mono h₁' (fun _ s₂ h₂ => wm_bind (wm_mono h₂ (fun f s₃ h₃ => ?_) fun _ _ h' => h')) fun _ _ h' => h')
    cases f with
    | next => exact wm_pure (.inl ⟨rfl, h₃⟩)
    | cont => exact wm_pure (.inl ⟨rfl, h₃⟩)
    | brk => exact wm_pure h₃
    | ret v => exact wm_pure h₃
end
end Mine
end
section
open PySem PySem.W PySem.Spec PySem.Calls PyProof.Rows
set_option Elab.async false
set_option linter.unusedVariables false
set_option maxRecDepth 100000
namespace Mine
theorem bin_addL {c : Cx} {xs ys : List D} (h1 : xs.length ≤ 1000) (h2 : ys.length ≤ 1000) : BIN c .Add (.lst xs) (.lst ys) (.lst (xs ++ ys)) := by
  intro mu s v₁ v₂ Q E hm r₁ r₂ hQ
  simp only [Rel] at r₁ r₂
  obtain ⟨l, vs, rfl, n1, hl, rl1⟩ := r₁
  obtain ⟨b, ws, rfl, n2, hb, rl2⟩ := r₂
  have len : vs.length + ws.length ≤ sizeLine := by rw [rl1.length, rl2.length]; exact Nat.le_trans (Nat.add_le_add h1 h2) (by decide)
  obtain ⟨⟨cls, dd, data, sl⟩, ho, hc, n, hd⟩ := id hl
  obtain ⟨⟨cls2, dd2, data2, sl2⟩, ho2, hc2, n2', hd2⟩ := id hb
  simp only at hc hd hc2 hd2
  subst hc hd hc2 hd2
  have e : vs.toArray ++ ws.toArray = (vs ++ ws).toArray := by simp
  refine concat_meets ⟨_, ho, rfl⟩ ⟨_, ho2, rfl⟩ noFill_list_add seq_list_add PySem.F.slot_list_add PySem.F.entry_list_add (PySem.F.args_list_add_2 _ _) (list_addW l b vs.toArray ws.toArray n n2' dd dd2 sl sl2 (by simpa using len)) ⟨ho, ho2, ?_⟩
  rw [e]
  refine hQ _ _ (kp_push _) ?_
  simp only [Rel]
  exact ⟨_, vs ++ ws, rfl, hm, ⟨_, Heap.get?_push_size _ rfl, rfl, _, rfl⟩, RelL.append (rl1.kept (kp_kept (kp_push _))) (rl2.kept (kp_kept (kp_push _)))⟩
theorem callRight {c : Cx} {l : Loc} {lv' : Nat} {f : Str} {fa P : Addr} {ps₀ : Array Value} {lpos px pos : Pos} {lq : Str} {xs : List Expr} {x : Expr} {ds : List D} {res : D} {av own : List Addr} {s : Shared} {R E : Value → Shared → Prop}
    (H : RIGHT c.prog c.w c.K lv' fa P ps₀ lpos lq ds res) (hlv : lv' + 1 ≤ c.lv) (hx : c.env.kindOf f = some .globalImplicit) (hdb : (f == ("__debug__" : Str)) = false) (hg : nsIn c.K mainGlobals f = some (some (.ref fa))) (ho : ∃ o fd, c.K.lookup fa = some o ∧ o.data = .func fd) (hn : ∀ y ∈ x :: xs, nst y = true) (ha : EVL c l (x :: xs) ds)
    (hP : c.h₀.get? P = none) (hPa : P ∈ av) (hloc : c.env.locals = c.L) (hout : c.outer = []) (XB : c.K.In c.base) (TB : Top c.p c.loose c.mean c.mg c.mb c.base) (hbP : c.base.get? P = none)
    (i : Inv c av own l s) (Tb : Tab ps₀ P lpos lq (own ++ av) s.heap)
    (hR : ∀ v s', Inv c av own l s' → Tab ps₀ P lpos lq (own ++ av) s'.heap → KeptBut (P :: own) s.heap s'.heap → SamS s s' → Rel (own ++ av) s'.heap res v → R v s') :
    wpM true c.M c.A (eval (.Call (.Name f px) (x :: xs) [] pos) c.env) R E s := by
  rw [show eval (.Call (.Name f px) (x :: xs) [] pos) c.env = (do callWith pos (← eval (.Name f px) c.env) [] (backTo pos (starEach (x :: xs) c.env)) []) from rfl]
  refine wm_seq (ev_globV hx hg hdb av own s i _ _ fun vv s₁ k₁ r₁ => ?_)
  simp only [Rel] at r₁
  subst r₁
  have i₁ := i.keeps k₁
  obtain ⟨o, fd, ho, hd⟩ := ho
  have hE : backTo pos (starEach (x :: xs) c.env) = (false, eval x c.env) :: backTo pos (starEach xs c.env) := by rw [nst_each (hn _ (.head _))]; rfl
  refine wm_callWith (o := o) (fd := fd) (by rw [nst_any hn]; rfl) ?_
  rw [hE]
  refine evalArgs_plain ?_
  rw [← hE]
  refine ha av own s₁ i₁ pos _ _ fun vs s₂ k₂ r₂ => ⟨⟨(i₁.keeps k₂).keepK _ _ ho, hd⟩, ?_⟩
  have i₂ := i₁.keeps k₂
  obtain ⟨m, F⟩ := i₂.fr
  have hD := i₂.ok.roomD
  have hU := i₂.ok.roomU
  have hfm : (c.fenv :: c.outer).filterMap (·.frame) = [c.L] := by rw [List.filterMap_cons, i.ok.frame, hout]; rfl
  have hLP : c.L ≠ P := fun z => i.off (z ▸ hPa)
  have hLo : c.L ∈ own := hloc ▸ i.loc.1
  refine H (c.dp + 1) (c.un + 3) c.gd (c.fenv :: c.outer) c.base s₂ c.p c.loose c.mean c.mg c.mb (own ++ av) vs R E (by omega) (by omega) (pushX i₂.ok.below F i₂.ok.frame i₂.ok.fkind) XB TB hbP (fun b hb => ?_) (fun a ha => ⟨i₂.alive a ha, notK i₂ a ha⟩) (List.mem_append_right _ hPa) (fun b hb => ?_) ((Tb.kept (kp_kept k₁)).kept (kp_kept k₂)) r₂ fun v s' cg tb sm rl => ?_
  · rw [hfm] at hb
    obtain ⟨o', es, ep, h1, h2, _⟩ := F.ns
    exact ⟨o', es, ep, List.mem_singleton.mp hb ▸ h1, h2⟩
  · rw [hfm] at hb
    exact List.mem_append_left _ (List.mem_singleton.mp hb ▸ hLo)
  · rw [hfm] at cg
    have oth : ∀ b o, s₂.heap.get? b = some o → b ≠ P → b ≠ c.L → s'.heap.get? b = some o := fun b o e n1 n2 => cg.other b o e n1 (by simpa using n2)
    have ns : ∀ m', s₂.heap.Ns c.L m' → s'.heap.Ns c.L m' := fun m' hn => by
      obtain ⟨o, es, ep, h1, h2, r⟩ := hn
      obtain ⟨sl, h⟩ := cg.frame c.L o h1 (.head _) hLP
      exact ⟨_, es, ep, h, h2, r⟩
    obtain ⟨tk, es⟩ := sm
    have i₃ : Inv c av own l s' := by
      rw [es]
      refine i₂.chg (g := c.h₀) [P, c.L] i.ok ⟨m, ns m F.ns, fun b o e => oth b o (F.keep b o e) (fun z => by rw [z, hP] at e; cases e) (fun z => by rw [z, kts_self F] at e; cases e), F.above⟩ (fun _ e => e) (fun a ha => ?_) (fun b o hb e => ?_) (fun a ha => ?_) (fun m' hn => by rw [hloc] at hn ⊢; exact ns m' hn)
      · rcases List.mem_cons.mp ha with z | z
        · exact .inr (z ▸ hPa)
        · exact .inl ((List.mem_singleton.mp z).trans hloc.symm)
      · exact oth b o e (fun z => hb (z ▸ .head _)) (fun z => hb (z ▸ .tail _ (.head _)))
      · by_cases z : a = P
        · obtain ⟨ps, _, h1, _⟩ := tb
          rw [z, h1]; rfl
        · obtain ⟨o, ho⟩ := Option.isSome_iff_exists.mp ha
          by_cases z' : a = c.L
          · rw [z'] at ho ⊢
            obtain ⟨sl, h⟩ := cg.frame c.L o ho (.head _) hLP
            rw [h]; rfl
          · rw [oth a o ho z z']; rfl
    have ks : Kept s.heap s₂.heap := fun b o e => kp_kept k₂ b o (kp_kept k₁ b o e)
    refine hR v s' i₃ tb (fun b o hb e => oth b o (ks b o e) (fun z => hb (z ▸ .head _)) (fun z => hb (.tail _ (z ▸ hLo)))) ?_ rl
    obtain ⟨h1, t1, rfl, _⟩ := k₁
    obtain ⟨h2, t2, rfl, _⟩ := k₂
    exact ⟨tk, es⟩
end Mine
end
section
open PySem PySem.W PySem.Spec PySem.Calls PyProof.Rows
set_option Elab.async false
set_option linter.unusedVariables false
set_option maxRecDepth 100000
namespace Mine
theorem Tab.but {ps₀ : Array Value} {P : Addr} {lpos : Pos} {q : Str} {own wr : List Addr} {h h' : Heap} (x : Tab ps₀ P lpos q own h) (k : KeptBut wr h h') (hP : P ∉ wr) (hw : ∀ a ∈ wr, a ∈ own) : Tab ps₀ P lpos q own h' := by
  obtain ⟨ps, h0, h1, h2, h3⟩ := x
  refine ⟨ps, h0, k _ _ hP h1, h2, h3.imp id fun ⟨c', e1, ⟨c2, oc, vs, tq, z1, z2, z3, z4⟩, e3, e4⟩ => ?_⟩
  cases z1
  exact ⟨c', e1, ⟨c', oc, vs, tq, rfl, k _ _ (fun z => e4 (hw _ z)) z2, z3, z4⟩, e3, e4⟩
theorem forR {c : Cx} {l : Loc} {target iter : Expr} {body : List Stmt} {pos : Pos} {items : List D} {ps₀ : Array Value} {P : Addr} {lpos : Pos} {lq : Str} {av own : List Addr} {s : Shared} {R : Flow → Shared → Prop} {E : Value → Shared → Prop} (h : ITER c l target iter items) (fz : FrozL items) (J : Loc → Prop) (hJ : J l)
    (turn : ∀ l' d, J l' → d ∈ items → ∃ l'', ASG c target l' d l'' ∧ J l'' ∧ ∀ av own s, P ∈ av → Inv c av own l'' s → Tab ps₀ P lpos lq (own ++ av) s.heap → ∀ (R : Flow → Shared → Prop) (E : Value → Shared → Prop), (∀ s', Inv c av own l'' s' → Tab ps₀ P lpos lq (own ++ av) s'.heap → KeptBut (P :: own) s.heap s'.heap → SamS s s' → R .next s') → wpM true c.M c.A (execs body c.env) R E s)
    (i : Inv c av own l s) (hPa : P ∈ av) (Tb : Tab ps₀ P lpos lq (own ++ av) s.heap) (hs : ∀ env x, foldedSetIterable iter env x = pure x)
    (hR : ∀ l' s', J l' → Inv c av own l' s' → Tab ps₀ P lpos lq (own ++ av) s'.heap → KeptBut (P :: own) s.heap s'.heap → SamS s s' → R .next s') : wpM true c.M c.A (exec (.For target iter body [] pos) c.env) R E s := by
  refine wm_For (h av own s i _ _ fun s₁ I fp wr Pp Md St s₂ k₁ k₂ W hst hfp hwr hlive hP => ?_) (hs _)
  have i₁ := i.keeps k₁
  have wrLive : ∀ b ∈ wr, (s₂.heap.get? b).isSome = true := fun b hb => (hfp b (W.sub b hb)).2
  have i₂ : Inv c (wr ++ av) own l s₂ := i₁.more (kp_kept k₂) fun b hb => ⟨hwr b hb, wrLive b hb⟩
  have wr₀ : ∀ b ∈ wr, c.h₀.get? b = none := fun b hb => by
    obtain ⟨m, F⟩ := i₁.fr
    cases e : c.h₀.get? b with
    | none => rfl
    | some o => have := F.keep b o e; rw [hwr b hb] at this; cases this
  have hPo : P ∉ own := (i.keep P hPa).2.2
  have hPw : P ∉ wr := fun z => by
    have := (i₁.keep P hPa).1
    rw [hwr P z] at this; cases this
  have Tb₂ : Tab ps₀ P lpos lq (own ++ (wr ++ av)) s₂.heap := ((Tb.kept (kp_kept k₁)).sub (fun a ha => by
    rcases List.mem_append.mp ha with z | z
    · exact .inl (List.mem_append_left _ z)
    · rcases List.mem_append.mp z with z | z
      · exact .inr (hwr a z)
      · exact .inl (List.mem_append_right _ z))).kept (kp_kept k₂)
  refine cm_forLoop
    (fun k s' => ∃ j l' tk h', j ≤ items.length ∧ k = items.length + 1 - j ∧ s' = { s₂ with heap := h', toks := tk } ∧ St j h' ∧ KeptBut (P :: (wr ++ own)) s₂.heap h' ∧ (∀ b ∈ wr, (h'.get? b).isSome = true) ∧ Inv c (wr ++ av) own l' s' ∧ J l' ∧ Tab ps₀ P lpos lq (own ++ (wr ++ av)) h') ?_ (items.length + 1)
    ⟨0, l, s₂.toks, s₂.heap, Nat.zero_le _, rfl, rfl, hst, fun _ _ _ e => e, wrLive, i₂, hJ, Tb₂⟩
  rintro k s' ⟨j, l', tk, h', hj, rfl, rfl, hst', hk', hwl', i', hJ', Tb'⟩
  have avLive : ∀ {h₂ : Heap}, KeptBut wr h' h₂ → ∀ b ∈ av, (h₂.get? b).isSome = true := fun kb b hb => by
    obtain ⟨o, ho⟩ := Option.isSome_iff_exists.mp (i'.keep b (List.mem_append_right _ hb)).1
    have nb : b ∉ wr := fun z => by
      have := (i₁.keep b hb).1
      rw [hwr b z] at this; cases this
    rw [kb b o nb ho]; rfl
  by_cases hlt : j < items.length
  · refine W.item j _ _ _ hlt hst' fun v' h₁ tk₁ hMd hk₁ => ?_
    refine W.go j v' _ _ _ hMd fun h₂ hPv hst₂ hk₂ => ?_
    have hd : items[j]? = some items[j] := List.getElem?_eq_getElem hlt
    obtain ⟨l₁, hasg, hJ₁, hbody⟩ := turn l' items[j] hJ' (List.getElem_mem hlt)
    have kb : KeptBut wr h' h₂ := fun b o hb e => hk₂ b o hb (hk₁ b o hb e)
    have wl₂ : ∀ b ∈ wr, (h₂.get? b).isSome = true := fun b hb => hlive (j + 1) h₂ hst₂ b (W.sub b hb)
    have i₃ : Inv c (wr ++ av) own l' { s₂ with heap := h₂, toks := tk₁ } := Inv.butAv (wr := wr) (s := { s₂ with heap := h', toks := tk }) i' (fun b hb => List.mem_append_left _ hb) wr₀ kb (fun b hb => ⟨hb, by
      rcases List.mem_append.mp hb with z | z
      · exact wl₂ b z
      · exact avLive kb b z⟩)
    have Tb₃ : Tab ps₀ P lpos lq (own ++ (wr ++ av)) h₂ := Tb'.but kb hPw fun a ha => List.mem_append_right _ (List.mem_append_left _ ha)
    have fd : Froz items[j] := fz.get hd
    have hk₂' : KeptBut (P :: (wr ++ own)) s₂.heap h₂ := fun b o hb e => kb b o (fun z => hb (.tail _ (List.mem_append_left _ z))) (hk' b o hb e)
    have it : ItemAt (own ++ (wr ++ av)) h₂ h₂ items[j] v' := by
      refine ItemAt.step (mu := own ++ av) (own := P :: (wr ++ own)) (h₂ := s₁.heap) fd (fun b o hb e => hk₂' b o hb (kp_kept k₂ b o e)) (fun a z => ?_) (fun a z => ?_) (hP j v' h₂ _ hPv hd)
      · rcases List.mem_cons.mp z with z | z
        · exact .inl (List.mem_append_right _ (z ▸ hPa))
        · rcases List.mem_append.mp z with z | z
          · exact .inr (hwr a z)
          · exact .inl (List.mem_append_left _ z)
      · rcases List.mem_append.mp z with z | z
        · exact .inl (List.mem_append_left _ z)
        · rcases List.mem_append.mp z with z | z
          · exact .inr (hwr a z)
          · exact .inl (List.mem_append_right _ z)
    refine hasg (wr ++ av) own _ v' _ _ i₃ it fd fun s₄ st₄ i₄ => ?_
    refine hbody (wr ++ av) own s₄ (List.mem_append_right _ hPa) i₄ (Tb₃.step st₄ hPo) _ _ fun s₅ i₅ tb₅ kb₅ sm₅ => ?_
    obtain ⟨h4, tk4, e₄⟩ := st₄.same
    obtain ⟨tk₅, e₅⟩ := sm₅
    have e₅' : s₅ = { s₂ with heap := s₅.heap, toks := tk₅ } := by rw [e₅, e₄]
    refine ⟨items.length + 1 - (j + 1), by omega, j + 1, l₁, tk₅, s₅.heap, hlt, rfl, e₅', W.frame (j + 1) h₂ s₅.heap hst₂ (fun b hb o e => ?_), fun b o hb e => ?_, fun b hb => (i₅.keep b (List.mem_append_left _ hb)).1, i₅, hJ₁, tb₅⟩
    · have nb := (hfp b hb).1
      exact kb₅ b o (fun z => (List.mem_cons.mp z).elim (fun z => nb (List.mem_append_right _ (z ▸ hPa))) fun z => nb (List.mem_append_left _ z)) (st₄.kept b o (fun z => nb (List.mem_append_left _ z)) e)
    · have no : b ∉ own := fun z => hb (.tail _ (List.mem_append_right _ z))
      exact kb₅ b o (fun z => (List.mem_cons.mp z).elim (fun z => hb (z ▸ .head _)) no) (st₄.kept b o no (hk₂' b o hb e))
  · have hje : j = items.length := by omega
    subst hje
    refine W.done _ _ _ hst' fun h₁ tk₁ hk₁ => ?_
    have i₃ : Inv c av own l' { s₂ with heap := h₁, toks := tk₁ } := Inv.butAv (wr := wr) (s := { s₂ with heap := h', toks := tk }) i' (fun b hb => List.mem_append_left _ hb) wr₀ hk₁ (fun b hb => ⟨List.mem_append_right _ hb, avLive hk₁ b hb⟩)
    refine wpAny_pure (hR l' _ hJ' i₃ ?_ (fun b o hb e => ?_) ?_)
    · exact (Tb'.but hk₁ hPw fun a ha => List.mem_append_right _ (List.mem_append_left _ ha)).sub fun a ha => .inl ((List.mem_append.mp ha).elim (List.mem_append_left _) fun z => List.mem_append_right _ (List.mem_append_right _ z))
    · have e1 := kp_kept k₁ b o e
      have nb : b ∉ wr := fun z => by rw [hwr b z] at e1; cases e1
      exact hk₁ b o nb (hk' b o (fun z => (List.mem_cons.mp z).elim (fun z => hb (z ▸ .head _)) fun z => (List.mem_append.mp z).elim nb fun z => hb (.tail _ z)) (kp_kept k₂ b o e1))
    · obtain ⟨h1, t1, rfl, _⟩ := k₁
      obtain ⟨h2, t2, rfl, _⟩ := k₂
      exact ⟨tk₁, rfl⟩
end Mine
end
section
open PySem PySem.W PySem.Spec PySem.Calls PyProof.Rows
set_option Elab.async false
set_option linter.unusedVariables false
set_option maxRecDepth 100000
namespace Mine
theorem wm_isTrue_notCall {b : Bool} {prog : Program} {w : World} {A : Around} {E : Value → Shared → Prop} {s : Shared} {env : PySem.Env} {f : Expr} {xs : List Expr} {pos pos' : Pos} {whole : Sem Value} {Q : Bool → Shared → Prop} (h : wpM b (model prog w) A (eval (.Call f xs [] pos) env) (fun v s' => v = .bool true ∧ Q false s') E s) :
    wpM b (model prog w) A (isTrue (.UnaryOp .Not (.Call f xs [] pos) pos') env whole) Q E s := by
  rw [arm_isTrue_UnaryOp]
  show wpM b _ A (do let v ← (do let v ← eval (.Call f xs [] pos) env; standAt (Expr.pos (.Call f xs [] pos)); holding [v] (truthy v)); pure (!v)) Q E s
  refine wm_bind (wm_bind (wm_mono h (fun v s' q => ?_) fun _ _ z => z))
  obtain ⟨rfl, q⟩ := q
  exact wm_seq (wpAny_standAt (wm_holding (wm_of (wpAny_truthy_bool (wm_pure q)))))
theorem lawX {prog : Program} {w : World} {K : Frag} {lv lvr : Nat} {f fr P : Addr} {S : Scope} {ns : List Str} {sn nn vn rn name qual : Str} {params : Arguments} {ea eb ec : Expr} {ra rb rc : RE} {script items : List D} {fig : D → D} {dV kV doc pm cdv ct oc : Value} {an od : Option Addr} {osl : Array (Option Value)} {ps₀ : Array Value} {lpos : Pos} {lq : Str} {k1 k2 : Nat} {q1 q2 q3 q4 q5 q6 q7 q8 q9 q10 q11 q12 q13 q14 : Pos}
    (ok : XOk ⟨prog, w, K, lv, true⟩) (hlv : lvr + 1 ≤ lv)
    (ho : K.lookup f = some ⟨oc, od, .func (fnOf name qual params [.Assign [.Name nn q1] (.BinOp ea .Add eb q2) q3, .For (.Name vn q4) (.Name nn q5) [.If (.UnaryOp .Not (.Call (.Name rn q6) [ec] [] q7) q8) [.Return (some (.Constant (.bool false) k1 q9)) q10] [] q11] [] q12, .Return (some (.Constant (.bool true) k2 q13)) q14] S dV kV doc pm an cdv ct), osl⟩) (hcd : codeIn K cdv qual = true)
    (hb : ∀ (s : Shared) (v : Value), BindsTo s (fnOf name qual params [.Assign [.Name nn q1] (.BinOp ea .Add eb q2) q3, .For (.Name vn q4) (.Name nn q5) [.If (.UnaryOp .Not (.Call (.Name rn q6) [ec] [] q7) q8) [.Return (some (.Constant (.bool false) k1 q9)) q10] [] q11] [] q12, .Return (some (.Constant (.bool true) k2 q13)) q14] S dV kV doc pm an cdv ct) ⟨[v], []⟩ [(sn, v)])
    (hns : ns = [sn, nn, vn] ++ ns.drop 3) (hck : fnChk S [sn] = true) (hz : frozB.frozBs script = true) (hzi : frozB.frozBs items = true)
    (ca : chk ns ra S true ea = true) (cb : chk ns rb S true eb = true) (cc : chk ns rc S true ec = true) (hnn : storeAt S ns 1 nn = true) (hvn : storeAt S ns 2 vn = true) (hrn : glob S rn = true) (hrg : nsIn K mainGlobals rn = some (some (.ref fr))) (hro : ∃ o fd, K.lookup fr = some o ∧ o.data = .func fd) (hec : nst ec = true)
    (hnd1 : (nn == ("__debug__" : Str)) = false)
    (hKP : K.lookup P = none)
    (hab : ∃ xs ys, wp ⟨prog, w, K, lv, true⟩ ra .v [some (.lst script), none, none, none] (fun d => d = .lst xs) ∧ wp ⟨prog, w, K, lv, true⟩ rb .v [some (.lst script), none, none, none] (fun d => d = .lst ys) ∧ xs.length ≤ 1000 ∧ ys.length ≤ 1000 ∧ items = xs ++ ys)
    (hc : ∀ d ∈ items, (∀ ds, d ≠ .tup ds) ∧ wp ⟨prog, w, K, lv, true⟩ rc .v [some (.lst script), some (.lst items), some d, none] (fun r => r = fig d) ∧ RIGHT prog w K lvr fr P ps₀ lpos lq [fig d] (.bool true))
    {dp un : Nat} {gd : Option (List Code)} {s : Shared} {p : Program} {loose : List Str} {mean : ExcName → Option Value} {mg mb : Str → Option Value} {v : Value} {R E : Value → Shared → Prop} (hD : dp + 1 + lv < recursionLimit) (hU : un + 3 + 20 * lv + 60 < cLine) (B : Below (aTop dp un gd []) (hideAll s.heap [P]) [] (hideAll s.heap [P])) (X : K.In s.heap) (T : Top p loose mean mg mb (hideAll s.heap [P])) (nl : s.heap.NoLimit)
    (Tb : Tab ps₀ P lpos lq [P] s.heap) (r : Rel [P] s.heap (.lst script) v)
    (hR : ∀ s', KeptBut [P] s.heap s'.heap → Tab ps₀ P lpos lq [P] s'.heap → SamS s s' → R (.bool true) s') : wpM true (model prog w) (aTop dp un gd []) (call (.ref f) [v]) R E s := by
  obtain ⟨h1, h2, h3, h4, h5, h6⟩ := fnChk_out hck
  have hPt : ∃ ps, s.heap.get? P = some (tabObj ps) := by obtain ⟨ps, _, h1, _⟩ := Tb; exact ⟨ps, h1⟩
  have X' : K.In (hideAll s.heap [P]) := fun a o e => hide_get (X a o e) (fun z => by rw [z, hKP] at e; cases e)
  refine wm_call (cm_call (o := _) (fd := fnOf name qual params _ S dV kV doc pm an cdv ct) (Nat.lt_of_le_of_lt (by show dp ≤ dp + 1 + lv; omega) hD) (X _ _ ho) rfl h3 h4 rfl (codeRec_of X hcd) (hb s v _ _ _ _ ?_))
  have hkind : ∀ x ∈ [sn], S.names.lookup x = some .local ∨ (S.names.lookup x = some .cell ∧ ((cellsFrom (s.heap.objs.size + 1) S.names []).lookup x).isSome = true) := fun x hx => (h1 x hx).imp id fun q => ⟨q, cellsFrom_some S.names _ [] (.inl q)⟩
  refine wpAny_newFunctionEnv_cells h5 (fun x hx => hkind x.1 (by rw [List.mem_singleton.mp hx]; exact .head _)) fun env' he s₁ xc => ?_
  subst he
  refine ⟨nl.keeps xc.toInCall.keep, cm_func ?_⟩
  have i := startC (prog := prog) (w := w) (lv := lv) (qual := qual) (f := f) (cdv := cdv) (names := [sn]) (args := [.lst script]) (vs := [v]) (av := [P]) hD hU (fun b o e => of_hideAll _ e) (hideAll_size _ _) B X' T (fun a ha => by
    obtain ⟨ps, e⟩ := hPt
    rw [List.mem_singleton.mp ha, e]; exact ⟨rfl, hKP⟩) (by simp only [RelL]; exact ⟨v, [], rfl, r, rfl⟩) (frozs_of (show frozB.frozBs [.lst script] = true by show (frozB.frozBs script && true) = true; rw [hz]; rfl)) h5 hkind rfl h2 h6 xc
  have ce : CE ⟨prog, w, K, lv, true⟩ S ⟨prog, w, K, p, loose, mean, mg, mb, dp, un, lv, gd, [], hideAll s.heap [P], hideAll s.heap [P], s.heap.objs.size, envOfC qual S s.heap.objs.size f cdv, envOfC qual S s.heap.objs.size f cdv⟩ := ⟨rfl, rfl, rfl, rfl, fun x hx => hx⟩
  have cf : CF S ⟨prog, w, K, p, loose, mean, mg, mb, dp, un, lv, gd, [], hideAll s.heap [P], hideAll s.heap [P], s.heap.objs.size, envOfC qual S s.heap.objs.size f cdv, envOfC qual S s.heap.objs.size f cdv⟩ := ⟨rfl, rfl, rfl⟩
  have ag : Agr ns [some (.lst script), none, none, none] ([sn].zip [.lst script]) := fun j d h => by
    cases j with
    | zero => exact ⟨sn, by rw [hns]; rfl, by rw [← Option.some.inj (show some (D.lst script) = some d from h)]; exact if_pos rfl⟩
    | succ j => exact absurd h (nth_nil (k := 3))
  obtain ⟨xs, ys, wa, wb, l1, l2, rfl⟩ := hab
  obtain ⟨_, e1, rfl⟩ := snd ok ra ce (fun _ => cf) ag ca wa
  obtain ⟨_, e2, rfl⟩ := snd ok rb ce (fun _ => cf) ag cb wb
  obtain ⟨hn1, hn2⟩ := and2 hnn
  obtain ⟨hv1, hv2⟩ := and2 hvn
  obtain ⟨hr1, hr2⟩ := glob_out hrn
  have hP₀ : (hideAll s.heap [P]).get? P = none := hideAll_none _ (.head _)
  have fresh : ∀ a ∈ s.heap.objs.size :: (cellsFrom (s.heap.objs.size + 1) S.names []).map (·.2), s.heap.get? a = none := fun a ha => by
    cases e : s.heap.get? a with
    | none => rfl
    | some o =>
      have h1 := (i.mine a ha).1
      rw [hide_get e (fun (z : a = P) => (i.keep P (.head _)).2.2 (z ▸ ha))] at h1; cases h1
  have hPo := (i.keep P (.head _)).2.2
  have Tb₁ := (Tb.sub (own' := (s.heap.objs.size :: (cellsFrom (s.heap.objs.size + 1) S.names []).map (·.2)) ++ [P]) fun a ha => (List.mem_append.mp ha).elim (fun z => .inr (fresh a z)) .inl).kept xc.toInCall.keep
  refine wm_execs_cons (wm_Assign (wm_of (ev_bin e1 e2 (bin_addL l1 l2) [P] _ _ i _ _ fun v' s' kk rr => storeN (i.keeps kk) (slot_of cf hn2) (d := .lst (xs ++ ys)) rr (froz_of (show frozB.frozBs (xs ++ ys) = true from hzi)) fun s₂ st₂ i₂ => ?_)) (by rfl))
  have st₂' := (Step.of kk).trans st₂
  have ag₁ : Agr ns [some (.lst script), some (.lst (xs ++ ys)), none, none] (put ([sn].zip [.lst script]) nn (.lst (xs ++ ys))) := agr_upd ag hn1
  obtain ⟨x, hx, hg⟩ := ag₁ 1 _ rfl
  rw [(uniq_out hn1).1] at hx
  cases hx
  obtain ⟨_, hsrc, rfl⟩ := src_out (c := ⟨prog, w, K, p, loose, mean, mg, mb, dp, un, lv, gd, [], hideAll s.heap [P], hideAll s.heap [P], s.heap.objs.size, envOfC qual S s.heap.objs.size f cdv, envOfC qual S s.heap.objs.size f cdv⟩) (x := .lst (xs ++ ys)) (K := fun ds => ds = xs ++ ys) rfl
  refine wm_execs_cons (forR (it_ev (ev_name hg hnd1) (src_w hsrc)) (frozs_of hzi) (fun l' => ∃ o, Agr ns [some (.lst script), some (.lst (xs ++ ys)), o, none] l') ⟨none, ag₁⟩ (fun l' d hJ hd => ?_) i₂ (.head _) (Tb₁.step st₂' hPo) (fun _ _ => rfl) fun l' s₃ _ i₃ tb₃ kb₃ sm₃ => ?_)
  · obtain ⟨o, agl⟩ := hJ
    obtain ⟨hnt, wc, HR⟩ := hc d hd
    have agd : Agr ns [some (.lst script), some (.lst (xs ++ ys)), some d, none] (put l' vn d) := agr_upd agl hv1
    refine ⟨put l' vn d, asg_name (slot_of cf hv2) hnt rfl, ⟨some d, agd⟩, fun av own s₄ hPa i₄ tb₄ R' E' hR' => ?_⟩
    obtain ⟨_, e3, rfl⟩ := snd ok rc ce (fun _ => cf) agd cc wc
    refine wm_execs_cons (wm_If (wm_isTrue_notCall (callRight HR hlv hr1 hr2 hrg hro (fun y hy => by rw [List.mem_singleton.mp hy]; exact hec) (evl_cons e3 evl_nil (nst_each hec)) hP₀ hPa rfl rfl X' T hP₀ i₄ tb₄ fun v₅ s₅ i₅ tb₅ kb₅ sm₅ rl₅ => ⟨by simpa only [Rel] using rl₅, ?_⟩)))
    exact wm_pure (wm_pure (hR' s₅ i₅ tb₅ kb₅ sm₅))
  · refine wm_execs_cons (wm_Return (wm_of (wpAny_Constant_bool (hR s₃ (fun b o hb e => ?_) (tb₃.sub fun a ha => .inl (List.mem_append_right _ ha)) ?_))))
    · have nb : b ∉ s.heap.objs.size :: (cellsFrom (s.heap.objs.size + 1) S.names []).map (·.2) := fun z => by rw [fresh b z] at e; cases e
      exact kb₃ b o (fun z => (List.mem_cons.mp z).elim (fun z => hb (z ▸ .head _)) nb) (st₂'.kept b o nb (xc.toInCall.keep b o e))
    · obtain ⟨h₁, tk₁, e₁⟩ := xc.toInCall.same
      obtain ⟨h', tk', e'⟩ := st₂'.same
      obtain ⟨t3, e3⟩ := sm₃
      exact ⟨t3, by rw [e3, e', e₁]⟩
end Mine
end
section
open PySem PySem.W PyProof.Rows
set_option Elab.async false
namespace Mine
set_option maxRecDepth 100000 in
set_option maxHeartbeats 0 in
noncomputable def hz : { C : Prop // Later C → PySem.Challenge.rw_op0036_01.Holds } := by
  refine ⟨?C, fun hc => ?f⟩
  case f =>
    w_on; refine holds_law (by kernel_rfl) fun said => ?_; z_head
    (case hw => w_witness2)
    exact hc.h
end Mine
end
section
open PySem PySem.W PySem.Spec PySem.Calls PyProof.Rows
set_option Elab.async false
set_option maxRecDepth 100000
namespace Mine
noncomputable def KF (P : Params) : Frag :=
  (nat_lit 0, hz.zo_1 P) :: (nat_lit 1, hz.zo_2 P) :: (nat_lit 2, hz.zo_3 P) :: (nat_lit 3, hz.zo_4 P) :: (nat_lit 4, hz.zo_5 P) :: (nat_lit 5, hz.zo_6 P) :: (nat_lit 6, hz.zo_7 P) :: (nat_lit 7, hz.zo_8 P) :: (nat_lit 8, hz.zo_9 P) :: (nat_lit 9, hz.zo_10 P) :: (nat_lit 10, hz.zo_11 P) :: (nat_lit 11, hz.zo_12 P) :: (nat_lit 12, hz.zo_13 P) :: (nat_lit 13, hz.zo_14 P) :: (nat_lit 14, hz.zo_15 P) :: (nat_lit 15, hz.zo_16 P) :: (nat_lit 16, hz.zo_17 P) :: (nat_lit 17, hz.zo_18 P) :: (nat_lit 18, hz.zo_19 P) :: (nat_lit 19, hz.zo_20 P) :: (nat_lit 20, hz.zo_21 P) :: (nat_lit 21, hz.zo_22 P) :: (nat_lit 22, hz.zo_23 P) :: (nat_lit 29, hz.zo_24 P) :: (nat_lit 30, hz.zo_25 P) :: (nat_lit 31, hz.zo_26 P) :: (nat_lit 32, hz.zo_27 P) :: (nat_lit 35, hz.zo_28 P) :: (nat_lit 42, hz.zo_29 P) :: (nat_lit 43, hz.zo_30 P) :: (nat_lit 44, hz.zo_31 P) :: (nat_lit 47, hz.zo_32 P) :: (nat_lit 54, hz.zo_33 P) :: (nat_lit 55, hz.zo_34 P) :: (nat_lit 56, hz.zo_35 P) :: (nat_lit 59, hz.zo_36 P) :: (nat_lit 60, hz.zo_37 P) :: (nat_lit 61, hz.zo_38 P) :: (nat_lit 62, hz.zo_39 P) :: (nat_lit 63, hz.zo_40 P) :: (nat_lit 64, hz.zo_41 P) :: (nat_lit 65, hz.zo_42 P) :: (nat_lit 66, hz.zo_43 P) :: (nat_lit 67, hz.zo_44 P) :: (nat_lit 68, hz.zo_45 P) :: (nat_lit 69, hz.zo_46 P) :: (nat_lit 70, hz.zo_47 P) :: (nat_lit 71, hz.zo_48 P) :: (nat_lit 72, hz.zo_49 P) :: (nat_lit 73, hz.zo_50 P) :: (nat_lit 74, hz.zo_51 P) :: (nat_lit 75, hz.zo_52 P) :: (nat_lit 76, hz.zo_53 P) :: (nat_lit 77, hz.zo_54 P) :: (nat_lit 78, hz.zo_55 P) :: (nat_lit 79, hz.zo_56 P) :: (nat_lit 80, hz.zo_57 P) :: (nat_lit 81, hz.zo_58 P) :: (nat_lit 82, hz.zo_59 P) :: (nat_lit 83, hz.zo_60 P) :: (nat_lit 84, hz.zo_61 P) :: (nat_lit 85, hz.zo_62 P) :: (nat_lit 86, hz.zo_63 P) :: (nat_lit 87, hz.zo_64 P) :: (nat_lit 88, hz.zo_65 P) :: (nat_lit 89, hz.zo_66 P) :: (nat_lit 90, hz.zo_67 P) :: (nat_lit 91, hz.zo_68 P) :: (nat_lit 92, hz.zo_69 P) :: (nat_lit 93, hz.zo_70 P) :: (nat_lit 94, hz.zo_71 P) :: (nat_lit 95, hz.zo_72 P) :: (nat_lit 96, hz.zo_73 P) :: (nat_lit 97, hz.zo_74 P) :: (nat_lit 98, hz.zo_75 P) :: (nat_lit 99, hz.zo_76 P) :: (nat_lit 100, hz.zo_77 P) :: (nat_lit 101, hz.zo_78 P) :: (nat_lit 102, hz.zo_79 P) :: (nat_lit 103, hz.zo_80 P) :: (nat_lit 104, hz.zo_81 P) :: (nat_lit 105, hz.zo_82 P) :: (nat_lit 106, hz.zo_83 P) :: (nat_lit 107, hz.zo_84 P) :: (nat_lit 108, hz.zo_85 P) :: (nat_lit 109, hz.zo_86 P) :: (nat_lit 110, hz.zo_87 P) :: (nat_lit 111, hz.zo_88 P) :: (nat_lit 112, hz.zo_89 P) :: (nat_lit 113, hz.zo_90 P) :: (nat_lit 114, hz.zo_91 P) :: (nat_lit 115, hz.zo_92 P) :: (nat_lit 116, hz.zo_93 P) :: (nat_lit 117, hz.zo_94 P) :: (nat_lit 118, hz.zo_95 P) :: (nat_lit 119, hz.zo_96 P) :: (nat_lit 120, hz.zo_97 P) :: (nat_lit 121, hz.zo_98 P) :: (nat_lit 122, hz.zo_99 P) :: (nat_lit 123, hz.zo_100 P) :: (nat_lit 124, hz.zo_101 P) :: (nat_lit 125, hz.zo_102 P) :: (nat_lit 126, hz.zo_103 P) :: (nat_lit 127, hz.zo_104 P) :: (nat_lit 128, hz.zo_105 P) :: (nat_lit 129, hz.zo_106 P) :: (nat_lit 130, hz.zo_107 P) :: (nat_lit 131, hz.zo_108 P) :: (nat_lit 132, hz.zo_109 P) :: (nat_lit 133, hz.zo_110 P) :: (nat_lit 134, hz.zo_111 P) :: (nat_lit 135, hz.zo_112 P) :: (nat_lit 136, hz.zo_113 P) :: (nat_lit 137, hz.zo_114 P) :: (nat_lit 138, hz.zo_115 P) :: (nat_lit 139, hz.zo_116 P) :: (nat_lit 140, hz.zo_117 P) :: (nat_lit 141, hz.zo_118 P) :: (nat_lit 142, hz.zo_119 P) :: (nat_lit 143, hz.zo_120 P) :: (nat_lit 144, hz.zo_121 P) :: (nat_lit 145, hz.zo_122 P) :: (nat_lit 146, hz.zo_123 P) :: (nat_lit 147, hz.zo_124 P) :: (nat_lit 148, hz.zo_125 P) :: (nat_lit 149, hz.zo_126 P) :: (nat_lit 150, hz.zo_127 P) :: (nat_lit 151, hz.zo_128 P) :: (nat_lit 152, hz.zo_129 P) :: (nat_lit 153, hz.zo_130 P) :: (nat_lit 154, hz.zo_131 P) :: (nat_lit 155, hz.zo_132 P) :: (nat_lit 156, hz.zo_133 P) :: (nat_lit 157, hz.zo_134 P) :: (nat_lit 158, hz.zo_135 P) :: (nat_lit 159, hz.zo_136 P) :: (nat_lit 160, hz.zo_137 P) :: (nat_lit 161, hz.zo_138 P) :: (nat_lit 162, hz.zo_139 P) :: (nat_lit 163, hz.zo_140 P) :: (nat_lit 164, hz.zo_141 P) :: (nat_lit 165, hz.zo_142 P) :: (nat_lit 166, hz.zo_143 P) :: (nat_lit 167, hz.zo_144 P) :: (nat_lit 168, hz.zo_145 P) :: (nat_lit 169, hz.zo_146 P) :: (nat_lit 170, hz.zo_147 P) :: (nat_lit 171, hz.zo_148 P) :: (nat_lit 172, hz.zo_149 P) :: (nat_lit 173, hz.zo_150 P) :: (nat_lit 174, hz.zo_151 P) :: (nat_lit 175, hz.zo_152 P) :: (nat_lit 176, hz.zo_153 P) :: (nat_lit 177, hz.zo_154 P) :: (nat_lit 178, hz.zo_155 P) :: (nat_lit 179, hz.zo_156 P) :: (nat_lit 180, hz.zo_157 P) :: (nat_lit 181, hz.zo_158 P) :: (nat_lit 183, hz.zo_160 P) :: (nat_lit 184, hz.zo_161 P) :: (nat_lit 185, hz.zo_162 P) :: (nat_lit 186, hz.zo_163 P) :: (nat_lit 187, hz.zo_164 P) :: (nat_lit 188, hz.zo_165 P) :: (nat_lit 189, hz.zo_166 P) :: (nat_lit 190, hz.zo_167 P) :: []
theorem KF_eq (P : Params) : KF P = (hz.heap_167 P).filter fun q => !(Nat.beq q.1 182) := by kernel_rfl
theorem lookup_filter {p : Addr × Obj → Bool} {a : Addr} {o : Obj} : ∀ {l : List (Addr × Obj)}, (l.filter p).lookup a = some o → (∀ x y, p (a, x) = p (a, y)) → p (a, o) = true ∧ (l.lookup a = some o)
  | [], h, _ => by cases h
  | (b, x) :: r, h, hp => by
    rw [List.filter_cons] at h
    by_cases q : a = b
    · subst q
      by_cases hx : p (a, x) = true
      · rw [if_pos hx, List.lookup_cons, beq_self_eq_true] at h
        rw [List.lookup_cons, beq_self_eq_true]
        exact ⟨(hp _ _).trans hx, h⟩
      · rw [if_neg hx] at h
        have := (lookup_filter h hp).1
        rw [hp o x] at this
        exact absurd this hx
    · have e : (a == b) = false := by simpa using q
      rw [List.lookup_cons, e]
      by_cases hx : p (b, x) = true
      · rw [if_pos hx, List.lookup_cons, e] at h
        exact lookup_filter h hp
      · rw [if_neg hx] at h
        exact lookup_filter h hp
theorem KF_in {P : Params} {h : Heap} (X : (hz.heap_167 P).In h) : (KF P).In h := fun a o e => by
  rw [KF_eq] at e
  exact X a o (lookup_filter e fun _ _ => rfl).2
theorem KF_off {P : Params} : (KF P).lookup 182 = none := by
  cases e : (KF P).lookup 182 with
  | none => rfl
  | some o =>
    rw [KF_eq] at e
    exact absurd (lookup_filter e fun _ _ => rfl).1 Bool.false_ne_true
end Mine
end
section
open PySem PySem.W PySem.Spec PySem.Calls PyProof.Rows
set_option Elab.async false
set_option linter.unusedVariables false
set_option maxRecDepth 100000
namespace Mine
noncomputable abbrev X1 (w : World) (lv : Nat) : Fx := ⟨PySem.Challenge.rw_op0036_01.row.prog, w, KF w.params, lv, false⟩
noncomputable def a_error_reply : Addr := 44
noncomputable def a_error_proto : Addr := 56
noncomputable def d_B64 : D := .bytes b64tab.toArray
noncomputable def rows (l : List (Int × String)) : D := .tup (l.map fun p => .tup [.int p.1, .str (Str.ofString p.2)])
noncomputable def d_table : D := .tup [rows [(40960, "l"), (49152, "s"), (32768, "-"), (24576, "b"), (16384, "d"), (8192, "c"), (4096, "p")], rows [(256, "r")], rows [(128, "w")], rows [(2112, "s"), (2048, "S"), (64, "x")], rows [(32, "r")], rows [(16, "w")], rows [(1032, "s"), (1024, "S"), (8, "x")], rows [(4, "r")], rows [(2, "w")], rows [(513, "t"), (512, "T"), (1, "x")]]
noncomputable def ns_parse229 : List Str := ["resp", "peer", "left", "right", "parts", "host", "port"]
noncomputable def r_parse229 : RS :=
  (.ite (.cmp .NotEq (.cut (.v 0) .none (.int 3) false true) (.str "229"))
  (.rse "error_reply" a_error_reply (.v 0))
  .done
  (.set 2 (.me .find (.v 0) (.cons (.str "(") .nil))
  (.ite (.cmp .Lt (.v 2) (.int 0))
  (.rse "error_proto" a_error_proto (.v 0))
  .done
  (.set 3 (.me .find (.v 0) (.cons (.str ")") (.cons (.bin .Add (.v 2) (.int 1)) .nil)))
  (.ite (.cmp .Lt (.v 3) (.int 0))
  (.rse "error_proto" a_error_proto (.v 0))
  .done
  (.ite (.cmp .NotEq (.sub (.v 0) (.bin .Add (.v 2) (.int 1))) (.sub (.v 0) (.bin .Sub (.v 3) (.int 1))))
  (.rse "error_proto" a_error_proto (.v 0))
  .done
  (.set 4 (.me .split (.cut (.v 0) (.bin .Add (.v 2) (.int 1)) (.v 3) true true) (.cons (.sub (.v 0) (.bin .Add (.v 2) (.int 1))) .nil))
  (.ite (.cmp .NotEq (.bc .len (.cons (.v 4) .nil)) (.int 5))
  (.rse "error_proto" a_error_proto (.v 0))
  .done
  (.set 5 (.sub (.v 1) (.int 0))
  (.seti 6 (.sub (.v 4) (.int 3))
  (.ret (.tup (.cons (.v 5) (.cons (.v 6) .nil))))))))))))))
noncomputable def ns_buffer : List Str := ["data", "t"]
noncomputable def r_buffer : RS :=
  (.set 1 (.bc .type (.cons (.v 0) .nil))
  (.ite (.cmp .Is (.v 1) (.b .bytes))
  (.ret (.v 0))
  .done
  (.ite (.cmp .Is (.v 1) (.b .bytearray))
  (.ret (.bc .bytes (.cons (.v 0) .nil)))
  .done
  .fls)))
noncomputable def ns_truth : List Str := ["x", "t"]
noncomputable def r_truth : RS :=
  (.set 1 (.bc .type (.cons (.v 0) .nil))
  (.ite (.or (.cons (.cmp .Is (.v 0) .none) (.cons (.cmp .Is (.v 1) (.b .bool)) (.cons (.cmp .Is (.v 1) (.b .int)) (.cons (.cmp .Is (.v 1) (.b .float)) (.cons (.cmp .Is (.v 1) (.b .complex)) (.cons (.cmp .Is (.v 1) (.b .str)) (.cons (.cmp .Is (.v 1) (.b .bytes)) (.cons (.cmp .Is (.v 1) (.b .bytearray)) (.cons (.cmp .Is (.v 1) (.b .list)) (.cons (.cmp .Is (.v 1) (.b .tuple)) (.cons (.cmp .Is (.v 1) (.b .dict)) (.cons (.cmp .Is (.v 1) (.b .set)) (.cons (.cmp .Is (.v 1) (.b .frozenset)) (.cons (.cmp .Is (.v 1) (.b .range)) .nil)))))))))))))))
  (.ret (.ite (.v 0) (.bool true) (.bool false)))
  .done
  .fls))
noncomputable def ns_b2a_base64 : List Str := ["data", "newline", "bin_data", "out", "leftbits", "leftchar", "b"]
noncomputable def r_b2a_base64 : RS :=
  (.set 2 (.fc "_buffer" (.cons (.v 0) .nil))
  (.set 1 (.fc "_truth" (.cons (.v 1) .nil))
  (.new 3 .nil
  (.set 4 (.int 0)
  (.set 5 (.int 0)
  (.for_ [6] false (.v 2)
  (.set 5 (.bin .BitAnd (.bin .BitOr (.bin .LShift (.v 5) (.int 8)) (.v 6)) (.int 65535))
  (.set 4 (.bin .Add (.v 4) (.int 8))
  (.while_ (.cmp .GtE (.v 4) (.int 6))
  (.app 3 (.sub (.g "_B64" d_B64) (.bin .BitAnd (.bin .RShift (.v 5) (.bin .Sub (.v 4) (.int 6))) (.int 63)))
  (.set 4 (.bin .Sub (.v 4) (.int 6))
  .done))
  .done
  .done)))
  .done
  (.ite (.cmp .Eq (.v 4) (.int 2))
  (.app 3 (.sub (.g "_B64" d_B64) (.bin .LShift (.bin .BitAnd (.v 5) (.int 3)) (.int 4)))
  (.app 3 (.int 61)
  (.app 3 (.int 61)
  .done)))
  (.ite (.cmp .Eq (.v 4) (.int 4))
  (.app 3 (.sub (.g "_B64" d_B64) (.bin .LShift (.bin .BitAnd (.v 5) (.int 15)) (.int 2)))
  (.app 3 (.int 61)
  .done))
  .done
  .done)
  (.ite (.v 1)
  (.app 3 (.int 10)
  .done)
  .done
  (.frz 3 (.ret (.bc .bytes (.cons (.v 3) .nil))))))))))))
noncomputable def ns_b64encode : List Str := ["s", "altchars", "encoded"]
noncomputable def r_b64encode : RS :=
  (.set 2 (.fk "b2a_base64" (.cons (.v 0) .nil) "newline" (.bool false))
  (.ite (.cmp .IsNot (.v 1) .none)
  (.asrt (.cmp .Eq (.bc .len (.cons (.v 1) .nil)) (.int 2))
  (.ret (.me .translate (.v 2) (.cons (.mt (.cons (.byt [43, 47]) (.cons (.v 1) .nil))) .nil))))
  .done
  (.ret (.v 2))))
noncomputable def r_S_IFMT : RS :=
  (.ret (.bin .BitAnd (.v 0) (.int 61440)))
noncomputable def ns_filemode : List Str := ["mode", "perm", "index", "table", "bit", "char"]
noncomputable def r_filemode : RS :=
  (.new 1 .nil
  (.for_ [2, 3] true (.g "_filemode_table" d_table)
  (.for_ [4, 5] false (.v 3)
  (.ite (.cmp .Eq (.v 2) (.int 0))
  (.ite (.cmp .Eq (.fc "S_IFMT" (.cons (.v 0) .nil)) (.v 4))
  (.app 1 (.v 5)
  .brk)
  .done
  .done)
  (.ite (.cmp .Eq (.bin .BitAnd (.v 0) (.v 4)) (.v 4))
  (.app 1 (.v 5)
  .brk)
  .done
  .done)
  .done)
  (.ite (.cmp .Eq (.v 2) (.int 0))
  (.app 1 (.str "?")
  .done)
  (.app 1 (.str "-")
  .done)
  .done)
  .done)
  .done
  (.frz 1 (.ret (.me .join (.str "") (.cons (.v 1) .nil))))))
noncomputable def ns_law_mode : List Str := ["figures", "rights", "bit", "kind"]
noncomputable def r_law_mode : RS :=
  (.set 1 (.int 511)
  (.for_ [2] false (.cut (.v 0) (.int 2) (.int 5) true true)
  (.itj (.and (.cmp .Lt (.v 2) (.int 9)) (.bin .Mod (.bin .FloorDiv (.v 1) (.bin .Pow (.int 2) (.v 2))) (.int 2)))
  (.aug 1 .Sub (.bin .Pow (.int 2) (.v 2))
  .done)
  .done
  .done)
  .done
  (.set 3 (.sub (.lst (.cons (.int 8) (.cons (.int 4) (.cons (.int 12) (.cons (.int 10) (.cons (.int 6) (.cons (.int 2) (.cons (.int 1) (.cons (.int 15) (.cons (.int 8) (.cons (.int 8) .nil))))))))))) (.sub (.v 0) (.int 0)))
  (.ret (.bin .Add (.bin .Add (.bin .Add (.bin .Mult (.int 65536) (.sub (.v 0) (.int 5))) (.bin .Mult (.int 4096) (.v 3))) (.bin .Mult (.int 512) (.bin .Mod (.sub (.v 0) (.int 1)) (.int 8)))) (.v 1))))))
noncomputable def ns_law_listed : List Str := ["mode", "told", "k", "ends", "figure", "above"]
noncomputable def r_law_listed : RS :=
  (.set 1 (.sub (.str "?pc?d?b?-?l?s???") (.bin .Mod (.bin .FloorDiv (.v 0) (.int 4096)) (.int 16)))
  (.for_ [2] false (.bc .range (.cons (.int 3) .nil))
  (.uns [4, 5] (.cons (.bin .Mod (.bin .FloorDiv (.v 0) (.bin .Pow (.int 8) (.bin .Sub (.int 2) (.v 2)))) (.int 8)) (.cons (.bin .Mod (.bin .FloorDiv (.v 0) (.bin .Pow (.int 2) (.bin .Sub (.int 11) (.v 2)))) (.int 2)) .nil))
  (.set 3 (.lst (.cons (.str "-x") (.cons (.itj (.cmp .Eq (.v 2) (.int 2)) (.str "Tt") (.str "Ss")) .nil)))
  (.aug 1 .Add (.bin .Add (.bin .Add (.sub (.str "-r") (.bin .FloorDiv (.v 4) (.int 4))) (.sub (.str "-w") (.bin .Mod (.bin .FloorDiv (.v 4) (.int 2)) (.int 2)))) (.sub (.sub (.v 3) (.v 5)) (.bin .Mod (.v 4) (.int 2))))
  .done)))
  .done
  (.ret (.v 1))))
noncomputable def ns_law_signs : List Str := ["figures", "kind", "pair", "signs", "own", "sixes", "packed", "figure", "six"]
noncomputable def r_law_signs : RS :=
  (.set 2 (.sub (.lst (.cons (.str "+/") (.cons (.str "-_") (.cons (.str "_-") (.cons (.str "-+") (.cons (.str " -") (.cons (.str "?_") (.cons (.str "- ") (.cons (.str "-)") (.cons (.str "5-") (.cons (.str "d?") .nil))))))))))) (.sub (.v 0) (.int 5)))
  (.set 3 (.bin .Add (.str "ABCDEFGHIJKLMNOPQRSTUVWXYZabcdefghijklmnopqrstuvwxyz0123456789") (.v 2))
  (.set 4 (.itj (.cmp .In (.v 1) (.v 3)) (.me .find (.v 3) (.cons (.v 1) .nil)) (.int 62))
  (.setc 5 (.sub (.lst (.cons (.int 52) (.cons (.int 59) (.cons (.int 61) (.cons (.int 62) (.cons (.int 63) (.cons (.v 4) (.cons (.v 4) (.cons (.int 55) (.cons (.int 44) (.cons (.int 56) .nil))))))))))) (.v 7)) 7 (.cut (.v 0) (.int 6) .none true false) .none false [4]
  (.set 6 (.bin .Add (.bin .Mult (.bin .Add (.bin .Mult (.bin .Add (.bin .Mult (.int 64) (.sub (.v 5) (.int 0))) (.sub (.v 5) (.int 1))) (.int 64)) (.sub (.v 5) (.int 2))) (.int 64)) (.sub (.v 5) (.int 3)))
  (.ret (.tup (.cons (.v 2) (.cons (.me .join (.str "") (.cons (.comp (.sub (.v 3) (.v 8)) 8 (.v 5) .none false [3]) .nil)) (.cons (.bc .bytes (.cons (.lst (.cons (.bin .FloorDiv (.v 6) (.int 65536)) (.cons (.bin .Mod (.bin .FloorDiv (.v 6) (.int 256)) (.int 256)) (.cons (.bin .Mod (.v 6) (.int 256)) .nil)))) .nil)) .nil))))))))))
noncomputable def ns_law_port : List Str := ["text", "host", "turn", "part", "body", "number", "figure"]
noncomputable def r_law_port : RS :=
  (.uns [4, 5] (.cons (.me .strip (.v 0) (.cons (.str " ") .nil)) (.cons (.int 0) .nil))
  (.set 2 (.itj (.cmp .Eq (.cut (.v 4) .none (.int 1) false true) (.str "-")) (.neg (.int 1)) (.int 1))
  (.itj (.cmp .In (.cut (.v 4) .none (.int 1) false true) (.lst (.cons (.str "-") (.cons (.str "+") .nil))))
  (.set 4 (.cut (.v 4) (.int 1) .none true false)
  .done)
  .done
  (.for_ [3] false (.me .split (.v 4) (.cons (.str "_") .nil))
  (.ite (.or (.cons (.cmp .Eq (.v 3) (.str "")) (.cons (.cmp .NotEq (.me .strip (.v 3) (.cons (.str "0123456789") .nil)) (.str "")) .nil)))
  (.ret (.tup (.cons (.str "unread") .nil)))
  .done
  (.for_ [6] false (.v 3)
  (.set 5 (.bin .Add (.bin .Mult (.int 10) (.v 5)) (.me .find (.str "0123456789") (.cons (.v 6) .nil)))
  .done)
  .done
  .done))
  .done
  (.ret (.tup (.cons (.v 1) (.cons (.bin .Mult (.v 2) (.v 5)) .nil))))))))
noncomputable def ns_law_told : List Str := ["row", "reply", "host", "inside", "marks", "i"]
noncomputable def r_law_told : RS :=
  (.ite (.cmp .NotEq (.cut (.v 1) .none (.int 3) false true) (.str "229"))
  (.ret (.tup (.cons (.str "refused") (.cons (.v 1) .nil))))
  .done
  (.set 3 (.sub (.me .partition (.v 0) (.cons (.str ")") .nil)) (.int 0))
  (.setc 4 (.v 5) 5 (.bc .range (.cons (.bc .len (.cons (.v 3) .nil)) .nil)) (.cmp .Eq (.sub (.v 3) (.v 5)) (.sub (.v 3) (.int 0))) true [3]
  (.ite (.or (.cons (.cmp .NotEq (.bc .len (.cons (.v 4) .nil)) (.int 4)) (.cons (.cmp .NotEq (.sub (.v 4) (.int 3)) (.bin .Sub (.bc .len (.cons (.v 3) .nil)) (.int 1))) .nil)))
  (.ret (.tup (.cons (.str "spoiled") (.cons (.v 1) .nil))))
  .done
  (.ret (.fc "_law_port" (.cons (.cut (.v 3) (.bin .Add (.sub (.v 4) (.int 2)) (.int 1)) (.sub (.v 4) (.int 3)) true true) (.cons (.v 2) .nil))))))))
end Mine
end
section
open PySem PySem.W PySem.Spec PySem.Calls PyProof.Rows
set_option Elab.async false
set_option linter.unusedVariables false
set_option maxRecDepth 100000
namespace Mine
noncomputable def ns_law_right : List Str := ["figures", "mode", "row", "altchars", "host", "code", "reply", "got", "pair", "text", "octets", "listing", "written", "sign", "octet"]
noncomputable def r_right1 : RS :=
  (.set 1 (.fc "_law_mode" (.cons (.v 0) .nil))
  (.set 2 (.fc "_law_listed" (.cons (.v 1) .nil))
  (.unp [8, 9, 10] (.fc "_law_signs" (.cons (.v 0) (.cons (.sub (.v 2) (.int 0)) .nil)))
  (.set 3 (.itj (.cmp .Eq (.v 8) (.str "+/")) .none (.bc .bytes (.cons (.comp (.bc .ord (.cons (.v 13) .nil)) 13 (.v 8) .none false []) .nil)))
  (.uns [11, 12] (.cons (.fc "filemode" (.cons (.v 1) .nil)) (.cons (.fc "b64encode" (.cons (.v 10) (.cons (.v 3) .nil))) .nil))
  (.ite (.or (.cons (.cmp .NotEq (.v 11) (.v 2)) (.cons (.not (.bc .isinst (.cons (.v 12) (.cons (.b .bytes) .nil)))) (.cons (.cmp .NotEq (.v 12) (.bc .bytes (.cons (.comp (.bc .ord (.cons (.v 13) .nil)) 13 (.v 9) .none false []) .nil))) .nil))))
  (.ret (.bool false))
  .done
  (.set 4 (.bin .Add (.str "10.0.0.") (.sub (.str "0123456789") (.sub (.v 0) (.int 0))))
  (.set 5 (.itj (.cmp .Eq (.sub (.v 0) (.int 1)) (.int 8)) (.str "220 (") (.str "229 ("))
  (.set 6 (.bin .Add (.bin .Add (.bin .Add (.bin .Add (.v 5) (.v 11)) (.me .join (.str "") (.cons (.comp (.bc .chr (.cons (.v 14) .nil)) 14 (.v 12) .none false []) .nil))) (.sub (.v 11) (.int 0))) (.str ") (|||9|)"))
  .done)))))))))
noncomputable def r_right2 : RS :=
  (.ret (.cmp .Eq (.v 7) (.fc "_law_told" (.cons (.bin .Add (.bin .Add (.v 2) (.v 9)) (.sub (.v 2) (.int 0))) (.cons (.v 6) (.cons (.v 4) .nil))))))
noncomputable def ns_law : List Str := ["script", "numbers", "n", "i"]
noncomputable def r_lawA : RE := (.cut (.v 0) .none (.int 8) false true)
noncomputable def r_lawB : RE := (.lst (.cons (.int 1493199700) (.cons (.int 7465399041) (.cons (.int 3713495008) (.cons (.int 299962) (.cons (.int 7455899901) .nil))))))
noncomputable def r_lawC : RE := (.comp (.bin .Mod (.bin .FloorDiv (.bin .Mod (.v 2) (.bin .Pow (.int 10) (.int 10))) (.bin .Pow (.int 10) (.v 3))) (.int 10)) 3 (.bc .range (.cons (.int 10) .nil)) .none false [2])
end Mine
end
section
open PySem PySem.W PySem.Spec PySem.Calls PyProof.Rows
set_option Elab.async false
set_option linter.unusedVariables false
set_option maxRecDepth 100000
namespace Mine
theorem ok1 (w : World) (lv : Nat) : XOk (X1 w lv) := by
  have h : PySem.Challenge.rw_op0036_01.row.prog = PySem.Challenge.rw_op0036_01.row.prog ∧ KF w.params = KF w.params := ⟨rfl, rfl⟩
  suffices H : (∀ f : BF, nsIn (KF w.params) mainGlobals f.nm = some none) ∧ nsIn (KF w.params) mainGlobals "enumerate" = some none ∧ findCls (KF w.params) (.type "bytes") (.type "type") "maketrans" = some (.val (.builtin "bytes.maketrans")) ∧ PySem.Challenge.rw_op0036_01.row.prog = PySem.Challenge.rw_op0036_01.row.prog from ⟨H.1, H.2.1, H.2.2.1⟩
  k_fill
  refine ⟨fun f => ?_, ?_, ?_, rfl⟩
  · cases f <;> (unfold BF.nm; k_is)
  · k_is
  · k_is
theorem rz1 {w : World} {lv : Nat} {S : Scope} {ns : List Str} : Rz (X1 w lv) S ns := rz_of (ok1 w lv)
theorem c_ifmt (w : World) (m : Int) (lv : Nat) : CALL PySem.Challenge.rw_op0036_01.row.prog w (KF w.params) lv 102 [.int m] (.int (Builtin.bitAnd m 61440)) := by
  k_fill
  refine' fn_by (names := ["mode"]) (more := []) (r := r_S_IFMT) (k := 0) (ok1 w lv) rz1 ?ho ?hcd ?hb ?hl ?hz ?hck ?hc ?h
  (case ho => k_is)
  (case hcd => k_is)
  (case hb => intro s vs _ _ h; refine hb1 (fun a => ?_) vs h; exact BindsTo.of_eq rfl)
  (case hl => exact rfl)
  (case hz => exact rfl)
  (case hck => exact rfl)
  (case hc => exact rfl)
  case h =>
    dsimp only [r_S_IFMT, wpS, wp, ini, nones, nth, binD, arD, intD, fin, frozB, endQ]
    exact ⟨rfl, rfl⟩
end Mine
end
section
open PySem PySem.W PySem.Spec PySem.Calls PyProof.Rows
set_option Elab.async false
set_option linter.unusedVariables false
set_option maxRecDepth 100000
namespace Mine
noncomputable def txt2 (a b : Str) (k : Int) : Str := if k = 0 then a else b
noncomputable def three (f a : Int) (p : Bool) : Str := Txt.item "-r" (f / 4) ++ Txt.item "-w" (f / 2 % 2) ++ Txt.item (txt2 "-x" (if p then "Tt" else "Ss") a) (f % 2)
noncomputable def listed (m : Int) : Str := Txt.item "?pc?d?b?-?l?s???" (m / 4096 % 16) ++ three (m / 64 % 8) (m / 2048 % 2) false ++ three (m / 8 % 8) (m / 1024 % 2) false ++ three (m / 1 % 8) (m / 512 % 2) true
theorem get2 {a b : Str} {k : Int} (h0 : 0 ≤ k) (h1 : k < 2) : [D.str a, D.str b][k.toNat]? = some (.str (txt2 a b k)) := by
  rcases (by omega : k = 0 ∨ k = 1) with rfl | rfl <;> exact rfl
theorem len_t2 {a b : Str} {k : Int} {n : Nat} (ha : a.length = n) (hb : b.length = n) : (txt2 a b k).length = n := by
  unfold txt2; split <;> assumption
theorem l_x : (Str.ofString "-x").length = 2 := by decide +kernel
theorem l_Tt : (Str.ofString "Tt").length = 2 := by decide +kernel
theorem l_Ss : (Str.ofString "Ss").length = 2 := by decide +kernel
noncomputable def r_lst : RS :=
  (.uns [4, 5] (.cons (.bin .Mod (.bin .FloorDiv (.v 0) (.bin .Pow (.int 8) (.bin .Sub (.int 2) (.v 2)))) (.int 8)) (.cons (.bin .Mod (.bin .FloorDiv (.v 0) (.bin .Pow (.int 2) (.bin .Sub (.int 11) (.v 2)))) (.int 2)) .nil))
  (.set 3 (.lst (.cons (.str "-x") (.cons (.itj (.cmp .Eq (.v 2) (.int 2)) (.str "Tt") (.str "Ss")) .nil)))
  (.aug 1 .Add (.bin .Add (.bin .Add (.sub (.str "-r") (.bin .FloorDiv (.v 4) (.int 4))) (.sub (.str "-w") (.bin .Mod (.bin .FloorDiv (.v 4) (.int 2)) (.int 2)))) (.sub (.sub (.v 3) (.v 5)) (.bin .Mod (.v 4) (.int 2))))
  .done)))
theorem th_nums (m : Int) : (0 ≤ m % 8 / 4 ∧ m % 8 / 4 < 2) ∧ 0 ≤ m % 2 ∧ m % 2 < 2 := by omega
theorem t2_in {x : Str} {k : Int} (h : x.length = 2) (h0 : 0 ≤ k ∧ k < 2) : -(x.length : Int) ≤ k ∧ k < x.length ∧ x.length ≤ 2 ^ 60 := by
  rw [h]; exact ⟨by omega, h0.2, by decide⟩
theorem two63 {k : Int} (h : 0 ≤ k ∧ k < 2) : 0 ≤ k ∧ k < 2 ^ 63 := ⟨h.1, Int.lt_trans h.2 (by decide)⟩
theorem t16_in {x : Str} (h : x.length = 16) (m : Int) : -(x.length : Int) ≤ m / 4096 % 16 ∧ m / 4096 % 16 < x.length ∧ x.length ≤ 2 ^ 60 := by
  rw [h]; exact ⟨by omega, by omega, by decide⟩
theorem listed_turn {X : Fx} {m i p q : Int} {row x : Str} {o3 o4 o5 : Option D} {N : Env → Prop} {Q : PQ} (hp : (0 ≤ 2 - i ∧ 2 - i ≤ 64) ∧ (8 : Int) ^ (2 - i).toNat = p ∧ 0 < p ∧ p < 1000) (hq : (0 ≤ 11 - i ∧ 11 - i ≤ 64) ∧ (2 : Int) ^ (11 - i).toNat = q ∧ 0 < q ∧ q < 10000) (hr : row.length ≤ 100) (hx : x.length = 2) (e : x = bif i == 2 then Str.ofString "Tt" else Str.ofString "Ss")
    (h : N [some (.int m), some (.str (row ++ (Txt.item "-r" (m / p % 8 / 4) ++ Txt.item "-w" (m / p % 8 / 2 % 2) ++ Txt.item (txt2 "-x" x (m / q % 2)) (m / p % 8 % 2)))), some (.int i), some (.lst [.str "-x", .str x]), some (.int (m / p % 8)), some (.int (m / q % 2))]) :
    wpS X r_lst [some (.int m), some (.str row), some (.int i), o3, o4, o5] (loopQ N Q) := by
  obtain ⟨⟨p1, p2⟩, p3, p4, p5⟩ := hp
  obtain ⟨⟨q1, q2⟩, q3, q4, q5⟩ := hq
  have l2 : (Str.ofString "-r").length = 2 := by decide +kernel
  have l3 : (Str.ofString "-w").length = 2 := by decide +kernel
  have sz := szl
  have a1 := th_nums (m / p)
  have a2 := th_nums (m / q)
  have a3 := th_nums (m / p % 8 / 2)
  have a4 := th_nums (m / p % 8)
  have e1 : (txt2 (Str.ofString "-x") x (m / q % 2)).length = 2 := len_t2 l_x hx
  unfold r_lst
  rw [← p3] at h p4 p5 a1 a3 a4
  rw [← q3] at h q4 q5 a2 e1
  refine ⟨⟨p1, p2, .inr (.inl rfl)⟩, ⟨p4, Int.lt_trans p5 (by decide)⟩, by decide, ⟨q1, q2, .inl rfl⟩, ⟨q4, Int.lt_trans q5 (by decide)⟩, by decide, ⟨Nat.le_of_ble_eq_true rfl, rfl, rfl⟩, .str x, fun a => ?_, fun a => ?_, ?_⟩
  · rw [e, show (i == 2) = true from a]; rfl
  · rw [e, show (i == 2) = false from a]; rfl
  refine ⟨Nat.le_of_ble_eq_true rfl, rfl, by decide, t2_in l2 a1.1, by decide, by decide, t2_in l3 a3.2, by simp only [len_item]; omega, two63 a2.2, _, get2 a2.2.1 a2.2.2, by decide, t2_in e1 a4.2, ?_, ?_, rfl, h⟩
  · simp only [len_item, len_app]; omega
  · simp only [len_item, len_app]; omega
theorem c_listed (w : World) (m : Int) (lv : Nat) : CALL PySem.Challenge.rw_op0036_01.row.prog w (KF w.params) lv 156 [.int m] (.str (listed m)) := by
  k_fill
  refine' fn_by (names := ["mode"]) (more := ns_law_listed.drop 1) (r := r_law_listed) (k := 5) (ok1 w _) rz1 ?ho ?hcd ?hb ?hl ?hz ?hck ?hc ?h
  (case ho => k_is)
  (case hcd => k_is)
  (case hb => intro s vs _ _ h; refine hb1 (fun v0 => ?_) vs h; exact BindsTo.of_eq rfl)
  (case hl => exact rfl)
  (case hz => exact rfl)
  (case hck => kernel_rfl)
  (case hc => kernel_rfl)
  case h =>
    unfold r_law_listed
    have l1 : (Str.ofString "?pc?d?b?-?l?s???").length = 16 := by decide +kernel
    refine ⟨⟨by decide, by decide⟩, by decide, t16_in l1 m, rfl, rfl, rfl, 3, rfl, rfl, ?_⟩
    show wpFor [2] _ _ _ [.int 0, .int 1, .int 2] _
    refine listed_turn (p := 64) (q := 2048) (x := Str.ofString "Ss") ⟨by decide, by decide, by decide, by decide⟩ ⟨by decide, by decide, by decide, by decide⟩ (by rw [len_item]; decide) l_Ss rfl ?_
    refine listed_turn (p := 8) (q := 1024) (x := Str.ofString "Ss") ⟨by decide, by decide, by decide, by decide⟩ ⟨by decide, by decide, by decide, by decide⟩ (by simp only [len_item, len_app]; decide) l_Ss rfl ?_
    refine listed_turn (p := 1) (q := 512) (x := Str.ofString "Tt") ⟨by decide, by decide, by decide, by decide⟩ ⟨by decide, by decide, by decide, by decide⟩ (by simp only [len_item, len_app]; decide) l_Tt rfl ?_
    exact ⟨rfl, rfl⟩
end Mine
end
section
open PySem PySem.W PySem.Spec PySem.Calls PyProof.Rows
set_option Elab.async false
set_option linter.unusedVariables false
set_option maxRecDepth 100000
namespace Mine
theorem ckn (w : World) : CKn (KF w.params) 44 56 := by
  suffices H : CKn (KF w.params) 44 56 ∧ PySem.Challenge.rw_op0036_01.row.prog = PySem.Challenge.rw_op0036_01.row.prog from H.1
  k_fill
  refine ⟨⟨by k_is, by k_is, by k_is, by k_is, ?_, ?_, ?_, ?_, ?_, ?_, ?_, ?_, by k_is, by k_is⟩, rfl⟩
  all_goals first | k_is | exact rfl
end Mine
end
section
open PySem PySem.W PySem.Spec PySem.Calls PyProof.Rows
set_option Elab.async false
set_option linter.unusedVariables false
set_option maxRecDepth 100000
namespace Mine
noncomputable abbrev X2 (w : World) (lv : Nat) : Fx := ⟨PySem.Challenge.rw_op0036_01.row.prog, w, KF w.params, lv, true⟩
theorem ok2 (w : World) (lv : Nat) : XOk (X2 w lv) := ⟨(ok1 w lv).1, (ok1 w lv).2, (ok1 w lv).3⟩
noncomputable def pParts (R : Str) (n : Nat) : List Str := Txt.split (Txt.slice R (some 5) (some (5 + n))) (Txt.item R 5)
noncomputable def pOut (R : Str) (n : Nat) (host : Str) : Ov :=
  bif Txt.slice R none (some 3) != Str.ofString "229" then .exc 44 R else
  bif Txt.item R 5 != Txt.item R (5 + n - 1) then .exc 56 R else
  bif ((pParts R n).length : Int) != 5 then .exc 56 R else
  match intOf ((pParts R n).getD 3 Str.empty) with
  | some k => .ret (.tup [.str host, .int k])
  | none => .ve
theorem froz_strs : ∀ l : List Str, frozB.frozBs (l.map .str) = true
  | [] => rfl
  | x :: xs => froz_strs xs
theorem getD_mem {e : Str} : ∀ {l : List Str} {i : Nat}, i < l.length → l.getD i e ∈ l
  | [], _, h => absurd h (Nat.not_lt_zero _)
  | x :: xs, 0, _ => .head _
  | x :: xs, i + 1, h => .tail _ (getD_mem (l := xs) (Nat.succ_lt_succ_iff.mp h))
theorem getD_map {e : Str} : ∀ {l : List Str} {i : Nat}, i < l.length → (l.map D.str)[i]? = some (.str (l.getD i e))
  | [], _, h => absurd h (Nat.not_lt_zero _)
  | x :: xs, 0, _ => rfl
  | x :: xs, i + 1, h => getD_map (l := xs) (Nat.succ_lt_succ_iff.mp h)
theorem c_parse (w : World) (R host : Str) (n lv : Nat) (hf : Txt.find R (Str.ofString "(") = 4) (hr : Txt.find3 R (Str.ofString ")") 5 = 5 + n) (h1 : 5 + n < R.length) (h2 : R.length ≤ 100) (h0 : 1 ≤ n)
    (hp : ∀ p ∈ pParts R n, p.length ≤ 100 ∧ (reprText p).length ≤ sizeLine)
    (hb : (Builtin.Str.partsBetween (Txt.slice R (some 5) (some (5 + n))) (Builtin.Str.occurrences (Txt.slice R (some 5) (some (5 + n))) (Txt.item R 5) 0 (Txt.slice R (some 5) (some (5 + n))).length ((Txt.slice R (some 5) (some (5 + n))).length + 1)) (Txt.item R 5).length).length ≤ sizeLine)
    (hlen : (pParts R n).length ≤ 2 ^ 60) (hs : (Txt.slice R (some 5) (some (5 + n))).length ≤ 100) : CALLX PySem.Challenge.rw_op0036_01.row.prog w (KF w.params) lv 65 [.str R, .tup [.str host, .int 21]] (fun o => o = pOut R n host) := by
  have sz := szl
  k_fill
  refine' fn_byX (names := ["resp", "peer"]) (more := ns_parse229.drop 2) (r := r_parse229) (k := 5) (ok2 w lv) ?ho ?hcd ?hb ?hl ?hz ?hck ?hnc ?hc ?h
  (case ho => k_is)
  (case hcd => k_is)
  (case hb => intro s vs h; refine hb2 (fun a b => ?_) vs h; exact BindsTo.of_eq rfl)
  (case hl => exact rfl)
  (case hz => exact rfl)
  (case hck => kernel_rfl)
  (case hnc => kernel_rfl)
  (case hc => kernel_rfl)
  case h =>
    have xr1 : nsIn (KF w.params) mainGlobals (Str.ofString "error_reply") = some (some (Value.ref a_error_reply)) := by unfold a_error_reply; k_is
    have xr2 : excIn (KF w.params) a_error_reply [Value.type "Exception", Value.type "BaseException", Value.type "object"] "Exception.__new__" = true := by unfold a_error_reply; k_exc
    have xp1 : nsIn (KF w.params) mainGlobals (Str.ofString "error_proto") = some (some (Value.ref a_error_proto)) := by unfold a_error_proto; k_is
    have xp2 : excIn (KF w.params) a_error_proto [Value.type "Exception", Value.type "BaseException", Value.type "object"] "Exception.__new__" = true := by unfold a_error_proto; k_exc
    unfold r_parse229
    dsimp only [wpS, wp, ini, nones, nth, upd, updAll, capE, binD, addD, arD, intD, strD, bytD, valD, boolD, lstD, nilD, hdD, oneD, twoD, truD, fin, augD, noneD, eqD, neD, isD, isnD, inD, ninD, cmD, atD, itD, partD, cuD, lenD, typeD, rangeD, bcD, findD, meD, mtD, srcD, ifD, m0, m1, m01, m23, at_, mlsAt, tupD, asgE, wpFor, seqQ, joinQ, loopQ, noX, endQ, frozB, frozB.frozBs, enumFrom, BF.vl, List.reverseAux, List.nil_append, List.cons_append, Int.reduceSub, Int.reduceAdd, Int.reduceMul, Int.reduceToNat, Int.reducePow, Int.reduceNeg, Int.reduceBEq, Int.reduceBNe, Bool.and_true, Bool.not_true, Bool.not_false]
    simp only [hf, Int.reduceAdd, hr]
    refine ⟨by omega, fun a1 => ⟨⟨xr1, xr2⟩, ?_⟩, fun a1 => ⟨trivial, fun a2 => ?_, fun _ => ⟨trivial, fun a3 => ?_, fun _ => ⟨⟨by omega, by omega, by omega⟩, ⟨by omega, by omega, by omega⟩, fun a4 => ⟨⟨xp1, xp2⟩, ?_⟩, fun a4 => ⟨by omega, ⟨by omega, by omega, by omega⟩, ?_⟩⟩⟩⟩⟩
    · show Ov.exc 44 R = pOut R n host
      unfold pOut; rw [a1]; rfl
    · exact absurd a2 (by decide)
    · have := of_decide_eq_true a3; omega
    · show Ov.exc 56 R = pOut R n host
      unfold pOut; rw [a1, a4]; rfl
    · refine ⟨⟨rfl, by omega, hb⟩, froz_strs _, by rw [List.length_map]; exact hlen, fun a5 => ⟨⟨xp1, xp2⟩, ?_⟩, fun a5 => ?_⟩
      · show Ov.exc 56 R = pOut R n host
        rw [List.length_map] at a5
        have a5 : (((pParts R n).length : Int) != 5) = true := a5
        unfold pOut; rw [a1, a4, a5]; rfl
      · rw [List.length_map] at a5
        have a5 : (((pParts R n).length : Int) != 5) = false := a5
        have e0 : pOut R n host = (match intOf ((pParts R n).getD 3 Str.empty) with | some k => .ret (.tup [.str host, .int k]) | none => .ve) := by unfold pOut; rw [a1, a4, a5]; simp only [cond_false]
        rw [e0]
        have ep : Txt.split (Txt.slice R (some 5) (some (5 + ↑n))) (Txt.item R 5) = pParts R n := rfl
        rw [ep]
        generalize pParts R n = ps at *
        have l5 : 3 < ps.length := by have := bne_eq_false_iff_eq.mp a5; omega
        obtain ⟨b1, b2⟩ := hp _ (getD_mem (e := Str.empty) l5)
        refine ⟨by decide, _, rfl, rfl, trivial, by decide, _, getD_map (e := Str.empty) l5, ⟨Nat.le_trans b1 (by decide), b2⟩, ?_⟩
        generalize ps.getD 3 Str.empty = t at *
        cases hi : intOf t with
        | none => exact .inr ⟨rfl, rfl⟩
        | some k => exact .inl ⟨k, rfl, by exact Nat.le_of_ble_eq_true rfl, rfl, rfl⟩
end Mine
end
section
open PySem PySem.W PySem.Spec PySem.Calls PyProof.Rows
set_option Elab.async false
set_option linter.unusedVariables false
set_option maxRecDepth 100000
namespace Mine
noncomputable def cutR (r f : Int) : Int := bif decide (f < 9) && (r / 2 ^ f.toNat % 2 != 0) then r - 2 ^ f.toNat else r
theorem pow_lt9 {f : Int} (h0 : 0 ≤ f) (h : f < 9) : (0 : Int) < 2 ^ f.toNat ∧ (2 : Int) ^ f.toNat < 1000 :=
  fin_all (n := 9) (P := fun f => (0 : Int) < 2 ^ f.toNat ∧ (2 : Int) ^ f.toNat < 1000) (by decide +kernel) h0 h
theorem mode_turn {X : Fx} {L : D} {r f : Int} (h0 : 0 ≤ f) {N : Env → Prop} {Q : PQ} (h : N [some L, some (.int (cutR r f)), some (.int f), none]) :
    wpS X (.itj (.and (.cmp .Lt (.v 2) (.int 9)) (.bin .Mod (.bin .FloorDiv (.v 1) (.bin .Pow (.int 2) (.v 2))) (.int 2))) (.aug 1 .Sub (.bin .Pow (.int 2) (.v 2)) .done) .done .done) [some L, some (.int r), some (.int f), none] (loopQ N Q) := by
  dsimp only [wpS, wp, ini, nones, nth, upd, updAll, capE, binD, addD, arD, intD, strD, bytD, valD, boolD, lstD, nilD, hdD, oneD, twoD, truD, fin, augD, noneD, eqD, neD, isD, isnD, inD, ninD, cmD, atD, itD, partD, cuD, lenD, typeD, rangeD, bcD, findD, meD, mtD, srcD, ifD, m0, m1, m01, m23, at_, mlsAt, tupD, asgE, wpFor, seqQ, joinQ, loopQ, noX, endQ, frozB, frozB.frozBs, enumFrom, BF.vl, List.reverseAux, List.nil_append, List.cons_append, Int.reduceSub, Int.reduceAdd, Int.reduceMul, Int.reduceToNat, Int.reducePow, Int.reduceNeg, Int.reduceBEq, Int.reduceBNe, Bool.and_true, Bool.not_true, Bool.not_false]
  refine ⟨fun a => ?_, fun a => ⟨_, fun q => nof q, fun _ => rfl, ?_⟩⟩
  · obtain ⟨q1, q2⟩ := pow_lt9 h0 (of_decide_eq_true a)
    refine ⟨⟨h0, by have := of_decide_eq_true a; omega, .inl rfl⟩, ⟨q1, Int.lt_trans q2 (by decide)⟩, by decide, _, fun b => ⟨⟨h0, by have := of_decide_eq_true a; omega, .inl rfl⟩, rfl, ?_⟩, fun b => ?_, h⟩
    · unfold cutR; rw [a, b]; rfl
    · unfold cutR; rw [a, b]; rfl
  · unfold cutR at h; rw [a] at h; exact h
structure Figs (f : Nat → Int) : Prop where
  lo : ∀ i, 0 ≤ f i
  hi : ∀ i, f i ≤ 9
noncomputable def figL (f : Nat → Int) : D := .lst [.int (f 0), .int (f 1), .int (f 2), .int (f 3), .int (f 4), .int (f 5), .int (f 6), .int (f 7), .int (f 8), .int (f 9)]
noncomputable def kinds : List D := [.int 8, .int 4, .int 12, .int 10, .int 6, .int 2, .int 1, .int 15, .int 8, .int 8]
noncomputable def kindOf (k : Int) : Int := unI (kinds.getD k.toNat .none)
noncomputable def modeOf (f : Nat → Int) : Int := 65536 * f 5 + 4096 * kindOf (f 0) + 512 * (f 1 % 8) + cutR (cutR (cutR 511 (f 2)) (f 3)) (f 4)
theorem get10x {a₀ a₁ a₂ a₃ a₄ a₅ a₆ a₇ a₈ a₉ : D} (g : Int → D) (h : a₀ = g 0 ∧ a₁ = g 1 ∧ a₂ = g 2 ∧ a₃ = g 3 ∧ a₄ = g 4 ∧ a₅ = g 5 ∧ a₆ = g 6 ∧ a₇ = g 7 ∧ a₈ = g 8 ∧ a₉ = g 9) {k : Int} (h0 : 0 ≤ k) (h1 : k ≤ 9) : [a₀, a₁, a₂, a₃, a₄, a₅, a₆, a₇, a₈, a₉][k.toNat]? = some (g k) := by
  have e : [a₀, a₁, a₂, a₃, a₄, a₅, a₆, a₇, a₈, a₉] = (List.range 10).map fun (i : Nat) => g (i : Int) := by
    obtain ⟨rfl, rfl, rfl, rfl, rfl, rfl, rfl, rfl, rfl, rfl⟩ := h
    rfl
  rw [e, List.getElem?_map, List.getElem?_range (by omega), Option.map_some, Int.toNat_of_nonneg h0]
theorem kind_int {k : Int} (h0 : 0 ≤ k) (h1 : k ≤ 9) : kinds[k.toNat]? = some (.int (kindOf k)) :=
  get10x (fun k => .int (kindOf k)) ⟨rfl, rfl, rfl, rfl, rfl, rfl, rfl, rfl, rfl, rfl⟩ h0 h1
theorem cutOk_10 {a₀ a₁ a₂ a₃ a₄ a₅ a₆ a₇ a₈ a₉ : D} {x y : Int} (h0 : 0 ≤ x) (h1 : x ≤ y ∧ y ≤ 10) : cutOk [a₀, a₁, a₂, a₃, a₄, a₅, a₆, a₇, a₈, a₉].length (some x) (some y) := by
  refine ⟨by exact Nat.le_of_ble_eq_true rfl, fun a e => ?_, fun b e => ?_, fun a b e1 e2 => ?_⟩
  · cases e; exact ⟨h0, by show x ≤ (10 : Int); omega⟩
  · cases e; omega
  · cases e1; cases e2; exact ⟨h1.1, h1.2⟩
theorem c_mode (w : World) (f : Nat → Int) (lv : Nat) (F : Figs f) : CALL PySem.Challenge.rw_op0036_01.row.prog w (KF w.params) lv 149 [figL f] (.int (modeOf f)) := by
  k_fill
  refine' fn_by (names := ["figures"]) (more := ns_law_mode.drop 1) (r := r_law_mode) (k := 3) (ok1 w _) rz1 ?ho ?hcd ?hb ?hl ?hz ?hck ?hc ?h
  (case ho => k_is)
  (case hcd => k_is)
  (case hb => intro s vs _ _ h; refine hb1 (fun v0 => ?_) vs h; exact BindsTo.of_eq rfl)
  (case hl => exact rfl)
  (case hz => exact rfl)
  (case hck => kernel_rfl)
  (case hc => kernel_rfl)
  case h =>
    unfold r_law_mode figL
    refine And.intro rfl (And.intro rfl ?_)
    refine And.intro (cutOk_10 (by decide) (by decide)) (And.intro rfl ?_)
    show wpFor [2] _ _ _ [.int (f 2), .int (f 3), .int (f 4)] _
    refine mode_turn (F.lo 2) (mode_turn (F.lo 3) (mode_turn (F.lo 4) ?_))
    have a0 := F.lo 0; have b0 := F.hi 0; have a1 := F.lo 1; have a5 := F.lo 5; have b5 := F.hi 5
    refine And.intro (by decide) ?_
    refine ⟨⟨by decide, by decide⟩, _, rfl, ⟨a0, by omega⟩, _, kind_int a0 b0, rfl, ?_⟩
    exact ⟨⟨by decide, by decide⟩, _, rfl, ⟨by decide, by decide⟩, ⟨by decide, by decide⟩, ⟨by decide, by decide⟩, _, rfl, by decide, ⟨by decide, by decide⟩, rfl, rfl⟩
end Mine
end
section
open PySem PySem.W PySem.Spec PySem.Calls PyProof.Rows
set_option Elab.async false
set_option linter.unusedVariables false
set_option maxRecDepth 100000
namespace Mine
mutual
noncomputable def relIn (K : Frag) : Nat → D → Value → Bool
  | 0, _, _ => false
  | n + 1, d, v => match d, v with
    | .int i, .int j _ => i == j
    | .str x, .str y _ => x == y
    | .bytes x, .bytes y _ => x == y
    | .tup l, .ref a => (match K.lookup a with
      | some ⟨.type t, _, .seq vs _, _⟩ => t == "tuple" && relInL K n l vs.toList
      | _ => false)
    | _, _ => false
noncomputable def relInL (K : Frag) : Nat → List D → List Value → Bool
  | _, [], [] => true
  | n, d :: ds, v :: vs => relIn K n d v && relInL K n ds vs
  | _, _, _ => false
end
theorem relIn_ok {K : Frag} {mu : List Addr} {h : Heap} (X : K.In h) (hm : ∀ a ∈ mu, K.lookup a = none) : ∀ (n : Nat), (∀ d v, relIn K n d v = true → Rel mu h d v) ∧ ∀ ds vs, relInL K n ds vs = true → RelL mu h ds vs
  | n => by
    have step : (∀ d v, relIn K n d v = true → Rel mu h d v) → ∀ ds vs, relInL K n ds vs = true → RelL mu h ds vs := fun hd ds => by
      induction ds with
      | nil => intro vs e; cases vs with
        | nil => simp only [RelL]
        | cons _ _ => unfold relInL at e; cases e
      | cons d ds ih => intro vs e; cases vs with
        | nil => unfold relInL at e; cases e
        | cons v vs =>
          unfold relInL at e
          obtain ⟨e1, e2⟩ := and2 e
          simp only [RelL]
          exact ⟨v, vs, rfl, hd d v e1, ih vs e2⟩
    suffices H : ∀ d v, relIn K n d v = true → Rel mu h d v from ⟨H, step H⟩
    cases n with
    | zero => intro d v e; unfold relIn at e; cases e
    | succ n =>
      intro d v e
      unfold relIn at e
      split at e
      · simp only [Rel]; exact ⟨_, by rw [eq_of_beq e]⟩
      · simp only [Rel]; exact ⟨_, by rw [eq_of_beq e]⟩
      · simp only [Rel]; exact ⟨_, by rw [eq_of_beq e]⟩
      · split at e
        · rename_i ho
          obtain ⟨e1, e2⟩ := and2 e
          have ht := eq_of_beq e1
          subst ht
          simp only [Rel]
          exact ⟨_, _, rfl, fun z => (by rw [hm _ z] at ho; cases ho), ⟨_, X _ _ ho, rfl, _, rfl⟩, (relIn_ok X hm n).2 _ _ e2⟩
        · cases e
      · cases e
theorem gv_in {X : Fx} {x : Str} {d : D} {v : Value} (n : Nat) (h1 : nsIn X.K mainGlobals x = some (some v)) (h2 : relIn X.K n d v = true) : GV X x d := ⟨v, h1, fun mu h hk hm => (relIn_ok hk hm n).1 d v h2⟩
theorem gv_B64 (w : World) (lv : Nat) : GV (X1 w lv) "_B64" d_B64 := by
  suffices H : GV (X1 w lv) "_B64" d_B64 ∧ nsIn (KF w.params) mainGlobals "len" = some none ∧ PySem.Challenge.rw_op0036_01.row.prog = PySem.Challenge.rw_op0036_01.row.prog from H.1
  k_fill
  refine ⟨?_, by k_is, rfl⟩
  refine' gv_in 3 ?h1 ?h2
  case h1 => show nsIn (KF w.params) mainGlobals "_B64" = _; k_is
  case h2 => show relIn (KF w.params) 3 _ _ = true; kernel_rfl
theorem gv_table (w : World) (lv : Nat) : GV (X1 w lv) "_filemode_table" d_table := by
  suffices H : GV (X1 w lv) "_filemode_table" d_table ∧ nsIn (KF w.params) mainGlobals "len" = some none ∧ PySem.Challenge.rw_op0036_01.row.prog = PySem.Challenge.rw_op0036_01.row.prog from H.1
  k_fill
  refine ⟨?_, by k_is, rfl⟩
  refine' gv_in 6 ?h1 ?h2
  case h1 => show nsIn (KF w.params) mainGlobals "_filemode_table" = _; k_is
  case h2 => show relIn (KF w.params) 6 _ _ = true; kernel_rfl
end Mine
end
section
open PySem PySem.W PySem.Spec PySem.Calls PyProof.Rows
set_option Elab.async false
set_option linter.unusedVariables false
set_option maxRecDepth 100000
namespace Mine
noncomputable def pick (p : Int → Bool) (d : Str) : List (Int × String) → Str
  | [] => d
  | (b, x) :: r => bif p b then Str.ofString x else pick p d r
noncomputable def isB (m : Int) (i : Int) (b : Int) : Bool := bif i == 0 then Builtin.bitAnd m 61440 == b else Builtin.bitAnd m b == b
noncomputable def dflt (i : Int) : Str := bif i == 0 then "?" else "-"
noncomputable def fm2 : RS :=
  (.ite (.cmp .Eq (.v 2) (.int 0))
  (.ite (.cmp .Eq (.fc "S_IFMT" (.cons (.v 0) .nil)) (.v 4))
  (.app 1 (.v 5)
  .brk)
  .done
  .done)
  (.ite (.cmp .Eq (.bin .BitAnd (.v 0) (.v 4)) (.v 4))
  (.app 1 (.v 5)
  .brk)
  .done
  .done)
  .done)
noncomputable def fmE : RS :=
  (.ite (.cmp .Eq (.v 2) (.int 0))
  (.app 1 (.str "?")
  .done)
  (.app 1 (.str "-")
  .done)
  .done)
section
variable {X : Fx} {m i : Int} {acc : List D} {row : D} {Q : PQ}
theorem fm_in (hF : FN X "S_IFMT" [.int m] (.int (Builtin.bitAnd m 61440))) (hl : acc.length ≤ 1000) : ∀ (l : List (Int × String)) (o4 o5 : Option D), (∀ o4 o5, Q .next [some (.int m), some (.mls (acc ++ [.str (pick (isB m i) (dflt i) l)])), some (.int i), some row, o4, o5]) →
    wpFor [4, 5] (wpS X fm2) (wpS X fmE) Q (l.map fun p => .tup [.int p.1, .str (Str.ofString p.2)]) [some (.int m), some (.mls acc), some (.int i), some row, o4, o5]
  | [], o4, o5, h => by
    have h := h o4 o5
    show wpS X fmE _ (noX Q)
    refine ⟨fun a => ?_, fun a => ?_⟩
    · refine ⟨⟨rfl, by omega⟩, ?_⟩
      have e : pick (isB m i) (dflt i) [] = Str.ofString "?" := by show dflt i = _; unfold dflt; rw [a]; rfl
      rw [e] at h; exact h
    · refine ⟨⟨rfl, by omega⟩, ?_⟩
      have e : pick (isB m i) (dflt i) [] = Str.ofString "-" := by show dflt i = _; unfold dflt; rw [a]; rfl
      rw [e] at h; exact h
  | (b, x) :: l, o4, o5, h => by
    refine ⟨rfl, ?_⟩
    have hit : isB m i b = true → Q .next [some (.int m), some (.mls (acc ++ [.str (Str.ofString x)])), some (.int i), some row, some (.int b), some (.str (Str.ofString x))] := fun e => by
      have h := h (some (.int b)) (some (.str (Str.ofString x)))
      have e' : pick (isB m i) (dflt i) ((b, x) :: l) = Str.ofString x := by show (bif isB m i b then _ else _) = _; rw [e]; rfl
      rw [e'] at h; exact h
    have miss : isB m i b = false → wpFor [4, 5] (wpS X fm2) (wpS X fmE) Q (l.map fun p => .tup [.int p.1, .str (Str.ofString p.2)]) [some (.int m), some (.mls acc), some (.int i), some row, some (.int b), some (.str (Str.ofString x))] := fun e => fm_in hF hl l _ _ fun o4 o5 => by
      have h := h o4 o5
      have e' : pick (isB m i) (dflt i) ((b, x) :: l) = pick (isB m i) (dflt i) l := by show (bif isB m i b then _ else _) = _; rw [e]; rfl
      rw [e'] at h; exact h
    show wpS X fm2 _ (loopQ _ Q)
    refine ⟨fun a => ⟨_, hF, fun c => ⟨⟨rfl, by omega⟩, hit ?_⟩, fun c => miss ?_⟩, fun a => ⟨fun c => ⟨⟨rfl, by omega⟩, hit ?_⟩, fun c => miss ?_⟩⟩
    all_goals (unfold isB; rw [a]; exact c)
theorem frozRows : ∀ (l : List (Int × String)), frozB.frozBs (l.map fun p => .tup [.int p.1, .str (Str.ofString p.2)]) = true
  | [] => rfl
  | p :: l => frozRows l
theorem frozTable (k : Nat) : ∀ (ts : List (List (Int × String))), frozB.frozBs (enumFrom k (ts.map rows)) = true
  | [] => rfl
  | l :: ts => by
    show ((true && (frozB.frozBs (l.map fun p => .tup [.int p.1, .str (Str.ofString p.2)]) && true)) && frozB.frozBs (enumFrom (k + 1) (ts.map rows))) = true
    rw [frozRows l, frozTable (k + 1) ts]; rfl
noncomputable def signs (m : Int) : Nat → List (List (Int × String)) → List Str
  | _, [] => []
  | k, l :: r => pick (isB m k) (dflt k) l :: signs m (k + 1) r
noncomputable def fm1 : RS := .for_ [4, 5] false (.v 3) fm2 fmE .done
theorem fm_out (hcl : X.cl = false) (hF : FN X "S_IFMT" [.int m] (.int (Builtin.bitAnd m 61440))) : ∀ (ts : List (List (Int × String))) (k : Nat) (acc : List D) (o2 o3 o4 o5 : Option D), acc.length + ts.length ≤ 1000 → (∀ o2 o3 o4 o5, Q .next [some (.int m), some (.mls (acc ++ (signs m k ts).map .str)), o2, o3, o4, o5]) →
    wpFor [2, 3] (wpS X fm1) (wpS X .done) Q (enumFrom k (ts.map rows)) [some (.int m), some (.mls acc), o2, o3, o4, o5]
  | [], k, acc, o2, o3, o4, o5, _, h => by
    have h := h o2 o3 o4 o5
    rw [show (signs m k []).map D.str = [] from rfl, List.append_nil] at h
    exact h
  | l :: ts, k, acc, o2, o3, o4, o5, hl, h => by
    simp only [List.length_cons] at hl
    refine ⟨rfl, hcl, ?_⟩
    refine And.intro (frozRows l) ?_
    refine fm_in hF (by omega) l _ _ fun o4 o5 => ?_
    refine fm_out hcl hF ts (k + 1) _ _ _ _ _ (by rw [List.length_append, List.length_singleton]; omega) fun o2 o3 o4 o5 => ?_
    have h := h o2 o3 o4 o5
    rw [List.append_assoc]
    exact h
end
noncomputable def fmT : List (List (Int × String)) := [[(40960, "l"), (49152, "s"), (32768, "-"), (24576, "b"), (16384, "d"), (8192, "c"), (4096, "p")], [(256, "r")], [(128, "w")], [(2112, "s"), (2048, "S"), (64, "x")], [(32, "r")], [(16, "w")], [(1032, "s"), (1024, "S"), (8, "x")], [(4, "r")], [(2, "w")], [(513, "t"), (512, "T"), (1, "x")]]
noncomputable def shown (m : Int) : Str := Txt.join (Str.ofString "") (signs m 0 fmT)
theorem dflt_len (i : Int) : (dflt i).length = 1 := by
  unfold dflt
  cases (i == 0) <;> decide +kernel
theorem pick_len {p : Int → Bool} {d : Str} (hd : d.length = 1) : ∀ (l : List (Int × String)), (∀ q ∈ l, (Str.ofString q.2).length = 1) → (pick p d l).length = 1
  | [], _ => hd
  | (b, x) :: r, h => by
    show (bif p b then Str.ofString x else pick p d r).length = 1
    cases p b with
    | true => exact h _ (.head _)
    | false => exact pick_len hd r fun q hq => h q (.tail _ hq)
theorem signs_len (m : Int) : ∀ (ts : List (List (Int × String))) (k : Nat), (∀ l ∈ ts, ∀ q ∈ l, (Str.ofString q.2).length = 1) → ∀ y ∈ signs m k ts, y.length = 1
  | [], _, _, y, hy => nomatch hy
  | l :: ts, k, h, y, hy => by
    rcases List.mem_cons.mp hy with rfl | hy
    · exact pick_len (dflt_len _) l (h l (.head _))
    · exact signs_len m ts (k + 1) (fun l' hl => h l' (.tail _ hl)) y hy
theorem fmT_len : ∀ l ∈ fmT, ∀ q ∈ l, (Str.ofString q.2).length = 1 := by
  have : (fmT.all fun l => l.all fun q => (Str.ofString q.2).length == 1) = true := by decide +kernel
  intro l hl q hq
  exact eq_of_beq (List.all_eq_true.mp (List.all_eq_true.mp this l hl) q hq)
theorem fold_ones : ∀ (ys : List Str) (n : Nat), (∀ y ∈ ys, y.length = 1) → ys.foldl (fun a y => a + y.length + (Str.ofString "").length) n = n + ys.length
  | [], n, _ => rfl
  | y :: ys, n, h => by
    rw [List.foldl_cons, fold_ones ys _ fun z hz => h z (.tail _ hz), h y (.head _), show (Str.ofString "").length = 0 from by decide +kernel, List.length_cons]
    omega
theorem joinOk_ones (ys : List Str) (h : ∀ y ∈ ys, y.length = 1) (hl : ys.length ≤ 1000) : JoinOk (Str.ofString "") ys = true := by
  unfold JoinOk
  rw [List.foldl_toArray, fold_ones ys 0 h]
  unfold Builtin.Str.tooLong
  have := szl
  simp only [Bool.not_eq_true', decide_eq_false_iff_not]
  omega
theorem c_filemode (w : World) (m : Int) (lv : Nat) : CALL PySem.Challenge.rw_op0036_01.row.prog w (KF w.params) (lv + 1) 142 [.int m] (.str (shown m)) := by
  k_fill
  refine' fn_by (names := ["mode"]) (more := ns_filemode.drop 1) (r := r_filemode) (k := 5) (ok1 w _) rz1 ?ho ?hcd ?hb ?hl ?hz ?hck ?hc ?h
  (case ho => k_is)
  (case hcd => k_is)
  (case hb => intro s vs _ _ h; refine hb1 (fun v0 => ?_) vs h; exact BindsTo.of_eq rfl)
  (case hl => exact rfl)
  (case hz => exact rfl)
  (case hck => kernel_rfl)
  (case hc => kernel_rfl)
  case h =>
    have hF : FN (X1 w (lv + 1)) "S_IFMT" [.int m] (.int (Builtin.bitAnd m 61440)) := by
      refine' fn_at (c_ifmt w m lv) ?hg ?ho ?hd (Nat.le_refl _)
      ((case hg => k_is); (case ho => k_is); (case hd => exact rfl))
    unfold r_filemode
    refine And.intro ⟨by decide, rfl⟩ ?_
    refine And.intro rfl (And.intro (gv_table w _) ?_)
    refine And.intro (frozTable 0 fmT) ?_
    refine fm_out rfl hF fmT 0 [] _ _ _ _ (by decide) fun o2 o3 o4 o5 => ?_
    refine ⟨signs m 0 fmT, rfl, ?_, rfl, rfl⟩
    exact joinOk_ones _ (signs_len m fmT 0 fmT_len) (by show (signs m 0 fmT).length ≤ 1000; exact Nat.le_of_ble_eq_true rfl)
end Mine
end
section
open PySem PySem.W PySem.Spec PySem.Calls PyProof.Rows
set_option Elab.async false
set_option linter.unusedVariables false
set_option maxRecDepth 100000
namespace Mine
theorem c_buffer (w : World) (b : Array UInt8) (lv : Nat) : CALL PySem.Challenge.rw_op0036_01.row.prog w (KF w.params) lv 72 [.bytes b] (.bytes b) := by
  k_fill
  refine' fn_by (names := ["data"]) (more := ns_buffer.drop 1) (r := r_buffer) (k := 1) (ok1 w _) rz1 ?ho ?hcd ?hb ?hl ?hz ?hck ?hc ?h
  (case ho => k_is)
  (case hcd => k_is)
  (case hb => intro s vs _ _ h; refine hb1 (fun v0 => ?_) vs h; exact BindsTo.of_eq rfl)
  (case hl => exact rfl)
  (case hz => exact rfl)
  (case hck => kernel_rfl)
  (case hc => kernel_rfl)
  case h =>
    unfold r_buffer
    exact ⟨rfl, by decide +kernel, fun _ => ⟨rfl, rfl⟩, fun a => nomatch a⟩
theorem c_truth (w : World) (b : Bool) (lv : Nat) : CALL PySem.Challenge.rw_op0036_01.row.prog w (KF w.params) lv 79 [.bool b] (.bool b) := by
  k_fill
  refine' fn_by (names := ["x"]) (more := ns_truth.drop 1) (r := r_truth) (k := 1) (ok1 w _) rz1 ?ho ?hcd ?hb ?hl ?hz ?hck ?hc ?h
  (case ho => k_is)
  (case hcd => k_is)
  (case hb => intro s vs _ _ h; refine hb1 (fun v0 => ?_) vs h; exact BindsTo.of_eq rfl)
  (case hl => exact rfl)
  (case hz => exact rfl)
  (case hck => kernel_rfl)
  (case hc => kernel_rfl)
  case h =>
    unfold r_truth
    refine ⟨rfl, (fun a => nomatch a), fun _ => ⟨by decide +kernel, fun _ => ⟨fun _ => ⟨fun a => ⟨rfl, ?_⟩, fun a => ⟨rfl, ?_⟩⟩, fun a => nomatch a⟩, fun a => nof (show true = false from a).symm⟩⟩
    · rw [a]; rfl
    · rw [a]; rfl
end Mine
end
section
open PySem PySem.W PySem.Spec PySem.Calls PyProof.Rows
set_option Elab.async false
set_option linter.unusedVariables false
set_option maxRecDepth 100000
namespace Mine
noncomputable def emB : RS :=
  (.app 3 (.sub (.g "_B64" d_B64) (.bin .BitAnd (.bin .RShift (.v 5) (.bin .Sub (.v 4) (.int 6))) (.int 63)))
  (.set 4 (.bin .Sub (.v 4) (.int 6))
  .done))
theorem and63 (x : Int) : Builtin.bitAnd x 63 = x % 64 := kbt_mask x 6
section
variable {X : Fx} {o0 o1 o2 o6 : Option D} {out : List D} {lb lc : Int} {Q : PQ}
theorem em_turn {N : Env → Prop} (gB : GV X "_B64" d_B64) (h6 : 6 ≤ lb) (hl : out.length ≤ 1000) (h : N [o0, o1, o2, some (.mls (out ++ [.int (b64 (lc / 2 ^ (lb - 6).toNat % 64))])), some (.int (lb - 6)), some (.int lc), o6]) :
    wpS X emB [o0, o1, o2, some (.mls out), some (.int lb), some (.int lc), o6] (loopQ N Q) := by
  rw [← and63] at h
  exact ⟨gB, by omega, ⟨m6_lo _, m6_hi _, by exact Nat.le_of_ble_eq_true rfl⟩, ⟨rfl, by omega⟩, rfl, h⟩
noncomputable def byB : RS :=
  (.set 5 (.bin .BitAnd (.bin .BitOr (.bin .LShift (.v 5) (.int 8)) (.v 6)) (.int 65535))
  (.set 4 (.bin .Add (.v 4) (.int 8))
  (.while_ (.cmp .GtE (.v 4) (.int 6)) emB .done .done)))
theorem by_turn {N : Env → Prop} {b : Int} (n : Nat) (hcl : X.cl = false) (h0 : 0 ≤ b) (h1 : b < 256) (l0 : 0 ≤ lc) (l1 : lc < 65536)
    (h : wpWh (wp X (.cmp .GtE (.v 4) (.int 6)) .t) (wpS X emB) (wpS X .done) (seqQ (wpS X .done) (loopQ N Q)) n [o0, o1, o2, some (.mls out), some (.int (lb + 8)), some (.int ((lc * 256 + b) % 65536)), some (.int b)]) :
    wpS X byB [o0, o1, o2, some (.mls out), some (.int lb), some (.int lc), some (.int b)] (loopQ N Q) := by
  rw [← step_lc h0 h1] at h
  exact ⟨⟨by decide, by decide, by omega, by omega⟩, rfl, rfl, hcl, n, h⟩
theorem w_done {T : Env → (D → Prop) → Prop} {B O : Env → PQ → Prop} {ρ : Env} (hT : T ρ fun x => ifD x False (O ρ (noX Q))) : wpWh T B O Q 0 ρ := hT
theorem w_more {T : Env → (D → Prop) → Prop} {B O : Env → PQ → Prop} {ρ : Env} {n : Nat} (hT : T ρ fun x => ifD x (B ρ (loopQ (wpWh T B O Q n) Q)) (O ρ (noX Q))) : wpWh T B O Q (n + 1) ρ := hT
end
noncomputable def lc1 (x : Int) : Int := (0 * 256 + x) % 65536
noncomputable def lc2 (x y : Int) : Int := (lc1 x * 256 + y) % 65536
noncomputable def lc3 (x y z : Int) : Int := (lc2 x y * 256 + z) % 65536
noncomputable def enc3 (x y z : Int) : List Int := [b64 (lc1 x / 2 ^ 2 % 64), b64 (lc2 x y / 2 ^ 4 % 64), b64 (lc3 x y z / 2 ^ 6 % 64), b64 (lc3 x y z / 2 ^ 0 % 64)]
theorem b64_range (k : Int) : 0 ≤ b64 k ∧ b64 k < 256 := by
  unfold b64
  have := (b64tab.getD k.toNat 0).toNat_lt
  omega
theorem c_b2a (w : World) (x y z : UInt8) (lv : Nat) : CALLK PySem.Challenge.rw_op0036_01.row.prog w (KF w.params) (lv + 1) 87 [.bytes #[x, y, z]] ["newline"] [.bool false] (.bytes (byteArr (enc3 x.toNat y.toNat z.toNat))) := by
  k_fill
  refine' fn_byK (names := ["data", "newline"]) (more := ns_b2a_base64.drop 2) (r := r_b2a_base64) (k := 5) (ok1 w _) rz1 ?ho ?hcd ?hb ?hl ?hz ?hz' ?hck ?hc ?h
  (case ho => k_is)
  (case hcd => k_is)
  (case hb => intro s vs ks _ _ h h'; refine hb11 (fun a b => ?_) vs ks h h'; exact BindsTo.of_eq rfl)
  (case hl => exact rfl)
  (case hz => exact rfl)
  (case hz' => exact rfl)
  (case hck => kernel_rfl)
  (case hc => kernel_rfl)
  case h =>
    have fb : FN (X1 w (lv + 1)) "_buffer" [.bytes #[x, y, z]] (.bytes #[x, y, z]) := by
      refine' fn_at (c_buffer w _ lv) ?hg ?ho ?hd (Nat.le_refl _)
      ((case hg => k_is); (case ho => k_is); (case hd => exact rfl))
    have ft : FN (X1 w (lv + 1)) "_truth" [.bool false] (.bool false) := by
      refine' fn_at (c_truth w false lv) ?hg ?ho ?hd (Nat.le_refl _)
      ((case hg => k_is); (case ho => k_is); (case hd => exact rfl))
    have gB := gv_B64 w (lv + 1)
    have hx : (x.toNat : Int) < 256 := by have := x.toNat_lt; omega
    have hy : (y.toNat : Int) < 256 := by have := y.toNat_lt; omega
    have hz : (z.toNat : Int) < 256 := by have := z.toNat_lt; omega
    have m1 := Int.emod_nonneg (0 * 256 + (x.toNat : Int)) (show (65536 : Int) ≠ 0 by decide)
    have m2 := Int.emod_lt_of_pos (0 * 256 + (x.toNat : Int)) (show (0 : Int) < 65536 by decide)
    have m3 := Int.emod_nonneg (lc1 x.toNat * 256 + (y.toNat : Int)) (show (65536 : Int) ≠ 0 by decide)
    have m4 := Int.emod_lt_of_pos (lc1 x.toNat * 256 + (y.toNat : Int)) (show (0 : Int) < 65536 by decide)
    unfold r_b2a_base64
    refine ⟨_, fb, rfl, _, ft, rfl, ⟨by decide, rfl⟩, rfl, rfl, rfl, ?_⟩
    refine And.intro rfl ?_
    show wpFor [6] _ _ _ [.int x.toNat, .int y.toNat, .int z.toNat] _
    refine by_turn 1 rfl (by omega) hx (by decide) (by decide) (w_more ⟨fun _ => em_turn gB (by decide) (Nat.le_of_ble_eq_true rfl) (w_done ⟨(fun a => nomatch a), fun _ => ?_⟩), (fun a => nomatch a)⟩)
    refine by_turn 1 rfl (by omega) hy m1 m2 (w_more ⟨fun _ => em_turn gB (by decide) (Nat.le_of_ble_eq_true rfl) (w_done ⟨(fun a => nomatch a), fun _ => ?_⟩), (fun a => nomatch a)⟩)
    refine by_turn 2 rfl (by omega) hz m3 m4 (w_more ⟨fun _ => em_turn gB (by decide) (Nat.le_of_ble_eq_true rfl) (w_more ⟨fun _ => em_turn gB (by decide) (Nat.le_of_ble_eq_true rfl) (w_done ⟨(fun a => nomatch a), fun _ => ?_⟩), (fun a => nomatch a)⟩), (fun a => nomatch a)⟩)
    refine And.intro (fun a => nomatch a) fun _ => And.intro (fun a => nomatch a) fun _ => And.intro (fun a => nomatch a) fun _ => ?_
    have r : ∀ n ∈ enc3 x.toNat y.toNat z.toNat, 0 ≤ n ∧ n < 256 := fun n hn => by
      simp only [enc3, List.mem_cons, List.not_mem_nil, or_false] at hn
      rcases hn with rfl | rfl | rfl | rfl <;> exact b64_range _
    exact ⟨⟨rfl, r, Nat.le_of_ble_eq_true rfl⟩, rfl, rfl⟩
end Mine
end
section
open PySem PySem.W PySem.Spec PySem.Calls PyProof.Rows
set_option Elab.async false
set_option linter.unusedVariables false
set_option maxRecDepth 100000
namespace Mine
noncomputable def encB (x y z : UInt8) : Array UInt8 := byteArr (enc3 x.toNat y.toNat z.toNat)
theorem f_b2a (w : World) (x y z : UInt8) (lv : Nat) : FNK (X1 w (lv + 2)) "b2a_base64" [.bytes #[x, y, z]] "newline" (.bool false) (.bytes (encB x y z)) := by
  have C := c_b2a w x y z lv
  suffices H : FNK ⟨PySem.Challenge.rw_op0036_01.row.prog, w, KF w.params, lv + 2, false⟩ "b2a_base64" [.bytes #[x, y, z]] "newline" (.bool false) (.bytes (encB x y z)) from H
  k_fill
  refine' fnk_at C ?hg ?ho ?hd (Nat.le_refl _)
  ((case hg => k_is); (case ho => k_is); (case hd => exact rfl))
theorem c_b64n (w : World) (x y z : UInt8) (lv : Nat) : CALL PySem.Challenge.rw_op0036_01.row.prog w (KF w.params) (lv + 2) 95 [.bytes #[x, y, z], .none] (.bytes (encB x y z)) := by
  have fb := f_b2a w x y z lv
  k_fill
  refine' call_K0 (fn_byK (kn := []) (kd := []) (names := ["s", "altchars"]) (more := ns_b64encode.drop 2) (r := r_b64encode) (k := 1) (ok1 w _) rz1 ?ho ?hcd ?hb ?hl ?hz ?hz' ?hck ?hc ?h)
  (case ho => k_is)
  (case hcd => k_is)
  (case hb => intro s vs ks _ X h h'; refine hb20 (fun a b => ?_) vs ks h h'; exact binds_K X rfl (by k_is) rfl rfl rfl)
  (case hl => exact rfl)
  (case hz => exact rfl)
  (case hz' => exact rfl)
  (case hck => kernel_rfl)
  (case hc => kernel_rfl)
  case h =>
    unfold r_b64encode
    exact ⟨_, fb, rfl, (fun a => nomatch a), fun _ => ⟨rfl, rfl⟩⟩
theorem c_b64a (w : World) (x y z a b : UInt8) (lv : Nat) : CALL PySem.Challenge.rw_op0036_01.row.prog w (KF w.params) (lv + 2) 95 [.bytes #[x, y, z], .bytes #[a, b]] (.bytes (transBy (transOf [43, 47] [a, b]) (encB x y z))) := by
  have fb := f_b2a w x y z lv
  k_fill
  refine' call_K0 (fn_byK (kn := []) (kd := []) (names := ["s", "altchars"]) (more := ns_b64encode.drop 2) (r := r_b64encode) (k := 1) (ok1 w _) rz1 ?ho ?hcd ?hb ?hl ?hz ?hz' ?hck ?hc ?h)
  (case ho => k_is)
  (case hcd => k_is)
  (case hb => intro s vs ks _ X h h'; refine hb20 (fun a b => ?_) vs ks h h'; exact binds_K X rfl (by k_is) rfl rfl rfl)
  (case hl => exact rfl)
  (case hz => exact rfl)
  (case hz' => exact rfl)
  (case hck => kernel_rfl)
  (case hc => kernel_rfl)
  case h =>
    unfold r_b64encode
    refine ⟨_, fb, rfl, fun _ => ?_, fun a => nomatch a⟩
    exact ⟨Nat.le_of_ble_eq_true rfl, rfl, rfl, ⟨transOf_size _ _, Nat.le_of_ble_eq_true rfl⟩, rfl, rfl⟩
end Mine
end
section
open PySem PySem.W PySem.Spec PySem.Calls PyProof.Rows
set_option Elab.async false
set_option linter.unusedVariables false
set_option maxRecDepth 100000
namespace Mine
noncomputable def pairsD : List D := [.str "+/", .str "-_", .str "_-", .str "-+", .str " -", .str "?_", .str "- ", .str "-)", .str "5-", .str "d?"]
noncomputable def pairOf (f5 : Int) : Str := txt pairsD f5
noncomputable def alpha : Str := "ABCDEFGHIJKLMNOPQRSTUVWXYZabcdefghijklmnopqrstuvwxyz0123456789"
noncomputable def sgn (f5 : Int) : Str := alpha ++ pairOf f5
noncomputable def ownOf (k : Str) (f5 : Int) : Int := if Txt.contains (sgn f5) k = true then Txt.find (sgn f5) k else 62
noncomputable def sixTab (o : Int) : List D := [.int 52, .int 59, .int 61, .int 62, .int 63, .int o, .int o, .int 55, .int 44, .int 56]
noncomputable def six (o f : Int) : Int := num (sixTab o) f
noncomputable def packOf (a b d e : Int) : Int := ((64 * a + b) * 64 + d) * 64 + e
noncomputable def octs (p : Int) : List Int := [p / 65536, p / 256 % 256, p % 256]
noncomputable def textOf (f5 a b d e : Int) : Str := Txt.join "" [Txt.item (sgn f5) a, Txt.item (sgn f5) b, Txt.item (sgn f5) d, Txt.item (sgn f5) e]
noncomputable def sixD (o : Int) : D → D
  | .int f => .int (six o f)
  | _ => .none
noncomputable def signD (f5 : Int) : D → D
  | .int a => .str (Txt.item (sgn f5) a)
  | _ => .none
theorem pair_len {f5 : Int} (h : 0 ≤ f5 ∧ f5 ≤ 9) : (pairOf f5).length = 2 :=
  ten (P := fun f5 => (pairOf f5).length = 2) (by decide +kernel) h.1 h.2
theorem sgn_len {f5 : Int} (h : 0 ≤ f5 ∧ f5 ≤ 9) : (sgn f5).length = 64 := by
  unfold sgn
  rw [len_app, pair_len h]
  decide +kernel
theorem six_at {o k : Int} (h0 : 0 ≤ k) (h1 : k ≤ 9) : (sixTab o)[k.toNat]? = some (.int (six o k)) :=
  get10x (fun k => .int (six o k)) ⟨rfl, rfl, rfl, rfl, rfl, rfl, rfl, rfl, rfl, rfl⟩ h0 h1
theorem six_rng {o f : Int} (ho : 0 ≤ o ∧ o < 64) (h : 0 ≤ f ∧ f ≤ 9) : 0 ≤ six o f ∧ six o f < 64 := by
  have : ∀ d ∈ sixTab o, 0 ≤ unI d ∧ unI d < 64 := fa1 (by decide) (fa1 (by decide) (fa1 (by decide) (fa1 (by decide) (fa1 (by decide) (fa1 ho (fa1 ho (fa1 (by decide) (fa1 (by decide) (fa1 (by decide) fa0)))))))))
  exact this _ (List.mem_of_getElem? (six_at h.1 h.2))
theorem pack_rng {a b d e : Int} (h1 : 0 ≤ a ∧ a < 64) (h2 : 0 ≤ b ∧ b < 64) (h3 : 0 ≤ d ∧ d < 64) (h4 : 0 ≤ e ∧ e < 64) : 0 ≤ packOf a b d e ∧ packOf a b d e < 16777216 := by
  unfold packOf; omega
theorem oct_a {p : Int} (h : 0 ≤ p ∧ p < 16777216) : 0 ≤ p / 65536 ∧ p / 65536 < 256 := by omega
theorem oct_b (p : Int) : 0 ≤ p % 256 ∧ p % 256 < 256 := by omega
theorem octs_ok {a b d e : Int} (h1 : 0 ≤ a ∧ a < 64) (h2 : 0 ≤ b ∧ b < 64) (h3 : 0 ≤ d ∧ d < 64) (h4 : 0 ≤ e ∧ e < 64) : ∀ n ∈ octs (packOf a b d e), 0 ≤ n ∧ n < 256 :=
  fa1 (oct_a (pack_rng h1 h2 h3 h4)) (fa1 (oct_b _) (fa1 (oct_b _) fa0))
noncomputable def signsD (f : Nat → Int) (k : Str) : D := .tup [.str (pairOf (f 5)), .str (textOf (f 5) (six (ownOf k (f 5)) (f 6)) (six (ownOf k (f 5)) (f 7)) (six (ownOf k (f 5)) (f 8)) (six (ownOf k (f 5)) (f 9))), .bytes (byteArr (octs (packOf (six (ownOf k (f 5)) (f 6)) (six (ownOf k (f 5)) (f 7)) (six (ownOf k (f 5)) (f 8)) (six (ownOf k (f 5)) (f 9)))))]
theorem pair_at {k : Int} (h0 : 0 ≤ k) (h1 : k ≤ 9) : pairsD[k.toNat]? = some (.str (pairOf k)) :=
  get10x (fun k => .str (pairOf k)) ⟨rfl, rfl, rfl, rfl, rfl, rfl, rfl, rfl, rfl, rfl⟩ h0 h1
theorem sgn_ok {f5 g : Int} (h : (sgn f5).length = 64) (h0 : 0 ≤ g) (h1 : g < 64) : -((sgn f5).length : Int) ≤ g ∧ g < (sgn f5).length ∧ (sgn f5).length ≤ 2 ^ 60 := by
  rw [h]; exact ⟨by omega, h1, by decide⟩
theorem c_signs (w : World) (f : Nat → Int) (k : Str) (lv : Nat) (F : Figs f) (ho : 0 ≤ ownOf k (f 5) ∧ ownOf k (f 5) < 64) : CALL PySem.Challenge.rw_op0036_01.row.prog w (KF w.params) lv 161 [figL f, .str k] (signsD f k) := by
  k_fill
  refine' fn_by (names := ["figures", "kind"]) (more := ns_law_signs.drop 2) (r := r_law_signs) (k := 7) (ok1 w _) rz1 ?ho ?hcd ?hb ?hl ?hz ?hck ?hc ?h
  (case ho => k_is)
  (case hcd => k_is)
  (case hb => intro s vs _ _ h; refine hb2 (fun v0 v1 => ?_) vs h; exact BindsTo.of_eq rfl)
  (case hl => exact rfl)
  (case hz => exact rfl)
  (case hck => kernel_rfl)
  (case hc => kernel_rfl)
  case h =>
    have a5 := F.lo 5; have b5 := F.hi 5
    have ls := sgn_len ⟨a5, b5⟩
    have lp := pair_len ⟨a5, b5⟩
    have la : alpha.length = 62 := by decide +kernel
    have sz := szl
    unfold r_law_signs figL
    refine ⟨by decide, ⟨by decide, by decide⟩, _, rfl, ⟨a5, by omega⟩, _, pair_at a5 b5, rfl, ?_⟩
    refine ⟨by show alpha.length + _ ≤ _; omega, rfl, ?_⟩
    refine ⟨.int (ownOf k (f 5)), fun a => ?_, fun a => ?_, rfl, ?_⟩
    · show D.int (Txt.find (sgn (f 5)) k) = _
      unfold ownOf; rw [if_pos (show Txt.contains (sgn (f 5)) k = true from a)]
    · show D.int 62 = _
      unfold ownOf; rw [if_neg (by show ¬ (Txt.contains (sgn (f 5)) k = true); rw [show Txt.contains (sgn (f 5)) k = false from a]; decide)]
    · refine And.intro ⟨Nat.le_of_ble_eq_true rfl, fun a e => by cases e; exact ⟨by decide, Int.ofNat_le.mpr (Nat.le_of_ble_eq_true rfl)⟩, fun b e => (nomatch e), fun a b _ e => (nomatch e)⟩ ?_
      refine And.intro ⟨rfl, Nat.le_of_ble_eq_true rfl, rfl⟩ ⟨sixD (ownOf k (f 5)), ?_, ?_⟩
      · refine fa1 ?_ (fa1 ?_ (fa1 ?_ (fa1 ?_ fa0)))
        · exact ⟨Nat.le_of_ble_eq_true rfl, ⟨F.lo 6, lt63 (F.hi 6)⟩, _, six_at (F.lo 6) (F.hi 6), rfl, rfl⟩
        · exact ⟨Nat.le_of_ble_eq_true rfl, ⟨F.lo 7, lt63 (F.hi 7)⟩, _, six_at (F.lo 7) (F.hi 7), rfl, rfl⟩
        · exact ⟨Nat.le_of_ble_eq_true rfl, ⟨F.lo 8, lt63 (F.hi 8)⟩, _, six_at (F.lo 8) (F.hi 8), rfl, rfl⟩
        · exact ⟨Nat.le_of_ble_eq_true rfl, ⟨F.lo 9, lt63 (F.hi 9)⟩, _, six_at (F.lo 9) (F.hi 9), rfl, rfl⟩
      · have s6 := six_rng ho ⟨F.lo 6, F.hi 6⟩
        have s7 := six_rng ho ⟨F.lo 7, F.hi 7⟩
        have s8 := six_rng ho ⟨F.lo 8, F.hi 8⟩
        have s9 := six_rng ho ⟨F.lo 9, F.hi 9⟩
        refine And.intro rfl ?_
        refine ⟨⟨by decide, by decide⟩, _, rfl, ⟨by decide, by decide⟩, ⟨by decide, by decide⟩, _, rfl, ⟨?_, ?_⟩, ⟨by decide, by decide⟩, _, rfl, ⟨?_, ?_⟩, ⟨by decide, by decide⟩, _, rfl, rfl, ?_⟩
        · omega
        · omega
        · omega
        · omega
        · refine And.intro ⟨rfl, Nat.le_of_ble_eq_true rfl, rfl⟩ ⟨signD (f 5), ?_, ?_⟩
          · exact fa1 ⟨sgn_ok ls s6.1 s6.2, rfl, rfl⟩ (fa1 ⟨sgn_ok ls s7.1 s7.2, rfl, rfl⟩ (fa1 ⟨sgn_ok ls s8.1 s8.2, rfl, rfl⟩ (fa1 ⟨sgn_ok ls s9.1 s9.2, rfl, rfl⟩ fa0)))
          · refine ⟨[Txt.item (sgn (f 5)) (six (ownOf k (f 5)) (f 6)), Txt.item (sgn (f 5)) (six (ownOf k (f 5)) (f 7)), Txt.item (sgn (f 5)) (six (ownOf k (f 5)) (f 8)), Txt.item (sgn (f 5)) (six (ownOf k (f 5)) (f 9))], rfl, joinOk_ones _ (fa1 rfl (fa1 rfl (fa1 rfl (fa1 rfl fa0)))) (Nat.le_of_ble_eq_true rfl), ?_⟩
            exact ⟨⟨by decide, by decide⟩, ⟨by decide, by decide⟩, by decide, by decide, Nat.le_of_ble_eq_true rfl, ⟨rfl, octs_ok s6 s7 s8 s9, Nat.le_of_ble_eq_true rfl⟩, Nat.le_of_ble_eq_true rfl, rfl, rfl⟩
end Mine
end
section
open PySem PySem.W PySem.Spec PySem.Calls PyProof.Rows
set_option Elab.async false
set_option linter.unusedVariables false
set_option maxRecDepth 100000
namespace Mine
noncomputable def body0 (text : Str) : Str := Txt.stripChars text " "
noncomputable def first1 (b : Str) : Str := Txt.slice b none (some 1)
noncomputable def turnOf (b : Str) : Int := if (first1 b == "-") = true then -1 else 1
noncomputable def signed (b : Str) : Bool := (toPys [.str "-", .str "+"]).any fun y => PyData.eqv y (.str (first1 b))
noncomputable def body1 (b : Str) : Str := if signed b = true then Txt.slice b (some 1) none else b
noncomputable def digs : Str := "0123456789"
noncomputable def foldN : List Nat → Int → Int
  | [], n => n
  | q :: r, n => foldN r (10 * n + Txt.find digs ⟨#[q]⟩)
noncomputable def badPart (p : Str) : Bool := p == "" || (Txt.stripChars p digs != "")
noncomputable def runParts : List Str → Int → Option Int
  | [], n => some n
  | p :: r, n => if badPart p = true then none else runParts r (foldN p.cps.toList n)
noncomputable def portD (text host : Str) : D := match runParts (Txt.split (body1 (body0 text)) "_") 0 with
  | none => .tup [.str "unread"]
  | some n => .tup [.str host, .int (turnOf (body0 text) * n)]
theorem stripChars_le (x y : Str) : (Txt.stripChars x y).length ≤ x.length := by
  unfold Txt.stripChars Txt.stripBy
  split
  · exact Nat.le_refl _
  · exact strSub_length_le _ _ _
theorem turn_rng (b : Str) : -(2 ^ 64) < turnOf b ∧ turnOf b < 2 ^ 64 := by
  unfold turnOf
  split <;> decide
section
variable {X : Fx} {o0 o1 o2 o3 o4 : Option D} {Q : PQ}
theorem dig_loop : ∀ (l : List Nat) (n : Int) (o6 : Option D), (∀ o6, Q .next [o0, o1, o2, o3, o4, some (.int (foldN l n)), o6]) →
    wpFor [6] (wpS X (.set 5 (.bin .Add (.bin .Mult (.int 10) (.v 5)) (.me .find (.str "0123456789") (.cons (.v 6) .nil))) .done)) (wpS X .done) Q (l.map fun q => .str ⟨#[q]⟩) [o0, o1, o2, o3, o4, some (.int n), o6]
  | [], n, o6, h => h o6
  | q :: l, n, o6, h => ⟨⟨by decide, by decide⟩, rfl, dig_loop l _ _ h⟩
noncomputable def partB : RS :=
  (.ite (.or (.cons (.cmp .Eq (.v 3) (.str "")) (.cons (.cmp .NotEq (.me .strip (.v 3) (.cons (.str "0123456789") .nil)) (.str "")) .nil)))
  (.ret (.tup (.cons (.str "unread") .nil)))
  .done
  (.for_ [6] false (.v 3)
  (.set 5 (.bin .Add (.bin .Mult (.int 10) (.v 5)) (.me .find (.str "0123456789") (.cons (.v 6) .nil)))
  .done)
  .done
  .done))
theorem froz_signs : ∀ (l : List Nat), frozB.frozBs (l.map fun q => D.str ⟨#[q]⟩) = true
  | [] => rfl
  | q :: l => froz_signs l
theorem part_loop (hcl : X.cl = false) : ∀ (ps : List Str) (n : Int) (o3 o6 : Option D), (∀ p ∈ ps, p.length ≤ 1000) → (runParts ps n = none → ∀ ρ, Q (.ret (.tup [.str "unread"])) ρ) → (∀ k, runParts ps n = some k → ∀ o3 o6, Q .next [o0, o1, o2, o3, o4, some (.int k), o6]) →
    wpFor [3] (wpS X partB) (wpS X .done) Q (ps.map .str) [o0, o1, o2, o3, o4, some (.int n), o6]
  | [], n, o3, o6, _, _, h => h n rfl o3 o6
  | p :: ps, n, o3, o6, hl, hN, hS => by
    have sz := szl
    have hp := hl p (.head _)
    have bad : badPart p = true → ∀ ρ, Q (.ret (.tup [.str "unread"])) ρ := fun b => hN (by show (if badPart p = true then none else _) = none; rw [if_pos b])
    refine ⟨fun a => ⟨fun _ => ⟨by decide, rfl, bad ?_ _⟩, fun c => (nomatch c)⟩, fun a => ⟨by omega, fun b => ⟨fun _ => ⟨by decide, rfl, bad ?_ _⟩, fun c => (nomatch c)⟩, fun b => ⟨fun c => (nomatch c), fun _ => ?_⟩⟩⟩
    · unfold badPart; rw [a]; rfl
    · unfold badPart; rw [a]; exact b
    · have g : badPart p = false := by unfold badPart; rw [a]; exact b
      have e : ∀ k, runParts (p :: ps) k = runParts ps (foldN p.cps.toList k) := fun k => by show (if badPart p = true then none else _) = _; rw [if_neg (by rw [g]; decide)]
      rw [e] at hN hS
      refine ⟨hcl, froz_signs _, ?_⟩
      exact dig_loop p.cps.toList n _ fun o6 => part_loop hcl ps _ _ _ (fun q hq => hl q (.tail _ hq)) hN hS
end
theorem c_port (w : World) (text host : Str) (lv : Nat) (hz : text.length ≤ 1000) (h1 : PyData.strOk (first1 (body0 text)) = true) (h2 : (Builtin.Str.partsBetween (body1 (body0 text)) (Builtin.Str.occurrences (body1 (body0 text)) "_" 0 (body1 (body0 text)).length ((body1 (body0 text)).length + 1)) (Str.length "_")).length ≤ sizeLine) (h3 : ∀ p ∈ Txt.split (body1 (body0 text)) "_", p.length ≤ 1000) :
    CALL PySem.Challenge.rw_op0036_01.row.prog w (KF w.params) lv 168 [.str text, .str host] (portD text host) := by
  k_fill
  refine' fn_by (names := ["text", "host"]) (more := ns_law_port.drop 2) (r := r_law_port) (k := 5) (ok1 w _) rz1 ?ho ?hcd ?hb ?hl ?hz ?hck ?hc ?h
  (case ho => k_is)
  (case hcd => k_is)
  (case hb => intro s vs _ _ h; refine hb2 (fun v0 v1 => ?_) vs h; exact BindsTo.of_eq rfl)
  (case hl => exact rfl)
  (case hz => exact rfl)
  (case hck => kernel_rfl)
  (case hc => kernel_rfl)
  case h =>
    have sz := szl
    have z0 : (body0 text).length ≤ 1000 := Nat.le_trans (stripChars_le _ _) hz
    have z1 : (body1 (body0 text)).length ≤ 1000 := by
      unfold body1
      split
      · exact Nat.le_trans (Txt.slice_le _ _ _) z0
      · exact z0
    unfold r_law_port
    refine And.intro (by omega) (And.intro ⟨Nat.le_of_ble_eq_true rfl, rfl, rfl⟩ ?_)
    refine And.intro (by show (body0 text).length ≤ _; omega) ⟨.int (turnOf (body0 text)), fun a => ?_, fun a => ?_, rfl, ?_⟩
    · show D.int (-1) = _
      unfold turnOf; rw [if_pos (show (first1 (body0 text) == "-") = true from a)]
    · show D.int 1 = _
      unfold turnOf; rw [if_neg (by rw [show (first1 (body0 text) == "-") = false from a]; decide)]
    · refine ⟨by show (body0 text).length ≤ _; omega, Nat.le_of_ble_eq_true rfl, ⟨⟨rfl, h1, Nat.le_of_ble_eq_true rfl⟩, rfl, by decide +kernel⟩, [some (.str text), some (.str host), some (.int (turnOf (body0 text))), none, some (.str (body1 (body0 text))), some (.int 0), none], fun a => ?_, fun a => ?_, ?_⟩
      · refine ⟨by show (body0 text).length ≤ _; omega, rfl, ?_⟩
        have e : body1 (body0 text) = Txt.slice (body0 text) (some 1) none := if_pos (show signed (body0 text) = true from a)
        rw [e]; rfl
      · have e : body1 (body0 text) = body0 text := if_neg (by rw [show signed (body0 text) = false from a]; decide)
        rw [e]; rfl
      · refine ⟨rfl, ⟨by decide +kernel, by omega, h2⟩, froz_strs _, ?_⟩
        have tr := turn_rng (body0 text)
        have hp : portD text host = (match runParts (Txt.split (body1 (body0 text)) "_") 0 with | none => .tup [.str "unread"] | some n => .tup [.str host, .int (turnOf (body0 text) * n)]) := rfl
        rw [hp]
        show wpFor [3] (wpS _ partB) (wpS _ .done) _ ((Txt.split (body1 (body0 text)) (Str.ofString "_")).map .str) [some (.str text), some (.str host), some (.int (turnOf (body0 text))), none, some (.str (body1 (body0 text))), some (.int 0), none]
        generalize Txt.split (body1 (body0 text)) (Str.ofString "_") = ps at *
        generalize turnOf (body0 text) = t at *
        generalize body1 (body0 text) = b1 at *
        refine part_loop rfl ps 0 none none h3 (fun e ρ => ?_) (fun k e o3 o6 => ?_)
        · rw [e]; exact rfl
        · rw [e]; exact ⟨tr, Nat.le_of_ble_eq_true rfl, rfl, rfl⟩
end Mine
end
section
open PySem PySem.W PySem.Spec PySem.Calls PyProof.Rows
set_option Elab.async false
set_option linter.unusedVariables false
set_option maxRecDepth 100000
namespace Mine
structure PortOk (text : Str) : Prop where
  hz : text.length ≤ 1000
  h1 : PyData.strOk (first1 (body0 text)) = true
  h2 : (Builtin.Str.partsBetween (body1 (body0 text)) (Builtin.Str.occurrences (body1 (body0 text)) "_" 0 (body1 (body0 text)).length ((body1 (body0 text)).length + 1)) (Str.length "_")).length ≤ sizeLine
  h3 : ∀ p ∈ Txt.split (body1 (body0 text)) "_", p.length ≤ 1000
noncomputable def insOf (row : Str) : Str := (Txt.partition row ")").1
noncomputable def isMark (ins : Str) (i : Int) : Bool := Txt.item ins i == Txt.item ins 0
noncomputable def marksOf (ins : Str) : List Int := ((List.range ins.length).map fun (i : Nat) => (i : Int)).filter (isMark ins)
noncomputable def markP (ins : Str) : D → Bool
  | .int i => isMark ins i
  | _ => false
noncomputable def mk (ins : Str) (k : Int) : Int := num ((marksOf ins).map .int) k
noncomputable def spoiled (ins : Str) : Bool := ((((marksOf ins).map D.int).length : Int) != 4) || (mk ins 3 != (ins.length : Int) - 1)
noncomputable def midOf (ins : Str) : Str := Txt.slice ins (some (mk ins 2 + 1)) (some (mk ins 3))
noncomputable def toldD (row reply host : Str) : D :=
  if (Txt.slice reply none (some 3) != "229") = true then .tup [.str "refused", .str reply]
  else if spoiled (insOf row) = true then .tup [.str "spoiled", .str reply] else portD (midOf (insOf row)) host
theorem rng_marks (ins : Str) : ((rngOf 0 1 ins.length).filter (markP ins)).map id = (marksOf ins).map .int := by
  rw [List.map_id]
  unfold marksOf rngOf
  rw [List.filter_map, List.filter_map, List.map_map]
  have e : (fun (i : Nat) => D.int (0 + (i : Int) * 1)) = D.int ∘ fun (i : Nat) => (i : Int) := by
    funext i
    simp only [Function.comp]
    congr 1; omega
  rw [e]
  rfl
theorem partition_le (x y : Str) : (Txt.partition x y).1.length ≤ x.length := by
  unfold Txt.partition
  split
  · exact strSub_length_le _ _ _
  · exact Nat.le_refl _
theorem marks_le (ins : Str) : (marksOf ins).length ≤ ins.length := by
  unfold marksOf
  refine Nat.le_trans (List.length_filter_le _ _) ?_
  rw [List.length_map, List.length_range]; exact Nat.le_refl _
theorem rng_in {n : Nat} {d : D} (h : d ∈ rngOf 0 1 n) : ∃ i : Int, d = .int i ∧ 0 ≤ i ∧ i < n := by
  unfold rngOf at h
  obtain ⟨j, hj, rfl⟩ := List.mem_map.mp h
  exact ⟨_, rfl, by omega, by have := List.mem_range.mp hj; omega⟩
theorem froz_ints (g : Nat → Int) : ∀ (l : List Nat), frozB.frozBs (l.map fun j => D.int (g j)) = true
  | [] => rfl
  | _ :: l => froz_ints g l
theorem froz_ints' : ∀ (l : List Int), frozB.frozBs (l.map .int) = true
  | [] => rfl
  | _ :: l => froz_ints' l
theorem froz_portD (t h : Str) : frozB (portD t h) = true := by
  unfold portD
  split <;> rfl
theorem c_told (w : World) (row reply host : Str) (lv : Nat) (hz : row.length ≤ 1000) (hy : reply.length ≤ 1000) (hp : PortOk (midOf (insOf row))) :
    CALL PySem.Challenge.rw_op0036_01.row.prog w (KF w.params) (lv + 1) 173 [.str row, .str reply, .str host] (toldD row reply host) := by
  k_fill
  refine' fn_by (names := ["row", "reply", "host"]) (more := ns_law_told.drop 3) (r := r_law_told) (k := 3) (ok1 w _) rz1 ?ho ?hcd ?hb ?hl ?hz ?hck ?hc ?h
  (case ho => k_is)
  (case hcd => k_is)
  (case hb => intro s vs _ _ h; refine hb3 (fun v0 v1 v2 => ?_) vs h; exact BindsTo.of_eq rfl)
  (case hl => exact rfl)
  (case hz => exact rfl)
  (case hck => kernel_rfl)
  (case hc => kernel_rfl)
  case h =>
    have fp : FN (X1 w (lv + 1)) "_law_port" [.str (midOf (insOf row)), .str host] (portD (midOf (insOf row)) host) := by
      refine' fn_at (c_port w (midOf (insOf row)) host lv hp.hz hp.h1 hp.h2 hp.h3) ?hg ?ho ?hd (Nat.le_refl _)
      ((case hg => k_is); (case ho => k_is); (case hd => exact rfl))
    have sz := szl
    have z0 : (insOf row).length ≤ 1000 := Nat.le_trans (partition_le _ _) hz
    have htold : toldD row reply host = (if (Txt.slice reply none (some 3) != "229") = true then .tup [.str "refused", .str reply] else if spoiled (insOf row) = true then .tup [.str "spoiled", .str reply] else portD (midOf (insOf row)) host) := rfl
    rw [htold]
    clear htold hp
    unfold r_law_told
    refine And.intro (by omega) (And.intro (fun a => ?_) fun a => ?_)
    · rw [if_pos a]
      exact ⟨Nat.le_of_ble_eq_true rfl, rfl, rfl⟩
    · rw [if_neg (by rw [show (Txt.slice reply none (some 3) != "229") = false from a]; decide)]
      refine ⟨⟨by decide +kernel, by omega⟩, ⟨by decide, by decide⟩, .str (insOf row), rfl, rfl, ?_⟩
      have hs : Builtin.Range.small 0 ((insOf row).length : Int) 1 = true := small_one (by decide) (by decide) (by omega) (by omega)
      have hn : Builtin.Range.rangeSize 0 ((insOf row).length : Int) 1 = ((insOf row).length : Nat) := by rw [rangeSize_one]; split <;> omega
      have rm := rng_marks (insOf row)
      generalize insOf row = I at *
      have ix : ∀ i : Int, 0 ≤ i → i < I.length → (-(I.length : Int) ≤ i ∧ i < I.length ∧ I.length ≤ 2 ^ 60) := fun i h0 h1 => ⟨by omega, h1, by omega⟩
      refine And.intro (by omega) (And.intro hs ⟨I.length, hn, ⟨?_, ?_, rfl⟩, markP I, id, fun d hd => ?_, fun d hd _ => ?_, ?_⟩)
      · exact froz_ints _ _
      · unfold rngOf; rw [List.length_map, List.length_range]; omega
      · obtain ⟨i, rfl, i0, i1⟩ := rng_in hd
        exact ⟨ix i i0 i1, ix 0 (by decide) (by omega), rfl⟩
      · obtain ⟨i, rfl, i0, i1⟩ := rng_in hd
        exact ⟨rfl, rfl⟩
      · rw [rm]
        refine And.intro (froz_ints' _) ?_
        have ml := marks_le I
        have sp : spoiled I = true → wpS ⟨PySem.Challenge.rw_op0036_01.row.prog, w, KF w.params, lv + 1, false⟩ (.ret (.tup (.cons (.str "spoiled") (.cons (.v 1) .nil)))) [some (.str row), some (.str reply), some (.str host), some (.str I), some (.lst ((marksOf I).map .int)), none] (endQ (if spoiled I = true then .tup [.str "spoiled", .str reply] else portD (midOf I) host)) := fun e => by
          rw [if_pos e]; exact ⟨Nat.le_of_ble_eq_true rfl, rfl, rfl⟩
        refine ⟨by rw [List.length_map]; omega, fun b => ⟨fun _ => sp (by unfold spoiled; rw [b]; rfl), fun c => (nomatch c)⟩, fun b => ?_⟩
        have b' := bne_eq_false_iff_eq.mp b
        have l4 : (marksOf I).length = 4 := by rw [List.length_map] at b'; omega
        have at_k : ∀ k : Nat, k < 4 → ((marksOf I).map D.int)[k]? = some (.int (mk I k)) := fun k hk => by
          unfold mk num
          obtain ⟨x, hx⟩ : ∃ x, (marksOf I)[k]? = some x := ⟨_, List.getElem?_eq_getElem (by omega)⟩
          rw [List.getElem?_map, hx]
          simp only [Option.map_some, Int.toNat_natCast]
          rw [List.getElem?_map, hx]; rfl
        have z30 : (0 : Int) ≤ 3 ∧ (3 : Int) < 2 ^ 63 := ⟨by decide, by decide⟩
        have z20 : (0 : Int) ≤ 2 ∧ (2 : Int) < 2 ^ 63 := ⟨by decide, by decide⟩
        have i3 := at_k 3 (by decide)
        have i2 := at_k 2 (by decide)
        refine ⟨z30, _, i3, by omega, fun c => ⟨fun _ => sp (by unfold spoiled; rw [show (mk I 3 != (I.length : Int) - 1) = true from c, Bool.or_true]), fun c => (nomatch c)⟩, fun c => ⟨fun c => (nomatch c), fun _ => ?_⟩⟩
        have ns : ¬ (spoiled I = true) := by unfold spoiled; rw [b, show (mk I 3 != (I.length : Int) - 1) = false from c]; decide
        rw [if_neg ns]
        exact ⟨z20, _, i2, z30, _, i3, by omega, portD (midOf I) host, fp, froz_portD _ _, rfl⟩
end Mine
end
section
open PySem PySem.W PySem.Spec PySem.Calls PyProof.Rows
open PySem.Builtin PySem.Builtin.Str
set_option Elab.async false
set_option linter.unusedVariables false
namespace Mine
noncomputable def cl (x : Str) : List Nat := x.cps.toList
theorem cl_len (x : Str) : (cl x).length = x.length := Array.length_toList
theorem cl_app (a b : Str) : cl (a ++ b) = cl a ++ cl b := by
  unfold cl; rw [Str.cps_append, Array.toList_append]
theorem cl_ext {a b : Str} (h : cl a = cl b) : a = b := Str.ext' (Array.toList_inj.mp h)
theorem cl_one (c : Nat) : cl ⟨#[c]⟩ = [c] := rfl
theorem charAt_nat {x : Str} {i : Nat} (h : i < x.length) : Txt.charAt x i = (cl x)[i]? := by
  unfold Txt.charAt
  rw [StrLaws.seqIndex_nonneg (by omega) (by omega)]
  show x.cps[((i : Int)).toNat]? = _
  unfold cl
  rw [Array.getElem?_toList]; rfl
theorem item_at {x : Str} {i c : Nat} (h : (cl x)[i]? = some c) : Txt.item x i = ⟨#[c]⟩ := by
  unfold Txt.item
  have hl : i < x.length := by
    obtain ⟨h, _⟩ := List.getElem?_eq_some_iff.mp h
    rw [← cl_len]; exact h
  rw [charAt_nat hl, h]; rfl
theorem cl_sub (s : Str) (i j : Nat) : cl (strSub s i j) = ((cl s).drop i).take (j - i) := StrLaws.strSub_toList s i j
theorem cl_cut {x : Str} {a b : Nat} (hab : a ≤ b) (hb : b ≤ x.length) : cl (Txt.slice x (some (a : Int)) (some (b : Int))) = ((cl x).drop a).take (b - a) := by
  show cl (StrLaws.sliceText x (some (a : Int)) (some (b : Int))) = _
  rw [StrLaws.sliceText_nat x hab hb]; rfl
theorem cl_to {x : Str} {b : Nat} (hb : b ≤ x.length) : cl (Txt.slice x none (some (b : Int))) = (cl x).take b := by
  show cl (StrLaws.sliceText x none (some (b : Int))) = _
  have hl : x.cps.toList.length = x.length := cl_len x
  rw [StrLaws.sliceText_to ⟨by omega, by omega⟩]
  show (x.cps.toList.drop 0).take ((b : Int) - 0).toNat = _
  rw [List.drop_zero, show ((b : Int) - 0).toNat = b from by omega]; rfl
theorem cl_from {x : Str} {a : Nat} (ha : a ≤ x.length) : cl (Txt.slice x (some (a : Int)) none) = (cl x).drop a := by
  show cl (StrLaws.sliceText x (some (a : Int)) none) = _
  have hl : x.cps.toList.length = x.length := cl_len x
  rw [StrLaws.sliceText_from ⟨by omega, by omega⟩]
  show (x.cps.toList.drop ((a : Int)).toNat).take ((x.cps.toList.length : Int) - a).toNat = _
  rw [show ((a : Int)).toNat = a from by omega, List.take_of_length_le (by rw [List.length_drop]; omega)]; rfl
theorem at_one {x : Str} {c i : Nat} : StrLaws.At x ⟨#[c]⟩ x.length i ↔ (cl x)[i]? = some c := StrLaws.subAt_one x c i
theorem occ_at {x : Str} {c k : Nat} (h : (cl x)[k]? = some c) (hn : ∀ j, j < k → (cl x)[j]? ≠ some c) : ∃ r, occurrences x ⟨#[c]⟩ 0 x.length 1 = k :: r := by
  rcases StrLaws.occ_head x ⟨#[c]⟩ 1 (Nat.le_refl 1) with ⟨_, hno⟩ | ⟨i, r, e, hi, hb⟩
  · exact absurd (at_one.mpr h) (hno k)
  · have h1 : ¬ i < k := fun z => hn i z (at_one.mp hi)
    have h2 : ¬ k < i := fun z => hb k z (at_one.mpr h)
    exact ⟨r, by rw [e, show i = k from by omega]⟩
theorem occ_none {x : Str} {c : Nat} (h : c ∉ cl x) : occurrences x ⟨#[c]⟩ 0 x.length 1 = [] := by
  rcases StrLaws.occ_head x ⟨#[c]⟩ 1 (Nat.le_refl 1) with ⟨e, _⟩ | ⟨i, r, _, hi, _⟩
  · exact e
  · exact absurd (List.mem_of_getElem? (at_one.mp hi)) h
theorem find_at {x : Str} {c k : Nat} (h : (cl x)[k]? = some c) (hn : ∀ j, j < k → (cl x)[j]? ≠ some c) : Txt.find x ⟨#[c]⟩ = (k : Int) := by
  obtain ⟨r, e⟩ := occ_at h hn
  unfold Txt.find; rw [e]
theorem getD_cl {x : Str} {i c : Nat} (hi : i < x.length) : x.cps.getD i 0 = c ↔ (cl x)[i]? = some c := by
  constructor
  · exact StrLaws.getElem?_of_getD hi
  · exact StrLaws.getD_of_getElem?
theorem find3_at {x : Str} {c a k : Nat} (ha : a ≤ k) (h : (cl x)[k]? = some c) (hn : ∀ j, a ≤ j → j < k → (cl x)[j]? ≠ some c) : Txt.find3 x ⟨#[c]⟩ (a : Int) = (k : Int) := by
  have hk : k < x.length := by
    obtain ⟨h, _⟩ := List.getElem?_eq_some_iff.mp h
    rw [← cl_len]; exact h
  have hf : fromIndex x.length (a : Int) = a := by unfold fromIndex; rw [if_neg (by omega)]; omega
  rcases StrLaws.find3_spec x c (a : Int) with ⟨_, hno⟩ | ⟨i, e, h1, h2, h3, h4⟩
  · exact absurd ((getD_cl hk).mpr h) (hno k (by rw [hf]; exact ha) hk)
  · rw [hf] at h1 h4
    have n1 : ¬ i < k := fun z => hn i h1 z ((getD_cl h2).mp h3)
    have n2 : ¬ k < i := fun z => h4 k ha z ((getD_cl hk).mpr h)
    rw [e, show i = k from by omega]
theorem part_at {x : Str} {c k : Nat} (h : (cl x)[k]? = some c) (hn : ∀ j, j < k → (cl x)[j]? ≠ some c) : cl (Txt.partition x ⟨#[c]⟩).1 = (cl x).take k := by
  obtain ⟨r, e⟩ := occ_at h hn
  unfold Txt.partition
  rw [e]
  show cl (strSub x 0 k) = _
  rw [cl_sub, List.drop_zero, Nat.sub_zero]
theorem part_none {x : Str} {c : Nat} (h : c ∉ cl x) : (Txt.partition x ⟨#[c]⟩).1 = x := by
  unfold Txt.partition
  rw [occ_none h]
noncomputable def upto (c : Nat) (l : List Nat) : List Nat := l.takeWhile (· != c)
theorem upto_free {c : Nat} : ∀ {l : List Nat}, c ∉ l → upto c l = l
  | [], _ => rfl
  | a :: l, h => by
    have h0 : upto c (a :: l) = a :: upto c l := by unfold upto; rw [List.takeWhile_cons, if_pos (by simpa using fun z : a = c => h (z ▸ List.Mem.head _))]
    rw [h0, upto_free fun z => h (.tail _ z)]
theorem upto_take {c : Nat} : ∀ (l : List Nat), upto c l = l.take (upto c l).length
  | [] => rfl
  | a :: l => by
    by_cases e : a = c
    · subst e
      have : upto a (a :: l) = [] := by unfold upto; rw [List.takeWhile_cons, if_neg (by simp)]
      rw [this]; rfl
    · have h0 : upto c (a :: l) = a :: upto c l := by unfold upto; rw [List.takeWhile_cons, if_pos (by simpa using e)]
      rw [h0, List.length_cons, List.take_succ_cons, ← upto_take l]
theorem upto_mem {c : Nat} : ∀ {l : List Nat}, c ∈ l → l[(upto c l).length]? = some c ∧ ∀ j, j < (upto c l).length → l[j]? ≠ some c
  | a :: l, h => by
    by_cases e : a = c
    · subst e
      have : upto a (a :: l) = [] := by unfold upto; rw [List.takeWhile_cons, if_neg (by simp)]
      rw [this]
      exact ⟨rfl, fun j h => absurd h (Nat.not_lt_zero _)⟩
    · have h0 : upto c (a :: l) = a :: upto c l := by unfold upto; rw [List.takeWhile_cons, if_pos (by simpa using e)]
      rw [h0]
      obtain ⟨h1, h2⟩ := upto_mem (c := c) (l := l) (by rcases List.mem_cons.mp h with z | z; exact absurd z.symm e; exact z)
      refine ⟨h1, fun j hj => ?_⟩
      cases j with
      | zero => intro z; exact e (Option.some.inj z)
      | succ j => exact h2 j (Nat.lt_of_succ_lt_succ hj)
theorem part_upto (x : Str) (c : Nat) : cl (Txt.partition x ⟨#[c]⟩).1 = upto c (cl x) := by
  by_cases h : c ∈ cl x
  · obtain ⟨h1, h2⟩ := upto_mem h
    rw [part_at h1 h2, ← upto_take]
  · rw [part_none h, upto_free h]
noncomputable def glueL (c : Nat) : List (List Nat) → List Nat
  | [] => []
  | [p] => p
  | p :: q :: r => p ++ c :: glueL c (q :: r)
theorem cl_join (c : Nat) : ∀ ps : List Str, cl (Str.join ⟨#[c]⟩ ps) = glueL c (ps.map cl)
  | [] => rfl
  | [p] => rfl
  | p :: q :: r => by
    show cl (p ++ ⟨#[c]⟩ ++ Str.join ⟨#[c]⟩ (q :: r)) = _
    rw [cl_app, cl_app, cl_join c (q :: r), cl_one, List.append_assoc]; rfl
theorem split_glue (x : Str) (c : Nat) : glueL c ((Txt.split x ⟨#[c]⟩).map cl) = cl x := by
  rw [← cl_join, StrLaws.join_split]
theorem split_frees (x : Str) (c : Nat) : ∀ p ∈ (Txt.split x ⟨#[c]⟩).map cl, c ∉ p := by
  intro p hp
  obtain ⟨q, hq, rfl⟩ := List.mem_map.mp hp
  exact StrLaws.split_free x c q hq
theorem split_ne (x y : Str) : Txt.split x y ≠ [] := by
  unfold Txt.split
  split
  · exact List.cons_ne_nil _ _
  · split
    · exact List.cons_ne_nil _ _
    · rw [StrLaws.partsBetween_eq]
      obtain ⟨p, r, e⟩ := StrLaws.partsFrom_ne x y.length 0 (occurrences x y 0 x.length (x.length + 1))
      rw [e]; exact List.cons_ne_nil _ _
theorem partsFrom_len (x : Str) (w : Nat) : ∀ (cuts : List Nat) (a : Nat), (StrLaws.partsFrom x w a cuts).length = cuts.length + 1
  | [], a => rfl
  | b :: cuts, a => congrArg (· + 1) (partsFrom_len x w cuts (b + w))
theorem between_len (x y : Str) : (partsBetween x (occurrences x y 0 x.length (x.length + 1)) y.length).length ≤ x.length + 2 := by
  rw [StrLaws.partsBetween_eq, partsFrom_len]
  exact Nat.succ_le_succ (StrLaws.occ_length_le _ _ _ _ _)
theorem split_len (x y : Str) : (Txt.split x y).length ≤ x.length + 2 := by
  unfold Txt.split
  split
  · simp
  · split
    · simp
    · exact between_len x y
theorem glueL_mem {c : Nat} {p : List Nat} : ∀ {ps : List (List Nat)}, p ∈ ps → p.length ≤ (glueL c ps).length ∧ ∀ a ∈ p, a ∈ glueL c ps
  | [q], h => by
    rw [List.mem_singleton.mp h]
    exact ⟨Nat.le_refl _, fun a z => z⟩
  | q :: q' :: r, h => by
    show p.length ≤ (q ++ c :: glueL c (q' :: r)).length ∧ ∀ a ∈ p, a ∈ q ++ c :: glueL c (q' :: r)
    rw [List.length_append, List.length_cons]
    rcases List.mem_cons.mp h with rfl | h
    · exact ⟨by omega, fun a z => List.mem_append_left _ z⟩
    · obtain ⟨h1, h2⟩ := glueL_mem (c := c) h
      exact ⟨by omega, fun a z => List.mem_append_right _ (.tail _ (h2 a z))⟩
theorem split_part {x p : Str} {c : Nat} (h : p ∈ Txt.split x ⟨#[c]⟩) : p.length ≤ x.length ∧ ∀ a ∈ cl p, a ∈ cl x := by
  have := glueL_mem (c := c) (List.mem_map_of_mem (f := cl) h)
  rw [split_glue, cl_len, cl_len] at this
  exact this
theorem take_sub_rev (l : List Nat) (g : Nat → Bool) : l.take (l.length - (l.reverse.takeWhile g).length) = (l.reverse.dropWhile g).reverse := by
  have h := List.takeWhile_append_dropWhile (p := g) (l := l.reverse)
  have e : l = (l.reverse.dropWhile g).reverse ++ (l.reverse.takeWhile g).reverse := by
    rw [← List.reverse_append, h, List.reverse_reverse]
  have hl : l.length = (l.reverse.dropWhile g).length + (l.reverse.takeWhile g).length := by
    have := congrArg List.length e
    simpa using this
  conv => lhs; arg 2; rw [e]
  rw [List.take_left' (by rw [List.length_reverse]; omega)]
theorem drop_takeW (l : List Nat) (g : Nat → Bool) : l.drop (l.takeWhile g).length = l.dropWhile g := by
  have h := List.takeWhile_append_dropWhile (p := g) (l := l)
  conv => lhs; arg 2; rw [← h]
  rw [List.drop_left' rfl]
theorem cl_stripped (g : Nat → Bool) (x : Str) : cl (PySem.stripped g true true x) = (((cl x).dropWhile g).reverse.dropWhile g).reverse := by
  show cl (strSub x ((cl x).takeWhile g).length (x.length - (((cl x).drop ((cl x).takeWhile g).length).reverse.takeWhile g).length)) = _
  rw [cl_sub, drop_takeW, ← cl_len, ← take_sub_rev]
  congr 1
  have h := List.takeWhile_append_dropWhile (p := g) (l := cl x)
  have hl := congrArg List.length h
  rw [List.length_append] at hl
  omega
theorem cl_stripBy (g : Nat → Bool) (x : Str) : cl (Txt.stripBy g true true x) = (((cl x).dropWhile g).reverse.dropWhile g).reverse := by
  unfold Txt.stripBy
  split
  · rename_i h
    rw [← cl_stripped]
    unfold stripSame at h
    obtain ⟨h1, h2⟩ := Bool.and_eq_true_iff.mp h
    have h1 := eq_of_beq h1
    have h2 := eq_of_beq h2
    unfold PySem.stripped
    rw [h2, h1, cl_sub, List.drop_zero, Nat.sub_zero, ← cl_len, List.take_length]
  · exact cl_stripped g x
end Mine
end
section
open PySem PySem.W PySem.Spec PySem.Calls PyProof.Rows
open PySem.Builtin PySem.Builtin.Str PySem.NumText
set_option Elab.async false
set_option linter.unusedVariables false
namespace Mine
theorem cl_sp : (Str.ofString " ").cps = #[32] := by decide +kernel
theorem cl_us : (Str.ofString "_") = ⟨#[95]⟩ := by decide +kernel
theorem cl_mi : (Str.ofString "-") = ⟨#[45]⟩ := by decide +kernel
theorem cl_pl : (Str.ofString "+") = ⟨#[43]⟩ := by decide +kernel
theorem cl_digs : digs.cps = #[48, 49, 50, 51, 52, 53, 54, 55, 56, 57] := by decide +kernel
noncomputable def isDig (c : Nat) : Bool := 48 ≤ c && c ≤ 57
theorem digs_has (c : Nat) : digs.cps.contains c = isDig c := by
  rw [cl_digs]
  unfold isDig
  rw [Bool.eq_iff_iff]
  simp only [Array.contains_iff_mem, Bool.and_eq_true, decide_eq_true_eq]
  rw [List.mem_toArray, show [48, 49, 50, 51, 52, 53, 54, 55, 56, 57] = List.range' 48 10 from rfl, List.mem_range'_1]
  exact ⟨fun h => ⟨h.1, Nat.le_of_lt_succ h.2⟩, fun h => ⟨h.1, Nat.lt_succ_of_le h.2⟩⟩
theorem sp_has (c : Nat) : (Str.ofString " ").cps.contains c = (c == 32) := by
  rw [cl_sp, Bool.eq_iff_iff]
  simp only [Array.contains_iff_mem, List.mem_toArray, List.mem_singleton, beq_iff_eq]
noncomputable def rtrim (g : Nat → Bool) (l : List Nat) : List Nat := (l.reverse.dropWhile g).reverse
theorem rtrim_cons {g : Nat → Bool} {c : Nat} {l : List Nat} (h : g c = false) : rtrim g (c :: l) = c :: rtrim g l := by
  unfold rtrim
  rw [List.reverse_cons, List.dropWhile_append]
  have e : [c].dropWhile g = [c] := by rw [List.dropWhile_cons, if_neg (by rw [h]; exact Bool.false_ne_true)]
  rw [e]
  by_cases hz : (l.reverse.dropWhile g).isEmpty = true
  · rw [if_pos hz]
    rw [List.isEmpty_iff] at hz
    rw [hz]; rfl
  · rw [if_neg hz, List.reverse_append]; rfl
theorem dropW_nil {g : Nat → Bool} : ∀ {l : List Nat}, l.dropWhile g = [] ↔ ∀ c ∈ l, g c = true
  | [] => ⟨fun _ c h => (nomatch h), fun _ => rfl⟩
  | a :: l => by
    rw [List.dropWhile_cons]
    by_cases h : g a = true
    · rw [if_pos h, dropW_nil]
      exact ⟨fun k c hc => (List.mem_cons.mp hc).elim (fun z => z ▸ h) (k c), fun k c hc => k c (.tail _ hc)⟩
    · rw [if_neg h]
      exact ⟨fun k => (nomatch k), fun k => absurd (k a (.head _)) h⟩
theorem dropW_sub {g : Nat → Bool} {l : List Nat} {c : Nat} (h : c ∈ l.dropWhile g) : c ∈ l := by
  rw [← List.takeWhile_append_dropWhile (p := g) (l := l)]
  exact List.mem_append_right _ h
theorem rtrim_sub {g : Nat → Bool} {l : List Nat} {c : Nat} (h : c ∈ rtrim g l) : c ∈ l := by
  unfold rtrim at h
  exact List.mem_reverse.mp (dropW_sub (List.mem_reverse.mp h))
theorem dropW_congr {p q : Nat → Bool} : ∀ {l : List Nat}, (∀ c ∈ l, p c = q c) → l.dropWhile p = l.dropWhile q
  | [], _ => rfl
  | a :: l, h => by
    rw [List.dropWhile_cons, List.dropWhile_cons, h a (.head _), dropW_congr fun c hc => h c (.tail _ hc)]
theorem rtrim_congr {p q : Nat → Bool} {l : List Nat} (h : ∀ c ∈ l, p c = q c) : rtrim p l = rtrim q l := by
  unfold rtrim
  rw [dropW_congr fun c hc => h c (List.mem_reverse.mp hc)]
theorem dropW_head {g : Nat → Bool} {c : Nat} : ∀ {l r : List Nat}, l.dropWhile g = c :: r → g c = false
  | a :: l, r, h => by
    rw [List.dropWhile_cons] at h
    by_cases k : g a = true
    · rw [if_pos k] at h; exact dropW_head h
    · rw [if_neg k] at h; cases h; exact Bool.eq_false_iff.mpr k
theorem cl_strip (x y : Str) : cl (Txt.stripChars x y) = rtrim y.cps.contains ((cl x).dropWhile y.cps.contains) := cl_stripBy _ x
theorem trim_nil {g : Nat → Bool} {l : List Nat} : rtrim g (l.dropWhile g) = [] ↔ ∀ c ∈ l, g c = true := by
  rw [← dropW_nil (g := g) (l := l)]
  constructor
  · intro h
    cases e : l.dropWhile g with
    | nil => rfl
    | cons c r => rw [e, rtrim_cons (dropW_head e)] at h; cases h
  · intro h; rw [h]; rfl
theorem str_eq {a b : Str} : (a == b) = true ↔ cl a = cl b := ⟨fun h => by rw [eq_of_beq h], fun h => by rw [cl_ext h]; exact beq_self_eq_true b⟩
theorem bad_iff (p : Str) : badPart p = true ↔ cl p = [] ∨ ¬ AllDigits (cl p) := by
  unfold badPart
  rw [Bool.or_eq_true]
  refine or_congr str_eq ?_
  rw [bne_iff_ne]
  refine not_congr ?_
  constructor
  · intro h c hc
    have e : cl (Txt.stripChars p digs) = [] := by rw [h]; rfl
    rw [cl_strip] at e
    have := trim_nil.mp e c hc
    rw [digs_has] at this
    unfold isDig at this
    simpa using this
  · intro h
    refine cl_ext ?_
    rw [cl_strip]
    exact trim_nil.mpr fun c hc => by
      rw [digs_has]
      have := h c hc
      unfold isDig
      simpa using this
theorem dig_find {c : Nat} (h : 48 ≤ c ∧ c ≤ 57) : Txt.find digs ⟨#[c]⟩ = ((c - 48 : Nat) : Int) := by
  have k : ∀ j : Fin 10, Txt.find digs ⟨#[48 + j.1]⟩ = ((48 + j.1 - 48 : Nat) : Int) := by decide +kernel
  have := k ⟨c - 48, by omega⟩
  rwa [show 48 + (c - 48) = c from by omega] at this
noncomputable def val (ds : Array Nat) : Nat := ds.foldl (fun acc d => acc * 10 + d) 0
theorem val_push (ds : Array Nat) (d : Nat) : val (ds.push d) = val ds * 10 + d := by
  unfold val; rw [Array.foldl_push]
theorem foldN_val : ∀ (cs : List Nat) (ds : Array Nat), AllDigits cs → foldN cs (val ds) = ((val (cs.foldl (fun acc c => acc.push (c - 48)) ds) : Nat) : Int)
  | [], ds, _ => rfl
  | c :: cs, ds, h => by
    show foldN cs (10 * (val ds : Int) + Txt.find digs ⟨#[c]⟩) = _
    rw [dig_find h.head]
    have e : 10 * (val ds : Int) + ((c - 48 : Nat) : Int) = ((val (ds.push (c - 48)) : Nat) : Int) := by rw [val_push]; omega
    rw [e, foldN_val cs _ h.tail]; rfl
theorem fold_good {cs : List Nat} {ds : Array Nat} {b : Bool} (h : AllDigits cs) (hn : cs ≠ []) : cs.foldlM (NumText.step 10) (ds, b) = some (cs.foldl (fun acc c => acc.push (c - 48)) ds, true) := by
  cases cs with
  | nil => exact absurd rfl hn
  | cons c cs =>
    rw [List.foldlM_cons, step_digit h.head]
    exact foldl_digits cs _ h.tail
theorem step_bad {p : Array Nat × Bool} {c : Nat} (h : ¬ (48 ≤ c ∧ c ≤ 57)) (hu : c ≠ 95) : NumText.step 10 p c = none := by
  unfold NumText.step
  rw [if_neg (by simpa using hu)]
  have : ∀ d, digit? c = some d → ¬ d < 10 := by
    intro d hd
    unfold digit? at hd
    rw [if_neg (by simpa using fun z => by omega)] at hd
    split at hd
    · cases hd
      rename_i z
      simp only [Bool.and_eq_true, decide_eq_true_eq] at z
      omega
    · split at hd
      · cases hd
        rename_i z
        simp only [Bool.and_eq_true, decide_eq_true_eq] at z
        omega
      · cases hd
  cases hd : digit? c with
  | none => rfl
  | some d => exact if_neg (this d hd)
theorem fold_bad : ∀ {cs : List Nat} {p : Array Nat × Bool}, ¬ AllDigits cs → 95 ∉ cs → cs.foldlM (NumText.step 10) p = none
  | [], p, h, _ => absurd (fun c hc => (nomatch hc)) h
  | c :: cs, p, h, hu => by
    rw [List.foldlM_cons]
    by_cases hc : 48 ≤ c ∧ c ≤ 57
    · obtain ⟨ds, b⟩ := p
      rw [step_digit hc]
      exact fold_bad (fun k => h fun d hd => (List.mem_cons.mp hd).elim (fun z => z ▸ hc) (k d)) fun z => hu (.tail _ z)
    · rw [step_bad hc (fun z => hu (z ▸ .head _))]; rfl
noncomputable def fin? (p : Array Nat × Bool) : Option (Array Nat) := if p.2 then some p.1 else none
theorem parts_run : ∀ (ps : List Str) (ds : Array Nat), ps ≠ [] → (∀ p ∈ ps.map cl, 95 ∉ p) → runParts ps (val ds) = (((glueL 95 (ps.map cl)).foldlM (NumText.step 10) (ds, false)).bind fin?).map fun d => ((val d : Nat) : Int)
  | [p], ds, _, hf => by
    show (if badPart p = true then none else some (foldN (cl p) (val ds))) = _
    rw [show glueL 95 ([p].map cl) = cl p from rfl]
    by_cases hb : badPart p = true
    · rw [if_pos hb]
      rcases (bad_iff p).mp hb with e | e
      · rw [e]; rfl
      · rw [fold_bad e (hf _ (.head _))]; rfl
    · rw [if_neg hb]
      have := mt (bad_iff p).mpr hb
      rw [not_or, Classical.not_not] at this
      rw [fold_good this.2 this.1, foldN_val _ _ this.2]; rfl
  | p :: q :: r, ds, _, hf => by
    show (if badPart p = true then none else runParts (q :: r) (foldN (cl p) (val ds))) = _
    rw [show glueL 95 ((p :: q :: r).map cl) = cl p ++ 95 :: glueL 95 ((q :: r).map cl) from rfl, List.foldlM_append]
    by_cases hb : badPart p = true
    · rw [if_pos hb]
      rcases (bad_iff p).mp hb with e | e
      · rw [e]; rfl
      · rw [fold_bad e (hf _ (.head _))]; rfl
    · rw [if_neg hb]
      have := mt (bad_iff p).mpr hb
      rw [not_or, Classical.not_not] at this
      rw [fold_good this.2 this.1, foldN_val _ _ this.2, parts_run (q :: r) _ (List.cons_ne_nil _ _) fun p' hp => hf p' (.tail _ hp)]
      rfl
theorem runParts_val {b : Str} : runParts (Txt.split b (Str.ofString "_")) 0 = (digits? 10 (cl b)).map fun d => ((val d : Nat) : Int) := by
  have h := parts_run (Txt.split b ⟨#[95]⟩) #[] (split_ne _ _) (split_frees b 95)
  rw [split_glue] at h
  rw [cl_us]
  exact h
noncomputable def Prt (l : List Nat) : Prop := ∀ c ∈ l, 14 ≤ c ∧ c < 127
theorem numText_prt {x : Str} (h : Prt (cl x)) : numTextOf x = cl x ∧ numSeenOf x = cl x := by
  have e1 : numTextOf x = x.cps.toList := by
    refine if_pos ?_
    rw [← Array.all_toList, List.all_eq_true]
    intro c hc
    have := h c hc
    exact decide_eq_true (by omega)
  refine ⟨e1, ?_⟩
  show (numTextOf x).takeWhile _ = _
  rw [e1]
  refine takeWhile_all fun c hc => ?_
  have := h c hc
  exact bne_iff_ne.mpr (by omega)
theorem blank_prt {l : List Nat} (h : Prt l) : ∀ c ∈ l, (Str.ofString " ").cps.contains c = blank c := fun c hc => by
  rw [sp_has]
  unfold blank
  have := h c hc
  have e : (9 ≤ c && c ≤ 13) = false := by
    rw [Bool.and_eq_false_iff]; right; simpa using by omega
  rw [e, Bool.or_false]
theorem first_head {b : Str} {c : Nat} {r : List Nat} (h : cl b = c :: r) : first1 b = ⟨#[c]⟩ := by
  refine cl_ext ?_
  unfold first1
  have hl : 1 ≤ b.length := by rw [← cl_len, h]; exact Nat.succ_le_succ (Nat.zero_le _)
  have := cl_to (x := b) (b := 1) hl
  rw [h] at this
  exact this
theorem first_nil {b : Str} (h : cl b = []) : first1 b = ⟨#[]⟩ := by
  refine cl_ext ?_
  unfold first1
  have hb : b.length = 0 := by rw [← cl_len, h]; rfl
  have := Txt.slice_le b none (some 1)
  rw [hb, ← cl_len] at this
  exact List.eq_nil_of_length_eq_zero (by omega)
theorem turn_c {b : Str} {c : Nat} (h : first1 b = ⟨#[c]⟩) : turnOf b = if c = 45 then -1 else 1 := by
  unfold turnOf
  rw [h]
  by_cases e : c = 45
  · subst e; rw [if_pos rfl, if_pos (by rw [cl_mi]; exact beq_self_eq_true _)]
  · rw [if_neg e, if_neg]
    intro z
    have := eq_of_beq z
    rw [cl_mi] at this
    injection this with this
    exact e (by injection (Array.mk.inj this))
theorem signed_eq (b : Str) : signed b = ((Str.ofString "-" == first1 b) || (Str.ofString "+" == first1 b)) := by
  unfold signed
  show ((_ || (_ || false)) : Bool) = _
  rw [Bool.or_false]
  rfl
theorem one_beq (a c : Nat) : ((⟨#[a]⟩ : Str) == ⟨#[c]⟩) = (a == c) := by
  rw [Bool.eq_iff_iff, str_eq, beq_iff_eq, cl_one, cl_one]
  simp
theorem signed_c {b : Str} {c : Nat} (h : first1 b = ⟨#[c]⟩) : signed b = ((45 == c) || (43 == c)) := by
  rw [signed_eq, h, cl_mi, cl_pl, one_beq, one_beq]
theorem signed_nil {b : Str} (h : first1 b = ⟨#[]⟩) : signed b = false := by
  rw [signed_eq, h, cl_mi, cl_pl]; decide
theorem portN {t : Str} (h : Prt (cl t)) (hl : t.length ≤ 1000) : intOf t = (runParts (Txt.split (body1 (body0 t)) (Str.ofString "_")) 0).map fun n => turnOf (body0 t) * n := by
  obtain ⟨e1, e2⟩ := numText_prt h
  unfold intOf PySem.intText?
  rw [e1, e2, if_pos (beq_self_eq_true _), runParts_val]
  have eb : cl (body0 t) = rtrim blank ((cl t).dropWhile blank) := by
    unfold body0
    rw [cl_strip, dropW_congr (blank_prt h), rtrim_congr (blank_prt fun c hc => h c (dropW_sub hc))]
  have key : core (cl t) = cl (body1 (body0 t)) ∧ (∀ n : Int, turnOf (body0 t) * n = if (sign ((cl t).dropWhile blank)).1 = true then -n else n) := by
    unfold core
    cases e : (cl t).dropWhile blank with
    | nil =>
      rw [e] at eb
      have f := first_nil eb
      refine ⟨?_, fun n => ?_⟩
      · unfold body1
        rw [signed_nil f, if_neg Bool.false_ne_true, eb]; rfl
      · unfold turnOf
        rw [f, if_neg (by rw [cl_mi]; decide)]
        exact Int.one_mul n
    | cons c r =>
      have hb := dropW_head e
      rw [e, rtrim_cons hb] at eb
      have f := first_head eb
      have s := signed_c f
      have tu := turn_c f
      have b1 : signed (body0 t) = true → cl (body1 (body0 t)) = rtrim blank r := fun z => by
        unfold body1
        rw [if_pos z]
        have := cl_from (x := body0 t) (a := 1) (by rw [← cl_len, eb]; exact Nat.succ_le_succ (Nat.zero_le _))
        rw [eb] at this
        exact this
      by_cases c1 : c = 45
      · subst c1
        refine ⟨(b1 s).symm, fun n => ?_⟩
        rw [tu, if_pos rfl]
        show -1 * n = -n
        omega
      · by_cases c2 : c = 43
        · subst c2
          refine ⟨(b1 s).symm, fun n => ?_⟩
          rw [tu, if_neg c1]
          exact Int.one_mul n
        · have es : sign (c :: r) = (false, c :: r) := sign_of c1 c2
          rw [es]
          refine ⟨?_, fun n => ?_⟩
          · unfold body1
            rw [if_neg (by rw [s]; simp; exact ⟨fun z => c1 z.symm, fun z => c2 z.symm⟩), eb]
            exact rtrim_cons hb
          · rw [tu, if_neg c1]
            exact Int.one_mul n
  obtain ⟨k1, k2⟩ := key
  have hs : ∀ ds, digits? 10 (core (cl t)) = some ds → ds.size ≤ 4300 := fun ds hd => by
    have h1 := digits_size hd
    have h2 := core_length (cl t)
    rw [cl_len] at h2
    omega
  rw [← k1]
  cases hd : digits? 10 (core (cl t)) with
  | none => rfl
  | some ds =>
    show (if ds.size ≤ 4300 then some (worth _ ds) else none) = some (turnOf (body0 t) * ((val ds : Nat) : Int))
    rw [if_pos (hs ds hd), k2]
    rfl
theorem port_fact {t host : Str} (h : Prt (cl t)) (hl : t.length ≤ 1000) : portD t host = match intOf t with
    | some k => .tup [.str host, .int k]
    | none => .tup [.str "unread"] := by
  rw [portN h hl]
  unfold portD
  cases runParts (Txt.split (body1 (body0 t)) (Str.ofString "_")) 0 <;> rfl
end Mine
end
section
open PySem PySem.W PySem.Spec PySem.Calls PyProof.Rows
open PySem.Builtin PySem.Builtin.Str
set_option Elab.async false
set_option linter.unusedVariables false
namespace Mine
noncomputable def posL (c : Nat) : Nat → List Nat → List Nat
  | _, [] => []
  | k, a :: l => if a == c then k :: posL c (k + 1) l else posL c (k + 1) l
noncomputable def posG : Nat → List (List Nat) → List Nat
  | _, [] => []
  | _, [p] => []
  | k, p :: q :: r => (k + p.length) :: posG (k + p.length + 1) (q :: r)
theorem posL_free {c : Nat} : ∀ (p l : List Nat) (k : Nat), c ∉ p → posL c k (p ++ l) = posL c (k + p.length) l
  | [], l, k, _ => rfl
  | a :: p, l, k, h => by
    show (if a == c then _ else posL c (k + 1) (p ++ l)) = _
    rw [if_neg (by simpa using fun z : a = c => h (z ▸ List.Mem.head _)), posL_free p l (k + 1) fun z => h (.tail _ z), List.length_cons, show k + 1 + p.length = k + (p.length + 1) from by omega]
theorem posL_glue {c : Nat} : ∀ (ps : List (List Nat)) (k : Nat), (∀ p ∈ ps, c ∉ p) → posL c k (glueL c ps) = posG k ps
  | [], _, _ => rfl
  | [p], k, h => by
    have := posL_free p [] k (h p (.head _))
    rw [List.append_nil] at this
    exact this
  | p :: q :: r, k, h => by
    show posL c k (p ++ c :: glueL c (q :: r)) = _
    rw [posL_free p _ k (h p (.head _))]
    show (if c == c then _ else _) = _
    rw [if_pos (beq_self_eq_true c), posL_glue (q :: r) _ fun p' hp => h p' (.tail _ hp)]
    rfl
theorem posG_len : ∀ (ps : List (List Nat)) (k : Nat), (posG k ps).length = ps.length - 1
  | [], _ => rfl
  | [p], _ => rfl
  | p :: q :: r, k => by
    show (posG (k + p.length + 1) (q :: r)).length + 1 = _
    rw [posG_len (q :: r)]; rfl
theorem posL_range {c : Nat} : ∀ (l : List Nat) (k : Nat), posL c k l = ((List.range l.length).filter fun i => l[i]? == some c).map (k + ·)
  | [], _ => rfl
  | a :: l, k => by
    rw [List.length_cons, List.range_succ_eq_map, List.filter_cons, List.filter_map]
    have e : ((List.range l.length).filter ((fun i => (a :: l)[i]? == some c) ∘ Nat.succ)) = (List.range l.length).filter fun i => l[i]? == some c := by
      congr 1
    rw [e]
    have ih := posL_range (c := c) l (k + 1)
    have m : ((((List.range l.length).filter fun i => l[i]? == some c).map Nat.succ).map (k + ·)) = posL c (k + 1) l := by
      rw [ih, List.map_map]
      congr 1
      funext i
      simp only [Function.comp]
      omega
    show (if a == c then k :: posL c (k + 1) l else posL c (k + 1) l) = _
    by_cases h : a = c
    · rw [if_pos (by simpa using h), if_pos (by simpa using h), List.map_cons, m]; rfl
    · rw [if_neg (by simpa using h), if_neg (by simpa using h), m]
theorem marks_pos {S : Str} {c : Nat} (h : (cl S)[0]? = some c) : marksOf S = (posL c 0 (cl S)).map fun (i : Nat) => (i : Int) := by
  unfold marksOf
  rw [posL_range, List.filter_map, ← cl_len, List.map_map]
  have e : ((List.range (cl S).length).filter (isMark S ∘ fun (i : Nat) => (i : Int))) = (List.range (cl S).length).filter fun i => (cl S)[i]? == some c := by
    refine List.filter_congr fun i hi => ?_
    have hi := List.mem_range.mp hi
    obtain ⟨a, ha⟩ : ∃ a, (cl S)[i]? = some a := ⟨_, List.getElem?_eq_getElem hi⟩
    show (Txt.item S (i : Int) == Txt.item S ((0 : Nat) : Int)) = _
    rw [item_at ha, item_at h, one_beq, ha]
    rw [Bool.eq_iff_iff, beq_iff_eq, beq_iff_eq]
    exact ⟨fun z => by rw [z], fun z => Option.some.inj z⟩
  rw [e]
  congr 1
  funext i
  simp only [Function.comp]
  omega
theorem last_glue {c : Nat} : ∀ (ps : List (List Nat)), 2 ≤ ps.length → (∀ p ∈ ps, c ∉ p) → ((glueL c ps).getLast? = some c ↔ ps.getLast? = some [])
  | [], h, _ => absurd h (by decide)
  | [p], h, _ => absurd h (Nat.not_le_of_lt (Nat.lt_succ_self 1))
  | [p, q], _, hf => by
    show (p ++ c :: q).getLast? = some c ↔ _
    rw [List.getLast?_append]
    have hq := hf q (.tail _ (.head _))
    cases q with
    | nil => simp
    | cons a q =>
      have : (c :: a :: q).getLast? = (a :: q).getLast? := rfl
      rw [this]
      constructor
      · intro z
        rw [show ((a :: q).getLast?.or p.getLast?) = (a :: q).getLast? from by
          rw [List.getLast?_eq_some_getLast (List.cons_ne_nil _ _)]; rfl] at z
        exact absurd (List.mem_of_getLast? z) hq
      · intro z; simp at z
  | p :: q :: q' :: r, _, hf => by
    show (p ++ c :: glueL c (q :: q' :: r)).getLast? = some c ↔ (q :: q' :: r).getLast? = some []
    rw [← last_glue (q :: q' :: r) (by simp) fun p' hp => hf p' (.tail _ hp), List.getLast?_append]
    have hn : glueL c (q :: q' :: r) ≠ [] := by
      show q ++ c :: _ ≠ []
      simp
    have : (c :: glueL c (q :: q' :: r)).getLast? = (glueL c (q :: q' :: r)).getLast? := by
      rw [List.getLast?_cons, List.getLast?_eq_some_getLast hn]; rfl
    rw [this, List.getLast?_eq_some_getLast hn]; rfl
theorem upto_split (c : Nat) : ∀ (l r : List Nat), ∃ r', l ++ c :: r = upto c l ++ c :: r'
  | [], r => ⟨r, rfl⟩
  | a :: l, r => by
    by_cases e : a = c
    · subst e
      have : upto a (a :: l) = [] := by unfold upto; rw [List.takeWhile_cons, if_neg (by simp)]
      rw [this]
      exact ⟨l ++ a :: r, rfl⟩
    · have h0 : upto c (a :: l) = a :: upto c l := by unfold upto; rw [List.takeWhile_cons, if_pos (by simpa using e)]
      obtain ⟨r', h⟩ := upto_split c l r
      exact ⟨r', by rw [h0, List.cons_append, h]; rfl⟩
theorem upto_no (c : Nat) : ∀ (l : List Nat), c ∉ upto c l
  | [], h => nomatch h
  | a :: l, h => by
    unfold upto at h
    rw [List.takeWhile_cons] at h
    by_cases e : a = c
    · rw [if_neg (by simpa using e)] at h; cases h
    · rw [if_pos (by simpa using e)] at h
      rcases List.mem_cons.mp h with z | z
      · exact e z.symm
      · exact upto_no c l z
theorem upto_sub (c : Nat) {l : List Nat} {a : Nat} (h : a ∈ upto c l) : a ∈ l := by
  have := upto_take (c := c) l
  rw [this] at h
  exact List.mem_of_mem_take h
theorem cl_cb : (Str.ofString ")") = ⟨#[41]⟩ := by decide +kernel
theorem cl_ob : (Str.ofString "(") = ⟨#[40]⟩ := by decide +kernel
structure Reply (R row : Str) (n : Nat) : Prop where
  ex : ∃ pre r, pre.length = 5 ∧ cl R = pre ++ (upto 41 (cl row) ++ 41 :: r)
  c : ∃ c, (cl row)[0]? = some c ∧ c ≠ 41
  prt : Prt (cl row)
  len : row.length ≤ 50
  n : n = (upto 41 (cl row)).length
section
variable {R row host : Str} {n : Nat}
theorem ins_cl (row : Str) : cl (insOf row) = upto 41 (cl row) := by
  unfold insOf; rw [cl_cb]; exact part_upto row 41
theorem Reply.at (H : Reply R row n) {i : Nat} (hi : i < n) : (cl R)[5 + i]? = (cl (insOf row))[i]? := by
  obtain ⟨pre, r, hp, e⟩ := H.ex
  rw [e, List.getElem?_append_right (by omega), hp, show 5 + i - 5 = i from by omega, List.getElem?_append_left (by rw [← H.n]; exact hi), ins_cl]
theorem Reply.insLen (H : Reply R row n) : (insOf row).length = n := by rw [← cl_len, ins_cl, H.n]
theorem Reply.sl (H : Reply R row n) : Txt.slice R (some 5) (some (5 + (n : Int))) = insOf row := by
  refine cl_ext ?_
  obtain ⟨pre, r, hp, e⟩ := H.ex
  have hl : 5 + n ≤ R.length := by
    rw [← cl_len, e, List.length_append, List.length_append, ← H.n]; omega
  have := cl_cut (x := R) (a := 5) (b := 5 + n) (by omega) hl
  rw [show ((5 + n : Nat) : Int) = 5 + (n : Int) from by omega] at this
  refine Eq.trans this ?_
  rw [e, List.drop_left' hp, show 5 + n - 5 = n from by omega, H.n, List.take_left' rfl, ins_cl]
theorem Reply.first (H : Reply R row n) : ∃ c, (cl (insOf row))[0]? = some c ∧ 1 ≤ n := by
  obtain ⟨c, h, hc⟩ := H.c
  have e := H.n
  rw [ins_cl]
  cases hr : cl row with
  | nil => rw [hr] at h; cases h
  | cons a l =>
    rw [hr] at h e
    cases h
    have h0 : upto 41 (c :: l) = c :: upto 41 l := by unfold upto; rw [List.takeWhile_cons, if_pos (by simpa using hc)]
    rw [h0] at e ⊢
    exact ⟨c, rfl, by rw [e]; simp⟩
theorem five {α : Type} : ∀ {l : List α}, l.length = 5 → ∃ a b c d e, l = [a, b, c, d, e]
  | [a, b, c, d, e], _ => ⟨a, b, c, d, e, rfl⟩
theorem told_out (H : Reply R row n) : pOut R n host = (if (Txt.slice R none (some 3) != "229") = true then .exc 44 R else if spoiled (insOf row) = true then .exc 56 R else match intOf (midOf (insOf row)) with | some k => .ret (.tup [.str host, .int k]) | none => .ve) ∧ (spoiled (insOf row) = false → Prt (cl (midOf (insOf row))) ∧ (midOf (insOf row)).length ≤ 50) := by
  obtain ⟨c, hc, h1⟩ := H.first
  have hS := H.insLen
  have i0 : Txt.item R 5 = ⟨#[c]⟩ := item_at (i := 5) (by rw [show (5 : Nat) = 5 + 0 from rfl, H.at (by omega)]; exact hc)
  have hlast : ∃ a, (cl (insOf row))[n - 1]? = some a := ⟨_, List.getElem?_eq_getElem (by rw [cl_len]; omega)⟩
  obtain ⟨a, ha⟩ := hlast
  have i1 : Txt.item R (5 + (n : Int) - 1) = ⟨#[a]⟩ := by
    rw [show (5 + (n : Int) - 1) = ((5 + (n - 1) : Nat) : Int) from by omega]
    exact item_at (by rw [H.at (by omega)]; exact ha)
  have hmk := marks_pos hc
  have hgl := split_glue (insOf row) c
  have hfr := split_frees (insOf row) c
  have hps : pParts R n = Txt.split (insOf row) ⟨#[c]⟩ := by unfold pParts; rw [H.sl, i0]
  have hla : (cl (insOf row)).getLast? = some a := by rw [List.getLast?_eq_getElem?, cl_len, hS]; exact ha
  have hprt : Prt (cl (insOf row)) := fun x hx => H.prt x (by rw [ins_cl] at hx; exact upto_sub 41 hx)
  have hmid : ∀ p ∈ Txt.split (insOf row) ⟨#[c]⟩, Prt (cl p) ∧ p.length ≤ 50 := fun p hp => by
    obtain ⟨p1, p2⟩ := split_part hp
    refine ⟨fun x hx => hprt x (p2 x hx), ?_⟩
    have h3 : (insOf row).length ≤ row.length := partition_le row ")"
    have h4 := H.len
    omega
  unfold pOut
  rw [i0, i1, hps]
  generalize insOf row = S at *
  generalize Txt.split S ⟨#[c]⟩ = ps at *
  have hml : (marksOf S).length = ps.length - 1 := by
    rw [hmk, List.length_map, ← hgl, posL_glue _ _ hfr, posG_len, List.length_map]
  have nb : ((⟨#[c]⟩ : Str) != ⟨#[a]⟩) = (c != a) := by unfold bne; rw [one_beq]
  rw [nb]
  by_cases h5 : ps.length = 5
  · have hg5 : 2 ≤ (ps.map cl).length := by rw [List.length_map]; omega
    have hlg := last_glue (c := c) (ps.map cl) hg5 hfr
    rw [hgl, hla] at hlg
    obtain ⟨p0, p1, p2, p3, p4, rfl⟩ := five h5
    have hpos : posL c 0 (cl S) = posG 0 ([p0, p1, p2, p3, p4].map cl) := by rw [← hgl, posL_glue _ _ hfr]
    rw [hpos] at hmk
    have hlen := congrArg List.length hgl
    simp only [List.map_cons, List.map_nil, glueL, List.length_append, List.length_cons, cl_len] at hlen
    simp only [List.map_cons, List.map_nil, posG, cl_len] at hmk
    have m3 : mk S 3 = ((0 + p0.length + 1 + p1.length + 1 + p2.length + 1 + p3.length : Nat) : Int) := by unfold mk num; rw [hmk]; rfl
    have m2 : mk S 2 = ((0 + p0.length + 1 + p1.length + 1 + p2.length : Nat) : Int) := by unfold mk num; rw [hmk]; rfl
    have hsp : spoiled S = (p4.length != 0) := by
      unfold spoiled
      rw [List.length_map, hml, m3]
      rw [Bool.eq_iff_iff]
      simp only [List.length_cons, List.length_nil, Bool.or_eq_true, bne_iff_ne, ne_eq]
      omega
    have h4 : (c = a) ↔ p4.length = 0 := by
      constructor
      · intro z
        have := hlg.mp (by rw [z])
        have : cl p4 = [] := Option.some.inj this
        rw [← cl_len, this]; rfl
      · intro z
        have : ([p0, p1, p2, p3, p4].map cl).getLast? = some [] := by
          show some (cl p4) = some []
          rw [List.eq_nil_of_length_eq_zero (show (cl p4).length = 0 by rw [cl_len]; exact z)]
        exact (Option.some.inj (hlg.mpr this)).symm
    have hm : p4.length = 0 → midOf S = p3 := fun z => by
      refine cl_ext ?_
      unfold midOf
      rw [m2, m3, show (((0 + p0.length + 1 + p1.length + 1 + p2.length : Nat) : Int) + 1) = ((0 + p0.length + 1 + p1.length + 1 + p2.length + 1 : Nat) : Int) from by omega]
      rw [cl_cut (by omega) (by omega), ← hgl]
      simp only [List.map_cons, List.map_nil, glueL]
      rw [show cl p0 ++ c :: (cl p1 ++ c :: (cl p2 ++ c :: (cl p3 ++ c :: cl p4))) = (cl p0 ++ [c] ++ cl p1 ++ [c] ++ cl p2 ++ [c]) ++ (cl p3 ++ c :: cl p4) from by simp only [List.append_assoc, List.cons_append, List.nil_append]]
      rw [List.drop_left' (by simp only [List.length_append, List.length_cons, List.length_nil, cl_len]; omega)]
      rw [List.take_left' (by rw [cl_len]; omega)]
    refine ⟨?_, fun z => ?_⟩
    · rw [hsp]
      cases hR : (Txt.slice R none (some 3) != Str.ofString "229") with
      | true => rw [if_pos rfl]; rfl
      | false =>
        rw [if_neg Bool.false_ne_true]
        by_cases z : p4.length = 0
        · rw [if_neg (by simp [z]), hm z, h4.mpr z]
          have : (a != a) = false := by simp
          rw [this]; rfl
        · rw [if_pos (by simpa using z)]
          have : (c != a) = true := by simpa using fun k => z (h4.mp k)
          rw [this]; rfl
    · have : p4.length = 0 := by rw [hsp] at z; simpa using z
      rw [hm this]
      exact hmid p3 (by simp)
  · have hsp : spoiled S = true := by
      unfold spoiled
      rw [List.length_map, hml]
      rw [Bool.or_eq_true]
      have hne : ps ≠ [] := fun z => by
        rw [z] at hgl
        have : cl S = [] := hgl.symm
        rw [this] at hc; cases hc
      have : ps.length ≠ 0 := fun z => hne (List.eq_nil_of_length_eq_zero z)
      exact .inl (bne_iff_ne.mpr (by omega))
    refine ⟨?_, fun z => by rw [hsp] at z; cases z⟩
    rw [hsp]
    cases hR : (Txt.slice R none (some 3) != Str.ofString "229") with
    | true => rw [if_pos rfl]; rfl
    | false =>
      rw [if_neg Bool.false_ne_true, if_pos rfl]
      have : ((ps.length : Int) != 5) = true := bne_iff_ne.mpr (by omega)
      rw [this]
      cases (c != a) <;> rfl
theorem told_all (H : Reply R row n) : ∀ d, caughtQ 44 56 (fun o => o = pOut R n host) d → d = toldD row R host := by
  intro d hd
  obtain ⟨e, hmid⟩ := told_out (host := host) H
  rw [e] at hd
  unfold toldD
  by_cases h1 : (Txt.slice R none (some 3) != Str.ofString "229") = true
  · rw [if_pos h1] at hd ⊢
    rcases hd with hd | ⟨x, hd, rfl⟩ | ⟨x, hd, rfl⟩ | ⟨hd, rfl⟩
    · cases hd
    · cases hd; rfl
    · injection hd with k1 k2; exact absurd k1 (by decide)
    · cases hd
  · rw [if_neg h1] at hd ⊢
    by_cases h2 : spoiled (insOf row) = true
    · rw [if_pos h2] at hd ⊢
      rcases hd with hd | ⟨x, hd, rfl⟩ | ⟨x, hd, rfl⟩ | ⟨hd, rfl⟩
      · cases hd
      · injection hd with k1 k2; exact absurd k1 (by decide)
      · cases hd; rfl
      · cases hd
    · rw [if_neg h2] at hd ⊢
      obtain ⟨m1, m2⟩ := hmid (Bool.eq_false_iff.mpr h2)
      rw [port_fact m1 (by omega)]
      cases hi : intOf (midOf (insOf row)) with
      | none =>
        rw [hi] at hd
        rcases hd with hd | ⟨x, hd, rfl⟩ | ⟨x, hd, rfl⟩ | ⟨hd, rfl⟩
        · cases hd
        · cases hd
        · cases hd
        · rfl
      | some k =>
        rw [hi] at hd
        rcases hd with hd | ⟨x, hd, rfl⟩ | ⟨x, hd, rfl⟩ | ⟨hd, rfl⟩
        · cases hd; rfl
        · cases hd
        · cases hd
        · cases hd
end
end Mine
end
section
open PySem PySem.W PySem.Spec PySem.Calls PyProof.Rows
open PySem.Builtin.Str
set_option Elab.async false
set_option linter.unusedVariables false
namespace Mine
theorem bit_is (m : Int) (k : Nat) (b : Int) (hb : b = 2 ^ k) : (Builtin.bitAnd m b == b) = (m / b % 2 == 1) := by
  subst hb
  rw [kbt_bit, Bool.eq_iff_iff, beq_iff_eq, beq_iff_eq]
  have hp := kbt_pos k
  rcases (by omega : m / 2 ^ k % 2 = 0 ∨ m / 2 ^ k % 2 = 1) with h | h
  · rw [h]; omega
  · rw [h]; omega
theorem low_is (m : Int) (j : Nat) : (Builtin.bitAnd m (2 * 2 ^ j + 1) == 2 * 2 ^ j + 1) = (m / 2 / 2 ^ j % 2 == 1 && m % 2 == 1) := by
  have hp := kbt_pos j
  rw [kbt_halves]
  generalize hz : (2 : Int) ^ j = z at hp
  have ee : (2 * z + 1 : Int) / 2 = z := by clear hz; omega
  have e : (2 * z + 1 : Int) % 2 = 1 := by clear hz; omega
  rw [ee, ← hz, kbt_bit, hz, Bool.eq_iff_iff, beq_iff_eq, Bool.and_eq_true, beq_iff_eq, beq_iff_eq, e]
  clear hz ee e
  generalize m / 2 / z = u
  rcases Int.emod_two_eq u with h | h <;> rcases Int.emod_two_eq m with h' | h' <;> rw [h, h'] <;> simp <;> omega
theorem two_is (m : Int) (k j : Nat) (b : Int) (hb : b = 2 ^ k * (2 * 2 ^ j + 1)) : (Builtin.bitAnd m b == b) = (m / 2 ^ k / 2 / 2 ^ j % 2 == 1 && m / 2 ^ k % 2 == 1) := by
  subst hb
  rw [band_shift, ← low_is, Bool.eq_iff_iff, beq_iff_eq, beq_iff_eq]
  have hp := kbt_pos k
  exact ⟨fun h => Int.eq_of_mul_eq_mul_left (by omega) h, fun h => by rw [h]⟩
theorem ifmt_is (m : Int) : Builtin.bitAnd m 61440 = 4096 * (m / 4096 % 16) := by
  have h := band_shift 12 m 15
  have h2 := kbt_mask (m / 2 ^ 12) 4
  rw [show (61440 : Int) = 2 ^ 12 * 15 from rfl, h, show (15 : Int) = 2 ^ 4 - 1 from rfl, h2]
  rfl
noncomputable def trL (r w x a : Bool) (p : Bool) : List Nat := [bif r then 114 else 45, bif w then 119 else 45, bif a && x then (bif p then 116 else 115) else bif a then (bif p then 84 else 83) else bif x then 120 else 45]
theorem three_eq {f a : Int} {p : Bool} (h0 : 0 ≤ f) (h1 : f < 8) (h2 : 0 ≤ a) (h3 : a < 2) : cl (three f a p) = trL (f / 4 == 1) (f / 2 % 2 == 1) (f % 2 == 1) (a == 1) p :=
  fin_all (P := fun f => cl (three f a p) = trL (f / 4 == 1) (f / 2 % 2 == 1) (f % 2 == 1) (a == 1) p) (fin_all (n := 2) (P := fun a => ∀ j : Fin 8, cl (three (j.1 : Int) a p) = trL ((j.1 : Int) / 4 == 1) ((j.1 : Int) / 2 % 2 == 1) ((j.1 : Int) % 2 == 1) (a == 1) p) (by revert p; decide +kernel) h2 h3) h0 h1
theorem pick_kind {k : Int} (h0 : 0 ≤ k) (h1 : k < 16) : cl (pick (fun b => 4096 * k == b) "?" [(40960, "l"), (49152, "s"), (32768, "-"), (24576, "b"), (16384, "d"), (8192, "c"), (4096, "p")]) = cl (Txt.item "?pc?d?b?-?l?s???" k) :=
  fin_all (n := 16) (P := fun k => cl (pick (fun b => 4096 * k == b) "?" [(40960, "l"), (49152, "s"), (32768, "-"), (24576, "b"), (16384, "d"), (8192, "c"), (4096, "p")]) = cl (Txt.item "?pc?d?b?-?l?s???" k)) (by decide +kernel) h0 h1
theorem cl_join0 : ∀ ys : List Str, cl (Txt.join "" ys) = (ys.map cl).flatten := by
  intro ys
  show cl (Builtin.Str.glued _ ys) = _
  rw [StrLaws.glued_eq_join]
  induction ys with
  | nil => rfl
  | cons y ys ih =>
    cases ys with
    | nil => show cl y = cl y ++ []; rw [List.append_nil]
    | cons z r =>
      show cl (y ++ Str.ofString "" ++ Str.join _ (z :: r)) = cl y ++ ((z :: r).map cl).flatten
      rw [cl_app, cl_app, ih, show cl (Str.ofString "") = [] from by decide +kernel, List.append_nil]
theorem pick_one {m i b : Int} {x : String} {r : Bool} (h : isB m i b = r) (hi : (i == 0) = false) : cl (pick (isB m i) (dflt i) [(b, x)]) = bif r then cl (Str.ofString x) else [45] := by
  show cl (bif isB m i b then Str.ofString x else dflt i) = _
  rw [h]
  unfold dflt
  rw [hi]
  cases r
  · exact (by decide +kernel : cl (Str.ofString "-") = [45])
  · rfl
theorem pick_three {m i b1 b2 b3 : Int} {x1 x2 x3 : String} {r1 r2 r3 : Bool} (h1 : isB m i b1 = r1) (h2 : isB m i b2 = r2) (h3 : isB m i b3 = r3) (hi : (i == 0) = false) : cl (pick (isB m i) (dflt i) [(b1, x1), (b2, x2), (b3, x3)]) = bif r1 then cl (Str.ofString x1) else bif r2 then cl (Str.ofString x2) else bif r3 then cl (Str.ofString x3) else [45] := by
  show cl (bif isB m i b1 then Str.ofString x1 else bif isB m i b2 then Str.ofString x2 else bif isB m i b3 then Str.ofString x3 else dflt i) = _
  rw [h1, h2, h3]
  unfold dflt
  rw [hi]
  cases r1 <;> cases r2 <;> cases r3 <;> first | rfl | exact (by decide +kernel : cl (Str.ofString "-") = [45])
theorem isB_one {m i b : Int} (hi : (i == 0) = false) (k : Nat) (hb : b = 2 ^ k) : isB m i b = (m / 2 ^ k % 2 == 1) := by
  unfold isB
  rw [hi, hb]
  exact bit_is m k _ rfl
theorem isB_two {m i b : Int} (hi : (i == 0) = false) (k j : Nat) (hb : b = 2 ^ k * (2 * 2 ^ j + 1)) : isB m i b = (m / 2 ^ k / 2 / 2 ^ j % 2 == 1 && m / 2 ^ k % 2 == 1) := by
  unfold isB
  rw [hi]
  exact two_is m k j b hb
theorem tri_nums (x : Int) : (x % 8 / 4 = x / 4 % 2 ∧ x % 8 / 2 % 2 = x / 2 % 2) ∧ x % 8 % 2 = x % 2 ∧ 0 ≤ x % 8 ∧ x % 8 < 8 := ⟨⟨by omega, by omega⟩, Int.emod_emod_of_dvd x (by decide), Int.emod_nonneg x (by decide), Int.emod_lt_of_pos x (by decide)⟩
theorem bit_num (x : Int) : 0 ≤ x % 2 ∧ x % 2 < 2 := ⟨Int.emod_nonneg x (by decide), Int.emod_lt_of_pos x (by decide)⟩
theorem div_up (m : Int) (k j : Nat) : m / 2 ^ (k + j) = m / 2 ^ k / 2 ^ j := by
  rw [Int.ediv_ediv_of_nonneg (Int.le_of_lt (kbt_pos k)), Int.pow_add]
theorem tri_fit {m i j l : Int} {b1 b2 b4 b5 b6 : Int} {x5 x6 x7 : String} {p : Bool} (k s : Nat) (h1 : b1 = 2 ^ (k + 2)) (h2 : b2 = 2 ^ (k + 1)) (h4 : b4 = 2 ^ k * (2 * 2 ^ s + 1)) (h5 : b5 = 2 ^ (k + 1 + s)) (h6 : b6 = 2 ^ k) (hi : (i == 0) = false) (hj : (j == 0) = false) (hl : (l == 0) = false)
    (q5 : cl (Str.ofString x5) = [bif p then 116 else 115]) (q6 : cl (Str.ofString x6) = [bif p then 84 else 83]) (q7 : cl (Str.ofString x7) = [120]) :
    [cl (pick (isB m i) (dflt i) [(b1, "r")]), cl (pick (isB m j) (dflt j) [(b2, "w")]), cl (pick (isB m l) (dflt l) [(b4, x5), (b5, x6), (b6, x7)])].flatten = cl (three (m / b6 % 8) (m / b5 % 2) p) := by
  have e1 := isB_one (m := m) hi _ h1
  have e2 := isB_one (m := m) hj _ h2
  have e4 := isB_two (m := m) hl _ _ h4
  have e5 := isB_one (m := m) hl _ h5
  have e6 := isB_one (m := m) hl _ h6
  subst h5 h6
  rw [div_up] at e1 e2
  have hs : m / 2 ^ (k + 1 + s) = m / 2 ^ k / 2 / 2 ^ s := by rw [div_up, div_up]; rfl
  rw [hs] at e5 ⊢
  generalize m / 2 ^ k / 2 / 2 ^ s = a at *
  generalize m / 2 ^ k = x at *
  obtain ⟨⟨n1, n2⟩, n3, n4, n5⟩ := tri_nums x
  rw [three_eq n4 n5 (bit_num a).1 (bit_num a).2, pick_one e1 hi, pick_one e2 hj, pick_three e4 e5 e6 hl, q5, q6, q7, n1, n2, n3]
  rw [show cl (Str.ofString "r") = [114] from by decide +kernel, show cl (Str.ofString "w") = [119] from by decide +kernel]
  unfold trL
  rw [show (2 : Int) ^ 2 = 4 from rfl, show (2 : Int) ^ 1 = 2 from rfl]
  clear e1 e2 e4 e5 e6 q5 q6 q7 hs n1 n2 n3 n4 n5 h1 h2 h4 hi hj hl
  generalize (x / 4 % 2 == 1) = b1
  generalize (x / 2 % 2 == 1) = b2
  generalize (x % 2 == 1) = b3
  generalize (a % 2 == 1) = b4
  revert b1 b2 b3 b4 p
  decide +kernel
theorem shown_listed (m : Int) : shown m = listed m := by
  refine cl_ext ?_
  unfold shown listed
  rw [cl_join0, cl_app, cl_app, cl_app]
  have t1 := tri_fit (m := m) (i := 1) (j := 2) (l := 3) (b1 := 256) (b2 := 128) (b4 := 2112) (b5 := 2048) (b6 := 64) (x5 := "s") (x6 := "S") (x7 := "x") (p := false) 6 4 rfl rfl rfl rfl rfl rfl rfl rfl (by decide +kernel) (by decide +kernel) (by decide +kernel)
  have t2 := tri_fit (m := m) (i := 4) (j := 5) (l := 6) (b1 := 32) (b2 := 16) (b4 := 1032) (b5 := 1024) (b6 := 8) (x5 := "s") (x6 := "S") (x7 := "x") (p := false) 3 6 rfl rfl rfl rfl rfl rfl rfl rfl (by decide +kernel) (by decide +kernel) (by decide +kernel)
  have t3 := tri_fit (m := m) (i := 7) (j := 8) (l := 9) (b1 := 4) (b2 := 2) (b4 := 513) (b5 := 512) (b6 := 1) (x5 := "t") (x6 := "T") (x7 := "x") (p := true) 0 8 rfl rfl rfl rfl rfl rfl rfl rfl (by decide +kernel) (by decide +kernel) (by decide +kernel)
  have t0 : cl (pick (isB m 0) (dflt 0) [(40960, "l"), (49152, "s"), (32768, "-"), (24576, "b"), (16384, "d"), (8192, "c"), (4096, "p")]) = cl (Txt.item "?pc?d?b?-?l?s???" (m / 4096 % 16)) := by
    rw [← pick_kind (by omega) (by omega), ← ifmt_is]
    rfl
  rw [← t1, ← t2, ← t3, ← t0]
  show [_, _, _, _, _, _, _, _, _, _].flatten = _
  simp only [List.flatten_cons, List.flatten_nil, List.append_nil, List.append_assoc]
  rfl
end Mine
end
section
open PySem PySem.W PySem.Spec PySem.Calls PyProof.Rows
set_option Elab.async false
set_option linter.unusedVariables false
namespace Mine
theorem trans_at (u0 u1 x : UInt8) : (transOf [43, 47] [u0, u1]).getD x.toNat x = if x = 47 then u1 else if x = 43 then u0 else x := by
  show (((((Array.range 256).map (·.toUInt8)).setIfInBounds 43 u0).setIfInBounds 47 u1)).getD x.toNat x = _
  rw [Array.getD_eq_getD_getElem?, Array.getElem?_setIfInBounds, Array.getElem?_setIfInBounds]
  have hx := x.toNat_lt
  by_cases h1 : x = 47
  · subst h1; simp
  · rw [if_neg h1]
    have n1 : ¬ (47 = x.toNat) := fun z => h1 (UInt8.toNat_inj.mp (by rw [← z]; rfl))
    rw [if_neg n1]
    by_cases h2 : x = 43
    · subst h2; simp
    · rw [if_neg h2]
      have n2 : ¬ (43 = x.toNat) := fun z => h2 (UInt8.toNat_inj.mp (by rw [← z]; rfl))
      rw [if_neg n2]
      simp [hx]
noncomputable def gg (f5 : Int) (k : Int) : Nat := ((cl (sgn f5))[k.toNat]?).getD 0
theorem alpha_tab : ((List.range 62).all fun k => (b64tab.getD k 0).toNat == ((cl alpha)[k]?).getD 0 && !((b64tab.getD k 0) == 43) && !((b64tab.getD k 0) == 47) && ((cl alpha)[k]?).getD 0 < 127 && 14 ≤ ((cl alpha)[k]?).getD 0 && !(((cl alpha)[k]?).getD 0 == 41)) = true := by decide +kernel
noncomputable def pr0 (f5 : Int) : Nat := ((cl (pairOf f5))[0]?).getD 0
noncomputable def pr1 (f5 : Int) : Nat := ((cl (pairOf f5))[1]?).getD 0
theorem pair_tab : ∀ j : Fin 10, cl (pairOf (j.1 : Int)) = [pr0 (j.1 : Int), pr1 (j.1 : Int)] ∧ (pr0 (j.1 : Int) < 127 ∧ 14 ≤ pr0 (j.1 : Int) ∧ pr1 (j.1 : Int) < 127 ∧ 14 ≤ pr1 (j.1 : Int)) ∧ ((pairOf (j.1 : Int) == "+/") = true → pr0 (j.1 : Int) = 43 ∧ pr1 (j.1 : Int) = 47) := by
  decide +kernel
theorem cl_alpha : (cl alpha).length = 62 := by decide +kernel
section
variable {f5 : Int} (h0 : 0 ≤ f5) (h1 : f5 ≤ 9)
include h0 h1
theorem pair_fact : cl (pairOf f5) = [pr0 f5, pr1 f5] ∧ (pr0 f5 < 127 ∧ 14 ≤ pr0 f5 ∧ pr1 f5 < 127 ∧ 14 ≤ pr1 f5) ∧ ((pairOf f5 == "+/") = true → pr0 f5 = 43 ∧ pr1 f5 = 47) := ten (P := fun f5 => cl (pairOf f5) = [pr0 f5, pr1 f5] ∧ (pr0 f5 < 127 ∧ 14 ≤ pr0 f5 ∧ pr1 f5 < 127 ∧ 14 ≤ pr1 f5) ∧ ((pairOf f5 == "+/") = true → pr0 f5 = 43 ∧ pr1 f5 = 47)) pair_tab h0 h1
theorem gg_at {k : Int} (k0 : 0 ≤ k) (k1 : k < 64) : (k < 62 ∧ (b64tab.getD k.toNat 0).toNat = gg f5 k ∧ b64tab.getD k.toNat 0 ≠ 43 ∧ b64tab.getD k.toNat 0 ≠ 47 ∧ gg f5 k < 127 ∧ 14 ≤ gg f5 k) ∨ (k = 62 ∧ gg f5 k = pr0 f5 ∧ b64tab.getD k.toNat 0 = 43) ∨ (k = 63 ∧ gg f5 k = pr1 f5 ∧ b64tab.getD k.toNat 0 = 47) := by
  obtain ⟨hp, _, _⟩ := pair_fact h0 h1
  have e : cl (sgn f5) = cl alpha ++ [pr0 f5, pr1 f5] := by unfold sgn; rw [cl_app, hp]
  have l := cl_alpha
  by_cases hk : k < 62
  · left
    have ht := List.all_eq_true.mp alpha_tab k.toNat (List.mem_range.mpr (by omega))
    have eg : gg f5 k = ((cl alpha)[k.toNat]?).getD 0 := by unfold gg; rw [e, List.getElem?_append_left (by omega)]
    rw [eg]
    simp only [Bool.and_eq_true, Bool.not_eq_true', beq_iff_eq, beq_eq_false_iff_ne, decide_eq_true_eq] at ht
    obtain ⟨⟨⟨⟨⟨t1, t2⟩, t3⟩, t4⟩, t5⟩, t6⟩ := ht
    exact ⟨hk, t1, t2, t3, t4, t5⟩
  · right
    rcases (by omega : k = 62 ∨ k = 63) with rfl | rfl
    · left
      refine ⟨rfl, ?_, rfl⟩
      unfold gg
      rw [e, List.getElem?_append_right (by rw [l]; decide), l]; rfl
    · right
      refine ⟨rfl, ?_, rfl⟩
      unfold gg
      rw [e, List.getElem?_append_right (by rw [l]; decide), l]; rfl
theorem gg_prt {k : Int} (k0 : 0 ≤ k) (k1 : k < 64) : gg f5 k < 127 ∧ 14 ≤ gg f5 k := by
  obtain ⟨_, ⟨a, b, c, d⟩, _⟩ := pair_fact h0 h1
  rcases gg_at h0 h1 k0 k1 with ⟨_, _, _, _, p, q⟩ | ⟨_, e, _⟩ | ⟨_, e, _⟩
  · exact ⟨p, q⟩
  · rw [e]; exact ⟨a, b⟩
  · rw [e]; exact ⟨c, d⟩
theorem gg_byte {k : Int} (k0 : 0 ≤ k) (k1 : k < 64) : (transOf [43, 47] [UInt8.ofNat (pr0 f5), UInt8.ofNat (pr1 f5)]).getD (b64tab.getD k.toNat 0).toNat (b64tab.getD k.toNat 0) = UInt8.ofNat (gg f5 k) := by
  rw [trans_at]
  rcases gg_at h0 h1 k0 k1 with ⟨_, e, n1, n2, _⟩ | ⟨_, e, e2⟩ | ⟨_, e, e2⟩
  · rw [if_neg n2, if_neg n1, ← e, UInt8.ofNat_toNat]
  · rw [e2, if_neg (by decide), if_pos rfl, e]
  · rw [e2, if_pos rfl, e]
theorem gg_plain {k : Int} (k0 : 0 ≤ k) (k1 : k < 64) (hp : (pairOf f5 == "+/") = true) : b64tab.getD k.toNat 0 = UInt8.ofNat (gg f5 k) := by
  obtain ⟨_, _, h⟩ := pair_fact h0 h1
  obtain ⟨p0, p1⟩ := h hp
  rcases gg_at h0 h1 k0 k1 with ⟨_, e, _⟩ | ⟨_, e, e2⟩ | ⟨_, e, e2⟩
  · rw [← e, UInt8.ofNat_toNat]
  · rw [e2, e, p0]; rfl
  · rw [e2, e, p1]; rfl
theorem text_mk {a b d e : Int} (ha : 0 ≤ a ∧ a < 64) (hb : 0 ≤ b ∧ b < 64) (hd : 0 ≤ d ∧ d < 64) (he : 0 ≤ e ∧ e < 64) : textOf f5 a b d e = ⟨#[gg f5 a, gg f5 b, gg f5 d, gg f5 e]⟩ := by
  have l := sgn_len ⟨h0, h1⟩
  have it : ∀ k : Int, 0 ≤ k ∧ k < 64 → Txt.item (sgn f5) k = ⟨#[gg f5 k]⟩ := fun k hk => by
    have : (cl (sgn f5))[k.toNat]? = some (gg f5 k) := by
      unfold gg
      rw [List.getElem?_eq_getElem (by rw [cl_len, l]; omega)]; rfl
    have := item_at this
    rwa [show ((k.toNat : Nat) : Int) = k from by omega] at this
  unfold textOf
  rw [it a ha, it b hb, it d hd, it e he]
  rfl
end
theorem oct1 {p : Int} (h : 0 ≤ p ∧ p < 256) : ((UInt8.ofNat p.toNat).toNat : Int) = p := by
  rw [UInt8.toNat_ofNat']
  omega
theorem lc_parts {p : Int} (h : 0 ≤ p ∧ p < 16777216) : (0 * 256 + p / 65536) % 65536 = p / 65536 ∧ (p / 65536 * 256 + p / 256 % 256) % 65536 = p / 256 ∧ (p / 256 * 256 + p % 256) % 65536 = p % 65536 := by
  have e : ∀ q : Int, q / 256 * 256 + q % 256 = q := fun q => by omega
  refine ⟨?_, ?_, by rw [e]⟩
  · rw [Int.zero_mul, Int.zero_add]; exact Int.emod_eq_of_lt (oct_a h).1 (Int.lt_trans (oct_a h).2 (by decide))
  · have k : p / 256 / 256 = p / (256 * 256) := Int.ediv_ediv_of_nonneg (by decide)
    rw [show p / 65536 = p / 256 / 256 from k.symm, e]
    exact Int.emod_eq_of_lt (Int.ediv_nonneg h.1 (by decide)) (Int.ediv_lt_of_lt_mul (by decide) h.2)
theorem pack_a {a b d e : Int} (ha : 0 ≤ a ∧ a < 64) (hb : 0 ≤ b ∧ b < 64) (hd : 0 ≤ d ∧ d < 64) (he : 0 ≤ e ∧ e < 64) : packOf a b d e / 65536 / 4 % 64 = a := by unfold packOf; omega
theorem pack_b {a b d e : Int} (hb : 0 ≤ b ∧ b < 64) (hd : 0 ≤ d ∧ d < 64) (he : 0 ≤ e ∧ e < 64) : packOf a b d e / 256 / 16 % 64 = b := by unfold packOf; omega
theorem pack_d {a b d e : Int} (hd : 0 ≤ d ∧ d < 64) (he : 0 ≤ e ∧ e < 64) : packOf a b d e % 65536 / 64 % 64 = d := by unfold packOf; omega
theorem pack_e {a b d e : Int} (he : 0 ≤ e ∧ e < 64) : packOf a b d e % 65536 / 1 % 64 = e := by unfold packOf; omega
theorem enc_sixes {a b d e : Int} (ha : 0 ≤ a ∧ a < 64) (hb : 0 ≤ b ∧ b < 64) (hd : 0 ≤ d ∧ d < 64) (he : 0 ≤ e ∧ e < 64) : encB (UInt8.ofNat (packOf a b d e / 65536).toNat) (UInt8.ofNat (packOf a b d e / 256 % 256).toNat) (UInt8.ofNat (packOf a b d e % 256).toNat) = #[b64tab.getD a.toNat 0, b64tab.getD b.toNat 0, b64tab.getD d.toNat 0, b64tab.getD e.toNat 0] := by
  have hp := pack_rng ha hb hd he
  obtain ⟨l1, l2, l3⟩ := lc_parts hp
  unfold encB
  rw [oct1 (oct_a hp), oct1 (oct_b _), oct1 (oct_b _)]
  unfold enc3 lc3 lc2 lc1
  rw [l1, l2, l3]
  rw [show (2 : Int) ^ 2 = 4 from rfl, show (2 : Int) ^ 4 = 16 from rfl, show (2 : Int) ^ 6 = 64 from rfl, show (2 : Int) ^ 0 = 1 from rfl, pack_a ha hb hd he, pack_b hb hd he, pack_d hd he, pack_e he]
  have hb : ∀ k, UInt8.ofNat (b64 k).toNat = b64tab.getD k.toNat 0 := fun k => by
    unfold b64
    rw [Int.toNat_natCast, UInt8.ofNat_toNat]
  show #[UInt8.ofNat (b64 a).toNat, UInt8.ofNat (b64 b).toNat, UInt8.ofNat (b64 d).toNat, UInt8.ofNat (b64 e).toNat] = _
  rw [hb, hb, hb, hb]
noncomputable def writ (f5 a b d e : Int) : Array UInt8 := #[UInt8.ofNat (gg f5 a), UInt8.ofNat (gg f5 b), UInt8.ofNat (gg f5 d), UInt8.ofNat (gg f5 e)]
noncomputable def altD (f5 : Int) : D := if (pairOf f5 == "+/") = true then .none else .bytes #[UInt8.ofNat (pr0 f5), UInt8.ofNat (pr1 f5)]
theorem c_b64 (w : World) {f5 a b d e : Int} (lv : Nat) (h5 : 0 ≤ f5 ∧ f5 ≤ 9) (ha : 0 ≤ a ∧ a < 64) (hb : 0 ≤ b ∧ b < 64) (hd : 0 ≤ d ∧ d < 64) (he : 0 ≤ e ∧ e < 64) : CALL PySem.Challenge.rw_op0036_01.row.prog w (KF w.params) (lv + 2) 95 [.bytes (byteArr (octs (packOf a b d e))), altD f5] (.bytes (writ f5 a b d e)) := by
  have es := enc_sixes ha hb hd he
  unfold altD
  by_cases hp : (pairOf f5 == "+/") = true
  · rw [if_pos hp]
    have := c_b64n w (UInt8.ofNat (packOf a b d e / 65536).toNat) (UInt8.ofNat (packOf a b d e / 256 % 256).toNat) (UInt8.ofNat (packOf a b d e % 256).toNat) lv
    rw [es, gg_plain h5.1 h5.2 ha.1 ha.2 hp, gg_plain h5.1 h5.2 hb.1 hb.2 hp, gg_plain h5.1 h5.2 hd.1 hd.2 hp, gg_plain h5.1 h5.2 he.1 he.2 hp] at this
    exact this
  · rw [if_neg hp]
    have := c_b64a w (UInt8.ofNat (packOf a b d e / 65536).toNat) (UInt8.ofNat (packOf a b d e / 256 % 256).toNat) (UInt8.ofNat (packOf a b d e % 256).toNat) (UInt8.ofNat (pr0 f5)) (UInt8.ofNat (pr1 f5)) lv
    rw [es] at this
    have ew : transBy (transOf [43, 47] [UInt8.ofNat (pr0 f5), UInt8.ofNat (pr1 f5)]) #[b64tab.getD a.toNat 0, b64tab.getD b.toNat 0, b64tab.getD d.toNat 0, b64tab.getD e.toNat 0] = writ f5 a b d e := by
      unfold transBy
      rw [List.map_toArray]
      simp only [List.map_cons, List.map_nil]
      rw [gg_byte h5.1 h5.2 ha.1 ha.2, gg_byte h5.1 h5.2 hb.1 hb.2, gg_byte h5.1 h5.2 hd.1 hd.2, gg_byte h5.1 h5.2 he.1 he.2]; rfl
    rw [ew] at this
    exact this
end Mine
end
section
open PySem PySem.W PySem.Spec PySem.Calls PyProof.Rows
open PySem.Builtin PySem.Builtin.Str
set_option Elab.async false
set_option linter.unusedVariables false
namespace Mine
theorem slice_sub {x : Str} {l u : Option Int} {c : Nat} (h : c ∈ cl (Txt.slice x l u)) : c ∈ cl x := by
  unfold Txt.slice at h
  split at h
  · exact h
  · obtain ⟨i, _, hi⟩ := List.mem_filterMap.mp h
    obtain ⟨hj, rfl⟩ := Array.getElem?_eq_some_iff.mp hi
    exact Array.getElem_mem_toList hj
theorem strip_sub {x y : Str} {c : Nat} (h : c ∈ cl (Txt.stripChars x y)) : c ∈ cl x := by
  rw [cl_strip] at h
  exact dropW_sub (rtrim_sub h)
theorem body1_le (b : Str) : (body1 b).length ≤ b.length := by
  unfold body1
  split
  · exact Txt.slice_le _ _ _
  · exact Nat.le_refl _
theorem portOk_of {t : Str} (h : Prt (cl t)) (hl : t.length ≤ 1000) : PortOk t := by
  have sz := szl
  have l0 : (body0 t).length ≤ 1000 := Nat.le_trans (stripChars_le t " ") hl
  have l1 : (body1 (body0 t)).length ≤ 1000 := Nat.le_trans (body1_le _) l0
  refine ⟨hl, ?_, ?_, fun p hp => ?_⟩
  · unfold PyData.strOk
    rw [← Array.all_toList, List.all_eq_true]
    intro c hc
    have := h c (strip_sub (slice_sub (x := body0 t) hc))
    exact decide_eq_true (by omega)
  · have := between_len (body1 (body0 t)) "_"
    omega
  · rw [cl_us] at hp
    have := (split_part hp).1
    omega
structure Rep (R row : Str) (n : Nat) : Prop where
  ex : ∃ x r, x ≠ 40 ∧ cl R = [50, 50, x, 32, 40] ++ (upto 41 (cl row) ++ 41 :: r)
  c : ∃ c, (cl row)[0]? = some c ∧ c ≠ 41
  prt : Prt (cl row)
  len : row.length ≤ 50
  rl : R.length ≤ 100
  n : n = (upto 41 (cl row)).length
theorem Rep.reply {R row : Str} {n : Nat} (H : Rep R row n) : Reply R row n := ⟨by obtain ⟨x, r, _, e⟩ := H.ex; exact ⟨_, r, rfl, e⟩, H.c, H.prt, H.len, H.n⟩
theorem upto_len (c : Nat) (l : List Nat) : (upto c l).length ≤ l.length := by
  rw [upto_take]
  exact List.length_take_le' _ _
theorem prt_repr {p : Str} (h : Prt (cl p)) (hl : p.length ≤ 100) : (reprText p).length ≤ sizeLine := by
  have sz := szl
  have := StrLaws.reprText_len p fun c hc => by
    have := h c hc
    have : (127 : Nat) < 16 ^ 8 := by decide
    omega
  omega
theorem parse_ok {R row : Str} {n : Nat} (H : Rep R row n) (w : World) (host : Str) (lv : Nat) : CALLX PySem.Challenge.rw_op0036_01.row.prog w (KF w.params) lv 65 [.str R, .tup [.str host, .int 21]] (fun o => o = pOut R n host) := by
  have sz := szl
  obtain ⟨x, r, hx, e⟩ := H.ex
  have hl : n ≤ 50 := by
    have := upto_len 41 (cl row)
    rw [cl_len, ← H.n] at this
    have := H.len
    omega
  have len : 5 + n < R.length := by
    rw [← cl_len, e]
    simp only [List.length_append, List.length_cons, List.length_nil, ← H.n]
    omega
  obtain ⟨c, hc, h1⟩ := H.reply.first
  have il := H.reply.insLen
  have prt : Prt (cl (insOf row)) := fun y hy => H.prt y (by rw [ins_cl] at hy; exact upto_sub 41 hy)
  have i0 : Txt.item R 5 = ⟨#[c]⟩ := item_at (i := 5) (by rw [show (5 : Nat) = 5 + 0 from rfl, H.reply.at (by omega)]; exact hc)
  have psub : ∀ p ∈ pParts R n, p.length ≤ 100 ∧ Prt (cl p) := fun p hp => by
    unfold pParts at hp
    rw [i0, H.reply.sl] at hp
    obtain ⟨p1, p2⟩ := split_part hp
    exact ⟨by omega, fun y hy => prt y (p2 y hy)⟩
  refine c_parse w R host n lv ?_ ?_ len H.rl h1 (fun p hp => ⟨(psub p hp).1, prt_repr (psub p hp).2 (psub p hp).1⟩) ?_ ?_ ?_
  · rw [cl_ob]
    refine find_at (k := 4) (by rw [e]; rfl) fun j hj => ?_
    rw [e]
    rcases (by omega : j = 0 ∨ j = 1 ∨ j = 2 ∨ j = 3) with rfl | rfl | rfl | rfl
    · intro z; cases z
    · intro z; cases z
    · intro z; exact hx (Option.some.inj z)
    · intro z; cases z
  · rw [cl_cb]
    have hk : (cl R)[5 + n]? = some 41 := by
      rw [e, List.getElem?_append_right (by simp only [List.length_cons, List.length_nil]; omega), List.getElem?_append_right (by simp only [List.length_cons, List.length_nil, ← H.n]; omega)]
      simp only [List.length_cons, List.length_nil, ← H.n]
      rw [show 5 + n - (0 + 1 + 1 + 1 + 1 + 1) - n = 0 from by omega]; rfl
    have := find3_at (x := R) (c := 41) (a := 5) (k := 5 + n) (by omega) hk fun j j1 j2 z => by
      have : (cl R)[5 + (j - 5)]? = _ := H.reply.at (by omega)
      rw [show 5 + (j - 5) = j from by omega, z, ins_cl] at this
      exact upto_no 41 _ (List.mem_of_getElem? this.symm)
    rw [show ((5 + n : Nat) : Int) = 5 + (n : Int) from by omega] at this
    exact this
  · rw [H.reply.sl]
    have := between_len (insOf row) (Txt.item R 5)
    omega
  · unfold pParts
    rw [H.reply.sl]
    have := split_len (insOf row) (Txt.item R 5)
    have : (52 : Nat) ≤ 2 ^ 60 := by decide
    omega
  · rw [H.reply.sl]; omega
theorem mid_ok {row : Str} (h : Prt (cl row)) (hl : row.length ≤ 50) : PortOk (midOf (insOf row)) := by
  refine portOk_of (fun c hc => h c ?_) ?_
  · have := slice_sub (x := insOf row) hc
    rw [ins_cl] at this
    exact upto_sub 41 this
  · have h1 : (midOf (insOf row)).length ≤ (insOf row).length := Txt.slice_le _ _ _
    have h2 : (insOf row).length ≤ row.length := partition_le row ")"
    omega
end Mine
end
section
open PySem PySem.W PySem.Spec PySem.Calls PyProof.Rows
open PySem.Builtin PySem.Builtin.Str
set_option Elab.async false
set_option linter.unusedVariables false
namespace Mine
theorem listed_cl (m : Int) : ∃ (c : Nat) (a b d e x y z u p q r s : Bool), cl (listed m) = c :: (trL a b d e false ++ (trL x y z u false ++ trL p q r s true)) ∧ c < 127 ∧ 14 ≤ c ∧ c ≠ 41 := by
  have h1 := three_eq (f := m / 64 % 8) (a := m / 2048 % 2) (p := false) (by omega) (by omega) (by omega) (by omega)
  have h2 := three_eq (f := m / 8 % 8) (a := m / 1024 % 2) (p := false) (by omega) (by omega) (by omega) (by omega)
  have h3 := three_eq (f := m / 1 % 8) (a := m / 512 % 2) (p := true) (by omega) (by omega) (by omega) (by omega)
  have hk : ∀ k : Int, 0 ≤ k → k < 16 → ∃ c, cl (Txt.item "?pc?d?b?-?l?s???" k) = [c] ∧ c < 127 ∧ 14 ≤ c ∧ c ≠ 41 := fun k k0 k1 => by
    have : ∀ j : Fin 16, ((cl (Txt.item "?pc?d?b?-?l?s???" (j.1 : Int))).getD 0 0 < 127 ∧ 14 ≤ (cl (Txt.item "?pc?d?b?-?l?s???" (j.1 : Int))).getD 0 0 ∧ (cl (Txt.item "?pc?d?b?-?l?s???" (j.1 : Int))).getD 0 0 ≠ 41) := by decide +kernel
    have := this ⟨k.toNat, by omega⟩
    rw [show ((k.toNat : Nat) : Int) = k from by omega] at this
    exact ⟨_, rfl, this⟩
  obtain ⟨c, e, hc⟩ := hk (m / 4096 % 16) (by omega) (by omega)
  have el : cl (listed m) = c :: (trL (m / 64 % 8 / 4 == 1) (m / 64 % 8 / 2 % 2 == 1) (m / 64 % 8 % 2 == 1) (m / 2048 % 2 == 1) false ++ (trL (m / 8 % 8 / 4 == 1) (m / 8 % 8 / 2 % 2 == 1) (m / 8 % 8 % 2 == 1) (m / 1024 % 2 == 1) false ++ trL (m / 1 % 8 / 4 == 1) (m / 1 % 8 / 2 % 2 == 1) (m / 1 % 8 % 2 == 1) (m / 512 % 2 == 1) true)) := by
    unfold listed
    rw [cl_app, cl_app, cl_app, h1, h2, h3, e, List.append_assoc, List.append_assoc]; rfl
  exact ⟨c, _, _, _, _, _, _, _, _, _, _, _, _, el, hc⟩
theorem trL_prt : ∀ a b d e p : Bool, (trL a b d e p).length = 3 ∧ ∀ x ∈ trL a b d e p, 14 ≤ x ∧ x < 127 := by
  unfold trL
  decide +kernel
theorem listed_fact (m : Int) : (cl (listed m)).length = 10 ∧ Prt (cl (listed m)) ∧ ∃ c, (cl (listed m))[0]? = some c ∧ c ≠ 41 ∧ c < 127 := by
  obtain ⟨c, a, b, d, e, x, y, z, a', b', d', e', r', h, h1, h2, h3⟩ := listed_cl m
  · rw [h]
    refine ⟨?_, ?_, c, rfl, h3, h1⟩
    · simp only [List.length_cons, List.length_append, (trL_prt _ _ _ _ _).1]
    · intro q hq
      rcases List.mem_cons.mp hq with rfl | hq
      · exact ⟨h2, h1⟩
      · rcases List.mem_append.mp hq with hq | hq
        · exact (trL_prt _ _ _ _ _).2 q hq
        · rcases List.mem_append.mp hq with hq | hq <;> exact (trL_prt _ _ _ _ _).2 q hq
theorem own_rng {f5 : Int} (h : 0 ≤ f5 ∧ f5 ≤ 9) (c : Nat) : 0 ≤ ownOf ⟨#[c]⟩ f5 ∧ ownOf ⟨#[c]⟩ f5 < 64 := by
  have l := sgn_len h
  unfold ownOf
  split
  · rename_i hc
    unfold Txt.contains at hc
    unfold Txt.find
    rcases StrLaws.occ_head (sgn f5) ⟨#[c]⟩ 1 (Nat.le_refl 1) with ⟨e, _⟩ | ⟨i, r, e, hi, _⟩
    · rw [e] at hc; cases hc
    · rw [e]
      have := hi.1
      rw [l] at this
      have l1 : (⟨#[c]⟩ : Str).length = 1 := rfl
      show (0 : Int) ≤ (i : Int) ∧ (i : Int) < 64
      omega
  · exact ⟨by decide, by decide⟩
noncomputable def codeOf (f1 : Int) : Str := if (f1 == 8) = true then "220 (" else "229 ("
theorem code_cl (f1 : Int) : ∃ x, x ≠ 40 ∧ cl (codeOf f1) = [50, 50, x, 32, 40] := by
  unfold codeOf
  split
  · exact ⟨48, by decide, by decide +kernel⟩
  · exact ⟨57, by decide, by decide +kernel⟩
theorem cl_tail : cl (Str.ofString ") (|||9|)") = [41, 32, 40, 124, 124, 124, 57, 124, 41] := by decide +kernel
theorem rep_of {f1 : Int} {row text : Str} {c : Nat} (h0 : (cl row)[0]? = some c) (hc : c ≠ 41) (hr : Prt (cl row)) (ht : Prt (cl text)) (l1 : row.length ≤ 20) (l2 : text.length ≤ 20) (e : c < 127 ∧ 14 ≤ c) :
    Rep (codeOf f1 ++ row ++ text ++ ⟨#[c]⟩ ++ Str.ofString ") (|||9|)") (row ++ text ++ ⟨#[c]⟩) (upto 41 (cl (row ++ text ++ ⟨#[c]⟩))).length := by
  obtain ⟨x, hx, ec⟩ := code_cl f1
  obtain ⟨r', er⟩ := upto_split 41 (cl (row ++ text ++ ⟨#[c]⟩)) [32, 40, 124, 124, 124, 57, 124, 41]
  have e1 : cl (row ++ text ++ ⟨#[c]⟩) = cl row ++ (cl text ++ [c]) := by rw [cl_app, cl_app, cl_one, List.append_assoc]
  have lc : (codeOf f1).length = 5 := by rw [← cl_len, ec]; rfl
  have lt : (Str.ofString ") (|||9|)").length = 9 := by rw [← cl_len, cl_tail]; rfl
  have l3 : (⟨#[c]⟩ : Str).length = 1 := rfl
  refine ⟨⟨x, r', hx, ?_⟩, ⟨c, ?_, hc⟩, ?_, ?_, ?_, rfl⟩
  · rw [← er, cl_app, cl_app, cl_app, cl_app, cl_tail, ec, e1, cl_one]
    simp only [List.append_assoc, List.cons_append, List.nil_append]
  · rw [e1, List.getElem?_append_left, h0]
    obtain ⟨h, _⟩ := List.getElem?_eq_some_iff.mp h0
    exact h
  · intro q hq
    rw [e1] at hq
    rcases List.mem_append.mp hq with hq | hq
    · exact hr q hq
    · rcases List.mem_append.mp hq with hq | hq
      · exact ht q hq
      · rw [List.mem_singleton.mp hq]; exact ⟨e.2, e.1⟩
  · simp only [Str.length_append]; omega
  · simp only [Str.length_append]; omega
end Mine
end
section
open PySem PySem.W PySem.Spec PySem.Calls PyProof.Rows
set_option Elab.async false
set_option linter.unusedVariables false
set_option maxRecDepth 100000
namespace Mine
theorem c_caught (w : World) (lv : Nat) : CAUGHT PySem.Challenge.rw_op0036_01.row.prog w (KF w.params) lv 180 44 56 := by
  intro lv' f P Qo dp un gd outer base s p loose mean mg mb av R E hex hPk hPo TH hlv hD hU B X XB T TB DD hav hP hR
  revert X
  k_fill
  intro X
  refine' caughtX hex (ckn w) ?sc hPk hPo ?ho ?hcd ?hb TH hlv hD hU B X XB T TB DD hav hP hR
  (case ho => k_is)
  (case hcd => k_is)
  (case hb => intro s v; exact BindsTo.of_eq rfl)
  (case sc => refine ⟨rfl, rfl, rfl, ?_, ?_, ?_, ?_, ?_, ?_, ?_⟩ <;> decide +kernel)
end Mine
end
section
open PySem PySem.W PySem.Spec PySem.Calls PyProof.Rows
set_option Elab.async false
set_option linter.unusedVariables false
set_option maxRecDepth 100000
namespace Mine
theorem fn_has {K : Frag} {a : Addr} {o : Obj} {fd : FuncData} (h1 : K.lookup a = some o) (h2 : o.data = .func fd) : ∃ o fd, K.lookup a = some o ∧ o.data = .func fd := ⟨o, fd, h1, h2⟩
theorem two_cells {x1 x2 x : Str} {a1 a2 a : Addr} {S : Scope} (h : [(x1, a1), (x2, a2)].lookup x = some a) (h1 : S.names.lookup x1 = some .cell) (h2 : S.names.lookup x2 = some .cell) : S.names.lookup x = some .cell := by
  rw [List.lookup_cons] at h
  by_cases e : (x == x1) = true
  · rw [eq_of_beq e]; exact h1
  · rw [Bool.eq_false_iff.mpr e, List.lookup_cons] at h
    by_cases e2 : (x == x2) = true
    · rw [eq_of_beq e2]; exact h2
    · rw [Bool.eq_false_iff.mpr e2] at h; cases h
theorem hd_of {K : Frag} {c P : Addr} {o : Obj} {vs : Array Value} {file : Str} {tf tg tt : Tok} {flags : Int} {inF : Bool} {tx : Int} (h0 : K.lookup c = some o) (h1 : o.cls = .type "code") (h2 : o.data = .fields vs) (h3 : vs[11]? = some (.ref P)) (h4 : vs.getD 11 .none = .ref P) (h5 : vs.getD 18 .none = .str file tf)
    (h6 : vs.getD 7 .none = .int flags tg) (h7 : vs.getD 9 .none = .bool inF) (h8 : vs.getD 10 .none = .int tx tt) (h9 : (c == P) = false) : ∀ h, K.In h → CodeHd h c P := fun h X => ⟨o, vs, file, tf, flags, tg, inF, tx, tt, X _ _ h0, h1, h2, h3, h4, h5, h6, h7, h8, by simpa using h9⟩
theorem lam_ok (w : World) (lv : Nat) {R host : Str} {Qo : Ov → Prop} {lsc : Scope} {px py pz pw : Pos} {k1 k2 : Nat} (C : CALLX PySem.Challenge.rw_op0036_01.row.prog w (KF w.params) lv 65 [.str R, .tup [.str host, .int 21]] Qo)
    (hs : lsc.kind = .function ∧ lsc.isCoroutine = false ∧ lsc.isGenerator = false ∧ lsc.names = [(Str.ofString "host", NameKind.free), (Str.ofString "reply", NameKind.free), (Str.ofString "parse229", NameKind.globalImplicit)])
    (shape : ∀ d, Qo (.ret d) → ∃ y n, d = .tup [.str y, .int n]) :
    LamOK PySem.Challenge.rw_op0036_01.row.prog w (KF w.params) lv (lv + 1) "parse229" 65 [.Tuple [.Name "host" px, .Constant (.int 21) k1 py] k2 pz] (.Name "reply" pw) [.str R, .tup [.str host, .int 21]] [("reply", .str R), ("host", .str host)] lsc Qo := by
  obtain ⟨s1, s2, s3, s4⟩ := hs
  have hf : (∃ o fd, (KF w.params).lookup 65 = some o ∧ o.data = .func fd) ∧ nsIn (KF w.params) mainGlobals "parse229" = some (some (.ref 65)) ∧ PySem.Challenge.rw_op0036_01.row.prog = PySem.Challenge.rw_op0036_01.row.prog := by
    k_fill
    refine ⟨?_, by k_is, rfl⟩
    refine' fn_has ?a ?b
    (case a => k_is)
    (case b => exact rfl)
  refine ⟨hf.2.1, hf.1, by decide, by rw [s4]; decide +kernel, fun y hy => ?_, C, Nat.le_refl _, s1, fun x hx => ?_, s2, s3, fun x d hx => ?_, fun c => ?_, shape⟩
  · rcases hy with _ | ⟨_, _ | ⟨_, h⟩⟩
    · rfl
    · rfl
    · cases h
  · rw [s4] at hx
    simp only [List.mem_cons, List.not_mem_nil, or_false] at hx
    rcases hx with rfl | rfl | rfl <;> simp
  · rw [s4]
    have e : get [((Str.ofString "reply"), D.str R), ((Str.ofString "host"), D.str host)] x = (if x = Str.ofString "reply" then some (D.str R) else if x = Str.ofString "host" then some (D.str host) else none) := rfl
    rw [e] at hx
    by_cases h1 : x = Str.ofString "reply"
    · subst h1; exact ⟨by decide +kernel, by decide +kernel⟩
    · rw [if_neg h1] at hx
      by_cases h2 : x = Str.ofString "host"
      · subst h2; exact ⟨by decide +kernel, by decide +kernel⟩
      · rw [if_neg h2] at hx; cases hx
  · have g1 : get [((Str.ofString "reply"), D.str R), ((Str.ofString "host"), D.str host)] (Str.ofString "reply") = some (.str R) := if_pos rfl
    have g2 : get [((Str.ofString "reply"), D.str R), ((Str.ofString "host"), D.str host)] (Str.ofString "host") = some (.str host) := (if_neg (by decide +kernel)).trans (if_pos rfl)
    have e1 : EV c [((Str.ofString "reply"), D.str R), ((Str.ofString "host"), D.str host)] (.Name "reply" pw) (.str R) := ev_name g1
    have e2 : EV c [((Str.ofString "reply"), D.str R), ((Str.ofString "host"), D.str host)] (.Name "host" px) (.str host) := ev_name g2
    have e3 : EVL c [((Str.ofString "reply"), D.str R), ((Str.ofString "host"), D.str host)] [.Name "host" px, .Constant (.int 21) k1 py] [.str host, .int 21] := evl_cons e2 (evl_cons ev_int evl_nil)
    exact evl_cons e1 (evl_cons (ev_tuple e3 (Nat.le_of_ble_eq_true rfl)) evl_nil)
noncomputable def hostOf (f0 : Int) : Str := Str.ofString "10.0.0." ++ Txt.item "0123456789" f0
section
variable (f : Nat → Int)
noncomputable def rowF : Str := listed (modeOf f)
noncomputable def k0F : Str := Txt.item (rowF f) 0
noncomputable def sxF (i : Nat) : Int := six (ownOf (k0F f) (f 5)) (f i)
noncomputable def txtF : Str := ⟨#[gg (f 5) (sxF f 6), gg (f 5) (sxF f 7), gg (f 5) (sxF f 8), gg (f 5) (sxF f 9)]⟩
noncomputable def octF : Array UInt8 := byteArr (octs (packOf (sxF f 6) (sxF f 7) (sxF f 8) (sxF f 9)))
noncomputable def wrF : Array UInt8 := writ (f 5) (sxF f 6) (sxF f 7) (sxF f 8) (sxF f 9)
noncomputable def repF : Str := codeOf (f 1) ++ rowF f ++ txtF f ++ k0F f ++ Str.ofString ") (|||9|)"
noncomputable def insF : Str := rowF f ++ txtF f ++ k0F f
end
noncomputable def ordD : D → D
  | .str x => .int ((x.cps.getD 0 0 : Nat) : Int)
  | _ => .none
noncomputable def chrD : D → D
  | .int i => .str ⟨#[i.toNat]⟩
  | _ => .none
theorem strOk_prt {x : Str} (h : Prt (cl x)) : PyData.strOk x = true := by
  unfold PyData.strOk
  rw [← Array.all_toList, List.all_eq_true]
  intro c hc
  have := h c hc
  exact decide_eq_true (by omega)
theorem told_shape {R row host : Str} (hR : Prt (cl R)) (hh : Prt (cl host)) : ∃ ds, toldD row R host = .tup ds ∧ (dataOk (.tup ds) ∧ frozB (.tup ds) = true) ∧ PyData.eqv (toPy (.tup ds)) (toPy (.tup ds)) = true := by
  have two : ∀ x : Str, PyData.strOk x = true → ∃ ds, D.tup [.str x, .str R] = .tup ds ∧ (dataOk (.tup ds) ∧ frozB (.tup ds) = true) ∧ PyData.eqv (toPy (.tup ds)) (toPy (.tup ds)) = true := fun x hx => by
    refine ⟨_, rfl, ⟨⟨rfl, ?_, Nat.le_of_ble_eq_true rfl⟩, rfl⟩, ?_⟩
    · show (PyData.strOk x && (PyData.strOk R && true)) = true
      rw [hx, strOk_prt hR]; rfl
    · show ((x == x) && ((R == R) && true)) = true
      rw [beq_self_eq_true, beq_self_eq_true]; rfl
  unfold toldD portD
  split
  · exact two _ (by decide +kernel)
  · split
    · exact two _ (by decide +kernel)
    · split
      · exact ⟨_, rfl, ⟨⟨rfl, by decide +kernel, by decide +kernel⟩, rfl⟩, by decide +kernel⟩
      · rename_i n _
        refine ⟨_, rfl, ⟨⟨rfl, ?_, Nat.le_of_ble_eq_true rfl⟩, rfl⟩, ?_⟩
        · show (PyData.strOk host && (true && true)) = true
          rw [strOk_prt hh]; rfl
        · generalize turnOf _ * n = k
          show ((host == host) && ((k == k) && true)) = true
          rw [beq_self_eq_true, beq_self_eq_true]; rfl
theorem byte_of {g : Nat} (h : g < 127) : (0 : Int) ≤ (g : Int) ∧ (g : Int) < 256 := by omega
theorem sx_rng (f : Nat → Int) (F : Figs f) : ∀ i, 0 ≤ sxF f i ∧ sxF f i < 64 := by
  intro i
  obtain ⟨_, _, c, hc, _, _⟩ := listed_fact (modeOf f)
  unfold sxF
  have e : k0F f = ⟨#[c]⟩ := item_at (i := 0) hc
  rw [e]
  exact six_rng (own_rng ⟨F.lo 5, F.hi 5⟩ c) ⟨F.lo i, F.hi i⟩
theorem right_fin (w : World) (f : Nat → Int) {ds : List D} {a3 a5 a8 a10 a12 : Option D} (ft : FN (X2 w 3) "_law_told" [.str (insF f), .str (repF f), .str (hostOf (f 0))] (.tup ds)) (e2 : dataOk (.tup ds)) (e3 : PyData.eqv (toPy (.tup ds)) (toPy (.tup ds)) = true) (rlen : (rowF f).length = 10) (sz : sizeLine = 16777216) :
    wpS (X2 w 3) r_right2 [some (figL f), some (.int (modeOf f)), some (.str (rowF f)), a3, some (.str (hostOf (f 0))), a5, some (.str (repF f)), some (.tup ds), a8, some (.str (txtF f)), a10, some (.str (rowF f)), a12, none, none] (endQ (.bool true)) := by
  have i0 : (-((rowF f).length : Int) ≤ 0 ∧ (0 : Int) < (rowF f).length ∧ (rowF f).length ≤ 2 ^ 60) := ⟨by omega, by omega, by rw [rlen]; decide⟩
  have tl : (txtF f).length = 4 := rfl
  unfold r_right2
  refine ⟨by rw [rlen, tl]; omega, i0, by rw [len_app, rlen, tl, len_item]; omega, .tup ds, ft, ⟨e2, e2⟩, rfl, ?_⟩
  show D.bool _ = D.bool true
  rw [e3]
theorem right_end (w : World) (f : Nat → Int) (F : Figs f) {lsc : Scope} {px py pz pw : Pos} {k1 k2 : Nat} (hs : lsc.kind = .function ∧ lsc.isCoroutine = false ∧ lsc.isGenerator = false ∧ lsc.names = [(Str.ofString "host", NameKind.free), (Str.ofString "reply", NameKind.free), (Str.ofString "parse229", NameKind.globalImplicit)]) :
    rightQ (X2 w 3) 3 2 0 44 56 65 "parse229" [.Tuple [.Name "host" px, .Constant (.int 21) k1 py] k2 pz] (.Name "reply" pw) lsc ns_law_right 7 r_right2 (.bool true) .next
      [some (figL f), some (.int (modeOf f)), some (.str (rowF f)), some (altD (f 5)), some (.str (hostOf (f 0))), some (.str (codeOf (f 1))), some (.str (repF f)), none, some (.str ⟨#[pr0 (f 5), pr1 (f 5)]⟩), some (.str (txtF f)), some (.bytes (octF f)), some (.str (rowF f)), some (.bytes (wrF f)), none, none] := by
  obtain ⟨rl, rp, c, rc, c41, c127⟩ := listed_fact (modeOf f)
  have rlen : (rowF f).length = 10 := by rw [← cl_len]; exact rl
  have sz := szl
  have sx := sx_rng f F
  have g6 := gg_prt (F.lo 5) (F.hi 5) (sx 6).1 (sx 6).2
  have g7 := gg_prt (F.lo 5) (F.hi 5) (sx 7).1 (sx 7).2
  have g8 := gg_prt (F.lo 5) (F.hi 5) (sx 8).1 (sx 8).2
  have g9 := gg_prt (F.lo 5) (F.hi 5) (sx 9).1 (sx 9).2
  have i0 : (-((rowF f).length : Int) ≤ 0 ∧ (0 : Int) < (rowF f).length ∧ (rowF f).length ≤ 2 ^ 60) := ⟨by omega, by omega, by rw [rlen]; decide⟩
  have k0 : k0F f = ⟨#[c]⟩ := item_at (i := 0) rc
  have c14 : 14 ≤ c := (rp c (List.mem_of_getElem? rc)).1
  have tp : Prt (cl (txtF f)) := by
    intro q hq
    have hq : q ∈ [gg (f 5) (sxF f 6), gg (f 5) (sxF f 7), gg (f 5) (sxF f 8), gg (f 5) (sxF f 9)] := hq
    simp only [List.mem_cons, List.not_mem_nil, or_false] at hq
    rcases hq with rfl | rfl | rfl | rfl <;> omega
  have tl : (txtF f).length = 4 := rfl
  have rep : Rep (repF f) (insF f) (upto 41 (cl (insF f))).length := by
    have := rep_of (f1 := f 1) rc c41 rp tp (by rw [show (listed (modeOf f)).length = 10 from rlen]; decide) (by rw [tl]; decide) ⟨c127, c14⟩
    unfold repF insF
    rw [k0]
    exact this
  have ptr : Prt (cl (repF f)) := by
    obtain ⟨x, _, ec⟩ := code_cl (f 1)
    have hc : Prt (cl (codeOf (f 1))) := by
      unfold codeOf
      split
      · have : cl (Str.ofString "220 (") = [50, 50, 48, 32, 40] := by decide +kernel
        rw [this]; intro q hq
        simp only [List.mem_cons, List.not_mem_nil, or_false] at hq
        omega
      · have : cl (Str.ofString "229 (") = [50, 50, 57, 32, 40] := by decide +kernel
        rw [this]; intro q hq
        simp only [List.mem_cons, List.not_mem_nil, or_false] at hq
        omega
    unfold repF
    rw [k0, cl_app, cl_app, cl_app, cl_app, cl_tail, cl_one]
    intro q hq
    rcases List.mem_append.mp hq with hq | hq
    · rcases List.mem_append.mp hq with hq | hq
      · rcases List.mem_append.mp hq with hq | hq
        · rcases List.mem_append.mp hq with hq | hq
          · exact hc q hq
          · exact rp q hq
        · exact tp q hq
      · rw [List.mem_singleton.mp hq]; exact ⟨c14, c127⟩
    · simp only [List.mem_cons, List.not_mem_nil, or_false] at hq
      omega
  have hostp : Prt (cl (hostOf (f 0))) := by
    have h := ten (P := fun f0 => (cl (hostOf f0)).all (fun q => decide (14 ≤ q ∧ q < 127)) = true) (by unfold hostOf; decide +kernel) (F.lo 0) (F.hi 0)
    intro q hq
    exact of_decide_eq_true (List.all_eq_true.mp h q hq)
  have C := parse_ok rep w (hostOf (f 0)) 0
  have tout := told_out (host := hostOf (f 0)) rep.reply
  have tall := told_all (host := hostOf (f 0)) rep.reply
  have ft : FN (X2 w 3) "_law_told" [.str (insF f), .str (repF f), .str (hostOf (f 0))] (toldD (insF f) (repF f) (hostOf (f 0))) := by
    have C := c_told w (insF f) (repF f) (hostOf (f 0)) 0 (Nat.le_trans rep.len (by decide)) (Nat.le_trans rep.rl (by decide)) (mid_ok rep.prt rep.len)
    refine' fn_at C ?hg ?ho ?hd (by decide)
    ((case hg => k_is); (case ho => k_is); (case hd => exact rfl))
  generalize (upto 41 (cl (insF f))).length = n at *
  obtain ⟨ds, e1, e2, e3⟩ := told_shape (row := insF f) ptr hostp
  refine ⟨[("reply", .str (repF f)), ("host", .str (hostOf (f 0)))], _, _, 1, lam_ok w 0 C hs (fun d hd => ?_), by decide, fun C x hx => ?_, fun z d hz => ?_, fun d hd => ?_⟩
  · rw [tout.1] at hd
    split at hd
    · cases hd
    · split at hd
      · cases hd
      · split at hd
        · cases hd; exact ⟨_, _, rfl⟩
        · cases hd
  · rw [tout.1] at hx
    split at hx
    · cases hx; exact .inl rfl
    · split at hx
      · cases hx; exact .inr rfl
      · split at hx
        · cases hx
        · cases hx
  · have e : get [((Str.ofString "reply"), D.str (repF f)), ((Str.ofString "host"), D.str (hostOf (f 0)))] z = (if z = Str.ofString "reply" then some (D.str (repF f)) else if z = Str.ofString "host" then some (D.str (hostOf (f 0))) else none) := rfl
    rw [e] at hz
    by_cases h1 : z = Str.ofString "reply"
    · rw [if_pos h1] at hz; cases hz
      exact ⟨6, _, rfl, by rw [h1]; rfl, rfl⟩
    · rw [if_neg h1] at hz
      by_cases h2 : z = Str.ofString "host"
      · rw [if_pos h2] at hz; cases hz
        exact ⟨4, _, rfl, by rw [h2]; rfl, rfl⟩
      · rw [if_neg h2] at hz; cases hz
  · rw [tall d hd, e1]
    rw [e1] at ft
    exact ⟨e2.2, right_fin w f ft e2.1 e3 rlen sz⟩
noncomputable def r_rB : RS :=
  (.set 4 (.bin .Add (.str "10.0.0.") (.sub (.str "0123456789") (.sub (.v 0) (.int 0))))
  (.set 5 (.itj (.cmp .Eq (.sub (.v 0) (.int 1)) (.int 8)) (.str "220 (") (.str "229 ("))
  (.set 6 (.bin .Add (.bin .Add (.bin .Add (.bin .Add (.v 5) (.v 11)) (.me .join (.str "") (.cons (.comp (.bc .chr (.cons (.v 14) .nil)) 14 (.v 12) .none false []) .nil))) (.sub (.v 11) (.int 0))) (.str ") (|||9|)"))
  .done)))
theorem right_B (w : World) (f : Nat → Int) (F : Figs f) {lsc : Scope} {px py pz pw : Pos} {k1 k2 : Nat} (hs : lsc.kind = .function ∧ lsc.isCoroutine = false ∧ lsc.isGenerator = false ∧ lsc.names = [(Str.ofString "host", NameKind.free), (Str.ofString "reply", NameKind.free), (Str.ofString "parse229", NameKind.globalImplicit)]) :
    wpS (X2 w 3) r_rB [some (figL f), some (.int (modeOf f)), some (.str (rowF f)), some (altD (f 5)), none, none, none, none, some (.str ⟨#[pr0 (f 5), pr1 (f 5)]⟩), some (.str (txtF f)), some (.bytes (octF f)), some (.str (rowF f)), some (.bytes (wrF f)), none, none] (rightQ (X2 w 3) 3 2 0 44 56 65 "parse229" [.Tuple [.Name "host" px, .Constant (.int 21) k1 py] k2 pz] (.Name "reply" pw) lsc ns_law_right 7 r_right2 (.bool true)) := by
  obtain ⟨rl, rp, c, rc, c41, c127⟩ := listed_fact (modeOf f)
  have rlen : (rowF f).length = 10 := by rw [← cl_len]; exact rl
  have sz := szl
  have sx := sx_rng f F
  have g6 := gg_prt (F.lo 5) (F.hi 5) (sx 6).1 (sx 6).2
  have g7 := gg_prt (F.lo 5) (F.hi 5) (sx 7).1 (sx 7).2
  have g8 := gg_prt (F.lo 5) (F.hi 5) (sx 8).1 (sx 8).2
  have g9 := gg_prt (F.lo 5) (F.hi 5) (sx 9).1 (sx 9).2
  have i0 : (-((rowF f).length : Int) ≤ 0 ∧ (0 : Int) < (rowF f).length ∧ (rowF f).length ≤ 2 ^ 60) := ⟨by omega, by omega, by rw [rlen]; decide⟩
  unfold r_rB
  have lh : (Str.ofString "10.0.0.").length = 7 := by decide +kernel
  have ld : (Str.ofString "0123456789").length = 10 := by decide +kernel
  have c1 := F.lo 0; have c2 := F.hi 0; have c3 := F.lo 1
  have x0 : (0 : Int) ≤ 0 ∧ (0 : Int) < 2 ^ 63 := ⟨by decide, by decide⟩
  have x1 : (0 : Int) ≤ 1 ∧ (1 : Int) < 2 ^ 63 := ⟨by decide, by decide⟩
  refine ⟨x0, _, rfl, ⟨by omega, by omega, by rw [ld]; decide⟩, by rw [lh, len_item]; omega, rfl, ?_⟩
  refine ⟨x1, _, rfl, .str (codeOf (f 1)), fun e => ?_, fun e => ?_, rfl, ?_⟩
  · show D.str _ = .str (codeOf (f 1))
    unfold codeOf; rw [if_pos e]
  · show D.str _ = .str (codeOf (f 1))
    unfold codeOf; rw [if_neg (by rw [show (f 1 == 8) = false from e]; decide)]
  have lc : (codeOf (f 1)).length = 5 := by
    obtain ⟨x, _, e⟩ := code_cl (f 1)
    rw [← cl_len, e]; rfl
  have lt : (Str.ofString ") (|||9|)").length = 9 := by rw [← cl_len, cl_tail]; rfl
  have hn : ∀ g : Nat, g < 127 → (UInt8.ofNat g).toNat = g := fun g h => by rw [UInt8.toNat_ofNat']; omega
  have hj : Txt.join (Str.ofString "") [⟨#[((UInt8.ofNat (gg (f 5) (sxF f 6))).toNat : Int).toNat]⟩, ⟨#[((UInt8.ofNat (gg (f 5) (sxF f 7))).toNat : Int).toNat]⟩, ⟨#[((UInt8.ofNat (gg (f 5) (sxF f 8))).toNat : Int).toNat]⟩, ⟨#[((UInt8.ofNat (gg (f 5) (sxF f 9))).toNat : Int).toNat]⟩] = txtF f := by
    refine cl_ext ?_
    rw [cl_join0, hn _ g6.1, hn _ g7.1, hn _ g8.1, hn _ g9.1]
    rfl
  have ljn : (Txt.join (Str.ofString "") [⟨#[((UInt8.ofNat (gg (f 5) (sxF f 6))).toNat : Int).toNat]⟩, ⟨#[((UInt8.ofNat (gg (f 5) (sxF f 7))).toNat : Int).toNat]⟩, ⟨#[((UInt8.ofNat (gg (f 5) (sxF f 8))).toNat : Int).toNat]⟩, ⟨#[((UInt8.ofNat (gg (f 5) (sxF f 9))).toNat : Int).toNat]⟩]).length = 4 := by rw [hj]; rfl
  have chr : ∀ u : UInt8, (0 : Int) ≤ (u.toNat : Int) ∧ (u.toNat : Int) ≤ 1114111 := fun u => by have := u.toNat_lt; omega
  refine ⟨by rw [lc, rlen]; omega, ?_⟩
  refine And.intro ⟨rfl, Nat.le_of_ble_eq_true rfl, rfl⟩ ⟨chrD, fa1 ⟨chr _, rfl, rfl⟩ (fa1 ⟨chr _, rfl, rfl⟩ (fa1 ⟨chr _, rfl, rfl⟩ (fa1 ⟨chr _, rfl, rfl⟩ fa0))), ?_⟩
  refine ⟨[⟨#[((UInt8.ofNat (gg (f 5) (sxF f 6))).toNat : Int).toNat]⟩, ⟨#[((UInt8.ofNat (gg (f 5) (sxF f 7))).toNat : Int).toNat]⟩, ⟨#[((UInt8.ofNat (gg (f 5) (sxF f 8))).toNat : Int).toNat]⟩, ⟨#[((UInt8.ofNat (gg (f 5) (sxF f 9))).toNat : Int).toNat]⟩], rfl, ?_, ?_⟩
  · exact joinOk_ones _ (fa1 rfl (fa1 rfl (fa1 rfl (fa1 rfl fa0)))) (Nat.le_of_ble_eq_true rfl)
  refine ⟨?_, i0, ?_, ?_, rfl, ?_⟩
  · rw [ljn, len_app, lc, rlen]; omega
  · rw [len_app, ljn, len_app, lc, rlen, len_item]; omega
  · rw [len_app, len_app, ljn, len_app, lc, rlen, len_item, lt]; omega
  · rw [hj]
    exact right_end w f F hs
set_option maxHeartbeats 1000000 in
theorem right_walk (w : World) (f : Nat → Int) (F : Figs f) {lsc : Scope} {px py pz pw : Pos} {k1 k2 : Nat} (hs : lsc.kind = .function ∧ lsc.isCoroutine = false ∧ lsc.isGenerator = false ∧ lsc.names = [(Str.ofString "host", NameKind.free), (Str.ofString "reply", NameKind.free), (Str.ofString "parse229", NameKind.globalImplicit)]) :
    wpS (X2 w 3) r_right1 (ini [figL f] 14) (rightQ (X2 w 3) 3 2 0 44 56 65 "parse229" [.Tuple [.Name "host" px, .Constant (.int 21) k1 py] k2 pz] (.Name "reply" pw) lsc ns_law_right 7 r_right2 (.bool true)) := by
  have sx := sx_rng f F
  obtain ⟨hp, hq, _⟩ := pair_fact (F.lo 5) (F.hi 5)
  have hp' : pairOf (f 5) = ⟨#[pr0 (f 5), pr1 (f 5)]⟩ := cl_ext hp
  have f1 : FN (X2 w 3) "_law_mode" [figL f] (.int (modeOf f)) := by
    refine' fn_at (c_mode w f 0 F) ?hg ?ho ?hd (by decide)
    ((case hg => k_is); (case ho => k_is); (case hd => exact rfl))
  have f2 : FN (X2 w 3) "_law_listed" [.int (modeOf f)] (.str (rowF f)) := by
    refine' fn_at (c_listed w (modeOf f) 0) ?hg ?ho ?hd (by decide)
    ((case hg => k_is); (case ho => k_is); (case hd => exact rfl))
  have f3 : FN (X2 w 3) "_law_signs" [figL f, .str (k0F f)] (.tup [.str (pairOf (f 5)), .str (txtF f), .bytes (octF f)]) := by
    have e : textOf (f 5) (sxF f 6) (sxF f 7) (sxF f 8) (sxF f 9) = txtF f := text_mk (F.lo 5) (F.hi 5) (sx 6) (sx 7) (sx 8) (sx 9)
    have C := c_signs w f (k0F f) 0 F (by rw [show k0F f = _ from item_at (i := 0) (Classical.choose_spec (listed_fact (modeOf f)).2.2).1]; exact own_rng ⟨F.lo 5, F.hi 5⟩ _)
    have e2 : signsD f (k0F f) = .tup [.str (pairOf (f 5)), .str (txtF f), .bytes (octF f)] := by rw [← e]; rfl
    rw [e2] at C
    refine' fn_at C ?hg ?ho ?hd (by decide)
    ((case hg => k_is); (case ho => k_is); (case hd => exact rfl))
  have f4 : FN (X2 w 3) "filemode" [.int (modeOf f)] (.str (rowF f)) := by
    have C := c_filemode w (modeOf f) 0
    rw [shown_listed] at C
    refine' fn_at C ?hg ?ho ?hd (by decide)
    ((case hg => k_is); (case ho => k_is); (case hd => exact rfl))
  have f5 : FN (X2 w 3) "b64encode" [.bytes (octF f), altD (f 5)] (.bytes (wrF f)) := by
    refine' fn_at (c_b64 w 0 ⟨F.lo 5, F.hi 5⟩ (sx 6) (sx 7) (sx 8) (sx 9)) ?hg ?ho ?hd (by decide)
    ((case hg => k_is); (case ho => k_is); (case hd => exact rfl))
  obtain ⟨rl, rp, c, rc, c41, c127⟩ := listed_fact (modeOf f)
  have rlen : (rowF f).length = 10 := by rw [← cl_len]; exact rl
  have k0 : k0F f = ⟨#[c]⟩ := item_at (i := 0) rc
  have sz := szl
  have fa : frozB (altD (f 5)) = true := by unfold altD; split <;> rfl
  have a5 : (⟨#[pr0 (f 5), pr1 (f 5)]⟩ == Str.ofString "+/") = true → altD (f 5) = .none := fun e => by unfold altD; rw [hp', if_pos e]
  have b5 : (⟨#[pr0 (f 5), pr1 (f 5)]⟩ == Str.ofString "+/") = false → altD (f 5) = .bytes #[UInt8.ofNat (pr0 (f 5)), UInt8.ofNat (pr1 (f 5))] := fun e => by unfold altD; rw [hp', if_neg (by rw [e]; decide)]
  rw [hp'] at f3
  obtain ⟨q1, q2, q3, q4⟩ := hq
  have g6 := gg_prt (F.lo 5) (F.hi 5) (sx 6).1 (sx 6).2
  have g7 := gg_prt (F.lo 5) (F.hi 5) (sx 7).1 (sx 7).2
  have g8 := gg_prt (F.lo 5) (F.hi 5) (sx 8).1 (sx 8).2
  have g9 := gg_prt (F.lo 5) (F.hi 5) (sx 9).1 (sx 9).2
  have i0 : (-((rowF f).length : Int) ≤ 0 ∧ (0 : Int) < (rowF f).length ∧ (rowF f).length ≤ 2 ^ 60) := ⟨by omega, by omega, by rw [rlen]; decide⟩
  unfold r_right1
  refine ⟨_, f1, rfl, _, f2, rfl, i0, _, f3, rfl, rfl, ?_⟩
  refine ⟨altD (f 5), fun e => (a5 e).symm, fun e => ?_, fa, ?_⟩
  · refine And.intro ⟨rfl, Nat.le_of_ble_eq_true rfl, rfl⟩ ⟨ordD, ?_, ?_⟩
    · exact fa1 ⟨_, rfl, rfl, rfl⟩ (fa1 ⟨_, rfl, rfl, rfl⟩ fa0)
    · refine ⟨⟨rfl, ?_, Nat.le_of_ble_eq_true rfl⟩, (b5 e).symm⟩
      show ∀ n ∈ [(pr0 (f 5) : Int), (pr1 (f 5) : Int)], 0 ≤ n ∧ n < 256
      exact fa1 (byte_of q1) (fa1 (byte_of q3) fa0)
  refine ⟨_, f4, _, f5, ⟨Nat.le_of_ble_eq_true rfl, rfl, rfl⟩, ?_⟩
  refine ⟨fun e => absurd e (by rw [bne_self_eq_false]; decide), fun _ => ⟨rfl, (fun e => nomatch e), fun _ => ?_⟩⟩
  refine And.intro ⟨rfl, Nat.le_of_ble_eq_true rfl, rfl⟩ ⟨ordD, ?_, ?_⟩
  · exact fa1 ⟨_, rfl, rfl, rfl⟩ (fa1 ⟨_, rfl, rfl, rfl⟩ (fa1 ⟨_, rfl, rfl, rfl⟩ (fa1 ⟨_, rfl, rfl, rfl⟩ fa0)))
  refine ⟨⟨rfl, ?_, Nat.le_of_ble_eq_true rfl⟩, fun e => absurd e ?_, fun _ => ⟨(fun e => nomatch e), fun _ => ?_⟩⟩
  · show ∀ n ∈ [(gg (f 5) (sxF f 6) : Int), (gg (f 5) (sxF f 7) : Int), (gg (f 5) (sxF f 8) : Int), (gg (f 5) (sxF f 9) : Int)], 0 ≤ n ∧ n < 256
    exact fa1 (byte_of g6.1) (fa1 (byte_of g7.1) (fa1 (byte_of g8.1) (fa1 (byte_of g9.1) fa0)))
  · show ¬ ((wrF f).toList != (wrF f).toList) = true
    rw [bne_self_eq_false]; decide
  exact right_B w f F hs
theorem c_right (w : World) (ps₀ : Array Value) (f : Nat → Int) (F : Figs f) : RIGHT PySem.Challenge.rw_op0036_01.row.prog w (KF w.params) 3 185 182 ps₀ ⟨172, 22, 172, 57⟩ (Str.ofString "_law_right" ++ ".<locals>." ++ "<lambda>") [figL f] (.bool true) := by
  have hok := ok2 w 3
  k_fill
  refine' rightX (names := ["figures"]) (more := ns_law_right.drop 1) (k := 14) (r₁ := r_right1) (r₂ := r_right2) (fa := 65) (ig := 7) (lvc := 2) (lv' := 0) (c_caught w 2) (by decide) hok ?ho ?hcd ?hb ?hbody ?hl ?hz ?hck ?hc1 ?hc2 ?hgn ?hcn ?hcg ?hco ?hcells ?hfree ?hCC ?hKP ?h
  (case ho => k_is)
  (case hcd => k_is)
  (case hb => intro s vs h; refine hb1 (fun v => ?_) vs h; exact BindsTo.of_eq rfl)
  (case hbody => exact (List.take_append_drop 9 _).symm)
  (case hl => exact rfl)
  (case hz => exact rfl)
  (case hck => kernel_rfl)
  (case hc1 => kernel_rfl)
  (case hc2 => kernel_rfl)
  (case hgn => kernel_rfl)
  (case hcn => kernel_rfl)
  (case hcg => k_is)
  (case hco => refine' fn_has ?a ?b; (case a => k_is); (case b => exact rfl))
  (case hcells => intro n x a h; refine' two_cells h ?_ ?_ <;> exact rfl)
  (case hfree => decide +kernel)
  (case hCC => refine' hd_of ?a ?_ ?_ ?_ ?_ ?_ ?_ ?_ ?_ ?_; (case a => k_is); all_goals (try exact rfl))
  (case hKP => exact KF_off)
  case h =>
    exact right_walk w f F ⟨rfl, rfl, rfl, rfl⟩
end Mine
end
section
open PySem PySem.W PySem.Spec PySem.Calls PyProof.Rows
set_option Elab.async false
set_option linter.unusedVariables false
set_option maxRecDepth 100000
namespace Mine
noncomputable def fF (n : Int) (i : Nat) : Int := n % 10 ^ 10 / 10 ^ i % 10
theorem figs_fF (n : Int) : Figs (fF n) := ⟨fun i => by unfold fF; omega, fun i => by unfold fF; omega⟩
noncomputable def figD : D → D
  | .int n => figL (fF n)
  | _ => .none
noncomputable def lastL : List D := [.int 1493199700, .int 7465399041, .int 3713495008, .int 299962, .int 7455899901]
noncomputable def elD (n : Int) : D → D
  | .int i => .int (n % 10 ^ 10 / 10 ^ i.toNat % 10)
  | _ => .none
theorem wp_fig (w : World) {o0 o1 : Option D} (n : Int) : wp (X2 w 4) r_lawC .v [o0, o1, some (.int n), none] (fun r => r = figD (.int n)) := by
  unfold r_lawC
  refine And.intro rfl ⟨10, rfl, ?_⟩
  refine And.intro ⟨rfl, Nat.le_of_ble_eq_true rfl, rfl⟩ ⟨elD n, fun d hd => ?_, rfl⟩
  have pw : ∀ i : Int, 0 ≤ i → i ≤ 9 → wp (X2 w 4) (.bin .Mod (.bin .FloorDiv (.bin .Mod (.v 2) (.bin .Pow (.int 10) (.int 10))) (.bin .Pow (.int 10) (.v 3))) (.int 10)) .v [none, none, some (.int n), some (.int i)] (fun r => r = elD n (.int i) ∧ frozB r = true) := fun i h0 h1 => by
    have hp : (0 : Int) < 10 ^ i.toNat ∧ (10 : Int) ^ i.toNat < 1000000000000000000000000000000 :=
      ten (P := fun i => (0 : Int) < 10 ^ i.toNat ∧ (10 : Int) ^ i.toNat < 1000000000000000000000000000000) (by decide +kernel) h0 h1
    exact ⟨⟨by decide, by decide, .inr (.inr rfl)⟩, by decide, ⟨h0, by omega, .inr (.inr rfl)⟩, hp, by decide, rfl, rfl⟩
  obtain ⟨i, rfl, h0, h1⟩ := rng_in hd
  exact pw i h0 (by omega)
theorem froz_nums : ∀ l : List Int, frozB.frozBs (l.map .int) = true
  | [] => rfl
  | _ :: l => froz_nums l
theorem cut_nums (l : List Int) (k : Nat) : cutL (l.map .int) none (some (k : Int)) = (l.take k).map .int := by
  show (l.map D.int).take (k : Int).toNat = _
  rw [Int.toNat_natCast, List.map_take]
theorem c_law (w : World) (ps₀ : Array Value) (l : List Int) (hl : l.length ≤ 63) {dp un : Nat} {gd : Option (List Code)} {s : Shared} {p : Program} {loose : List Str} {mean : ExcName → Option Value} {mg mb : Str → Option Value} {v : Value} {R E : Value → Shared → Prop} (hD : dp + 1 + 4 < recursionLimit) (hU : un + 3 + 20 * 4 + 60 < cLine) (B : Below (aTop dp un gd []) (hideAll s.heap [182]) [] (hideAll s.heap [182])) (X : (KF w.params).In s.heap) (T : Top p loose mean mg mb (hideAll s.heap [182])) (nl : s.heap.NoLimit)
    (Tb : Tab ps₀ 182 ⟨172, 22, 172, 57⟩ (Str.ofString "_law_right" ++ ".<locals>." ++ "<lambda>") [182] s.heap) (r : Rel [182] s.heap (.lst (l.map .int)) v)
    (hR : ∀ s', KeptBut [182] s.heap s'.heap → Tab ps₀ 182 ⟨172, 22, 172, 57⟩ (Str.ofString "_law_right" ++ ".<locals>." ++ "<lambda>") [182] s'.heap → SamS s s' → R (.bool true) s') : wpM true (model PySem.Challenge.rw_op0036_01.row.prog w) (aTop dp un gd []) (call (.ref 190) [v]) R E s := by
  have hok := ok2 w 4
  have hc : ∀ d ∈ ((l.take 8).map D.int ++ lastL), (∀ ds, d ≠ .tup ds) ∧ wp (X2 w 4) r_lawC .v [some (.lst (l.map .int)), some (.lst ((l.take 8).map .int ++ lastL)), some d, none] (fun r => r = figD d) ∧ RIGHT PySem.Challenge.rw_op0036_01.row.prog w (KF w.params) 3 185 182 ps₀ ⟨172, 22, 172, 57⟩ (Str.ofString "_law_right" ++ ".<locals>." ++ "<lambda>") [figD d] (.bool true) := fun d hd => by
    have : ∃ n : Int, d = .int n := by
      rcases List.mem_append.mp hd with h | h
      · obtain ⟨n, _, rfl⟩ := List.mem_map.mp h
        exact ⟨n, rfl⟩
      · simp only [lastL, List.mem_cons, List.not_mem_nil, or_false] at h
        rcases h with rfl | rfl | rfl | rfl | rfl <;> exact ⟨_, rfl⟩
    obtain ⟨n, rfl⟩ := this
    exact ⟨(fun ds e => nomatch e), wp_fig w n, c_right w ps₀ (fF n) (figs_fF n)⟩
  have fz : frozB.frozBs ((l.take 8).map D.int ++ lastL) = true := by
    have e : (l.take 8).map D.int ++ lastL = (l.take 8 ++ [1493199700, 7465399041, 3713495008, 299962, 7455899901]).map D.int := by rw [List.map_append]; rfl
    rw [e]; exact froz_nums _
  revert X
  k_fill
  intro X
  refine' lawX (ns := ns_law) (ra := r_lawA) (rb := r_lawB) (rc := r_lawC) (fig := figD) (script := l.map .int) (items := (l.take 8).map .int ++ lastL) hok (Nat.le_refl 4) ?ho ?hcd ?hb ?hns ?hck ?hz fz ?ca ?cb ?cc ?hnn ?hvn ?hrn ?hrg ?hro ?hec ?hnd KF_off ?hab hc hD hU B X T nl Tb r hR
  (case ho => k_is)
  (case hcd => k_is)
  (case hb => intro s v; exact BindsTo.of_eq rfl)
  (case hns => exact rfl)
  (case hck => kernel_rfl)
  (case hz => exact froz_nums l)
  (case ca => kernel_rfl)
  (case cb => kernel_rfl)
  (case cc => kernel_rfl)
  (case hnn => kernel_rfl)
  (case hvn => kernel_rfl)
  (case hrn => kernel_rfl)
  (case hrg => k_is)
  (case hro => refine' fn_has ?a ?b; (case a => k_is); (case b => exact rfl))
  (case hec => exact rfl)
  (case hnd => decide +kernel)
  (case hab =>
    refine ⟨_, _, ?_, ?_, ?_, ?_, rfl⟩
    · refine ⟨⟨by rw [List.length_map]; omega, (fun a e => nomatch e), (fun b e => by cases e; decide), (fun a b e => nomatch e)⟩, ?_⟩
      exact congrArg D.lst (cut_nums l 8)
    · exact ⟨Nat.le_of_ble_eq_true rfl, rfl⟩
    · rw [List.length_map, List.length_take]; omega
    · exact Nat.le_of_ble_eq_true rfl)
end Mine
end
section
open PySem PySem.W PySem.Spec PySem.Calls PyProof.Rows
set_option Elab.async false
set_option linter.unusedVariables false
set_option maxRecDepth 100000
namespace Mine
theorem relL_ints {mu : List Addr} {h : Heap} : ∀ {vs : List Value} {ns : List Int}, IntsAre vs ns → RelL mu h (ns.map .int) vs := by
  intro vs ns hi
  induction hi with
  | nil => simp only [List.map_nil, RelL]
  | cons n t _ ih =>
    simp only [List.map_cons, RelL]
    exact ⟨_, _, rfl, by simp only [Rel]; exact ⟨t, rfl⟩, ih⟩
theorem law_fa (w : World) : nsIn (hz.heap_167 w.params) mainGlobals "law" = some (some (.ref 190)) := by kernel_rfl
theorem tab_fa (w : World) : (hz.heap_167 w.params).lookup 182 = some (tabObj #[]) := by kernel_rfl
theorem head_184 (w : World) : ∀ h, (KF w.params).In h → CodeHd h 184 182 := by
  suffices H : (∀ h, (KF w.params).In h → CodeHd h 184 182) ∧ PySem.Challenge.rw_op0036_01.row.prog = PySem.Challenge.rw_op0036_01.row.prog from H.1
  k_fill
  refine ⟨?_, rfl⟩
  refine' hd_of ?a ?_ ?_ ?_ ?_ ?_ ?_ ?_ ?_ ?_
  (case a => k_is)
  all_goals (try exact rfl)
theorem law_run (w : World) (l : List Int) (hl : l.length ≤ 63) {s : Shared} {p : Program} {loose : List Str} {mean : ExcName → Option Value} {mg mb : Str → Option Value} {a : Addr} {vs : List Value} {R E : Value → Shared → Prop} (KX : (hz.heap_167 w.params).In s.heap) (T : Top p loose mean mg mb s.heap) (hL : s.heap.IsList a vs.toArray) (hI : IntsAre vs l)
    (hR : ∀ s', OldK s.heap s'.heap → SamS s s' → R (.bool true) s') : wpM true (model PySem.Challenge.rw_op0036_01.row.prog w) callerA (call (.ref 190) [.ref a]) R E s := by
  have h182 : s.heap.get? 182 = some (tabObj #[]) := KX _ _ (tab_fa w)
  have X := KF_in KX
  have hC := head_184 w _ X
  have hT : TabsAt [(184, 182)] s.heap := fun q hq => by
    rw [List.mem_singleton.mp hq]; exact ⟨hC, h182⟩
  refine c_law w #[] l hl (dp := 1 + claimMargin) (un := 4) (gd := some []) (by decide +kernel) (by decide +kernel) (below_caller _) X (ghost_top hT T) T.nolimit ⟨#[], ⟨#[], rfl⟩, h182, ?_, .inl rfl⟩ ?_ fun s' kb tb sm => hR s' ?_ sm
  · simp [TriplesOk]
  · simp only [Rel]
    refine ⟨a, vs, rfl, fun hm => ?_, hL, relL_ints hI⟩
    rw [List.mem_singleton.mp hm] at hL
    obtain ⟨o, ho, hc, _⟩ := hL
    rw [h182] at ho; cases ho; cases hc
  · obtain ⟨ps, ⟨more, hm⟩, hp, _, _⟩ := tb
    refine ⟨fun b o e => ?_, fun b o e => ?_⟩
    · by_cases hb : b = 182
      · subst hb
        rw [h182] at e; cases e
        exact .inr (.inl ⟨(hC.tab h182).isCodeTable, rfl, #[], ps, rfl, by rw [Array.empty_append]; exact hp⟩)
      · exact .inl (kb b o (by simpa using hb) e)
    · by_cases hb : b = 182
      · subst hb; exact ⟨_, hp⟩
      · exact ⟨o, kb b o (by simpa using hb) e⟩
set_option maxHeartbeats 0 in
theorem walk : hz.1 := by
  delta hz
  dsimp only
  refine ⟨fun w => ?_, ?_⟩
  · kernel_rfl
  k_fill
  intro w s₀ s₁ mg mb G y fa o pm cd doc dV kV ho hd hcd hD hmg hg args vals as L hpre hlay hrd hwl hlo
  have KX : (hz.heap_167 w.params).In s₁.heap := by
    have f := X.z_facts (K := hz.heap_167) (fun P => rfl) y
    exact InK.keeps w _ _ f.2.1 L.keeps
  refine Ground.open G ?_
  intro T B D TE TW
  have hfa : fa = 190 := by
    have := mg_of KX T.g (law_fa w)
    rw [hmg] at this
    exact Value.ref.inj (Option.some.inj this)
  subst hfa
  wrow_args hpre hlay hrd hwl hlo
  rename_i w5 hs hly hl1 hr1 hl2 w4 w3 w2 w1 w0 hL ra wl r0 hI hr hc1 hc2
  refine law_run w w5 (by omega) KX T hL hI fun s' ok sm => ?_
  obtain ⟨tk, e⟩ := sm
  refine ⟨.inl ⟨_, .bool true, [], rfl, fun _ => rfl, ?_, ?_, fun _ => ⟨List.nodup_nil, fun a h => nomatch h⟩⟩, ok, by rw [e], .of_eq (by rw [e]; exact hg)⟩
  · constructor
  · wrow_post
end Mine
end
set_option Elab.async false
theorem PySem.Challenge.cw_op0036_01_holds : PySem.Challenge.rw_op0036_01.Holds :=
  Mine.hz.2 ⟨Mine.walk⟩
