import PyProof.Rows.All
import Wide.All
import OpenK.AllK
import Wide.FinOn
import Lean
import PySem.Challenge.RW_re0147_01
open PySem PySem.W PySem.Calls PyProof.Rows PyProof.V
set_option maxRecDepth 100000
set_option Elab.async false
set_option linter.all false
namespace Mine
set_option maxHeartbeats 8000000 in
open_top lw_hd for PySem.Challenge.rw_re0147_01
end Mine
set_option genInjectivity false
set_option genSizeOf false
namespace Mine
theorem aut1 (h : True := by rfl) : True := h
theorem aut2 (h : True := by intro _; rfl) : True := h
theorem aut3 (h : True := by intro _; with_unfolding_all rfl) : True := h
theorem aut4 (h : True := by intro _ _; rfl) : True := h
theorem aut5 (h : True := by intro _ _; with_unfolding_all rfl) : True := h
theorem aut6 (h : True := by with_unfolding_all rfl) : True := h
end Mine
namespace Mine
noncomputable abbrev LOO : List Str := looseW lw_hd.view_39 [Str.ofString "Whitespace", Str.ofString "EXACT_TOKEN_TYPES"]
noncomputable abbrev PG : Program := PySem.Challenge.rw_re0147_01.row.prog
theorem nm {α : Type} {x : α} {l : List α} (i : Nat) (h : l[i]? = some x) : x ∈ l := List.mem_of_getElem? h
theorem md {α : Type} {x : α} {l : List α} (n : Nat) (h : x ∈ l.drop n) : x ∈ l := List.mem_of_mem_drop h
noncomputable abbrev Led := List (Addr × Obj)
noncomputable def ND (l : Led) : Prop := l.Pairwise fun p q => p.1 ≠ q.1
noncomputable def Sub (a b : Led) : Prop := (∀ p ∈ a, p ∈ b) ∧ (ND b → ND a)
section
variable {a b d e : Led} {x y : Addr × Obj}
theorem Sub.refl : Sub a a := ⟨fun _ h => h, id⟩
theorem Sub.nil : Sub [] b := ⟨fun _ h => (nomatch h), fun _ => .nil⟩
theorem Sub.trans (h : Sub a b) (k : Sub b d) : Sub a d := ⟨fun p q => k.1 p (h.1 p q), fun n => h.2 (k.2 n)⟩
theorem Sub.skip (h : Sub a b) : Sub a (x :: b) := ⟨fun p q => .tail _ (h.1 p q), fun n => h.2 (List.pairwise_cons.mp n).2⟩
theorem Sub.cons (h : Sub a b) : Sub (x :: a) (x :: b) := ⟨fun p q => (List.mem_cons.mp q).elim (fun e => e ▸ .head _) fun q => .tail _ (h.1 p q), fun n => List.pairwise_cons.mpr ⟨fun q hq => (List.pairwise_cons.mp n).1 q (h.1 q hq), h.2 (List.pairwise_cons.mp n).2⟩⟩
theorem Sub.perm (h : a.Perm b) : Sub a b := ⟨fun _ q => h.mem_iff.mp q, fun n => (h.symm.pairwise_iff fun h => Ne.symm h).mp n⟩
theorem Sub.swap : Sub (x :: y :: a) (y :: x :: a) := .perm (.swap _ _ _)
theorem Sub.app (h : Sub a b) (k : Sub d e) : Sub (a ++ d) (b ++ e) := ⟨fun p q => (List.mem_append.mp q).elim (fun q => List.mem_append_left _ (h.1 p q)) fun q => List.mem_append_right _ (k.1 p q), fun n => by
  obtain ⟨n1, n2, n3⟩ := List.pairwise_append.mp n
  exact List.pairwise_append.mpr ⟨h.2 n1, k.2 n2, fun p hp q hq => n3 p (h.1 p hp) q (k.1 q hq)⟩⟩
theorem Sub.left : Sub a (a ++ b) := ⟨fun _ q => List.mem_append_left _ q, fun n => (List.pairwise_append.mp n).1⟩
theorem Sub.right : Sub b (a ++ b) := ⟨fun _ q => List.mem_append_right _ q, fun n => (List.pairwise_append.mp n).2.1⟩
theorem Sub.one (h : x ∈ b) : Sub [x] b := ⟨fun _ q => List.mem_singleton.mp q ▸ h, fun _ => List.pairwise_singleton ..⟩
end
inductive Rep (D : Addr) (o o' : Obj) : Led → Led → Prop
  | head {r} : Rep D o o' ((D, o) :: r) ((D, o') :: r)
  | tail {p r r'} : Rep D o o' r r' → Rep D o o' (p :: r) (p :: r')
section
variable {D : Addr} {o o' : Obj} {l l' : Led}
theorem Rep.app (H : Rep D o o' l l') : ∀ {a : Led}, Rep D o o' (a ++ l) (a ++ l')
  | [] => H
  | _ :: _ => .tail H.app
theorem Rep.sp (H : Rep D o o' l l') : ∃ a b, l = a ++ (D, o) :: b ∧ l' = a ++ (D, o') :: b := by
  induction H with
  | head => exact ⟨[], _, rfl, rfl⟩
  | tail _ ih => obtain ⟨a, b, rfl, rfl⟩ := ih; exact ⟨_ :: a, b, rfl, rfl⟩
theorem nd_mid {a b : Led} (n : ND (a ++ (D, o) :: b)) : (∀ p ∈ a, p.1 ≠ D) ∧ (∀ p ∈ b, p.1 ≠ D) ∧ ND (a ++ (D, o') :: b) := by
  obtain ⟨n1, n2, n3⟩ := List.pairwise_append.mp n
  obtain ⟨n4, n5⟩ := List.pairwise_cons.mp n2
  refine ⟨fun p hp => n3 p hp (D, o) (.head _), fun p hp => (n4 p hp).symm, List.pairwise_append.mpr ⟨n1, List.pairwise_cons.mpr ⟨n4, n5⟩, fun p hp q hq => ?_⟩⟩
  rcases List.mem_cons.mp hq with rfl | hq
  · exact n3 p hp (D, o) (.head _)
  · exact n3 p hp q (.tail _ hq)
theorem Rep.upd (H : Rep D o o' l l') (n : ND l) : Upd D o o' l l' ∧ ND l' := by
  obtain ⟨a, b, rfl, rfl⟩ := H.sp
  obtain ⟨h1, h2, h3⟩ := nd_mid (o' := o') n
  refine ⟨?_, h3⟩
  clear n h3 H
  induction a with
  | nil => exact .head h2
  | cons p a ih => exact .tail (h1 p (.head _)) (ih fun q hq => h1 q (.tail _ hq))
theorem Rep.mem (H : Rep D o o' l l') : (D, o) ∈ l := by
  obtain ⟨a, b, rfl, rfl⟩ := H.sp
  exact List.mem_append_right _ (.head _)
theorem Rep.cut (H : Rep D o o' l l') : ∀ {a b : Led}, l = a ++ (D, o) :: b → ND l → l' = a ++ (D, o') :: b := by
  induction H with
  | head =>
    intro a b e n
    cases a with
    | nil => rw [(List.cons.inj e).2]; rfl
    | cons p a => exact absurd rfl ((List.pairwise_cons.mp n).1 (D, o) ((List.cons.inj e).2 ▸ List.mem_append_right _ (.head _)))
  | tail H ih =>
    intro a b e n
    cases a with
    | nil => exact absurd (congrArg Prod.fst (List.cons.inj e).1) ((List.pairwise_cons.mp n).1 (D, o) H.mem)
    | cons p a => rw [(List.cons.inj e).1, ih (List.cons.inj e).2 (List.pairwise_cons.mp n).2]; rfl
end
noncomputable def nget : List (Str × Value) → Str → Option Value
  | [], _ => none
  | p :: r, x => if x = p.1 then some p.2 else nget r x
theorem nget_mem : ∀ {ps : List (Str × Value)} {x : Str} {v : Value}, nget ps x = some v → (x, v) ∈ ps
  | [], _, _, h => nomatch h
  | p :: r, x, v, h => by
    unfold nget at h
    split at h
    · rename_i e; cases h; rw [e]; exact .head _
    · exact .tail _ (nget_mem h)
noncomputable abbrev Names := List (Str × Value)
theorem kn {qs ps : Names} (h : (qs.map fun q => nget ps q.1) = qs.map fun q => some q.2) : ∀ q ∈ qs, nget ps q.1 = some q.2 := List.map_inj_left.mp h
structure St (s₀ : Shared) (h₀ : Heap) (L : Addr) (ps : Names) (news : Led) (s : Shared) : Prop where
  base : ∃ h k, s = { s₀ with heap := h, toks := k }
  fr : ∃ m, Fr h₀ L s.heap m ∧ ∀ x v, nget ps x = some v → m x = some v
  nw : News h₀ L s.heap news
  nd : ND news
noncomputable def Made (h h' : Heap) (tl : Led) : Prop := (∀ p ∈ tl, h'.get? p.1 = some p.2 ∧ h.get? p.1 = none) ∧ ND tl
noncomputable def SpecM (w : World) (mean : ExcName → Option Value) (mg mb : Str → Option Value) (k : Nat) (f : Addr) (args : List Value) (pre : Heap → Prop) {α : Type} (r : α → Value) (tl : α → Led) (φ : α → Prop) : Prop :=
  ∀ (dp un : Nat) (gd : Option (List Code)) (cn : Str) (cs : Scope) (a : Addr) (ccd : Value) (cl : List (Str × Addr)) (outer : List Env) (A₀ : Around) (base h₀ : Heap) (L : Addr) (m : Str → Option Value) (s : Shared) (Q E : Value → Shared → Prop),
    Below A₀ base outer h₀ → Fr h₀ L s.heap m → (lw_hd.heap_39 w.params).In h₀ → Top lw_hd.view_39 LOO mean mg mb h₀ → cs.kind = .function → dp + k < recursionLimit → un + 8 * k < cLine → pre s.heap →
    (∀ a h' tk', (∀ b o, s.heap.get? b = some o → h'.get? b = some o) → Made s.heap h' (tl a) → φ a → Q (r a) { s with heap := h', toks := tk' }) →
    wpAny (model PG w) (ktrTop dp un gd cn cs L a ccd cl outer) (call (.ref f) args) Q E s
noncomputable def Spec (w : World) (k : Nat) (f : Addr) (args : List Value) (pre : Heap → Prop) {α : Type} (r : α → Value) (tl : α → Led) (φ : α → Prop) : Prop := ∀ mean mg mb, SpecM w mean mg mb k f args pre r tl φ
structure Cx (w : World) (sc : Scope) where
  dp : Nat
  un : Nat
  gd : Option (List Code)
  cn : Str
  a : Addr
  ccd : Value
  outer : List Env
  A₀ : Around
  base : Heap
  h₀ : Heap
  L : Addr
  s₀ : Shared
  mean : ExcName → Option Value
  mg : Str → Option Value
  mb : Str → Option Value
  kmax : Nat
  E : Value → Shared → Prop
  B : Below A₀ base outer h₀
  T : Top lw_hd.view_39 LOO mean mg mb h₀
  hX : (lw_hd.heap_39 w.params).In h₀
  hk : sc.kind = .function
  room : dp + kmax < recursionLimit
  units : un + 8 * kmax < cLine
  own : PassesOwn (model PG w) (ktrTop dp un gd cn sc L a ccd (cellsFrom (L + 1) sc.names []) outer) (envX cn sc L a ccd (cellsFrom (L + 1) sc.names [])) E
noncomputable def isKind (k : NameKind) (sc : Scope) (x : Str) : Bool := sc.names.lookup x == some k && !(x == ("__debug__" : Str))
noncomputable abbrev isLoc : Scope → Str → Bool := isKind .local
noncomputable abbrev isCel : Scope → Str → Bool := isKind .cell
noncomputable abbrev isGlo : Scope → Str → Bool := isKind .globalImplicit
section
variable {w : World} {sc : Scope} {x : Str}
theorem isKind_of {k : NameKind} (h : isKind k sc x = true) : sc.names.lookup x = some k ∧ (x == ("__debug__" : Str)) = false := ⟨eq_of_beq (Bool.and_eq_true_iff.mp h).1, Eq.mp (Bool.not_eq_true' _) (Bool.and_eq_true_iff.mp h).2⟩
noncomputable abbrev Cx.A (c : Cx w sc) : Around := ktrTop c.dp c.un c.gd c.cn sc c.L c.a c.ccd (cellsFrom (c.L + 1) sc.names []) c.outer
noncomputable abbrev Cx.env (c : Cx w sc) : Env := envX c.cn sc c.L c.a c.ccd (cellsFrom (c.L + 1) sc.names [])
noncomputable def Cx.St (c : Cx w sc) (ps : Names) (news : Led) (s : Shared) : Prop := Mine.St c.s₀ c.h₀ c.L ps news s
noncomputable def Cx.Do (c : Cx w sc) (b : List Stmt) (Q : Flow → Shared → Prop) (s : Shared) : Prop := wpAny (model PG w) c.A (execs b c.env) Q c.E s
noncomputable def Cx.Ev (c : Cx w sc) (e : PySem.Expr) (r : Tok → Value) (h : Heap) : Prop :=
  ∀ (s : Shared) (Q E : Value → Shared → Prop), s.heap = h → (∀ t k, Q (r t) { s with toks := k }) → wpAny (model PG w) c.A (eval e c.env) Q E s
noncomputable def Cx.Mk (c : Cx w sc) (e : PySem.Expr) (ps : Names) (news : Led) {α : Type} (r : α → Value) (tl : α → Led) (φ : α → Prop) (s : Shared) : Prop :=
  ∀ (Q : Value → Shared → Prop), (∀ a s', φ a → c.St ps (tl a ++ news) s' → Q (r a) s') → wpAny (model PG w) c.A (eval e c.env) Q c.E s
noncomputable def Cx.Ts (c : Cx w sc) (e : PySem.Expr) (b : Bool) (h : Heap) : Prop :=
  ∀ (s : Shared) (Q : Bool → Shared → Prop) (E : Value → Shared → Prop), s.heap = h → (∀ k, Q b { s with toks := k }) → wpAny (model PG w) c.A (isTrue e c.env (eval e c.env)) Q E s
noncomputable def Cx.Tm (c : Cx w sc) (e : PySem.Expr) (b : Bool) (ps : Names) (news : Led) (s : Shared) : Prop :=
  ∀ (Q : Bool → Shared → Prop), (∀ s', c.St ps news s' → Q b s') → wpAny (model PG w) c.A (isTrue e c.env (eval e c.env)) Q c.E s
noncomputable abbrev KV (v : Value) : Tok → Value := fun _ => v
variable {c : Cx w sc} {ps : Names} {news : Led} {s : Shared} {h : Heap} {Q : Flow → Shared → Prop} {rest : List Stmt} {px pos : Pos} {e a b : PySem.Expr} {r r₁ r₂ : Tok → Value} {v : Value} {α : Type} {g : α → Value} {tl : α → Led} {φ : α → Prop} {i j : Int} {y z : Str}
theorem Cx.St.base (H : c.St ps news s) : ∃ h k, s = { c.s₀ with heap := h, toks := k } := Mine.St.base H
theorem Cx.St.rebase (H : c.St ps news s) {h' : Heap} {k' : Nat} : ∃ h k, ({ s with heap := h', toks := k' } : Shared) = { c.s₀ with heap := h, toks := k } := let ⟨_, _, e⟩ := H.base; ⟨h', k', by rw [e]⟩
theorem Cx.St.fr (H : c.St ps news s) : ∃ m, Fr c.h₀ c.L s.heap m ∧ ∀ x v, nget ps x = some v → m x = some v := Mine.St.fr H
theorem Cx.St.frm (H : c.St ps news s) : ∃ m, Fr c.h₀ c.L s.heap m := let ⟨m, F, _⟩ := H.fr; ⟨m, F⟩
theorem Cx.St.keep (H : c.St ps news s) : ∀ b o, c.h₀.get? b = some o → s.heap.get? b = some o := let ⟨_, F⟩ := H.frm; F.keep
theorem Cx.St.nw (H : c.St ps news s) : News c.h₀ c.L s.heap news := Mine.St.nw H
theorem Cx.St.nd (H : c.St ps news s) : ND news := Mine.St.nd H
theorem Cx.St.toks (H : c.St ps news s) (k : Nat) : c.St ps news { s with toks := k } := ⟨H.rebase, H.fr, H.nw, H.nd⟩
theorem Cx.St.sub {qs : Names} {nw : Led} (H : c.St ps news s) (h1 : ∀ q ∈ qs, nget ps q.1 = some q.2) (h2 : Sub nw news) : c.St qs nw s :=
  ⟨H.base, let ⟨m, F, hm⟩ := H.fr; ⟨m, F, fun x v hx => hm x v (h1 _ (nget_mem hx))⟩, fun p hp => H.nw p (h2.1 p hp), h2.2 H.nd⟩
theorem Cx.St.led {nw : Led} (H : c.St ps news s) (h2 : Sub nw news) : c.St ps nw s := ⟨H.base, H.fr, fun p hp => H.nw p (h2.1 p hp), h2.2 H.nd⟩
theorem Cx.St.step {news' : Led} {h' : Heap} {k : Nat} {m : Str → Option Value} (H : c.St ps news s) (F : Fr c.h₀ c.L s.heap m) (F' : Fr c.h₀ c.L h' m) (N' : News c.h₀ c.L h' news') (D' : ND news') : c.St ps news' { s with heap := h', toks := k } := by
  obtain ⟨m', F1, hm⟩ := H.fr
  exact ⟨H.rebase, ⟨m, F', fun y v hy => (F.ns.agree F1.ns y) ▸ hm y v hy⟩, N', D'⟩
theorem Cx.St.more {h' : Heap} {k : Nat} {m : Str → Option Value} {D : Addr} {o : Obj} (H : c.St ps news s) (F : Fr c.h₀ c.L s.heap m) (F' : Fr c.h₀ c.L h' m) (N' : News c.h₀ c.L h' ((D, o) :: news)) (l : ∀ p ∈ news, p.1 < D) : c.St ps ((D, o) :: news) { s with heap := h', toks := k } :=
  H.step F F' N' (List.pairwise_cons.mpr ⟨fun p hp => Nat.ne_of_gt (l p hp), H.nd⟩)
theorem nget_set {m m' : Str → Option Value} (hm : ∀ y u, nget ps y = some u → m y = some u) (e : ∀ y, m' y = if y = x then some v else m y) : ∀ y u, nget ((x, v) :: ps) y = some u → m' y = some u := by
  intro y u hy
  rw [e]
  unfold nget at hy
  by_cases hyx : y = x
  · rw [if_pos hyx] at hy ⊢; exact hy
  · rw [if_neg hyx] at hy ⊢; exact hm y u hy
theorem Cx.St.put {m : Str → Option Value} (H : c.St ps news s) (F : Fr c.h₀ c.L s.heap m) {h' : Heap} {k : Nat} (F' : Fr c.h₀ c.L h' (fun y => if y = x then some v else m y)) (N' : News c.h₀ c.L h' news) : c.St ((x, v) :: ps) news { s with heap := h', toks := k } := by
  obtain ⟨m', F1, hm⟩ := H.fr
  exact ⟨H.rebase, ⟨_, F', nget_set (fun y u hy => (F.ns.agree F1.ns y) ▸ hm y u hy) fun _ => rfl⟩, N', H.nd⟩
theorem Cx.use {k : Nat} {f : Addr} {args : List Value} {pre : Heap → Prop} {Q E : Value → Shared → Prop} (S : Spec w k f args pre g tl φ) (hk : k ≤ c.kmax) (H : c.St ps news s) (hp : pre s.heap)
    (h : ∀ a s', φ a → c.St ps (tl a ++ news) s' → (∀ b o, s.heap.get? b = some o → s'.heap.get? b = some o) → Q (g a) s') : wpAny (model PG w) c.A (call (.ref f) args) Q E s := by
  obtain ⟨m, F, hm⟩ := H.fr
  refine S c.mean c.mg c.mb _ _ _ _ _ _ _ _ _ _ _ _ _ m s Q E c.B F c.hX c.T c.hk (Nat.lt_of_le_of_lt (Nat.add_le_add_left hk _) c.room) (Nat.lt_of_le_of_lt (Nat.add_le_add_left (Nat.mul_le_mul_left 8 hk) _) c.units) hp fun a h' tk' hk' hm' hp' => ?_
  have key : ∀ p ∈ tl a, ∀ o, s.heap.get? p.1 ≠ some o := fun p hp o e => nomatch (hm'.1 p hp).2.symm.trans e
  refine h a _ hp' ⟨H.rebase, ⟨m, F.keeps hk', hm⟩, fun p hp => ?_, List.pairwise_append.mpr ⟨hm'.2, H.nd, fun p hp q hq e2 => key p hp _ (e2 ▸ (H.nw q hq).1)⟩⟩ hk'
  rcases List.mem_append.mp hp with h1 | h1
  · refine ⟨(hm'.1 p h1).1, fun e => ?_, ?_⟩
    · obtain ⟨oL, _, _, hL, _⟩ := F.ns
      exact key p h1 _ (e ▸ hL)
    · cases q : c.h₀.get? p.1 with
      | none => rfl
      | some o => exact absurd (F.keep _ _ q) (key p h1 o)
  · exact ⟨hk' _ _ (H.nw p h1).1, (H.nw p h1).2⟩
theorem ev_loc (H : c.St ps news s) (hv : nget ps x = some v) (hx : autoParam (isLoc sc x = true) aut1._auto_1) : c.Ev (.Name x px) (KV v) s.heap := by
  intro s' Q E hs hQ
  obtain ⟨m, F, hm⟩ := H.fr
  obtain ⟨h1, h2⟩ := isKind_of hx
  exact nameX_L (hs ▸ F) (hm x v hv) (hQ 0 s'.toks) c.hk h1 h2
theorem Cx.Ev.int {t : Tok} (H : c.Ev e (KV (.int i t)) h) : c.Ev e (.int i) h := fun s Q E hs hQ => H s Q E hs fun _ k => hQ t k
theorem Cx.Ev.str {t : Tok} (H : c.Ev e (KV (.str z t)) h) : c.Ev e (.str z) h := fun s Q E hs hQ => H s Q E hs fun _ k => hQ t k
theorem ev_locI {t : Tok} (H : c.St ps news s) (hv : nget ps x = some (.int i t)) (hx : autoParam (isLoc sc x = true) aut1._auto_1) : c.Ev (.Name x px) (.int i) s.heap := (ev_loc H hv hx).int
theorem ev_locS {t : Tok} (H : c.St ps news s) (hv : nget ps x = some (.str z t)) (hx : autoParam (isLoc sc x = true) aut1._auto_1) : c.Ev (.Name x px) (.str z) s.heap := (ev_loc H hv hx).str
theorem ev_cell {ca : Addr} {o : Obj} (H : c.St ps news s) (hc : (cellsFrom (c.L + 1) sc.names []).lookup x = some ca) (hm : (ca, o) ∈ news) (hd : o.data = .cell (some v)) (hx : autoParam (isCel sc x = true) aut1._auto_1) : c.Ev (.Name x px) (KV v) s.heap := by
  intro s' Q E hs hQ
  obtain ⟨h1, h2⟩ := isKind_of hx
  exact nameX_C (hs ▸ H.nw) hc hm hd (hQ 0 s'.toks) c.hk h1 h2
theorem ev_glo (H : c.St ps news s) (hn : nsIn (lw_hd.heap_39 w.params) mainGlobals x = some (some v)) (hx : autoParam (isGlo sc x = true) aut1._auto_1) : c.Ev (.Name x px) (KV v) s.heap := by
  intro s' Q E hs hQ
  obtain ⟨m, F, hm⟩ := H.fr
  obtain ⟨h1, h2⟩ := isKind_of hx
  exact nameX_K (hs ▸ F) c.hX (topRead_of c.T) hn (hQ 0 s'.toks) c.hk h1 h2
theorem ev_boo (H : c.St ps news s) (hn : nsIn (lw_hd.heap_39 w.params) mainGlobals x = some none) (hv : bootBuiltins x = some v) (hne : x ≠ Str.ofString "__name__") (hx : autoParam (isGlo sc x = true) aut1._auto_1) : c.Ev (.Name x px) (KV v) s.heap := by
  intro s' Q E hs hQ
  obtain ⟨m, F, hm⟩ := H.fr
  obtain ⟨h1, h2⟩ := isKind_of hx
  exact nameX_B (hs ▸ F) c.hX (topRead_of c.T) hn hv hne (hQ 0 s'.toks) c.hk h1 h2
theorem ev_int {k : Nat} : c.Ev (.Constant (.int i) k px) (.int i) h := fun s Q E _ hQ => wpAny_Constant_int (hQ _ _)
theorem ev_str {k : Nat} : c.Ev (.Constant (.str z) k px) (.str z) h := fun s Q E _ hQ => wpAny_Constant_str (hQ _ _)
theorem ev_bool {t : Bool} {k : Nat} : c.Ev (.Constant (.bool t) k px) (KV (.bool t)) h := fun s Q E _ hQ => wpAny_Constant_bool (hQ 0 s.toks)
theorem ev_bin {op : Operator} (ha : c.Ev a r₁ h) (hb : c.Ev b r₂ h)
    (hop : ∀ (s : Shared) (Q E : Value → Shared → Prop) (t u : Tok), s.heap = h → (∀ t k, Q (r t) { s with toks := k }) → wpAny (model PG w) c.A (binaryOp op (r₁ t) (r₂ u)) Q E s) :
    c.Ev (.BinOp a op b px) r h := fun s Q E hs hQ =>
  wpAny_BinOp (ha s _ _ hs fun t _ => hb _ _ _ hs fun u _ => hop _ _ _ t u hs fun t k => hQ t k)
theorem ev_add (ha : c.Ev a (.int i) h) (hb : c.Ev b (.int j) h) : c.Ev (.BinOp a .Add b px) (.int (i + j)) h := ev_bin ha hb fun _ _ _ _ _ _ hQ => add_int (hQ _ _)
theorem ev_sub (ha : c.Ev a (.int i) h) (hb : c.Ev b (.int j) h) : c.Ev (.BinOp a .Sub b px) (.int (i - j)) h := ev_bin ha hb fun _ _ _ _ _ _ hQ => sub_int (hQ _ _)
theorem ev_mul (ha : c.Ev a (.int i) h) (hb : c.Ev b (.int j) h) (ho : IntMulOk i j) : c.Ev (.BinOp a .Mult b px) (.int (i * j)) h := ev_bin ha hb fun _ _ _ _ _ _ hQ => mul_int (hQ _ _) ho
theorem ev_mod (ha : c.Ev a (.int i) h) (hb : c.Ev b (.int j) h) (ho : j ≠ 0) : c.Ev (.BinOp a .Mod b px) (.int (i.fmod j)) h := ev_bin ha hb fun _ _ _ _ _ _ hQ => mod_int' ho (hQ _ _)
theorem ev_div (ha : c.Ev a (.int i) h) (hb : c.Ev b (.int j) h) (ho : j ≠ 0) (hp : Builtin.divisionGoesByPylong i j = false) : c.Ev (.BinOp a .FloorDiv b px) (.int (i.fdiv j)) h := ev_bin ha hb fun _ _ _ _ _ _ hQ => floordiv_int ho (hQ _ _) (.inl hp)
theorem ev_neg (ha : c.Ev a (.int i) h) : c.Ev (.UnaryOp .USub a px) (.int (-i)) h := fun s Q E hs hQ => UnaryOp_ (ha s _ _ hs fun _ _ => neg_int (hQ _ _))
theorem ev_cat (ha : c.Ev a (.str y) h) (hb : c.Ev b (.str z) h) (hl : y.length + z.length ≤ sizeLine) : c.Ev (.BinOp a .Add b px) (.str (y ++ z)) h := ev_bin ha hb fun _ _ _ _ _ _ hQ => SBL.add (fun _ _ _ => hQ _ _) hl
theorem ev_cmp {op : CmpOp} {t : Bool} (ha : c.Ev a r₁ h) (hb : c.Ev b r₂ h) (hop : ∀ (s : Shared) (Q E : Value → Shared → Prop) (t₁ u : Tok), s.heap = h → (∀ k, Q (.bool t) { s with toks := k }) → wpAny (model PG w) c.A (compareOp op (r₁ t₁) (r₂ u)) Q E s) (hm : autoParam (behindInMarks op b = false) aut1._auto_1) :
    c.Ev (.Compare a [op] [b] px) (KV (.bool t)) h := fun s Q E hs hQ =>
  wpAny_Compare1 (ha s _ _ hs fun t _ => hb _ _ _ hs fun u _ => hop _ _ _ t u hs fun k => hQ 0 k) hm
theorem ts_cmp {op : CmpOp} {t : Bool} (ha : c.Ev a r₁ h) (hb : c.Ev b r₂ h) (hop : ∀ (s : Shared) (Q E : Value → Shared → Prop) (t₁ u : Tok), s.heap = h → (∀ k, Q (.bool t) { s with toks := k }) → wpAny (model PG w) c.A (compareOp op (r₁ t₁) (r₂ u)) Q E s) (hm : autoParam (behindInMarks op b = false) aut1._auto_1) :
    c.Ts (.Compare a [op] [b] px) t h := fun s Q E hs hQ =>
  wpAny_isTrue_Compare1 (ha s _ _ hs fun t _ => hb _ _ _ hs fun u _ => hop _ _ _ t u hs fun k => wpAny_truthy_bool (hQ k)) hm
section
variable {s : Shared} {Q E : Value → Shared → Prop} {t u : Tok}
theorem op_ge (hQ : ∀ k, Q (.bool (decide (j ≤ i))) { s with toks := k }) : wpAny (model PG w) c.A (compareOp .GtE (.int i t) (.int j u)) Q E s := ge_int (hQ s.toks)
theorem op_le (hQ : ∀ k, Q (.bool (decide (i ≤ j))) { s with toks := k }) : wpAny (model PG w) c.A (compareOp .LtE (.int i t) (.int j u)) Q E s := le_int (hQ s.toks)
theorem op_gt (hQ : ∀ k, Q (.bool (decide (j < i))) { s with toks := k }) : wpAny (model PG w) c.A (compareOp .Gt (.int i t) (.int j u)) Q E s := gt_int (hQ s.toks)
theorem op_lt (hQ : ∀ k, Q (.bool (decide (i < j))) { s with toks := k }) : wpAny (model PG w) c.A (compareOp .Lt (.int i t) (.int j u)) Q E s := lt_int (hQ s.toks)
theorem op_eq (hQ : ∀ k, Q (.bool (i == j)) { s with toks := k }) : wpAny (model PG w) c.A (compareOp .Eq (.int i t) (.int j u)) Q E s := eq_int (hQ s.toks)
theorem op_eqS (hQ : ∀ k, Q (.bool (y == z)) { s with toks := k }) : wpAny (model PG w) c.A (compareOp .Eq (.str y t) (.str z u)) Q E s := eq_str (hQ s.toks)
end
theorem ts_eqS (ha : c.Ev a (.str y) h) (hb : c.Ev b (.str z) h) (hm : autoParam (behindInMarks .Eq b = false) aut1._auto_1) : c.Ts (.Compare a [.Eq] [b] px) (y == z) h := ts_cmp ha hb (fun _ _ _ _ _ _ => op_eqS) hm
theorem ts_ge (ha : c.Ev a (.int i) h) (hb : c.Ev b (.int j) h) (hm : autoParam (behindInMarks .GtE b = false) aut1._auto_1) : c.Ts (.Compare a [.GtE] [b] px) (decide (j ≤ i)) h := ts_cmp ha hb (fun _ _ _ _ _ _ => op_ge) hm
theorem ts_gt (ha : c.Ev a (.int i) h) (hb : c.Ev b (.int j) h) (hm : autoParam (behindInMarks .Gt b = false) aut1._auto_1) : c.Ts (.Compare a [.Gt] [b] px) (decide (j < i)) h := ts_cmp ha hb (fun _ _ _ _ _ _ => op_gt) hm
theorem ts_lt (ha : c.Ev a (.int i) h) (hb : c.Ev b (.int j) h) (hm : autoParam (behindInMarks .Lt b = false) aut1._auto_1) : c.Ts (.Compare a [.Lt] [b] px) (decide (i < j)) h := ts_cmp ha hb (fun _ _ _ _ _ _ => op_lt) hm
theorem Cx.Ts.tm {t : Bool} (H : c.St ps news s) (ht : c.Ts e t s.heap) : c.Tm e t ps news s := fun Q hQ => ht s _ _ rfl fun k => hQ _ (H.toks k)
theorem Cx.Ev.mk (H : c.St ps news s) (he : c.Ev e r s.heap) : c.Mk e ps news r (fun _ => []) (fun _ => True) s := fun _ hQ => he s _ _ rfl fun t k => hQ t _ trivial (H.toks k)
structure Into (c : Cx w sc) (rest : List Stmt) (Q Q' : Flow → Shared → Prop) : Prop where
  next : ∀ s, c.Do rest Q s → Q' .next s
  ret : ∀ v s, Q (.ret v) s → Q' (.ret v) s
  brk : ∀ s, Q .brk s → Q' .brk s
theorem do_nil (h : Q .next s) : c.Do [] Q s := wpAny_execs_nil h
theorem do_store {Qu : Unit → Shared → Prop} {E : Value → Shared → Prop} (H : c.St ps news s) (h : ∀ s', c.St ((x, v) :: ps) news s' → Qu () s') (hx : autoParam (isLoc sc x = true) aut1._auto_1) : wpAny (model PG w) c.A (storeName c.env x v) Qu E s := by
  obtain ⟨m, F⟩ := H.frm
  have N := H.nw
  exact storeX_L F N (fun h' F' N' => h _ (H.put F F' N')) c.hk (isKind_of hx).1
theorem do_storeC {Qu : Unit → Shared → Prop} {E : Value → Shared → Prop} {ca : Addr} {o : Obj} {v₀ : Option Value} {f : Obj → Led} (H : c.St ps news s) (hc : (cellsFrom (c.L + 1) sc.names []).lookup x = some ca) (hd : o.data = .cell v₀) (U : ∀ o', Rep ca o o' news (f o'))
    (h : ∀ s' o', o'.data = .cell (some v) → c.St ps (f o') s' → Qu () s') (hx : autoParam (isCel sc x = true) aut1._auto_1) : wpAny (model PG w) c.A (storeName c.env x v) Qu E s := by
  obtain ⟨m, F⟩ := H.frm
  have N := H.nw
  have D := H.nd
  obtain ⟨a, b, e1, e2⟩ := (U o).sp
  obtain ⟨h1, h2, h3⟩ := nd_mid (o' := o) (e1 ▸ D)
  have key : ∀ a : Led, (∀ p ∈ a, p.1 ≠ ca) → UpdF ca o (a ++ (ca, o) :: b) fun o' => a ++ (ca, o') :: b := by
    intro a h1
    induction a with
    | nil => exact .head h2
    | cons p a ih => exact .tail (h1 p (.head _)) (ih fun q hq => h1 q (.tail _ hq))
  exact storeX_C F N hc (e1 ▸ key a h1) hd (fun h' o' F' N' hd' => h _ o' hd' (H.step (k := s.toks) F F' ((U o').cut e1 D ▸ N') ((U o').upd D).2)) c.hk (isKind_of hx).1
theorem st_mk (he : c.Mk e ps news g tl φ s) (h : ∀ a s', φ a → c.St ((x, g a) :: ps) (tl a ++ news) s' → c.Do rest Q s')
    (hx : autoParam (isLoc sc x = true) aut1._auto_1) (hs : autoParam (swapsWith e (some (.Name x px)) pos.line c.env = pure false) aut1._auto_1) : c.Do (.Assign [.Name x px] e pos :: rest) Q s :=
  wpAny_execs_cons (wpAny_Assign_Name (he _ fun a s1 hv H1 => do_store H1 (fun s' H' => h a s' hv H') hx) hs)
theorem st_loc (he : c.Ev e r s.heap) (H : c.St ps news s) (h : ∀ t s', c.St ((x, r t) :: ps) news s' → c.Do rest Q s')
    (hx : autoParam (isLoc sc x = true) aut1._auto_1) (hs : autoParam (swapsWith e (some (.Name x px)) pos.line c.env = pure false) aut1._auto_1) : c.Do (.Assign [.Name x px] e pos :: rest) Q s :=
  st_mk (he.mk H) (fun t s' _ => h t s') hx hs
theorem st_mkC {ca : Addr} {o : Obj} {v₀ : Option Value} {f : α → Obj → Led} (he : c.Mk e ps news g tl φ s) (hc : (cellsFrom (c.L + 1) sc.names []).lookup x = some ca) (hd : o.data = .cell v₀) (U : ∀ a o', Rep ca o o' (tl a ++ news) (f a o')) (h : ∀ a s' o', φ a → o'.data = .cell (some (g a)) → c.St ps (f a o') s' → c.Do rest Q s')
    (hx : autoParam (isCel sc x = true) aut1._auto_1) (hs : autoParam (swapsWith e (some (.Name x px)) pos.line c.env = pure false) aut1._auto_1) : c.Do (.Assign [.Name x px] e pos :: rest) Q s :=
  wpAny_execs_cons (wpAny_Assign_Name (he _ fun a s1 hv H1 => do_storeC H1 hc hd (U a) (fun s' o' hd' H' => h a s' o' hv hd' H') hx) hs)
theorem st_ret (he : c.Ev e r s.heap) (H : c.St ps news s) (h : ∀ t s', c.St ps news s' → Q (.ret (r t)) s') : c.Do (.Return (some e) pos :: rest) Q s :=
  wpAny_execs_cons (wpAny_Return_some (he s _ _ rfl fun t k => h t _ (H.toks k)))
theorem st_if {t : Bool} {body orelse : List Stmt} (ht : c.Tm e t ps news s)
    (h1 : t = true → ∀ s' Q', c.St ps news s' → Into c rest Q Q' → c.Do body Q' s')
    (h2 : t = false → ∀ s' Q', c.St ps news s' → Into c rest Q Q' → c.Do orelse Q' s') : c.Do (.If e body orelse pos :: rest) Q s := by
  refine wpAny_execs_cons (wpAny_If (ht _ fun s' H' => ?_))
  cases t with
  | true => exact h1 rfl _ _ H' ⟨fun _ h => h, fun _ _ h => h, fun _ h => h⟩
  | false => exact h2 rfl _ _ H' ⟨fun _ h => h, fun _ _ h => h, fun _ h => h⟩
theorem st_brk (h : Q .brk s) : c.Do (.Break pos :: rest) Q s := wpAny_execs_cons (wpAny_Break h)
theorem st_aug {op : Operator} {u : Value} (H : c.St ps news s) (hv : nget ps x = some u) (he : c.Ev e r₂ s.heap)
    (hop : ∀ (s : Shared) (Q E : Value → Shared → Prop) (t : Tok), (∀ t k, Q (r t) { s with toks := k }) → wpAny (model PG w) c.A (inplaceOp op u (r₂ t)) Q E s)
    (h : ∀ t s', c.St ((x, r t) :: ps) news s' → c.Do rest Q s') (hx : autoParam (isLoc sc x = true) aut1._auto_1) : c.Do (.AugAssign (.Name x px) op e pos :: rest) Q s := by
  obtain ⟨m, F, hm⟩ := H.fr
  exact wpAny_execs_cons (wpAny_AugAssign_Name (wpAny_loadName_local c.hk (isKind_of hx).1 F.ns (hm x _ hv) (he s _ _ rfl fun t k =>
    hop _ _ _ t fun t k' => do_store (H.toks k') (fun s' H' => h t s' H') hx)))
structure Round (c : Cx w sc) (own : Led) (K : Names → Led → Prop) (rest : List Stmt) (Q Q' : Flow → Shared → Prop) : Prop where
  next : ∀ s ps nx led, c.St ps led s → Sub (nx ++ own) led → K ps nx → Q' .next s
  ret : ∀ v s, Q (.ret v) s → Q' (.ret v) s
  brk : ∀ s, c.Do rest Q s → Q' .brk s
theorem own_nd {h₀ h : Heap} {L : Addr} : ∀ {own : Led}, News h₀ L h own → ∃ own', (∀ p, p ∈ own ↔ p ∈ own') ∧ ND own'
  | [], _ => ⟨[], fun _ => .rfl, .nil⟩
  | x :: own, N => by
    obtain ⟨o', h1, h2⟩ := own_nd (own := own) fun p hp => N p (.tail _ hp)
    by_cases hx : x ∈ own
    · exact ⟨o', fun p => ⟨fun hp => (List.mem_cons.mp hp).elim (fun e => e ▸ (h1 x).mp hx) (h1 p).mp, fun hp => .tail _ ((h1 p).mpr hp)⟩, h2⟩
    · refine ⟨x :: o', fun p => by rw [List.mem_cons, List.mem_cons, h1], List.pairwise_cons.mpr ⟨fun q hq e => hx ?_, h2⟩⟩
      have hq' := (h1 q).mpr hq
      have a1 := (N x (.head _)).1
      have a2 := (N q (.tail _ hq')).1
      rw [e, a2] at a1
      have : q = x := Prod.ext e.symm (Option.some.inj a1)
      exact this ▸ hq'
inductive LoopK (F : List Addr) (K : Nat → Names → Led → Prop) (i : Nat) (m : Str → Option Value) (nx : Led) : Prop
  | mk (ps : Names) (hK : K i ps nx) (hm : ∀ y u, nget ps y = some u → m y = some u) (nd : ND nx) (off : ∀ q ∈ nx, q.1 ∉ F)
inductive Cx.At (c : Cx w sc) (n : Nat) (P : Nat → Value → Prop) (K : Nat → Names → Led → Prop) (it : Value) (s₂ : Shared) : Prop
  | mk (I : Addr) (S : Nat → Heap → Prop) (F : List Addr) (ps : Names) (nw : Led) (e : it = .ref I) (W : Walks PG w c.A I (I :: F) [I] n P S) (hL : c.L ∉ I :: F) (hI : c.h₀.get? I = none) (live : ∀ f ∈ I :: F, ∀ i h, S i h → ∃ o, h.get? f = some o) (hS : S 0 s₂.heap) (H : c.St ps nw s₂) (off : ∀ q ∈ nw, q.1 ∉ I :: F) (hK : K 0 ps nw)
section
variable {n : Nat} {P : Nat → Value → Prop} {body : List Stmt}
theorem st_for (K : Nat → Names → Led → Prop) (H : c.St ps news s) (hit : wpAny (model PG w) c.A (eval e c.env) (fun xv s₁ => wpAny (model PG w) c.A (pyIter xv) (c.At n P K) c.E s₁) c.E s)
    (turn : ∀ i v s' ps' news' own Q', i < n → P i v → K i ps' news' → c.St ((x, v) :: ps') (news' ++ own) s' → Round c own (K (i + 1)) rest Q Q' → c.Do body Q' s')
    (done : ∀ s' ps' news', K n ps' news' → c.St ps' news' s' → c.Do rest Q s')
    (hx : autoParam (isLoc sc x = true) aut1._auto_1) (hf : autoParam (∀ env v, foldedSetIterable e env v = pure v) aut4._auto_1) : c.Do (.For (.Name x px) e body [] pos :: rest) Q s := by
  obtain ⟨m9, F9⟩ := H.frm
  refine wpAny_execs_cons (For_invVF (env := c.env) F9 (isKind_of hx).1 (by show (sc.kind == .class || (sc.kind == .module && c.L != mainGlobals)) = false; rw [c.hk]; rfl) (wpAny_mono hit (fun xv s₁ h => wpAny_mono h (fun it s₂ h => ?_) fun _ _ h => h) fun _ _ h => h) (hf _) c.own)
  obtain ⟨I, S, F, ps, nw, rfl, W, hL, hI, live, hS, ⟨⟨h1, k1, e1⟩, ⟨m, Fm, hm⟩, N, D⟩, hoff, hK⟩ := h
  have base : ∀ h tk, ∃ h1 k1, ({ s₂ with heap := h, toks := tk } : Shared) = { c.s₀ with heap := h1, toks := k1 } := fun h tk => ⟨h, tk, by rw [e1]⟩
  refine ⟨I, I :: F, [I], n, P, S, m, nw, LoopK F K, rfl, W, hL, fun b hb => by rw [List.mem_singleton.mp hb]; exact hI, fun q hq hb => hoff q hq (List.mem_singleton.mp hb ▸ .head _), hS, Fm, N, ⟨ps, hK, hm, D, fun q hq hb => hoff q hq (.tail _ hb)⟩, ?_, ?_⟩
  · rintro i v m₁ news₁ s₁ own ⟨h, tk, rfl⟩ hi hP ⟨ps', hK', hm', D₁, off₁⟩ hnw hofp hown hall hst' F₁ N₁
    have Nown : News c.h₀ c.L h own := fun p hp => N₁ p (List.mem_append_left _ hp)
    obtain ⟨own', ho1, ho2⟩ := own_nd Nown
    have hf : ∀ f ∈ I :: F, c.h₀.get? f = none → ∃ o, (f, o) ∈ own' := fun f hf hn => by
      obtain ⟨o, ho⟩ := live f hf _ _ hst'
      exact ⟨o, (ho1 _).mp (hall f hf hn o ho)⟩
    refine wpAny_mono (turn i v _ ps' news₁ own' (fun f s₃ => LoopStepV c.h₀ c.L [I] own (LoopK F K (i + 1)) { s₂ with heap := h, toks := tk } (fun v s' => Q (.ret v) s') (fun s' => c.Do rest Q s') f s₃) hi hP hK' ⟨base h tk, ⟨_, F₁, nget_set hm' fun _ => rfl⟩, fun p hp => ?_, List.pairwise_append.mpr ⟨D₁, ho2, fun q hq p hp e => ?_⟩⟩ ⟨?_, fun _ _ h => h, fun _ h => h⟩) (fun f s₃ h => ?_) fun _ _ h => h
    · rcases List.mem_append.mp hp with hp | hp
      · exact N₁ p (List.mem_append_right _ hp)
      · exact Nown p ((ho1 p).mpr hp)
    · rcases List.mem_cons.mp (hofp p ((ho1 p).mpr hp)) with h2 | h2
      · exact hnw q hq (List.mem_singleton.mpr (e.trans h2))
      · exact off₁ q hq (e ▸ h2)
    · intro s5 ps5 nx led H5 hs hd
      obtain ⟨⟨h5, k5, e5⟩, ⟨m5, F5, hm5⟩, N5, D5⟩ := H5
      obtain ⟨d1, d2, d3⟩ := List.pairwise_append.mp (hs.2 D5)
      have off : ∀ q ∈ nx, ∀ f ∈ I :: F, q.1 ≠ f := fun q hq f hff e => by
        have hn := (N5 q (hs.1 q (List.mem_append_left _ hq))).2.2
        obtain ⟨o, ho⟩ := hf f hff (e ▸ hn)
        exact d3 q hq _ ho e
      refine ⟨rfl, h5, k5, m5, nx, by rw [e5, e1], by rw [e5] at F5; exact F5, fun p hp => ?_, fun q hq hb => off q hq I (.head _) (List.mem_singleton.mp hb), ps5, hd, hm5, d1, fun q hq hb => off q hq _ (.tail _ hb) rfl⟩
      rw [e5] at N5
      exact N5 p (hs.1 p ((List.mem_append.mp hp).elim (fun h => List.mem_append_right _ ((ho1 p).mp h)) (List.mem_append_left _)))
    · cases f <;> exact h
  · rintro h' tk m' news' F' N' _ ⟨ps', hK', hm', D', _⟩
    exact done _ ps' news' hK' ⟨base h' tk, ⟨_, F', hm'⟩, N', D'⟩
theorem next_new (H : c.St ps news s) : c.h₀.get? s.heap.objs.size = none ∧ c.L ≠ s.heap.objs.size ∧ ∀ q ∈ news, q.1 ≠ s.heap.objs.size := by
  obtain ⟨m, F⟩ := H.frm
  have N := H.nw
  exact ⟨next_is_new F, Nat.ne_of_lt F.ns.lt, fun q hq => Nat.ne_of_lt (Heap.lt_size (N q hq).1)⟩
theorem Cx.St.push (H : c.St ps news s) (o : Obj) : c.St ps news { s with heap := s.heap.push o } := by
  obtain ⟨m, F⟩ := H.frm
  have N := H.nw
  have D := H.nd
  exact H.step (k := s.toks) F (F.push o) (fun p hp => ⟨Heap.get?_push_of_some _ (N p hp).1, (N p hp).2⟩) D
theorem at_list {l : Addr} {vs : List Value} {K : Nat → Names → Led → Prop} (H : c.St ps news s) (hl : s.heap.IsList l vs.toArray) (hL : c.L ≠ l) (ho : ∀ q ∈ news, q.1 ≠ l) (hK : K 0 ps news) : wpAny (model PG w) c.A (pyIter (.ref l)) (c.At vs.length (fun i v => vs[i]? = some v) K) c.E s := by
  obtain ⟨ol, hol, _⟩ := id hl
  obtain ⟨n1, n2, n3⟩ := next_new H
  have hne : l ≠ s.heap.objs.size := Nat.ne_of_lt (Heap.lt_size hol)
  have W := Walks.list (prog := PG) (w := w) (A := c.A) rfl s.heap.objs.size l hne vs.toArray
  simp only [List.size_toArray, List.getElem?_toArray] at W
  refine wpAny_pyIter_list hl ⟨_, _, [l], ps, news, rfl, W, ?_, n1, ?_, ⟨⟨_, Heap.get?_push_size _ rfl, rfl, rfl⟩, hl.at fun o e => Heap.get?_push_of_some _ e⟩, H.push _, ?_, hK⟩
  · simp only [List.mem_cons, List.not_mem_nil, or_false]; exact fun h => h.elim n2 hL
  · rintro f hf i h ⟨⟨o, ho, _⟩, ⟨o', ho', _⟩⟩
    simp only [List.mem_cons, List.not_mem_nil, or_false] at hf
    rcases hf with rfl | rfl
    · exact ⟨o, ho⟩
    · exact ⟨o', ho'⟩
  · intro q hq
    simp only [List.mem_cons, List.not_mem_nil, or_false]
    exact fun h => h.elim (n3 q hq) (ho q hq)
theorem at_one {o : Obj} {S : Nat → Heap → Prop} {K : Nat → Names → Led → Prop} (H : c.St ps news s) (W : Walks PG w c.A s.heap.objs.size [s.heap.objs.size] [s.heap.objs.size] n P S) (live : ∀ i h, S i h → ∃ o, h.get? s.heap.objs.size = some o) (hS : S 0 (s.heap.push o)) (hK : K 0 ps news) : c.At n P K (.ref s.heap.objs.size) { s with heap := s.heap.push o } := by
  obtain ⟨n1, n2, n3⟩ := next_new H
  exact ⟨_, S, [], ps, news, rfl, W, fun h => n2 (List.mem_singleton.mp h), n1, fun f hf i h hs => by rw [List.mem_singleton.mp hf]; exact live i h hs, hS, H.push _, fun q hq h => n3 q hq (List.mem_singleton.mp h), hK⟩
theorem at_range {r : Addr} {a₀ b₀ : Int} {t₀ u₀ v₀ : Tok} {K : Nat → Names → Led → Prop} (H : c.St ps news s) (hr : IsRange s.heap r a₀ b₀ 1 t₀ u₀ v₀) (hsm : Builtin.Range.small a₀ b₀ 1 = true) (hn : Builtin.Range.rangeSize a₀ b₀ 1 = (n : Int)) (hK : K 0 ps news) :
    wpAny (model PG w) c.A (pyIter (.ref r)) (c.At n (fun i v => ∃ t, v = .int (a₀ + i) t) K) c.E s := by
  have W := Walks.range (prog := PG) (w := w) (A := c.A) rfl s.heap.objs.size a₀ 1 n
  simp only [Int.mul_one] at W
  exact wpAny_pyIter_range hr hsm (at_one H W (fun i h st => ⟨_, st⟩) (by show IsRangeIter _ _ _ _ _; rw [hn]; simpa using Heap.get?_push_size _ rfl) hK)
theorem at_str {z : Str} {t : Tok} {K : Nat → Names → Led → Prop} (H : c.St ps news s) (hK : K 0 ps news) : wpAny (model PG w) c.A (pyIter (.str z t)) (c.At z.cps.size (SignAt z) K) c.E s := by
  cases ha : z.cps.all (· < 128)
  · exact wpAny_pyIter_wide ha (at_one H (Walks.strWide rfl _ z t) (fun i h ⟨o, ho, _⟩ => ⟨o, ho⟩) ⟨_, Heap.get?_push_size _ rfl, rfl, rfl⟩ hK)
  · exact wpAny_pyIter_ascii ha (at_one H (Walks.strAscii rfl _ z t) (fun i h ⟨o, ho, _⟩ => ⟨o, ho⟩) ⟨_, Heap.get?_push_size _ rfl, rfl, rfl⟩ hK)
theorem st_forB {l : Addr} {vs : List Value} (K : Nat → Names → Led → Prop) (H : c.St ps news s) (he : c.Ev e (KV (.ref l)) s.heap) (hl : c.h₀.IsList l vs.toArray) (hK : ∃ nw, Sub nw news ∧ K 0 ps nw)
    (turn : ∀ i v s' ps' news' own Q', i < vs.length → vs[i]? = some v → K i ps' news' → c.St ((x, v) :: ps') (news' ++ own) s' → Round c own (K (i + 1)) rest Q Q' → c.Do body Q' s')
    (done : ∀ s' ps' news', K vs.length ps' news' → c.St ps' news' s' → c.Do rest Q s')
    (hx : autoParam (isLoc sc x = true) aut1._auto_1) (hf : autoParam (∀ env v, foldedSetIterable e env v = pure v) aut4._auto_1) : c.Do (.For (.Name x px) e body [] pos :: rest) Q s := by
  obtain ⟨nw, hs, hK⟩ := hK
  obtain ⟨ol, hol, _⟩ := id hl
  refine st_for K H (he s _ _ rfl fun _ k => at_list ((H.led hs).toks k) (hl.at fun o e => H.keep l o e) ?_ (fun q hq e => ?_) hK) turn done hx hf
  · obtain ⟨m, F⟩ := H.frm
    exact fun e => absurd (Heap.lt_size hol) (e ▸ Nat.not_lt.mpr F.above)
  · have := (H.nw q (hs.1 q hq)).2.2
    rw [e, hol] at this; cases this
theorem st_forL {l : Addr} {vs : List Value} {k : Nat} {d : Option Addr} {sl : Array (Option Value)} {nw : Led} (K : Nat → Names → Led → Prop) (H : c.St ps news s) (he : c.Ev e (KV (.ref l)) s.heap) (hs : Sub ((l, ⟨.type "list", d, .seq vs.toArray k, sl⟩) :: nw) news) (hK : K 0 ps nw)
    (turn : ∀ i v s' ps' news' own Q', i < vs.length → vs[i]? = some v → K i ps' news' → c.St ((x, v) :: ps') (news' ++ own) s' → Round c own (K (i + 1)) rest Q Q' → c.Do body Q' s')
    (done : ∀ s' ps' news', K vs.length ps' news' → c.St ps' news' s' → c.Do rest Q s')
    (hx : autoParam (isLoc sc x = true) aut1._auto_1) (hf : autoParam (∀ env v, foldedSetIterable e env v = pure v) aut4._auto_1) : c.Do (.For (.Name x px) e body [] pos :: rest) Q s := by
  have H' := H.led hs
  have h1 := H'.nw _ (.head _)
  exact st_for K H (he s _ _ rfl fun _ k => at_list ((H.led (Sub.trans (Sub.skip Sub.refl) hs)).toks k) (H'.nw.isList (.head _)) (Ne.symm h1.2.1) (fun q hq e => (List.pairwise_cons.mp H'.nd).1 q hq e.symm) hK) turn done hx hf
theorem st_forS {z : Str} (K : Nat → Names → Led → Prop) (H : c.St ps news s) (he : c.Ev e (.str z) s.heap) (hK : K 0 ps news)
    (turn : ∀ i v s' ps' news' own Q', i < z.cps.size → SignAt z i v → K i ps' news' → c.St ((x, v) :: ps') (news' ++ own) s' → Round c own (K (i + 1)) rest Q Q' → c.Do body Q' s')
    (done : ∀ s' ps' news', K z.cps.size ps' news' → c.St ps' news' s' → c.Do rest Q s')
    (hx : autoParam (isLoc sc x = true) aut1._auto_1) (hf : autoParam (∀ env v, foldedSetIterable e env v = pure v) aut4._auto_1) : c.Do (.For (.Name x px) e body [] pos :: rest) Q s :=
  st_for K H (he s _ _ rfl fun _ k => at_str (H.toks k) hK) turn done hx hf
end
end
end Mine
namespace Mine
theorem cellsFrom_nd : ∀ (names : List (Str × NameKind)) (n : Nat) (acc : List (Str × Addr)), (∀ p ∈ acc, @LT.lt Nat _ p.2 n) → acc.Pairwise (fun p q => p.2 ≠ q.2) → (cellsFrom n names acc).Pairwise fun p q => p.2 ≠ q.2
  | [], _, _, _, h => h
  | (x, k) :: r, n, acc, hl, h => by
    unfold cellsFrom
    split
    · refine cellsFrom_nd r (n + 1) _ (fun p hp => ?_) (List.pairwise_cons.mpr ⟨fun p hp => Nat.ne_of_gt (hl p hp), h⟩)
      rcases List.mem_cons.mp hp with rfl | hp
      · exact Nat.lt_succ_self _
      · exact Nat.lt_succ_of_lt (hl p hp)
    · exact cellsFrom_nd r n acc hl h
theorem cells_mem {cm : Str → Option Value} {cs : List (Str × Addr)} {cells : Led} (Y : CellsAre cm cs cells) : ∀ p ∈ cells, ∃ q ∈ cs, q.2 = p.1 := by
  induction Y with
  | nil => exact fun _ h => (nomatch h)
  | cons _ _ ih =>
    intro p hp
    rcases List.mem_cons.mp hp with rfl | hp
    · exact ⟨_, .head _, rfl⟩
    · obtain ⟨q, hq, e⟩ := ih p hp
      exact ⟨q, .tail _ hq, e⟩
theorem cells_nd {cm : Str → Option Value} {cs : List (Str × Addr)} {cells : Led} (Y : CellsAre cm cs cells) (h : cs.Pairwise fun p q => p.2 ≠ q.2) : ND cells := by
  induction Y with
  | nil => exact .nil
  | cons _ Y ih =>
    obtain ⟨h1, h2⟩ := List.pairwise_cons.mp h
    exact List.pairwise_cons.mpr ⟨fun p hp e => (let ⟨q, hq, e'⟩ := cells_mem Y p hp; h1 q hq (e.trans e'.symm)), ih h2⟩
section
variable {prog : Program} {w : World} {A₀ A : Around} {s : Shared} {base h₀ : Heap} {outer : List Env} {L : Addr} {m : Str → Option Value} {env : Env} {K : Frag} {p : Program} {loose : List Str} {mean : ExcName → Option Value} {mg mb : Str → Option Value}
theorem enter_cells {R : Result → Shared → Prop} {name qual : Str} {params : Arguments} {body : List Stmt} {scope : Scope} {dV kV doc pm cdv ct oc : Value} {an od : Option Addr} {osl : Array (Option Value)} {f : Addr} {args : Args} {binds : List (Str × Value)}
    (B : Below A₀ base outer h₀) (F : Fr h₀ L s.heap m) (X₀ : K.In h₀) (T : Top p loose mean mg mb h₀) (hA : A.frames = some (env :: outer)) (hf : env.frame = some L) (hke : env.scope.kind = .function)
    (ho : K.lookup f = some ⟨oc, od, .func (fnOf name qual params body scope dV kV doc pm an cdv ct), osl⟩) (hcd : codeIn K cdv qual = true) (hroom : A.depth < recursionLimit)
    (hbind : BindsTo s (fnOf name qual params body scope dV kV doc pm an cdv ct) args binds) (hkind : (binds.all fun y => scope.names.lookup y.1 == some .local || scope.names.lookup y.1 == some .cell) = true)
    (hnd : ((cellsFrom 0 scope.names []).map (·.1)).Nodup)
    (h : ∀ L' h₁ tk cells, Fr s.heap L' h₁ (bindL (envOfC qual scope L' f cdv).kindOf binds fun _ => none) → News s.heap L' h₁ cells →
      CellsAre (bindC (envOfC qual scope L' f cdv).kindOf binds fun _ => none) (cellsFrom (L' + 1) scope.names []) cells → Below A base (env :: outer) s.heap → K.In s.heap → Top p loose mean mg mb s.heap →
      wpAny (model prog w) (A.deeper (envOfC qual scope L' f cdv)) (execs body (envOfC qual scope L' f cdv))
        (fun fl s' => R (.ok (.ret (match fl with | .ret v => v | _ => .none))) s')
        (fun e s' => wpAny (model prog w) (A.deeper (envOfC qual scope L' f cdv)) (leaving (envOfC qual scope L' f cdv) e) (fun _ s'' => R (.error e) s'') (fun e' s'' => R (.error e') s'') s')
        { s with heap := h₁, toks := tk })
    (hco : scope.isCoroutine = false) (hgen : scope.isGenerator = false) (hk : scope.kind = .function) : codeAny (model prog w) A (.call (.ref f) args) R s := by
  have X : K.In s.heap := X₀.keeps F.keep
  have B₁ := pushX B F hf hke
  refine codeAny_call_function hroom (X _ _ ho) rfl hco hgen rfl (codeRec_of X hcd) (hbind _ _ _ _ ?_)
  refine wpAny_newFunctionEnv_cells hk (kindsX hkind _) fun env' he s' x => ?_
  subst he
  refine ⟨(T.nolimit.keeps F.keep).keeps x.toInCall.keep, codeAny_func ?_⟩
  obtain ⟨h₁, tk, rfl, _⟩ := x.done
  have hk₁ := x.toInCall.keep
  obtain ⟨cells, NC, Y⟩ := Cl.news (h₀ := s.heap) (Nat.le_refl _) fun n c hm => ⟨x.cell n c (lookup_of_mem_nodup (cellsFrom_names scope.names 0 (s.heap.objs.size + 1) [] [] rfl ▸ hnd) hm), x.above n c hm⟩
  exact h s.heap.objs.size h₁ tk cells ⟨x.toInCall.ns, hk₁, Nat.le_refl _⟩ NC Y ⟨hA, B₁.stays, B₁.frames⟩ X (T.keeps F.keep)
end
section
variable {w : World} {sc : Scope} {x : Str} {c : Cx w sc} {ps : Names} {news : Led} {s : Shared} {h : Heap} {Q : Flow → Shared → Prop} {rest : List Stmt} {px pos : Pos} {e a b : PySem.Expr} {r r₁ r₂ : Tok → Value} {v : Value} {α : Type} {g : α → Value} {tl : α → Led} {φ : α → Prop} {i j : Int} {y z : Str}
structure Exit (c : Cx w sc) (g : α → Value) (tl : α → Led) (φ : α → Prop) (Q : Flow → Shared → Prop) : Prop where
  ret : ∀ a s ps news, φ a → c.St ps news s → Sub (tl a) news → Q (.ret (g a)) s
theorem spec_of {name qual : Str} {params : Arguments} {body : List Stmt} {scope : Scope} {dV kV doc pm cdv ct oc : Value} {an od : Option Addr} {osl : Array (Option Value)} {f : Addr} {args : List Value} {binds qs : Names} {pre : Heap → Prop} {k : Nat}
    (ho : (lw_hd.heap_39 w.params).lookup f = some ⟨oc, od, .func (fnOf name qual params body scope dV kV doc pm an cdv ct), osl⟩) (hcd : codeIn (lw_hd.heap_39 w.params) cdv qual = true)
    (hbind : ∀ s, BindsTo s (fnOf name qual params body scope dV kV doc pm an cdv ct) ⟨args, []⟩ binds) (hkind : (binds.all fun y => scope.names.lookup y.1 == some .local || scope.names.lookup y.1 == some .cell) = true) (hnd : ((cellsFrom 0 scope.names []).map (·.1)).Nodup)
    (hb : ∀ q ∈ qs, bindL (fun x => scope.names.lookup x) binds (fun _ => none) q.1 = some q.2)
    (hco : scope.isCoroutine = false) (hgen : scope.isGenerator = false) (hk : scope.kind = .function)
    (h : ∀ (c : Cx w scope) (s' : Shared) (Q : Flow → Shared → Prop) (cells : Led), k ≤ c.kmax → pre c.h₀ → c.St qs cells s' → CellsAre (bindC (fun x => scope.names.lookup x) binds fun _ => none) (cellsFrom (c.L + 1) scope.names []) cells →
      Exit c g tl φ Q → c.Do body Q s') : Spec w (k + 1) f args pre g tl φ := by
  intro mean mg mb dp un gd cn cs a ccd cl outer A₀ base h₀ L m s Q E B F X₀ T hke hd hu hpre hret
  refine wpAny_call (enter_cells (A := ktrTop dp un gd cn cs L a ccd cl outer) (env := envX cn cs L a ccd cl) (outer := outer) B F X₀ T rfl rfl hke ho hcd (Nat.lt_of_le_of_lt (Nat.le_add_right dp (k + 1)) hd) (hbind s) hkind hnd (fun L' h₁ tk cells F' N' Y' B' X' T' => ?_) hco hgen hk)
  refine h ⟨_, _, gd, _, f, _, _, _, _, _, L', s, _, _, _, k, _, B', T', X', hk, (Nat.lt_of_le_of_lt (Nat.le_of_eq (Nat.succ_add dp k)) hd), (Nat.lt_of_le_of_lt (Nat.le_trans (Nat.le_of_eq (Nat.add_assoc un 3 (8 * k))) (Nat.add_le_add_left (Nat.le_trans (Nat.le_of_eq (Nat.add_comm 3 (8 * k))) (Nat.add_le_add_left (by decide : 3 ≤ 8) (8 * k))) un)) hu), by passes_own⟩ _ _ cells (Nat.le_refl _) hpre ⟨⟨h₁, _, rfl⟩, ⟨_, F', fun x v hx => hb _ (nget_mem hx)⟩, N', cells_nd Y' (cellsFrom_nd _ _ _ (fun _ h => (nomatch h)) .nil)⟩ Y' ⟨?_⟩
  rintro b s' ps news hb ⟨⟨h', k', e⟩, ⟨m', F2, _⟩, N2, D2⟩ hsub
  subst e
  exact hret b h' k' F2.keep ⟨fun p hp => ⟨(N2 p (hsub.1 p hp)).1, (N2 p (hsub.1 p hp)).2.2⟩, hsub.2 D2⟩ hb
theorem spec_of0 {name qual : Str} {params : Arguments} {body : List Stmt} {scope : Scope} {dV kV doc pm cdv ct oc : Value} {an od : Option Addr} {osl : Array (Option Value)} {f : Addr} {args : List Value} {binds qs : Names} {pre : Heap → Prop} {k : Nat}
    (ho : (lw_hd.heap_39 w.params).lookup f = some ⟨oc, od, .func (fnOf name qual params body scope dV kV doc pm an cdv ct), osl⟩) (hcd : codeIn (lw_hd.heap_39 w.params) cdv qual = true)
    (hbind : ∀ s, BindsTo s (fnOf name qual params body scope dV kV doc pm an cdv ct) ⟨args, []⟩ binds) (hkind : (binds.all fun y => scope.names.lookup y.1 == some .local || scope.names.lookup y.1 == some .cell) = true)
    (hb : ∀ q ∈ qs, bindL (fun x => scope.names.lookup x) binds (fun _ => none) q.1 = some q.2)
    (hco : scope.isCoroutine = false) (hgen : scope.isGenerator = false) (hk : scope.kind = .function) (hce : ∀ n, cellsFrom n scope.names [] = [])
    (h : ∀ (c : Cx w scope) (s' : Shared) (Q : Flow → Shared → Prop), k ≤ c.kmax → pre c.h₀ → c.St qs [] s' → Exit c g tl φ Q → c.Do body Q s') : Spec w (k + 1) f args pre g tl φ :=
  spec_of ho hcd hbind hkind (by rw [hce]; exact .nil) hb hco hgen hk fun c s' Q cells hk hp H Y X => by
    rw [hce] at Y
    cases Y
    exact h c s' Q hk hp H X
theorem mk_call1 {f : PySem.Expr} {fa : Addr} {k : Nat} {pre : Heap → Prop} (S : ∀ t, Spec w k fa [r t] pre g tl φ) (hkm : k ≤ c.kmax) (H : c.St ps news s) (hp : pre s.heap) (hf : c.Ev f (KV (.ref fa)) s.heap) (ha : c.Ev a r s.heap) (hk : keepIn (lw_hd.heap_39 w.params) (.ref fa) = true)
    (he : autoParam (∀ env, eval (.Call f [a] [] pos) env = (do let g ← eval f env; callWith pos g [] (backTo pos (starEach [a] env)) (backToKw pos (keywordEach [] env)))) aut2._auto_1)
    (hs : autoParam (∀ env, starEach [a] env = (false, eval a env) :: starEach [] env) aut2._auto_1) : c.Mk (.Call f [a] [] pos) ps news g tl φ s := fun Q hQ =>
  Call_ (hf s _ _ rfl fun _ k => callWith_K c.hX hk (args_cons (ha _ _ _ rfl fun t k => args_nil ⟨c.hX.keeps H.keep, Cx.use (S t) hkm (H.toks k) hp fun a s' h1 h2 _ => hQ a s' h1 h2⟩) (hs _)) (hs _) rfl) (he _)
theorem mk_call2 {f : PySem.Expr} {fa : Addr} {k : Nat} {pre : Heap → Prop} (S : ∀ t u, Spec w k fa [r₁ t, r₂ u] pre g tl φ) (hkm : k ≤ c.kmax) (H : c.St ps news s) (hp : pre s.heap) (hf : c.Ev f (KV (.ref fa)) s.heap) (ha : c.Ev a r₁ s.heap) (hb : c.Ev b r₂ s.heap) (hk : keepIn (lw_hd.heap_39 w.params) (.ref fa) = true)
    (he : autoParam (∀ env, eval (.Call f [a, b] [] pos) env = (do let g ← eval f env; callWith pos g [] (backTo pos (starEach [a, b] env)) (backToKw pos (keywordEach [] env)))) aut2._auto_1)
    (hs : autoParam (∀ env, starEach [a, b] env = (false, eval a env) :: starEach [b] env) aut2._auto_1) (hs' : autoParam (∀ env, starEach [b] env = (false, eval b env) :: starEach [] env) aut2._auto_1) (hpl : autoParam (∀ env, ((backTo pos (starEach [b] env)).any fun x => x.1) = false) aut2._auto_1) : c.Mk (.Call f [a, b] [] pos) ps news g tl φ s := fun Q hQ =>
  Call_ (hf s _ _ rfl fun _ k => callWith_K c.hX hk (args_cons (ha _ _ _ rfl fun t k => args_cons (hb _ _ _ rfl fun u k => args_nil ⟨c.hX.keeps H.keep, Cx.use (S t u) hkm (H.toks k) hp fun a s' h1 h2 _ => hQ a s' h1 h2⟩) (hs' _)) (hs _)) (hs _) (hpl _)) (he _)
theorem tm_mk {t : Bool} (h : c.Mk e ps news g tl φ s) (hg : ∀ a, φ a → g a = .bool t) (hi : autoParam (∀ env whole, isTrue e env whole = (do let v ← whole; standAt e.pos; holding [v] (truthy v))) aut4._auto_1) : c.Tm e t ps news s := fun Q hQ =>
  isTrue_plain (h _ fun a s' ha H' => by rw [hg a ha]; exact wpAny_truthy_bool (hQ _ (H'.led Sub.right))) (hi _ _)
theorem tm_not {t : Bool} (h : c.Tm e t ps news s) : c.Tm (.UnaryOp .Not e pos) (!t) ps news s := fun Q hQ => isTrue_not (h _ fun s' H' => hQ s' H')
noncomputable def WorthAt (w : World) (h : Heap) (a : Addr) (wv : Int → Option Nat) : Prop :=
  (a == sysModules) = false ∧ (∀ k v, wv k = some v → v < 4) ∧ ∃ f, h.MapOf (intKind PG w) a f ∧ ∀ k, (∀ v, wv k = some v → ∃ t, f k = some (.int (v : Int) t)) ∧ (wv k = none → f k = none)
theorem MapOf_keep {prog : Program} {w : World} {K : Type} [DecidableEq K] {knd : KeyKind prog w K} {h h' : Heap} {a : Addr} {f : K → Option Value} (x : h.MapOf knd a f) (hk : ∀ b o, h.get? b = some o → h'.get? b = some o) : h'.MapOf knd a f := by
  obtain ⟨o, es, ep, ho, r⟩ := x
  exact ⟨o, es, ep, hk _ _ ho, r⟩
theorem WorthAt.keep {w : World} {h h' : Heap} {a : Addr} {wv : Int → Option Nat} (x : WorthAt w h a wv) (hk : ∀ b o, h.get? b = some o → h'.get? b = some o) : WorthAt w h' a wv := by
  obtain ⟨lo, lt, f, hf, r⟩ := x
  exact ⟨lo, lt, f, MapOf_keep hf hk, r⟩
section
variable {wv : Int → Option Nat} {wa : Addr} {n : Int} {u : Nat}
theorem ts_worth (W : WorthAt w h wa wv) (ha : c.Ev a (.int n) h) (hb : c.Ev b (KV (.ref wa)) h) (hm : autoParam (behindInMarks .In b = false) aut1._auto_1) : c.Ts (.Compare a [.In] [b] pos) (wv n).isSome h :=
  ts_cmp ha hb (fun s Q E t u hh hQ => by
    subst hh
    obtain ⟨lo, lt, f, hf, r⟩ := W
    refine wpAny_in_of (intKind_is _ w n t) lo hf ?_
    cases hv : wv n with
    | none => rw [(r n).2 hv]; have := hQ (s.toks + 1); rw [hv] at this; exact this
    | some v => obtain ⟨t', e⟩ := (r n).1 v hv; rw [e]; have := hQ (s.toks + 1); rw [hv] at this; exact this) hm
theorem ev_worth (W : WorthAt w h wa wv) (hv : wv n = some u) (ha : c.Ev a (KV (.ref wa)) h) (hb : c.Ev b (.int n) h)
    (hs : autoParam (∀ t, subscripted b false (.ref wa) (.int n t) = operate [.ref wa, .int n t] (getItem (.ref wa) (.int n t))) aut3._auto_1) (hg : autoParam (∀ r, letTemporaryGo a (.ref wa) r = pure ()) aut3._auto_1) :
    c.Ev (.Subscript a b pos) (.int (u : Int)) h := fun s Q E hh hQ =>
  Subscript_ (ha s _ _ hh fun _ _ => hb _ _ _ hh fun t _ => by
    subst hh
    obtain ⟨lo, lt, f, hf, r⟩ := W
    obtain ⟨t', e⟩ := (r n).1 u hv
    exact subscriptTail_builtin hf.typeIs slot_dict_getitem.lookup (wpAny_getItem_of (intKind_is _ w n t) hf e (hQ t' _)) (hs t) hg)
end
end
section
variable {α : Type} {P : α → Prop}
theorem kn0 : ∀ p ∈ ([] : List α), P p := fun _ h => nomatch h
theorem kn1 {x0 : α} (h0 : P x0) : ∀ p ∈ [x0], P p := List.forall_mem_cons.mpr ⟨h0, kn0⟩
theorem kn2 {x0 x1 : α} (h0 : P x0) (h1 : P x1) : ∀ p ∈ [x0, x1], P p := List.forall_mem_cons.mpr ⟨h0, kn1 h1⟩
theorem kn3 {x0 x1 x2 : α} (h0 : P x0) (h1 : P x1) (h2 : P x2) : ∀ p ∈ [x0, x1, x2], P p := List.forall_mem_cons.mpr ⟨h0, kn2 h1 h2⟩
theorem kn4 {x0 x1 x2 x3 : α} (h0 : P x0) (h1 : P x1) (h2 : P x2) (h3 : P x3) : ∀ p ∈ [x0, x1, x2, x3], P p := List.forall_mem_cons.mpr ⟨h0, kn3 h1 h2 h3⟩
theorem kn5 {x0 x1 x2 x3 x4 : α} (h0 : P x0) (h1 : P x1) (h2 : P x2) (h3 : P x3) (h4 : P x4) : ∀ p ∈ [x0, x1, x2, x3, x4], P p := List.forall_mem_cons.mpr ⟨h0, kn4 h1 h2 h3 h4⟩
end
end Mine
namespace Mine
theorem fill (w : World) : PySem.Challenge.rw_re0147_01.row.prog = PG → lw_hd.heap_39 w.params = lw_hd.heap_39 w.params → True := by k_fill; intros; trivial
noncomputable def xorL (wv : Int → Option Nat) (ns : List Int) : Nat := ns.foldl (fun t n => t ^^^ (wv n).getD 0) 0
theorem bitXor_small : ∀ a < 4, ∀ b < 4, Builtin.bitXor (a : Nat) (b : Nat) = ((a ^^^ b : Nat) : Int) := by decide +kernel
theorem xorL_lt {wv : Int → Option Nat} (hw : ∀ k v, wv k = some v → v < 4) (ns : List Int) : xorL wv ns < 4 := by
  have key : ∀ (ns : List Int) (a : Nat), a < 4 → ns.foldl (fun t n => t ^^^ (wv n).getD 0) a < 4 := by
    intro ns
    induction ns with
    | nil => intro a h; exact h
    | cons n r ih =>
      intro a h
      refine ih _ ?_
      have hb : (wv n).getD 0 < 4 := by
        cases e : wv n with
        | none => decide
        | some v => exact hw n v e
      exact Nat.xor_lt_two_pow (n := 2) h hb
  exact key ns 0 (by decide)
theorem xorL_snoc (wv : Int → Option Nat) (ns : List Int) (n : Int) : xorL wv (ns ++ [n]) = xorL wv ns ^^^ (wv n).getD 0 := by simp [xorL]
theorem take_snoc {α : Type} {l : List α} {i : Nat} {n : α} (h : l[i]? = some n) : l.take (i + 1) = l.take i ++ [n] := by simp [List.take_add_one, h]
theorem ints_at {vs : List Value} {ns : List Int} (h : IntsAre vs ns) {i : Nat} {v : Value} (hv : vs[i]? = some v) : ∃ n t, v = .int n t ∧ ns[i]? = some n := by
  have hi : i < ns.length := h.length ▸ (List.getElem?_eq_some_iff.mp hv).1
  have hn : ns[i]? = some ns[i] := List.getElem?_eq_getElem hi
  obtain ⟨t, hx⟩ := h.get i _ hn
  exact ⟨_, t, Option.some.inj (hv.symm.trans hx), hn⟩
noncomputable def IntsAt (h : Heap) (a : Addr) (ns : List Int) : Prop := ∃ vs : List Value, h.IsList a vs.toArray ∧ IntsAre vs ns
theorem IntsAt.keep {h h' : Heap} {a : Addr} {ns : List Int} (x : IntsAt h a ns) (hk : ∀ b o, h.get? b = some o → h'.get? b = some o) : IntsAt h' a ns :=
  let ⟨vs, hl, hi⟩ := x; ⟨vs, hl.at fun o q => hk a o q, hi⟩
set_option maxHeartbeats 4000000 in
theorem nonterm_spec (w : World) (n : Int) (tn : Tok) : Spec w 5 104 [.int n tn] (fun _ => True) (fun _ : Unit => .bool (decide (256 ≤ n))) (fun _ => []) (fun _ => True) := by
  k_dflt (refine' spec_of0 (binds := [(Str.ofString "x", .int n tn)]) (qs := [(Str.ofString "x", .int n tn)]) ?k6 ?k7 ?k8 ?k9 ?kb ?c2 ?c3 ?c4 ?c5 ?_)
  case k6 => k_is
  case k7 => k_is
  case k8 => exact fun _ => .of_eq rfl
  case k9 => exact rfl
  case kb => exact (kn1 rfl)
  case c2 => exact rfl
  case c3 => exact rfl
  case c4 => exact rfl
  case c5 => exact fun _ => rfl
  intro c s Q hk _ H X
  exact st_ret (ev_cmp (ev_locI H rfl) (ev_glo H (by k_is)).int (fun _ _ _ _ _ _ => op_ge) rfl) H fun t s' H' => X.ret () _ _ _ trivial H' Sub.nil
set_option maxHeartbeats 4000000 in
theorem eof_spec (w : World) (n : Int) (tn : Tok) : Spec w 5 111 [.int n tn] (fun _ => True) (fun _ : Unit => .bool (n == 0)) (fun _ => []) (fun _ => True) := by
  k_dflt (refine' spec_of0 (binds := [(Str.ofString "x", .int n tn)]) (qs := [(Str.ofString "x", .int n tn)]) ?k6 ?k7 ?k8 ?k9 ?kb ?c2 ?c3 ?c4 ?c5 ?_)
  case k6 => k_is
  case k7 => k_is
  case k8 => exact fun _ => .of_eq rfl
  case k9 => exact rfl
  case kb => exact (kn1 rfl)
  case c2 => exact rfl
  case c3 => exact rfl
  case c4 => exact rfl
  case c5 => exact fun _ => rfl
  intro c s Q hk _ H X
  exact st_ret (ev_cmp (ev_locI H rfl) (ev_glo H (by k_is)).int (fun _ _ _ _ _ _ => op_eq) rfl) H fun t s' H' => X.ret () _ _ _ trivial H' Sub.nil
set_option maxHeartbeats 4000000 in
theorem value_spec (w : World) (row wa : Addr) (ns : List Int) (wv : Int → Option Nat) :
    Spec w 10 125 [.ref row, .ref wa] (fun h => IntsAt h row ns ∧ WorthAt w h wa wv) (fun t => .int (xorL wv ns) t) (fun _ => []) (fun _ => True) := by
  k_dflt (refine' spec_of0 (binds := [(Str.ofString "row", .ref row), (Str.ofString "worth", .ref wa)]) (qs := [(Str.ofString "row", .ref row), (Str.ofString "worth", .ref wa)]) ?k6 ?k7 ?k8 ?k9 ?kb ?c2 ?c3 ?c4 ?c5 ?_)
  case k6 => k_is
  case k7 => k_is
  case k8 => exact fun _ => .of_eq rfl
  case k9 => exact rfl
  case kb => exact (kn2 rfl rfl)
  case c2 => exact rfl
  case c3 => exact rfl
  case c4 => exact rfl
  case c5 => exact fun _ => rfl
  intro c s Q hk hp H X
  obtain ⟨⟨vs, hl, hi⟩, hw⟩ := hp
  refine st_loc ev_int H fun t s₁ H₁ => ?_
  refine st_forB (fun i ps news => news = [] ∧ ∃ t, nget ps (Str.ofString "worth") = some (.ref wa) ∧ nget ps (Str.ofString "total") = some (.int (xorL wv (ns.take i)) t)) H₁ (ev_loc H₁ rfl) hl ⟨[], Sub.nil, rfl, _, rfl, rfl⟩ ?_ ?_
  · intro i v s₂ ps₂ news₂ own Q₂ _ hv hK H₂ R
    obtain ⟨rfl, t, h1, h2⟩ := hK
    obtain ⟨n, tn, rfl, hns⟩ := ints_at hi hv
    have hlt := xorL_lt hw.2.1 (ns.take i)
    rw [take_snoc hns, xorL_snoc] at R
    refine st_if (Cx.Ts.tm H₂ (ts_worth (hw.keep H₂.keep) (ev_locI H₂ rfl) (ev_loc H₂ h1))) ?_ ?_
    · intro hb s₃ Q₃ H₄ In
      obtain ⟨u, hu⟩ := Option.isSome_iff_exists.mp hb
      refine st_aug H₄ h2 (ev_worth (hw.keep H₄.keep) hu (ev_loc H₄ h1) (ev_locI H₄ rfl)) (fun s Q E t hQ => ixor_int (hQ _ _)) fun t' s₄ H₅ => ?_
      rw [hu, Option.getD_some, ← bitXor_small _ hlt _ (hw.2.1 _ _ hu)] at R
      exact do_nil (In.next _ (do_nil (R.next _ _ [] _ H₅ Sub.refl ⟨rfl, t', h1, rfl⟩)))
    · intro hb s₃ Q₃ H₄ In
      rw [Option.not_isSome_iff_eq_none.mp (Bool.eq_false_iff.mp hb), Option.getD_none, Nat.xor_zero] at R
      exact do_nil (In.next _ (do_nil (R.next _ _ [] _ H₄ Sub.refl ⟨rfl, t, h1, h2⟩)))
  · intro s₂ ps₂ news₂ hK H₂
    obtain ⟨rfl, t, h1, h2⟩ := hK
    rw [List.take_of_length_le (by rw [hi.length]; exact Nat.le_refl _)] at h2
    exact st_ret (ev_locI H₂ h2) H₂ fun t s₃ H₃ => X.ret t _ _ _ trivial H₃ Sub.nil
end Mine
namespace Mine
theorem fill2 (w : World) : PySem.Challenge.rw_re0147_01.row.prog = PG → lw_hd.heap_39 w.params = lw_hd.heap_39 w.params → True := by k_fill; intros; trivial
theorem exact_dict' {w : World} {es : Array DictEntry} {n : Nat} (a : (lw_hd.heap_39 w.params).lookup 95 = some ⟨.type "dict", none, .dict es n, #[]⟩) (b : KeysLit w.params es.toList) : ∃ es n, (lw_hd.heap_39 w.params).lookup 95 = some ⟨.type "dict", none, .dict es n, #[]⟩ ∧ KeysLit w.params es.toList := ⟨es, n, a, b⟩
theorem exact_dict (w : World) : ∃ es n, (lw_hd.heap_39 w.params).lookup 95 = some ⟨.type "dict", none, .dict es n, #[]⟩ ∧ KeysLit w.params es.toList := by
  k_dflt (refine' exact_dict' ?a ?b)
  case a => k_is
  case b => k_keys
section
variable {w : World} {sc : Scope} {x : Str} {c : Cx w sc} {ps : Names} {news : Led} {s : Shared} {h : Heap} {pos : Pos} {a b : PySem.Expr} {v : Value} {i j : Int} {y z : Str}
theorem ev_exact (H : c.St ps news s) (ha : c.Ev a (KV (.ref 95)) s.heap) (hb : c.Ev b (.str x) s.heap) (e : nsIn (lw_hd.heap_39 w.params) 95 x = some (some v))
    (hs : autoParam (∀ t, subscripted b false (.ref 95) (.str x t) = operate [.ref 95, .str x t] (getItem (.ref 95) (.str x t))) aut3._auto_1) : c.Ev (.Subscript a b pos) (KV v) s.heap := fun s' Q E hh hQ =>
  Subscript_ (ha s' _ _ hh fun _ _ => hb _ _ _ hh fun t k => by
    obtain ⟨m, F⟩ := H.frm
    obtain ⟨es, n, h1, h2⟩ := exact_dict w
    exact topItem_K (s := { s' with toks := k }) (K := lw_hd.heap_39 w.params) (hh ▸ F) c.hX h1 h2 e (hQ 0 _) (hs t))
theorem ev_itemS (ha : c.Ev a (.str y) h) (hb : c.Ev b (.int i) h) (h0 : -(y.length : Int) ≤ i) (h1 : i < y.length) (hl : y.length ≤ 16777216)
    (hs : autoParam (∀ t u, subscripted b false (.str y t) (.int i u) = operate [.str y t, .int i u] (getItem (.str y t) (.int i u))) aut5._auto_1) (hg : autoParam (∀ t r, letTemporaryGo a (.str y t) r = pure ()) aut5._auto_1) : c.Ev (.Subscript a b pos) (.str (Txt.item y i)) h := fun s' Q E hh hQ =>
  Subscript_ (ha s' _ _ hh fun t _ => hb _ _ _ hh fun u k => KXi.item rfl h0 h1 hl (fun _ => hQ _ _) (hs t u) (hg t))
theorem ev_mulS (ha : c.Ev a (.str y) h) (hb : c.Ev b (.int i) h) (hl : y.length ≤ 16) (h0 : 0 ≤ i) (h1 : i ≤ 1048576) : c.Ev (.BinOp a .Mult b pos) (.str (Txt.mul y i)) h :=
  ev_bin ha hb fun _ _ _ _ _ _ hQ => KXi.mul rfl hl (by omega) h1 fun _ _ _ _ => hQ _ _
end
noncomputable def RowOk (wv : Int → Option Nat) (ns : List Int) : Prop := ∀ n ∈ ns, n = 0 ∨ (14 ≤ n ∧ n ≤ 22) ∨ (256 ≤ n ∧ ∃ v, wv n = some v)
noncomputable def textOne (n : Int) : Str := if 256 ≤ n then Str.ofString "..." else if n = 0 then Str.ofString "" else Txt.item (Str.ofString "+-*/|&<>=") (n - 14)
noncomputable def leadOne (wv : Int → Option Nat) (n : Int) : Str := if 256 ≤ n then Txt.mul (Str.ofString " ") ((wv n).getD 0 : Nat) ++ Str.ofString "\t" else Str.ofString ""
noncomputable def textL (ns : List Int) : Str := ns.foldl (fun s n => s ++ textOne n) (Str.ofString "")
noncomputable def leadL (wv : Int → Option Nat) (ns : List Int) : Str := ns.foldl (fun s n => s ++ leadOne wv n) (Str.ofString "")
theorem textL_snoc (ns : List Int) (n : Int) : textL (ns ++ [n]) = textL ns ++ textOne n := by simp [textL]
theorem leadL_snoc (wv : Int → Option Nat) (ns : List Int) (n : Int) : leadL wv (ns ++ [n]) = leadL wv ns ++ leadOne wv n := by simp [leadL]
theorem str_end (x : Str) : x ++ Str.ofString "" = x := Str.append_right_empty rfl
theorem textOne_len (n : Int) : (textOne n).length ≤ 4 := by
  unfold textOne
  split
  · decide
  · split
    · decide
    · show (1 : Nat) ≤ 4; decide
theorem leadOne_len {wv : Int → Option Nat} (hw : ∀ k v, wv k = some v → v < 4) (n : Int) : (leadOne wv n).length ≤ 4 := by
  unfold leadOne
  split
  · have hv : (wv n).getD 0 < 4 := by
      cases e : wv n with
      | none => decide
      | some v => exact hw n v e
    have : ∀ v < 4, (Txt.mul (Str.ofString " ") (v : Nat) ++ Str.ofString "\t").length ≤ 4 := by decide +kernel
    exact this _ hv
  · decide
theorem foldS_len {f : Int → Str} (hf : ∀ n, (f n).length ≤ 4) (ns : List Int) : ∀ s : Str, (ns.foldl (fun s n => s ++ f n) s).length ≤ s.length + 4 * ns.length := by
  induction ns with
  | nil => intro s; simp
  | cons n r ih =>
    intro s
    have h1 := ih (s ++ f n)
    have h2 := hf n
    rw [Str.length_append] at h1
    simp only [List.foldl_cons, List.length_cons]
    omega
theorem textL_len (ns : List Int) : (textL ns).length ≤ 4 * ns.length := by
  have := foldS_len textOne_len ns (Str.ofString "")
  have e : (Str.ofString "").length = 0 := rfl
  unfold textL; omega
theorem leadL_len {wv : Int → Option Nat} (hw : ∀ k v, wv k = some v → v < 4) (ns : List Int) : (leadL wv ns).length ≤ 4 * ns.length := by
  have := foldS_len (leadOne_len hw) ns (Str.ofString "")
  have e : (Str.ofString "").length = 0 := rfl
  unfold leadL; omega

inductive LineK (wv : Int → Option Nat) (ns : List Int) (wa : Addr) (i : Nat) (ps : Names) (news : Led) : Prop
  | mk (t u : Tok) (e : news = []) (h1 : nget ps (Str.ofString "worth") = some (.ref wa)) (h2 : nget ps (Str.ofString "lead") = some (.str (leadL wv (ns.take i)) t)) (h3 : nget ps (Str.ofString "text") = some (.str (textL (ns.take i)) u))
theorem line_fit {wv : Int → Option Nat} {ns : List Int} (hw : ∀ k v, wv k = some v → v < 4) (h : ns.length ≤ 100) : (leadL wv ns).length + 4 ≤ sizeLine ∧ (textL ns).length + 4 ≤ sizeLine ∧ (leadL wv ns).length + (textL ns).length ≤ sizeLine := by
  have h1 := Nat.le_trans (leadL_len hw ns) (Nat.mul_le_mul_left 4 h)
  have h2 := Nat.le_trans (textL_len ns) (Nat.mul_le_mul_left 4 h)
  rw [sizeLine_eq]
  exact ⟨Nat.le_trans (Nat.add_le_add_right h1 4) (by decide), Nat.le_trans (Nat.add_le_add_right h2 4) (by decide), Nat.le_trans (Nat.add_le_add h1 h2) (by decide)⟩
theorem row_nt {wv : Int → Option Nat} {n : Int} (h : n = 0 ∨ (14 ≤ n ∧ n ≤ 22) ∨ (256 ≤ n ∧ ∃ v, wv n = some v)) (hb : 256 ≤ n) : ∃ v, wv n = some v := by
  rcases h with rfl | h | h
  · exact absurd hb (by decide)
  · exact absurd (Int.le_trans hb h.2) (by decide)
  · exact h.2
theorem row_op {wv : Int → Option Nat} {n : Int} (h : n = 0 ∨ (14 ≤ n ∧ n ≤ 22) ∨ (256 ≤ n ∧ ∃ v, wv n = some v)) (hb : ¬ 256 ≤ n) (hz : n ≠ 0) : textOne n = Txt.item (Str.ofString "+-*/|&<>=") (n - 14) ∧ -9 ≤ n - 14 ∧ n - 14 < 9 := by
  unfold textOne
  rw [if_neg hb, if_neg hz]
  rcases h with h | ⟨h1, h2⟩ | h
  · exact absurd h hz
  · exact ⟨rfl, Int.le_trans (by decide) (Int.sub_nonneg_of_le h1), Int.lt_of_le_of_lt (Int.sub_le_sub_right h2 14) (by decide)⟩
  · exact absurd h.1 hb
set_option maxHeartbeats 4000000 in
theorem line_spec (w : World) (row wa : Addr) (ns : List Int) (wv : Int → Option Nat) (hok : RowOk wv ns) (hlen : ns.length ≤ 100) :
    Spec w 10 137 [.ref row, .ref wa] (fun h => IntsAt h row ns ∧ WorthAt w h wa wv) (fun t => .str (leadL wv ns ++ textL ns) t) (fun _ => []) (fun _ => True) := by
  k_dflt (refine' spec_of0 (binds := [(Str.ofString "row", .ref row), (Str.ofString "worth", .ref wa)]) (qs := [(Str.ofString "row", .ref row), (Str.ofString "worth", .ref wa)]) ?k6 ?k7 ?k8 ?k9 ?kb ?c2 ?c3 ?c4 ?c5 ?_)
  case k6 => k_is
  case k7 => k_is
  case k8 => exact fun _ => .of_eq rfl
  case k9 => exact rfl
  case kb => exact kn2 rfl rfl
  case c2 => exact rfl
  case c3 => exact rfl
  case c4 => exact rfl
  case c5 => exact fun _ => rfl
  intro c s Q hk hp H X
  obtain ⟨⟨vs, hl, hi⟩, hw⟩ := hp
  refine st_loc ev_str H fun t s₁ H₁ => st_loc ev_str H₁ fun t s₁ H₁ => ?_
  refine st_forB (LineK wv ns wa) H₁ (ev_loc H₁ rfl) hl ⟨[], Sub.nil, _, _, rfl, rfl, rfl, rfl⟩ ?_ ?_
  · rintro i v s₂ ps₂ _ own Q₂ _ hv ⟨t, u, rfl, h1, h2, h3⟩ H₂ R
    obtain ⟨n, tn, rfl, hns⟩ := ints_at hi hv
    obtain ⟨hL1, hL2, _⟩ := line_fit (ns := ns.take i) hw.2.1 (Nat.le_trans (List.length_take_le' ..) hlen)
    have hok' := hok n (List.mem_of_getElem? hns)
    have nx : ∀ s ps t u L T, c.St ps ([] ++ own) s → leadL wv (ns.take (i + 1)) = L → textL (ns.take (i + 1)) = T → nget ps (Str.ofString "worth") = some (.ref wa) → nget ps (Str.ofString "lead") = some (.str L t) → nget ps (Str.ofString "text") = some (.str T u) → Q₂ .next s := fun s ps t u L T H e1 e2 h1 h2 h3 => R.next _ _ [] _ H Sub.refl ⟨t, u, rfl, h1, e1 ▸ h2, e2 ▸ h3⟩
    rw [take_snoc hns, leadL_snoc, textL_snoc] at nx
    refine st_if (tm_mk (mk_call1 (fun _ => nonterm_spec w n tn) (Nat.le_trans (Nat.le_of_ble_eq_true rfl) hk) H₂ trivial (ev_glo H₂ (by k_is)) (ev_loc H₂ rfl) (by k_is)) fun _ _ => rfl) ?_ ?_
    · intro hb s₃ Q₃ H₄ In
      have hb := of_decide_eq_true hb
      obtain ⟨v, hwv⟩ := row_nt hok' hb
      have e2 : leadOne wv n = Txt.mul (Str.ofString " ") (v : Nat) ++ Str.ofString "\t" := by unfold leadOne; rw [if_pos hb, hwv]; rfl
      have hl4 := leadOne_len hw.2.1 n
      rw [show textOne n = Str.ofString "..." from if_pos hb, e2] at nx
      rw [e2] at hl4
      refine st_aug H₄ h2 (ev_cat (ev_mulS ev_str (ev_worth (hw.keep H₄.keep) hwv (ev_loc H₄ h1) (ev_locI H₄ rfl)) (Nat.le_of_ble_eq_true rfl) (Int.natCast_nonneg v) (Int.le_trans (Int.ofNat_le.mpr (Nat.le_of_lt (hw.2.1 _ _ hwv))) (by decide))) ev_str ?_) (fun s Q E t hQ => SBL.iadd (fun _ _ _ => hQ _ _) (Nat.le_trans (Nat.add_le_add_left hl4 _) hL1)) fun t' s₄ H₅ => ?_
      · rw [← Str.length_append]
        exact Nat.le_trans hl4 (Nat.le_trans (Nat.le_add_left _ _) hL1)
      refine st_aug H₅ h3 ev_str (fun s Q E t hQ => SBL.iadd (fun _ _ _ => hQ _ _) (Nat.le_trans (Nat.add_le_add_left (Nat.le_of_ble_eq_true rfl) _) hL2)) fun t' s₄ H₅ => ?_
      exact do_nil (In.next _ (do_nil (nx _ _ _ _ _ _ H₅ rfl rfl h1 rfl rfl)))
    · intro hb s₃ Q₃ H₄ In
      have hb := of_decide_eq_false hb
      rw [show leadOne wv n = Str.ofString "" from if_neg hb, str_end] at nx
      refine st_if (tm_not (tm_mk (mk_call1 (fun _ => eof_spec w n tn) (Nat.le_trans (Nat.le_of_ble_eq_true rfl) hk) H₄ trivial (ev_glo H₄ (by k_is)) (ev_loc H₄ rfl) (by k_is)) fun _ _ => rfl)) ?_ ?_
      · intro hz s₅ Q₅ H₆ In'
        obtain ⟨e1, k1, k2⟩ := row_op hok' hb (fun e => by rw [e] at hz; cases hz)
        rw [e1] at nx
        refine st_aug H₆ h3 (ev_itemS ev_str (ev_sub (ev_locI H₆ rfl) (ev_exact H₆ (ev_glo H₆ (by k_is)) ev_str (by k_is)).int) k1 k2 (Nat.le_of_ble_eq_true rfl)) (fun s Q E t hQ => SBL.iadd (fun _ _ _ => hQ _ _) (Nat.le_trans (Nat.add_le_add_left (Nat.le_of_ble_eq_true rfl) _) hL2)) fun t' s₄ H₅ => ?_
        exact do_nil (In'.next _ (do_nil (In.next _ (do_nil (nx _ _ _ _ _ _ H₅ rfl rfl h1 h2 rfl)))))
      · intro hz s₅ Q₅ H₆ In'
        have hn : n = 0 := by simpa using hz
        rw [show textOne n = Str.ofString "" by subst hn; rfl, str_end] at nx
        exact do_nil (In'.next _ (do_nil (In.next _ (do_nil (nx _ _ _ _ _ _ H₆ rfl rfl h1 h2 h3)))))
  · rintro s₂ ps₂ _ ⟨t, u, rfl, h1, h2, h3⟩ H₂
    rw [show ns.take vs.length = ns from List.take_of_length_le (Nat.le_of_eq hi.length.symm)] at h2 h3
    exact st_ret (ev_cat (ev_locS H₂ h2) (ev_locS H₂ h3) (line_fit hw.2.1 hlen).2.2) H₂ fun t s₃ H₃ => X.ret t _ _ _ trivial H₃ Sub.nil
end Mine
namespace Mine
section
variable {prog : Program} {w : World} {A₀ A : Around} {s : Shared} {base h₀ : Heap} {outer : List Env} {L : Addr} {m : Str → Option Value} {env : Env} {K : Frag} {p : Program} {loose : List Str} {mean : ExcName → Option Value} {mg mb : Str → Option Value}
theorem enter_led {R : Result → Shared → Prop} {name qual : Str} {params : Arguments} {body : List Stmt} {scope : Scope} {dV kV doc pm cdv ct oc : Value} {an od : Option Addr} {osl : Array (Option Value)} {f : Addr} {args : Args} {binds : List (Str × Value)} {led : List (Addr × Obj)}
    (B : Below A₀ base outer h₀) (F : Fr h₀ L s.heap m) (X₀ : K.In h₀) (N : News h₀ L s.heap led) (T : Top p loose mean mg mb h₀) (hA : A.frames = some (env :: outer)) (hf : env.frame = some L) (hke : env.scope.kind = .function)
    (ho : K.lookup f = some ⟨oc, od, .func (fnOf name qual params body scope dV kV doc pm an cdv ct), osl⟩) (hcd : codeIn K cdv qual = true) (hroom : A.depth < recursionLimit)
    (hbind : BindsTo s (fnOf name qual params body scope dV kV doc pm an cdv ct) args binds) (hloc : ∀ y ∈ binds, scope.names.lookup y.1 = some .local)
    (h : ∀ g L' h₁, (∀ b o, s.heap.get? b = some o → b ∉ led.map (·.1) → g.get? b = some o) → Fr g L' h₁ (fun y => binds.reverse.lookup y) → News g L' h₁ led → Below A base (env :: outer) g → K.In g → Top p loose mean mg mb g →
      wpAny (model prog w) (A.deeper (envOf qual scope L' f cdv)) (execs body (envOf qual scope L' f cdv))
        (fun fl s' => R (.ok (.ret (match fl with | .ret v => v | _ => .none))) s')
        (fun e s' => wpAny (model prog w) (A.deeper (envOf qual scope L' f cdv)) (leaving (envOf qual scope L' f cdv) e) (fun _ s'' => R (.error e) s'') (fun e' s'' => R (.error e') s'') s')
        { s with heap := h₁, toks := s.toks + binds.length })
    (hco : scope.isCoroutine = false) (hgen : scope.isGenerator = false) (hk : scope.kind = .function)
    (hcell : ∀ x ∈ scope.names, x.2 ≠ .cell) : codeAny (model prog w) A (.call (.ref f) args) R s := by
  have X : K.In s.heap := X₀.keeps F.keep
  obtain ⟨_, BG, st, _⟩ := groundX (R := R) B F N hA hf hke
  refine codeAny_call_def (fd := fnOf name qual params body scope dV kV doc pm an cdv ct) (body := body) (binds := binds) hroom (X _ _ ho) rfl (T.nolimit.keeps F.keep) (codeRec_of X hcd) rfl hbind hcell hloc (fun h₁ hns hk₁ => ?_) hco hgen hk
  exact h _ s.heap.objs.size h₁ (fun b o e hb => hideAll_get _ e hb) ⟨hns, fun b o e => hk₁ b o (of_hideAll _ e), Nat.le_of_eq (hideAll_size _ _)⟩
    (fun p hp => ⟨hk₁ _ _ (N p hp).1, Nat.ne_of_lt (Heap.lt_size (N p hp).1), hideAll_none _ (List.mem_map_of_mem hp)⟩) BG (X₀.keeps st) (T.keeps st)
theorem make_pure {C fI : Addr} {R : Result → Shared → Prop} {rest : List Value} (F : Fr h₀ L s.heap m) (X₀ : K.In h₀) (hm : makesIn K C = true) (hi : findIn K (.ref C) "__init__" = some (some (.ref fI))) (hf : isFn K (.ref fI) = true)
    (h : ∀ x dx h', (∀ b o, s.heap.get? b = some o → h'.get? b = some o) → Fr h₀ L h' m → News h₀ L h' [(x, instObj C dx), (dx, dictOf [] 0)] → s.heap.get? x = none → s.heap.get? dx = none → @LT.lt Nat _ dx x →
      codeAny (model prog w) (A.under (.builtin "type.__call__" ⟨.ref C :: rest, []⟩)) (.call (.ref fI) ⟨.ref x :: rest, []⟩) (InitBack x R) { s with heap := h' }) :
    codeAny (model prog w) A (.call (.ref C) ⟨rest, []⟩) R s := by
  have X := X₀.keeps F.keep
  have hf' : typeIn K (.ref fI) = some (.type "function") := beq_iff_eq.mp hf
  obtain ⟨hh, g, d, t, os⟩ := s
  refine make_core (makes_of X hm) (looks_findIn X hi) (fun self => bind_fn X self hf') (.inl rfl) (h _ hh.objs.size _ (fun b o e => Heap.get?_push_of_some _ (Heap.get?_push_of_some _ e)) ((F.push _).push _) ?_ (Heap.get?_none_of_le (Nat.le_succ _)) (Heap.get?_none_of_le (Nat.le_refl _)) (Nat.lt_succ_self _))
  have := ((News.nil (h₀ := h₀) (L := L) (h := hh)).push F emptyDict).push (F.push _) (instObj C hh.objs.size)
  rwa [Heap.size_push] at this
end

section
variable {w : World} {sc : Scope} {x xi xj : Str} {c : Cx w sc} {ps qs : Names} {news nw : Led} {s : Shared} {h : Heap} {Q : Flow → Shared → Prop} {rest : List Stmt} {px py pz pos : Pos} {e a b : PySem.Expr} {es : List PySem.Expr} {r r₁ r₂ : Tok → Value} {v u : Value} {α β : Type} {g : α → Value} {tl : α → Led} {φ : α → Prop} {ρ : β → List Value} {i j k : Int} {y z : Str} {l D : Addr} {vs us : List Value} {ns ms : List Int} {n : Nat}
theorem spec_new {name qual : Str} {params : Arguments} {body : List Stmt} {scope : Scope} {dV kV doc pm cdv ct oc : Value} {an od : Option Addr} {osl : Array (Option Value)} {f C : Addr} {args : List Value} {binds : Addr → Names} {k : Nat}
    (hm : makesIn (lw_hd.heap_39 w.params) C = true) (hi : findIn (lw_hd.heap_39 w.params) (.ref C) "__init__" = some (some (.ref f))) (hf : isFn (lw_hd.heap_39 w.params) (.ref f) = true)
    (ho : (lw_hd.heap_39 w.params).lookup f = some ⟨oc, od, .func (fnOf name qual params body scope dV kV doc pm an cdv ct), osl⟩) (hcd : codeIn (lw_hd.heap_39 w.params) cdv qual = true)
    (hbind : ∀ s x, BindsTo s (fnOf name qual params body scope dV kV doc pm an cdv ct) ⟨.ref x :: args, []⟩ (binds x)) (hloc : ∀ x, ∀ y ∈ binds x, scope.names.lookup y.1 = some .local)
    (hb : ∀ x, ∀ q ∈ binds x, (binds x).reverse.lookup q.1 = some q.2)
    (hco : scope.isCoroutine = false) (hgen : scope.isGenerator = false) (hk : scope.kind = .function) (hcell : ∀ x ∈ scope.names, x.2 ≠ .cell) (hce : ∀ n, cellsFrom n scope.names [] = [])
    (h : ∀ (c : Cx w scope) (s' : Shared) (Q : Flow → Shared → Prop) (x d : Addr), k ≤ c.kmax → c.St (binds x) [(x, instObj C d), (d, dictOf [] 0)] s' →
      (∀ a s ps news, φ a → g a = .ref x → c.St ps news s → Sub (tl a) news → Q .next s) → c.Do body Q s') : Spec w (k + 2) C args (fun _ => True) g tl φ := by
  intro mean mg mb dp un gd cn cs a ccd cl outer A₀ base h₀ L m s Q E B F X₀ T hke hd hu hpre hret
  refine wpAny_call (make_pure (fI := f) F X₀ hm hi hf fun x' d' h1 hk1 F1 N1 nx nd l2 => ?_)
  refine enter_led (env := envX cn cs L a ccd cl) (outer := outer) B F1 X₀ N1 T rfl rfl hke ho hcd (Nat.lt_of_le_of_lt (Nat.add_le_add_left (Nat.le_add_left 1 (k + 1)) dp) hd) (hbind _ _) (hloc _) (fun gg L' h2 hg F2 N2 B2 X2 T2 => ?_) hco hgen hk hcell
  have hsg : ∀ b o, s.heap.get? b = some o → gg.get? b = some o := fun b o e => hg b o (hk1 b o e) (by
    intro hm
    simp only [List.map_cons, List.map_nil, List.mem_cons, List.not_mem_nil, or_false] at hm
    rcases hm with rfl | rfl
    · rw [nx] at e; cases e
    · rw [nd] at e; cases e)
  rw [show envOf qual scope L' f cdv = envX qual scope L' f cdv (cellsFrom (L' + 1) scope.names []) from by rw [hce]; rfl]
  refine h ⟨_, _, _, _, f, _, _, _, _, _, L', s, _, _, _, k, _, B2, T2, X2, hk, (Nat.lt_of_le_of_lt (Nat.le_of_eq ((Nat.succ_add (dp + 1) k).trans (congrArg Nat.succ (Nat.succ_add dp k)))) hd), (by have h7 : (Code.builtin "type.__call__" { pos := Value.ref C :: args }).cUnits ≤ 8 := Nat.le_of_ble_eq_true rfl; show un + (Code.builtin "type.__call__" { pos := Value.ref C :: args }).cUnits + 3 + 8 * k < cLine; omega), by passes_own⟩ _ _ x' d' (Nat.le_refl _) ⟨⟨h2, _, rfl⟩, ⟨_, F2, fun x v hx => hb _ _ (nget_mem hx)⟩, N2, List.pairwise_cons.mpr ⟨fun p hp => ?_, List.pairwise_singleton ..⟩⟩ ?_
  · rw [List.mem_singleton.mp hp]; exact Nat.ne_of_gt l2
  rintro b s' ps news hb hx ⟨⟨h', k', e⟩, ⟨m', F3, _⟩, N3, D3⟩ hsub
  subst e
  refine ⟨rfl, ?_⟩
  show Q (.ref x') _
  rw [← hx]
  refine hret b h' k' (fun b o e => F3.keep b o (hsg b o e)) ⟨fun p hp => ⟨(N3 p (hsub.1 p hp)).1, ?_⟩, hsub.2 D3⟩ hb
  cases q : s.heap.get? p.1 with
  | none => rfl
  | some o => have := (N3 p (hsub.1 p hp)).2.2; rw [hsg _ _ q] at this; cases this
theorem names_up (hn : ∀ q ∈ qs, nget ps q.1 = some q.2) (hx : qs.all (fun q => !(q.1 == x)) = true) : ∀ q ∈ qs, nget ((x, v) :: ps) q.1 = some q.2 := fun q hq => by
  have h1 : ¬ q.1 = x := by simpa using List.all_eq_true.mp hx q hq
  show (if q.1 = x then _ else _) = _
  rw [if_neg h1]; exact hn q hq
theorem Cx.St.names (H : c.St ((x, v) :: ps) news s) (hn : ∀ q ∈ qs, nget ps q.1 = some q.2) (hx : autoParam (qs.all (fun q => !(q.1 == x)) = true) aut1._auto_1) : c.St ((x, v) :: qs) news s := by
  refine H.sub (List.forall_mem_cons.mpr ⟨?_, names_up hn hx⟩) Sub.refl
  show (if x = x then _ else _) = _
  rw [if_pos rfl]
theorem Cx.St.names2 (H : c.St ((x, v) :: (xi, u) :: ps) news s) (hn : ∀ q ∈ qs, nget ps q.1 = some q.2) (hx : autoParam (qs.all (fun q => !(q.1 == x)) = true) aut1._auto_1) (hy : autoParam (qs.all (fun q => !(q.1 == xi)) = true) aut1._auto_1) (hxy : autoParam (nget [(x, v), (xi, u)] xi = some u) aut1._auto_1) : c.St ((x, v) :: (xi, u) :: qs) news s := by
  refine H.sub (List.forall_mem_cons.mpr ⟨if_pos rfl, List.forall_mem_cons.mpr ⟨?_, names_up (names_up hn hy) hx⟩⟩) Sub.refl
  show (if xi = x then some v else if xi = xi then some u else _) = some u
  have : (if xi = x then some v else if xi = xi then some u else none) = some u := hxy
  rw [if_pos rfl] at *; exact this
noncomputable def AttrOk (w : World) (C : Addr) (x : Str) : Prop := plainGet (lw_hd.heap_39 w.params) C x = true ∧ hasDictIn (lw_hd.heap_39 w.params) C = true ∧ ∃ o, findIn (lw_hd.heap_39 w.params) (.ref C) x = some o ∧ noGet (lw_hd.heap_39 w.params) o = true
theorem AttrOk.mk {C : Addr} {o : Option Value} (h1 : plainGet (lw_hd.heap_39 w.params) C x = true) (h2 : hasDictIn (lw_hd.heap_39 w.params) C = true) (h3 : findIn (lw_hd.heap_39 w.params) (.ref C) x = some o) (h4 : noGet (lw_hd.heap_39 w.params) o = true) : AttrOk w C x := ⟨h1, h2, o, h3, h4⟩
theorem ev_attr {C o : Addr} {ox : Obj} {es : List DictEntry} (H : c.St ps news s) (ha : c.Ev (.Name x px) (KV (.ref o)) s.heap) (I : W.InstAt s.heap o ox C (some (dictOf es n))) (hA : AttrOk w C xi) (hg : getL xi es = some (some v)) (hh : autoParam (handedIn v = true) aut1._auto_1)
    (he : autoParam (∀ env, eval (.Attribute (.Name x px) xi pos) env = (do let o ← eval (.Name x px) env; standAt pos.atName; let r ← holding [o] (getAttr o xi true); letTemporaryGo (.Name x px) o r; pure r)) aut2._auto_1) : c.Ev (.Attribute (.Name x px) xi pos) (KV v) s.heap := fun s' Q E hs hQ => by
  obtain ⟨m, F⟩ := H.frm
  obtain ⟨h1, h2, o', h3, h4⟩ := hA
  exact Attribute_Name_ (ha s' _ _ hs fun _ k => get_own (s := { s' with toks := k }) (hs ▸ F) c.hX (hs ▸ I) h1 h2 h3 h4 hg hh (hQ 0 _)) (he _)
noncomputable def SetOk (w : World) (C : Addr) (x : Str) : Prop := findIn (lw_hd.heap_39 w.params) (.ref C) (Str.ofString "__setattr__") = some (some (.builtin "object.__setattr__")) ∧ plainOver (lw_hd.heap_39 w.params) C = true ∧ takerIn (lw_hd.heap_39 w.params) C x = some none ∧ hasDictIn (lw_hd.heap_39 w.params) C = true
theorem SetOk.mk {C : Addr} (h1 : findIn (lw_hd.heap_39 w.params) (.ref C) (Str.ofString "__setattr__") = some (some (.builtin "object.__setattr__"))) (h2 : plainOver (lw_hd.heap_39 w.params) C = true) (h3 : takerIn (lw_hd.heap_39 w.params) C x = some none) (h4 : hasDictIn (lw_hd.heap_39 w.params) C = true) : SetOk w C x := ⟨h1, h2, h3, h4⟩
section
variable {es : List DictEntry}
structure DA (es : List DictEntry) (l : Names) : Prop where
  len : es.length = l.length
  ref : es.any (·.refKey) = false
  find : ∀ x, (es.find? (·.key.isStr x)).map (·.val) = nget l x
theorem DA.nil : DA [] [] := ⟨rfl, rfl, fun _ => rfl⟩
theorem DA.get {l : Names} (D : DA es l) (x : Str) : getL x es = some (nget l x) := by
  have h := D.find x
  unfold getL
  cases e : es.find? (·.key.isStr x) with
  | none => rw [e] at h; rw [D.ref]; exact congrArg some h
  | some a => rw [e] at h; exact congrArg some h
theorem DA.miss {l : Names} (D : DA es l) (hy : nget l y = none) : es.find? (·.key.isStr y) = none := Option.map_eq_none_iff.mp ((D.find y).trans hy)
theorem DA.push {l : Names} {hsh : Int} {t : Tok} (D : DA es l) (hy : nget l y = none) : DA (es ++ [⟨hsh, .str y t, v⟩]) ((y, v) :: l) := by
  refine ⟨by rw [List.length_append, D.len]; rfl, by rw [List.any_append, D.ref]; rfl, fun x => ?_⟩
  rw [List.find?_append]
  show _ = if x = y then some v else nget l x
  by_cases e : x = y
  · subst e
    rw [D.miss hy, if_pos rfl, List.find?_cons_of_pos (p := fun e : DictEntry => e.key.isStr x) (a := ⟨hsh, .str x t, v⟩) (beq_self_eq_true x)]; rfl
  · rw [if_neg e, ← D.find x, List.find?_cons_of_neg (p := fun e : DictEntry => e.key.isStr x) (a := ⟨hsh, .str y t, v⟩) (fun h => e (eq_of_beq h).symm), List.find?_nil, Option.or_none]
theorem st_attr {C o d : Addr} {l : Names} {f : Obj → Led} {ex : PySem.Expr} (he : c.Mk ex ps news g tl φ s) (hv : nget ps x = some (.ref o)) (hS : SetOk w C xi) (D : DA es l) (hl : nget l xi = none) (hi : (o, instObj C d) ∈ news) (U : ∀ o', Rep d (dictOf es n) o' news (f o')) (hz : l.length ≤ 900)
    (h : ∀ a es' n' s', φ a → DA es' ((xi, g a) :: l) → c.St ps (tl a ++ f (dictOf es' n')) s' → c.Do rest Q s') (hx : autoParam (isLoc sc x = true) aut1._auto_1) (hs : autoParam (∀ env, swapsWith ex (some (.Attribute (.Name x px) xi py)) pos.line env = pure false) aut2._auto_1) : c.Do (.Assign [.Attribute (.Name x px) xi py] ex pos :: rest) Q s := by
  refine wpAny_execs_cons (plainObj_wpAny_Assign_Attribute (he _ fun a s1 ha H1 => ev_loc H1 hv hx s1 _ _ rfl fun _ k => ?_) (hs _))
  obtain ⟨m, F⟩ := H1.frm
  obtain ⟨h1, h2, h3, h4⟩ := hS
  obtain ⟨U1, U2⟩ := Rep.upd ((U (dictOf (es ++ [⟨PyData.keyHash w.params xi, .str xi (k + 1), g a⟩]) (putN xi es n))).app (a := tl a)) H1.nd
  exact set_dict (s := { s1 with toks := k }) F c.hX H1.nw (InstAt.of_news H1.nw (List.mem_append_right _ hi) (List.mem_append_right _ (U (dictOf es n)).mem)) rfl h1 h2 h3 h4 (by rw [D.get]; rfl) (by rw [putL_new fun e he => Bool.eq_false_iff.mpr (List.find?_eq_none.mp (D.miss hl) e he)]) U1 (by rw [List.length_append, D.len]; exact Nat.le_trans (Nat.succ_le_succ hz) (by decide)) fun h' F' N' => h a _ _ _ ha (D.push hl) (H1.step (k := k + 2) F F' N' U2)
end
noncomputable def Cx.EvL (c : Cx w sc) (es : List PySem.Expr) (ρ : β → List Value) (h : Heap) : Prop :=
  ∀ (s : Shared) (Q : List Value → Shared → Prop) (E : Value → Shared → Prop) (pos : Pos), s.heap = h → (∀ b k, Q (ρ b) { s with toks := k }) → wpAny (model PG w) c.A (spliced (backTo pos (starEach es c.env))) Q E s
theorem evl_nil : c.EvL [] (fun _ : Unit => []) h := fun s Q E pos _ hQ => args_nil (hQ () s.toks)
theorem evl_cons (he : c.Ev e r h) (hl : c.EvL es ρ h) (hs : autoParam (∀ env, starEach (e :: es) env = (false, eval e env) :: starEach es env) aut2._auto_1) : c.EvL (e :: es) (fun p : Tok × β => r p.1 :: ρ p.2) h := fun s Q E pos hh hQ =>
  args_cons (he s _ _ hh fun t k => hl _ _ _ pos hh fun b k' => hQ (t, b) k') (hs _)
theorem evl_1 (he : c.Ev e r h) (hs : autoParam (∀ env, starEach [e] env = (false, eval e env) :: starEach [] env) aut2._auto_1) : c.EvL [e] (fun t => [r t]) h := fun s Q E pos hh hQ => args_cons (he s _ _ hh fun t k => args_nil (hQ t k)) (hs _)
theorem mk_list (hl : c.EvL es ρ s.heap) (H : c.St ps news s) (hz : ∀ b, (ρ b).length ≤ sizeLine) : c.Mk (.List es pos) ps news (fun p : β × Addr => .ref p.2) (fun p => [(p.2, listOf (ρ p.1).toArray 0)]) (fun _ => True) s := fun Q hQ =>
  List_ (hl s _ _ pos rfl fun b k => by
    obtain ⟨m, F⟩ := (H.toks k).frm
    have N := (H.toks k).nw
    exact newList_K F N (fun l h' F' N' lt => hQ (b, l) _ trivial ((H.toks k).more F F' N' lt)) (hz b))
noncomputable def Cx.Mi (c : Cx w sc) (e : PySem.Expr) (ps : Names) (news : Led) (ns : List Int) (s : Shared) : Prop := c.Mk e ps news (fun p : Addr × List Value × Nat => .ref p.1) (fun p => [(p.1, listOf p.2.1.toArray p.2.2)]) (fun p => IntsAre p.2.1 ns) s
theorem mi_list (hl : c.EvL es ρ s.heap) (H : c.St ps news s) (hi : ∀ b, IntsAre (ρ b) ns) (hz : ns.length ≤ sizeLine) : c.Mi (.List es pos) ps news ns s := fun Q hQ =>
  mk_list hl H (fun b => by rw [(hi b).length]; exact hz) Q fun p s' _ H' => hQ (p.2, ρ p.1, 0) s' (hi p.1) H'
theorem mi_mul (ha : c.Mi a ps news ns s) (hb : ∀ o s', c.St ps (o :: news) s' → c.Ev b (.int i) s'.heap) (h0 : -2 ^ 63 ≤ i) (h1 : i < 2 ^ 63) (hz : ns.length * i.toNat ≤ 2 ^ 24) : c.Mi (.BinOp a .Mult b pos) ps news (List.replicate i.toNat ns).flatten s := fun Q hQ =>
  wpAny_BinOp (ha _ fun p s' hi H' => hb _ _ H' s' _ _ rfl fun t k => by
    obtain ⟨m, F⟩ := (H'.toks k).frm
    have N := (H'.toks k).nw
    refine KM.mul F N (N.isList (.head _)) hi h0 h1 (by rw [hi.length]; exact hz) fun D h' F' N' lt hi' M _ _ _ _ => hQ (D, _, 0) _ hi' ?_
    exact ((H'.toks k).more F F' N' lt).led (Sub.cons (Sub.skip Sub.refl)))
theorem mi_add (H : c.St ps news s) (ha : c.Ev a (KV (.ref l)) s.heap) (hb : ∀ s', c.St ps news s' → c.Mi b ps news ms s') (hl : ∀ o s', c.St ps (o :: news) s' → IntsAt s'.heap l ns) (hz : ns.length + ms.length ≤ sizeLine) : c.Mi (.BinOp a .Add b pos) ps news (ns ++ ms) s := fun Q hQ =>
  wpAny_BinOp (ha s _ _ rfl fun _ k => hb _ (H.toks k) _ fun p s' hi H' => by
    obtain ⟨m, F⟩ := H'.frm
    have N := H'.nw
    obtain ⟨vs, hvl, hvi⟩ := hl _ _ H'
    exact kmk_add_ints F N hvl (N.isList (.head _)) hvi hi (fun D us h' F' N' lt hi' => hQ (D, us, 0) _ hi' (((H'.toks s'.toks).more F F' N' lt).led (Sub.cons (Sub.skip Sub.refl)))) hz)
theorem IntsAt.of (H : c.St ps news s) (hm : (l, listOf vs.toArray n) ∈ news) (hi : IntsAre vs ns) : IntsAt s.heap l ns := ⟨vs, H.nw.isList hm, hi⟩
theorem ev_call1 {f : PySem.Expr} {id : String} {r' : Tok → Value} (hf : c.Ev f (KV (.builtin id)) h) (ha : c.Ev a r h) (hop : ∀ (s : Shared) (Q E : Value → Shared → Prop) (t : Tok), s.heap = h → (∀ t k, Q (r' t) { s with toks := k }) → wpAny (model PG w) c.A (call (.builtin id) [r t]) Q E s)
    (he : autoParam (∀ env, eval (.Call f [a] [] pos) env = (do let g ← eval f env; callWith pos g [] (backTo pos (starEach [a] env)) (backToKw pos (keywordEach [] env)))) aut2._auto_1)
    (hs : autoParam (∀ env, starEach [a] env = (false, eval a env) :: starEach [] env) aut2._auto_1) : c.Ev (.Call f [a] [] pos) r' h := fun s Q E hh hQ =>
  Call_ (hf s _ _ hh fun _ k => PyProof.Rows.callWith_builtin1 (args_cons (ha _ _ _ hh fun t k => args_nil (hop _ _ _ t hh fun t k => hQ t k)) (hs _)) (hs _) rfl) (he _)
theorem ev_lenI {f : PySem.Expr} (hf : c.Ev f (KV (.builtin "len")) h) (ha : c.Ev a (KV (.ref l)) h) (hl : IntsAt h l ns) (hz : ns.length < 2 ^ 62)
    (he : autoParam (∀ env, eval (.Call f [a] [] pos) env = (do let g ← eval f env; callWith pos g [] (backTo pos (starEach [a] env)) (backToKw pos (keywordEach [] env)))) aut2._auto_1)
    (hs : autoParam (∀ env, starEach [a] env = (false, eval a env) :: starEach [] env) aut2._auto_1) : c.Ev (.Call f [a] [] pos) (.int ns.length) h :=
  ev_call1 hf ha (fun s Q E t hh hQ => by obtain ⟨vs, hl, hi⟩ := hl; exact len_ints_fit (hh ▸ hl) hi hz (hQ _ _)) he hs
theorem ev_itemI (ha : c.Ev a (KV (.ref l)) h) (hb : c.Ev b (.int i) h) (hl : IntsAt h l ns) (h0 : 0 ≤ i) (h1 : i < ns.length) (h2 : i < 2 ^ 63)
    (hs : autoParam (∀ u, subscripted b false (.ref l) (.int i u) = operate [.ref l, .int i u] (getItem (.ref l) (.int i u))) aut3._auto_1) (hg : autoParam (∀ r, letTemporaryGo a (.ref l) r = pure ()) aut3._auto_1) : c.Ev (.Subscript a b pos) (.int (ns.getD i.toNat 0)) h := fun s' Q E hh hQ =>
  Subscript_ (ha s' _ _ hh fun t _ => hb _ _ _ hh fun u k => by obtain ⟨vs, hl, hi⟩ := hl; exact item_list_ints (s := { s' with toks := k }) (hh ▸ hl) hi h0 h1 h2 (fun t => hQ _ _) (hs u) hg)
theorem st_setI {f : Obj → Led} {ex : PySem.Expr} (H : c.St ps news s) (he : c.Ev ex (.int j) s.heap) (ha : c.Ev a (KV (.ref D)) s.heap) (hb : c.Ev b (.int i) s.heap) (hi : IntsAre vs ns) (h0 : 0 ≤ i) (h1 : i < ns.length) (h2 : i < 2 ^ 63) (U : ∀ o', Rep D (listOf vs.toArray n) o' news (f o'))
    (h : ∀ vs' s', IntsAre vs' (ns.set i.toNat j) → c.St ps (f (listOf vs'.toArray n)) s' → c.Do rest Q s') (hs : autoParam (∀ env, swapsWith ex (some (.Subscript a b py)) pos.line env = pure false) aut2._auto_1) : c.Do (.Assign [.Subscript a b py] ex pos :: rest) Q s :=
  wpAny_execs_cons (wpAny_Assign_Subscript (he s _ _ rfl fun t _ => ha _ _ _ rfl fun _ _ => hb _ _ _ rfl fun u k => by
    obtain ⟨m, F⟩ := (H.toks k).frm
    have N := (H.toks k).nw
    have N2 := (H.toks k).nd
    obtain ⟨U1, U2⟩ := (U (listOf (vs.set i.toNat (.int j t)).toArray n)).upd N2
    exact ksa_set F N U1 hi h0 h1 h2 fun h' F' N' hi' _ _ => h _ _ hi' ((H.toks k).step (k := k) F F' N' U2)) (hs _))
theorem do_fin {S : Stmt} (P : Shared → Prop) (fin : ∀ s, P s → c.Do rest Q s) (k : (∀ s, P s → c.Do rest Q s) → c.Do (S :: rest) Q s) : c.Do (S :: rest) Q s := k fin
theorem st_three {x1 x2 x3 : Str} (he : c.Ev e r s.heap) (H : c.St ps news s) (h : ∀ t s', c.St ((x3, r t) :: (x2, r t) :: (x1, r t) :: ps) news s' → c.Do rest Q s') (h1 : autoParam (isLoc sc x1 = true) aut1._auto_1) (h2 : autoParam (isLoc sc x2 = true) aut1._auto_1) (h3 : autoParam (isLoc sc x3 = true) aut1._auto_1)
    (ht : autoParam (∀ env, List.map (fun x : Bool × (Value → Sem Unit) => x.snd) (assignEach [.Name x1 px, .Name x2 py, .Name x3 pz] env) = [assign (.Name x1 px) env, assign (.Name x2 py) env, assign (.Name x3 pz) env]) aut2._auto_1) (hs : autoParam (swappedStores [.Name x1 px, .Name x2 py, .Name x3 pz] e c.env = pure none) aut1._auto_1) : c.Do (.Assign [.Name x1 px, .Name x2 py, .Name x3 pz] e pos :: rest) Q s :=
  wpAny_execs_cons (wpAny_Assign_three (he s _ _ rfl fun t k => PyProof.Rows.assign_Name (do_store (H.toks k) (fun s1 H1 => PyProof.Rows.assign_Name (do_store H1 (fun s2 H2 => PyProof.Rows.assign_Name (do_store H2 (fun s3 H3 => h t s3 H3) h3)) h2)) h1)) (ht _) hs)
theorem st_two {x1 x2 : Str} {k0 k1 : Nat} {p1 p2 : Pos} (ha : c.Ev a r₁ s.heap) (hb : c.Ev b r₂ s.heap) (H : c.St ps news s) (h : ∀ t u s', c.St ((x1, r₁ t) :: (x2, r₂ u) :: ps) news s' → c.Do rest Q s') (h1 : autoParam (isLoc sc x1 = true) aut1._auto_1) (h2 : autoParam (isLoc sc x2 = true) aut1._auto_1)
    (hs : autoParam (∀ env, starEach [a, b] env = (false, eval a env) :: starEach [b] env) aut2._auto_1) (hs' : autoParam (∀ env, starEach [b] env = (false, eval b env) :: starEach [] env) aut2._auto_1)
    (ht : autoParam (∀ env, swapsWithSole [.Tuple [.Name x1 px, .Name x2 py] k0 p1] (.Tuple [a, b] k1 p2) pos.line env = pure false) aut2._auto_1) (hw : autoParam (swappedStores [.Tuple [.Name x1 px, .Name x2 py] k0 p1] (.Tuple [a, b] k1 p2) c.env = pure (some [x1, x2])) aut1._auto_1) : c.Do (.Assign [.Tuple [.Name x1 px, .Name x2 py] k0 p1] (.Tuple [a, b] k1 p2) pos :: rest) Q s := by
  refine wpAny_execs_cons (Assign_Tuple_swapped (Tuple_ (args_cons (ha s _ _ rfl fun t _ => args_cons (hb _ _ _ rfl fun u k => args_nil ?_) (hs' _)) (hs _))) (ht _) hw)
  have Hk := H.toks k
  obtain ⟨m, F⟩ := Hk.frm
  have N := Hk.nw
  refine kup_newTuple F N (fun D h' F' N' lt => ?_) (by rw [sizeLine_eq]; exact Nat.le_of_ble_eq_true rfl)
  have H' := Hk.more (k := k) F F' N' lt
  refine unpackItemsN_ F' N' (N'.isTup (.head _)) rfl rfl fun h'' F'' N'' => ?_
  have H'' := (H'.step (k := k) F' F'' N'' H'.nd).led (Sub.skip Sub.refl)
  exact assignInOrder_cons (bindName_ (do_store H'' (fun s1 H1 => assignInOrder_cons (bindName_ (do_store H1 (fun s2 H2 => assignInOrder_nil (h t u s2 H2)) h1))) h2))
end
end Mine
namespace Mine
theorem fill3 (w : World) : PySem.Challenge.rw_re0147_01.row.prog = PG → lw_hd.heap_39 w.params = lw_hd.heap_39 w.params → True := by k_fill; intros; trivial
section
variable {w : World} {sc : Scope} {x xi xj : Str} {c : Cx w sc} {ps qs : Names} {news nw : Led} {s : Shared} {h : Heap} {Q : Flow → Shared → Prop} {rest : List Stmt} {px py pz pos : Pos} {e a b : PySem.Expr} {es : List PySem.Expr} {r r₁ r₂ : Tok → Value} {v u : Value} {α β : Type} {g : α → Value} {tl : α → Led} {φ : α → Prop} {ρ : β → List Value} {i j k : Int} {y z : Str} {l D : Addr} {vs us : List Value} {ns ms : List Int} {n : Nat}
theorem ev_cls {C : Addr} {mc : Value} (H : c.St ps news s) (ha : c.Ev (.Name x px) (KV (.ref C)) s.heap) (h1 : typeIn (lw_hd.heap_39 w.params) (.ref C) = some mc) (h2 : readsIn (lw_hd.heap_39 w.params) C mc = true) (h3 : findCls (lw_hd.heap_39 w.params) (.ref C) mc xi = some (CFound.val v)) (hh : autoParam (handedIn v = true) aut1._auto_1)
    (he : autoParam (∀ env, eval (.Attribute (.Name x px) xi pos) env = (do let o ← eval (.Name x px) env; standAt pos.atName; let r ← holding [o] (getAttr o xi true); letTemporaryGo (.Name x px) o r; pure r)) aut2._auto_1) : c.Ev (.Attribute (.Name x px) xi pos) (KV v) s.heap := fun s' Q E hs hQ => by
  obtain ⟨m, F⟩ := H.frm
  exact Attribute_Name_ (ha s' _ _ hs fun _ k => cls_val (s := { s' with toks := k }) (hs ▸ F) c.hX h1 h2 h3 hh (hQ 0 _)) (he _)
noncomputable abbrev tupO (vs : List Value) : Obj := { cls := .type "tuple", data := .seq vs.toArray }
theorem mk_tuple {f : PySem.Expr} (H : c.St ps news s) (hf : c.Ev f (KV (.type "tuple")) s.heap) (ha : c.Ev a (KV (.ref l)) s.heap) (hl : s.heap.IsList l vs.toArray) (hz : vs.length ≤ 16384)
    (he : autoParam (∀ env, eval (.Call f [a] [] pos) env = (do let g ← eval f env; callWith pos g [] (backTo pos (starEach [a] env)) (backToKw pos (keywordEach [] env)))) aut2._auto_1)
    (hs : autoParam (∀ env, starEach [a] env = (false, eval a env) :: starEach [] env) aut2._auto_1) : c.Mk (.Call f [a] [] pos) ps news (fun D => .ref D) (fun D => [(D, tupO vs)]) (fun _ => True) s := fun Q hQ =>
  Call_ (hf s _ _ rfl fun _ k => PyProof.Rows.callWith_type1 (args_cons (ha _ _ _ rfl fun t k => args_nil (by
    obtain ⟨m, F⟩ := (H.toks k).frm
    have N := (H.toks k).nw
    exact kde_tupleOf F N hl (by rw [List.size_toArray]; exact hz) rfl fun D h' F' N' lt => hQ D _ trivial ((H.toks k).more F F' N' lt))) (hs _)) (hs _) rfl) (he _)
theorem mk_pair {k0 : Nat} (ha : c.Mk a ps news g tl φ s) (hb : ∀ o s', φ o → c.St ps (tl o ++ news) s' → c.Ev b r s'.heap)
    (hs : autoParam (∀ env, starEach [a, b] env = (false, eval a env) :: starEach [b] env) aut2._auto_1) (hs' : autoParam (∀ env, starEach [b] env = (false, eval b env) :: starEach [] env) aut2._auto_1) : c.Mk (.Tuple [a, b] k0 pos) ps news (fun p : α × Tok × Addr => .ref p.2.2) (fun p => (p.2.2, tupO [g p.1, r p.2.1]) :: tl p.1) (fun p => φ p.1) s := fun Q hQ =>
  Tuple_ (args_cons (ha _ fun o s' ho H' => args_cons (hb o s' ho H' s' _ _ rfl fun t k => args_nil (by
    obtain ⟨m, F⟩ := (H'.toks k).frm
    have N := (H'.toks k).nw
    exact kup_newTuple F N (fun D h' F' N' lt => hQ (o, t, D) _ ho ((H'.toks k).more (k := k) F F' N' lt)) (by rw [sizeLine_eq]; exact Nat.le_of_ble_eq_true rfl))) (hs' _)) (hs _))
end
structure WsS where
  cnt : List Int
  b : Nat
  n : Nat
  nt : Nat
noncomputable def wsGrow (cnt : List Int) (b : Nat) : List Int := if cnt.length ≤ b then cnt ++ (List.replicate ((b : Int) - (cnt.length : Int) + 1).toNat [(0 : Int)]).flatten else cnt
noncomputable def wsTab (s : WsS) : WsS := ⟨(wsGrow s.cnt s.b).set s.b ((wsGrow s.cnt s.b).getD s.b 0 + 1), 0, s.n + 1, s.nt + 1⟩
noncomputable def wsBlank (s : WsS) : WsS := ⟨s.cnt, s.b + 1, s.n + 1, s.nt⟩
noncomputable def wsRun : List Nat → WsS → WsS
  | [], s => s
  | c :: r, s => if c = 32 then wsRun r (wsBlank s) else if c = 9 then wsRun r (wsTab s) else s
theorem flat_zero (k : Nat) : (List.replicate k [(0 : Int)]).flatten = List.replicate k 0 := by
  induction k with
  | zero => rfl
  | succ k ih => rw [List.replicate_succ, List.flatten_cons, ih, List.replicate_succ]; rfl
theorem wsGrow_len (cnt : List Int) (b : Nat) : (wsGrow cnt b).length = if cnt.length ≤ b then b + 1 else cnt.length := by
  unfold wsGrow
  split
  · rw [flat_zero, List.length_append, List.length_replicate]; omega
  · rfl
theorem wsGrow_mem {cnt : List Int} {b : Nat} {i : Int} (h0 : 0 ≤ i) (h : ∀ k ∈ cnt, 0 ≤ k ∧ k ≤ i) : ∀ k ∈ wsGrow cnt b, 0 ≤ k ∧ k ≤ i := by
  intro k hk
  unfold wsGrow at hk
  split at hk
  · rw [flat_zero] at hk
    rcases List.mem_append.mp hk with hk | hk
    · exact h k hk
    · rw [List.eq_of_mem_replicate hk]; omega
  · exact h k hk
theorem wsTab_mem {st : WsS} {i : Int} (h0 : 0 ≤ i) (h : ∀ k ∈ st.cnt, 0 ≤ k ∧ k ≤ i) : ∀ k ∈ (wsTab st).cnt, 0 ≤ k ∧ k ≤ i + 1 := by
  intro k hk
  have hg := wsGrow_mem (b := st.b) h0 h
  rcases List.mem_or_eq_of_mem_set hk with hk | rfl
  · have := hg k hk; omega
  · rw [List.getD_eq_getElem?_getD]
    cases e : (wsGrow st.cnt st.b)[st.b]? with
    | none => simp; omega
    | some v => have := hg v (List.mem_of_getElem? e); simp; omega
theorem wsTab_len (st : WsS) : (wsTab st).cnt.length = if st.cnt.length ≤ st.b then st.b + 1 else st.cnt.length := by
  show ((wsGrow st.cnt st.b).set _ _).length = _
  rw [List.length_set, wsGrow_len]
theorem wsRun_blank {cs : List Nat} {i : Nat} {st : WsS} (h : cs[i]? = some 32) : wsRun (cs.drop i) st = wsRun (cs.drop (i + 1)) (wsBlank st) := by
  obtain ⟨hi, e⟩ := List.getElem?_eq_some_iff.mp h
  rw [List.drop_eq_getElem_cons hi, e]; rfl
theorem wsRun_tab {cs : List Nat} {i : Nat} {st : WsS} (h : cs[i]? = some 9) : wsRun (cs.drop i) st = wsRun (cs.drop (i + 1)) (wsTab st) := by
  obtain ⟨hi, e⟩ := List.getElem?_eq_some_iff.mp h
  rw [List.drop_eq_getElem_cons hi, e]; rfl
theorem wsRun_stop {cs : List Nat} {i c : Nat} {st : WsS} (h : cs[i]? = some c) (h1 : c ≠ 32) (h2 : c ≠ 9) : wsRun (cs.drop i) st = st := by
  obtain ⟨hi, e⟩ := List.getElem?_eq_some_iff.mp h
  rw [List.drop_eq_getElem_cons hi, e]
  show (if c = 32 then _ else if c = 9 then _ else st) = st
  rw [if_neg h1, if_neg h2]
noncomputable def wsZero : WsS := ⟨[], 0, 0, 0⟩

inductive WsAt (h : Heap) (x : Addr) (st : WsS) : Prop
  | mk (dx : Addr) (es : List DictEntry) (n : Nat) (D1 D2 : Addr) (vs : List Value) (tb t1 t2 : Tok) (h1 : h.get? x = some (instObj 90 dx)) (h2 : h.get? dx = some (dictOf es n)) (h3 : getL (Str.ofString "n") es = some (some (.int st.n t1))) (h4 : getL (Str.ofString "nt") es = some (some (.int st.nt t2))) (h5 : getL (Str.ofString "norm") es = some (some (.ref D2))) (h6 : getL (Str.ofString "indent_level") es = some none)
    (h7 : IsTup h D2 #[.ref D1, .int st.b tb]) (h8 : IsTup h D1 vs.toArray) (h9 : IntsAre vs st.cnt)
theorem isTup_of {h : Heap} {D : Addr} {vs : List Value} (e : h.get? D = some (tupO vs)) : IsTup h D vs.toArray := ⟨_, e, rfl, _, rfl⟩
noncomputable def wsN (x ca : Addr) (tS tT : Tok) (st : WsS) (t1 t2 t3 : Tok) : Names := [(Str.ofString "self", .ref x), (Str.ofString "S", .str (Str.ofString " ") tS), (Str.ofString "T", .str (Str.ofString "\t") tT), (Str.ofString "count", .ref ca), (Str.ofString "b", .int st.b t1), (Str.ofString "n", .int st.n t2), (Str.ofString "nt", .int st.nt t3)]
theorem sign_eq {a b : Nat} {t : Str} (ht : t.cps = #[b]) (h : ((⟨#[a]⟩ : Str) == t) = true) : a = b := by
  have := congrArg Str.cps (eq_of_beq h)
  rw [ht] at this
  simpa using this
theorem sign_ne {a b : Nat} {t : Str} (ht : t = ⟨#[b]⟩) (h : ((⟨#[a]⟩ : Str) == t) = false) : a ≠ b := by
  rintro rfl
  rw [ht, beq_self_eq_true] at h; cases h
set_option maxHeartbeats 4000000 in
theorem ws_set (w : World) : SetOk w 90 (Str.ofString "raw") ∧ SetOk w 90 (Str.ofString "n") ∧ SetOk w 90 (Str.ofString "nt") ∧ SetOk w 90 (Str.ofString "norm") ∧ SetOk w 90 (Str.ofString "is_simple") := by
  refine ⟨?_, ?_, ?_, ?_, ?_⟩ <;> (k_dflt (refine' SetOk.mk ?a ?b ?c ?d); (case a => k_is); (case b => k_is); (case c => k_is); (case d => k_is))
theorem ws_raw (w : World) : AttrOk w 90 (Str.ofString "raw") := by
  k_dflt (refine' AttrOk.mk ?a ?b ?c ?d); (case a => k_is); (case b => k_is); (case c => k_is); (case d => k_is)
inductive WsK (z : Str) (x d : Addr) (es : List DictEntry) (n : Nat) (tS tT : Tok) (i : Nat) (ps : Names) (news : Led) : Prop
  | mk (st : WsS) (ca : Addr) (vs : List Value) (nn : Nat) (t1 t2 t3 : Tok) (hcs : IntsAre vs st.cnt) (hrun : wsRun z.cps.toList wsZero = wsRun (z.cps.toList.drop i) st) (hb : st.b ≤ i) (hl : st.cnt.length ≤ i + 1) (hn : ∀ q ∈ wsN x ca tS tT st t1 t2 t3, nget ps q.1 = some q.2) (e : news = [(ca, listOf vs.toArray nn), (x, instObj 90 d), (d, dictOf es n)])
inductive WsE {w : World} {sc : Scope} (c : Cx w sc) (z : Str) (R : Led) (x : Addr) (tS tT : Tok) (s : Shared) : Prop
  | mk (st : WsS) (ca : Addr) (vs : List Value) (nn : Nat) (t1 t2 t3 : Tok) (hcs : IntsAre vs st.cnt) (hl : st.cnt.length ≤ 2000) (hrun : wsRun z.cps.toList wsZero = st) (H : c.St (wsN x ca tS tT st t1 t2 t3) ((ca, listOf vs.toArray nn) :: R) s)
inductive WsG {w : World} {sc : Scope} (c : Cx w sc) (cnt : List Int) (N : Addr → Names) (R : Led) (s : Shared) : Prop
  | mk (ca : Addr) (vs : List Value) (nn : Nat) (hi : IntsAre vs cnt) (H : c.St (N ca) ((ca, listOf vs.toArray nn) :: R) s)
theorem grow_lt (cnt : List Int) {b : Nat} (h : b < 1000) (hl : cnt.length ≤ 1000) : (wsGrow cnt b).length ≤ 1000 ∧ b < (wsGrow cnt b).length := by rw [wsGrow_len]; split <;> omega
theorem grow_yes {cnt : List Int} {b : Nat} (h : (cnt.length : Int) ≤ b) : wsGrow cnt b = cnt ++ (List.replicate ((b : Int) - cnt.length + 1).toNat [(0 : Int)]).flatten := if_pos (Int.ofNat_le.mp h)
theorem grow_no {cnt : List Int} {b : Nat} (h : ¬ (cnt.length : Int) ≤ b) : wsGrow cnt b = cnt := if_neg fun k => h (Int.ofNat_le.mpr k)
theorem grow_by {n b : Nat} (h : b < 1000) (h1 : (n : Int) ≤ b) : -2 ^ 63 ≤ (b : Int) - n + 1 ∧ (b : Int) - n + 1 < 2 ^ 63 ∧ 1 * ((b : Int) - n + 1).toNat ≤ 2 ^ 24 := by
  have h0 := Int.sub_nonneg_of_le h1
  have h2 : (b : Int) - n + 1 ≤ 1000 := Int.le_trans (Int.add_le_add_right (Int.sub_le_self _ (Int.natCast_nonneg n)) 1) (Int.ofNat_le.mpr h)
  exact ⟨Int.le_trans (by decide) (Int.le_add_one h0), Int.lt_of_le_of_lt h2 (by decide), by rw [Nat.one_mul]; exact Int.toNat_le.mpr (Int.le_trans h2 (by decide))⟩
theorem tab_len {st : WsS} {i : Nat} (hb : st.b ≤ i) (hl : st.cnt.length ≤ i + 1) : (wsTab st).cnt.length ≤ i + 1 + 1 := by rw [wsTab_len]; split <;> omega
theorem sign_of {z : Str} {i k : Nat} (h : z.cps[i]? = some k) : z.cps.toList[i]? = some k := by simpa using h
set_option maxHeartbeats 8000000 in
theorem ws_spec (w : World) (z : Str) (tz : Tok) (hlen : z.length ≤ 1000) :
    Spec w 20 90 [.str z tz] (fun _ => True) (fun p : Addr × Led => .ref p.1) (fun p => p.2) (fun p => ∀ h, (∀ q ∈ p.2, h.get? q.1 = some q.2) → WsAt h p.1 (wsRun z.cps.toList wsZero)) := by
  obtain ⟨w1, w2, w3, w4, w5⟩ := ws_set w
  k_dflt (refine' spec_new (f := 45) (binds := fun x => [(Str.ofString "self", .ref x), (Str.ofString "ws", .str z tz)]) ?k1 ?k2 ?k3 ?k6 ?k7 ?k8 ?k9 ?kb ?c2 ?c3 ?c4 ?c5 ?c6 ?_)
  case k1 => k_is
  case k2 => k_is
  case k3 => k_is
  case k6 => k_is
  case k7 => k_is
  case k8 => exact fun _ _ => .of_eq rfl
  case k9 => exact fun _ => kn2 rfl rfl
  case kb => exact fun _ => kn2 rfl rfl
  case c2 => exact rfl
  case c3 => exact rfl
  case c4 => exact rfl
  case c5 => decide
  case c6 => exact fun _ => rfl
  intro c s Q x d hk H X
  refine st_attr ((ev_loc H rfl).mk H) rfl w1 .nil rfl (.head _) (fun _ => .tail .head) (Nat.zero_le _) fun _ es en s _ hes H => ?_
  refine st_two (ev_cls H (ev_glo H (by k_is)) (by k_is) (by k_is) (by k_is)).str (ev_cls H (ev_glo H (by k_is)) (by k_is) (by k_is) (by k_is)).str H fun tS tT s H => ?_
  refine st_mk (mk_list evl_nil H fun _ => Nat.zero_le _) fun p s _ H => ?_
  refine st_three ev_int H fun t s H => ?_
  refine do_fin (WsE c z [(x, instObj 90 d), (d, dictOf es en)] x tS tT) ?_ fun fin => ?_
  · rintro s ⟨st, ca, vs, nn, t1, t2, t3, hcs, hl, hrun, H⟩
    rw [hrun] at X
    refine st_attr ((ev_locI H rfl).mk H) rfl w2 hes rfl (nm 1 rfl) (fun _ => .tail (.tail .head)) (Nat.le_of_ble_eq_true rfl) fun _ es en s _ hes H => ?_
    refine st_attr ((ev_locI H rfl).mk H) rfl w3 hes rfl (nm 1 rfl) (fun _ => .tail (.tail .head)) (Nat.le_of_ble_eq_true rfl) fun _ es en s _ hes H => ?_
    refine st_attr (mk_pair (mk_tuple H (ev_boo H (by k_is) boot_tuple (by decide)) (ev_loc H rfl) (H.nw.isList (.head _)) (by rw [hcs.length]; exact Nat.le_trans hl (by decide))) fun o s' _ H' => ev_locI H' rfl) rfl w4 hes rfl (nm 1 rfl) (fun _ => .tail (.tail .head)) (Nat.le_of_ble_eq_true rfl) fun a es en s _ hes H => ?_
    refine st_attr ((ev_cmp (ev_lenI (ns := st.cnt) (ev_boo H (by k_is) boot_len (by decide)) (ev_loc H rfl) (IntsAt.of H (nm 2 rfl) hcs) (Nat.lt_of_le_of_lt hl (by decide))) ev_int (fun _ _ _ _ _ _ => op_le) rfl).mk H) rfl w5 hes rfl (nm 3 rfl) (fun _ => .tail (.tail (.tail (.tail .head)))) (Nat.le_of_ble_eq_true rfl) fun _ es en s _ hes H => ?_
    exact do_nil (X (x, [(_, _), (_, _), (_, _), (_, _)]) s _ _ (fun h hq => ⟨d, es, en, a.1, a.2.2, vs, _, _, _, hq _ (nm 2 rfl), hq _ (nm 3 rfl), hes.get _, hes.get _, hes.get _, hes.get _, isTup_of (hq _ (.head _)), isTup_of (hq _ (nm 1 rfl)), hcs⟩) rfl H (Sub.cons (Sub.cons (Sub.skip (Sub.cons (Sub.cons Sub.refl))))))
  refine st_forS (WsK z x d es en tS tT) H
    (ev_attr H (ev_loc H rfl) (InstAt.of_news H.nw (nm 1 rfl) (nm 2 rfl)) (ws_raw w) (hes.get _)).str ⟨wsZero, p.2, [], 0, _, _, _, .nil, rfl, Nat.le_refl _, Nat.zero_le _, kn rfl, rfl⟩ ?_ ?_
  · rintro i v s ps _ own Q₂ hi ⟨ch, tc, hc, rfl⟩ ⟨st, ca, vs, nn, t1, t2, t3, hcs, hrun, hb, hl, hn, rfl⟩ H R
    replace H := H.names hn
    replace hc := sign_of hc
    refine st_if (Cx.Ts.tm H (ts_eqS (ev_locS H rfl) (ev_locS H rfl))) ?_ ?_
    · intro h32 s Q₃ H In
      obtain rfl := sign_eq (b := 32) rfl h32
      refine st_loc (ev_add (ev_locI H rfl) ev_int) H fun u s H => st_loc (ev_add (ev_locI H rfl) ev_int) H fun u' s H => ?_
      exact do_nil (In.next _ (do_nil (R.next _ _ _ _ H Sub.refl ⟨wsBlank st, ca, vs, nn, _, _, _, hcs, hrun.trans (wsRun_blank hc), Nat.succ_le_succ hb, Nat.le_succ_of_le hl, kn rfl, rfl⟩)))
    · intro h32 s Q₃ H In
      refine st_if (Cx.Ts.tm H (ts_eqS (ev_locS H rfl) (ev_locS H rfl))) ?_ ?_
      · intro h9 s Q₄ H In'
        obtain rfl := sign_eq (b := 9) rfl h9
        refine st_loc (ev_add (ev_locI H rfl) ev_int) H fun u s H => st_loc (ev_add (ev_locI H rfl) ev_int) H fun u' s H => ?_
        have hb2 : st.b < 1000 := Nat.lt_of_le_of_lt hb (Nat.lt_of_lt_of_le hi hlen)
        have hl2 : st.cnt.length ≤ 1000 := Nat.le_trans hl (Nat.lt_of_lt_of_le hi hlen)
        have hg := grow_lt st.cnt hb2 hl2
        refine do_fin (WsG c (wsGrow st.cnt st.b) (fun ca => wsN x ca tS tT ⟨[], st.b, st.n + 1, st.nt + 1⟩ t1 u u') ([(x, instObj 90 d), (d, dictOf es en)] ++ own)) ?_ fun fin2 => ?_
        · rintro s ⟨ca, vs, nn, hi, H⟩
          have hb3 : (st.b : Int) < (wsGrow st.cnt st.b).length := Int.ofNat_lt.mpr hg.2
          have hb4 : (st.b : Int) < 2 ^ 63 := Int.lt_trans (Int.ofNat_lt.mpr hb2) (by decide)
          refine st_setI H (ev_add (ev_itemI (ns := wsGrow st.cnt st.b) (ev_loc H rfl) (ev_locI H rfl) (IntsAt.of H (.head _) hi) (Int.natCast_nonneg _) hb3 hb4) ev_int) (ev_loc H rfl) (ev_locI H rfl) hi (Int.natCast_nonneg _) hb3 hb4 (fun _ => .head) fun vs' s hi' H => ?_
          refine st_loc ev_int H fun t s H => ?_
          exact do_nil (In'.next _ (do_nil (In.next _ (do_nil (R.next _ _ _ _ H Sub.refl ⟨wsTab st, ca, vs', nn, _, _, _, hi', hrun.trans (wsRun_tab hc), Nat.zero_le _, tab_len hb hl, kn rfl, rfl⟩)))))
        have hl62 : st.cnt.length < 2 ^ 62 := Nat.lt_of_le_of_lt hl2 (by decide)
        refine st_if (Cx.Ts.tm H (ts_ge (ev_locI H rfl) (ev_lenI (ns := st.cnt) (ev_boo H (by k_is) boot_len (by decide)) (ev_loc H rfl) (IntsAt.of H (.head _) hcs) hl62))) ?_ ?_
        · intro hle s Q₅ H In2
          have hle := of_decide_eq_true hle
          have hgb := grow_by hb2 hle
          refine st_mk (mi_add (ns := st.cnt) H (ev_loc H rfl) (fun s' H' => mi_mul (mi_list (evl_1 ev_int) H' (fun b => .cons _ _ .nil) (Nat.le_of_ble_eq_true rfl)) (fun o s' H' => ev_add (ev_sub (ev_locI H' rfl) (ev_lenI (ns := st.cnt) (ev_boo H' (by k_is) boot_len (by decide)) (ev_loc H' rfl) (IntsAt.of H' (nm 1 rfl) hcs) hl62)) ev_int) hgb.1 hgb.2.1 hgb.2.2) (fun o s' H' => IntsAt.of H' (nm 1 rfl) hcs) (by rw [← List.length_append, ← grow_yes hle, sizeLine_eq]; exact Nat.le_trans hg.1 (by decide))) fun p s hp H => ?_
          exact do_nil (In2.next _ (fin2 _ ⟨p.1, p.2.1, p.2.2, grow_yes hle ▸ hp, H.sub (kn rfl) (Sub.cons (Sub.skip Sub.refl))⟩))
        · intro hle s Q₅ H In2
          exact do_nil (In2.next _ (fin2 _ ⟨ca, vs, nn, (grow_no (of_decide_eq_false hle)).symm ▸ hcs, H.sub (kn rfl) Sub.refl⟩))
      · intro h9 s Q₄ H In'
        refine st_brk (In'.brk _ (In.brk _ (R.brk _ (fin _ ⟨st, ca, vs, nn, t1, t2, t3, hcs, ?_, hrun.trans (wsRun_stop hc (sign_ne rfl h32) (sign_ne rfl h9)), H.sub (kn rfl) Sub.left⟩))))
        exact Nat.le_trans hl (Nat.succ_le_succ (Nat.le_trans (Nat.le_of_lt hi) (Nat.le_trans hlen (by decide))))
  · rintro s ps _ ⟨st, ca, vs, nn, t1, t2, t3, hcs, hrun, hb, hl, hn, rfl⟩ H
    exact fin _ ⟨st, ca, vs, nn, t1, t2, t3, hcs, Nat.le_trans hl (Nat.succ_le_succ (Nat.le_trans hlen (by decide))), (hrun.trans (by rw [List.drop_of_length_le (Nat.le_of_eq Array.length_toList)]; rfl)), H.sub hn Sub.refl⟩
end Mine
namespace Mine
theorem fill4 (w : World) : PySem.Challenge.rw_re0147_01.row.prog = PG → lw_hd.heap_39 w.params = lw_hd.heap_39 w.params → True := by k_fill; intros; trivial
theorem fitN {n : Nat} (h : n ≤ 2000) : Builtin.Range.rangeFitsLong (n : Int) = true :=
  Bool.and_eq_true_iff.mpr ⟨decide_eq_true (Int.le_trans (by decide) (Int.natCast_nonneg n)), decide_eq_true (Int.lt_of_le_of_lt (Int.ofNat_le.mpr h) (by decide))⟩
theorem range_nat {a b : Nat} (ha : a ≤ 2000) (hb : b ≤ 2000) : Builtin.Range.small a b 1 = true ∧ Builtin.Range.rangeSize a b 1 = ((b - a : Nat) : Int) := by
  have e : Builtin.Range.rangeSize a b 1 = ((b - a : Nat) : Int) := by
    unfold Builtin.Range.rangeSize
    rw [if_pos (by decide)]
    split
    · rename_i h
      rw [Int.ofNat_sub (Nat.le_of_lt (Int.ofNat_lt.mp h)), Int.ediv_one, Int.sub_add_cancel]
    · rename_i h
      rw [Nat.sub_eq_zero_of_le (Nat.not_lt.mp fun k => h (Int.ofNat_lt.mpr k))]; rfl
  refine ⟨?_, e⟩
  show (Builtin.Range.rangeFitsLong a && Builtin.Range.rangeFitsLong b && Builtin.Range.rangeFitsLong 1 && Builtin.Range.rangeFitsLong (Builtin.Range.rangeSize a b 1) && (Builtin.Range.rangeSize a b 1 == 0 || Builtin.Range.rangeFitsLong ((b : Int) + (1 - 1)))) = true
  rw [e, fitN ha, fitN hb, fitN (Nat.le_trans (Nat.sub_le b a) hb), show (b : Int) + (1 - 1) = b from Int.add_zero _, fitN hb, Bool.or_true]; rfl
section
variable {w : World} {sc : Scope} {x xi xj : Str} {c : Cx w sc} {ps qs : Names} {news nw : Led} {s : Shared} {h : Heap} {Q : Flow → Shared → Prop} {rest body : List Stmt} {px py pz pos : Pos} {e a b : PySem.Expr} {es : List PySem.Expr} {r r₁ r₂ : Tok → Value} {v u : Value} {α β : Type} {g : α → Value} {tl : α → Led} {φ : α → Prop} {ρ : β → List Value} {i j k : Int} {y z : Str} {l D : Addr} {vs us : List Value} {ns ms : List Int} {n m : Nat}
theorem st_unp {x1 x2 : Str} {k0 : Nat} {p1 : Pos} (he : c.Ev e (KV (.ref D)) s.heap) (hT : IsTup s.heap D #[v, u]) (H : c.St ps news s) (h : ∀ s', c.St ((x2, u) :: (x1, v) :: ps) news s' → c.Do rest Q s') (h1 : autoParam (isLoc sc x1 = true) aut1._auto_1) (h2 : autoParam (isLoc sc x2 = true) aut1._auto_1)
    (ht : autoParam (∀ env, swapsWithSole [.Tuple [.Name x1 px, .Name x2 py] k0 p1] e pos.line env = pure false) aut2._auto_1) (hw : autoParam (swappedStores [.Tuple [.Name x1 px, .Name x2 py] k0 p1] e c.env = pure none) aut1._auto_1) : c.Do (.Assign [.Tuple [.Name x1 px, .Name x2 py] k0 p1] e pos :: rest) Q s := by
  refine wpAny_execs_cons (Assign_Tuple (he s _ _ rfl fun _ k => ?_) (ht _) hw)
  obtain ⟨m, F⟩ := (H.toks k).frm
  have N := (H.toks k).nw
  have N2 := (H.toks k).nd
  exact unpackN_ F N hT rfl rfl rfl fun h' F' N' => assignInOrder_cons (PyProof.Rows.assign_Name (do_store ((H.toks k).step (k := k) F F' N' N2) (fun s1 H1 => assignInOrder_cons (PyProof.Rows.assign_Name (do_store H1 (fun s2 H2 => assignInOrder_nil (h s2 H2)) h2))) h1))
theorem ev_lenT {f : PySem.Expr} (hf : c.Ev f (KV (.builtin "len")) h) (ha : c.Ev a (KV (.ref l)) h) (hl : IsTup h l vs.toArray) (hz : vs.length < 2 ^ 62)
    (he : autoParam (∀ env, eval (.Call f [a] [] pos) env = (do let g ← eval f env; callWith pos g [] (backTo pos (starEach [a] env)) (backToKw pos (keywordEach [] env)))) aut2._auto_1)
    (hs : autoParam (∀ env, starEach [a] env = (false, eval a env) :: starEach [] env) aut2._auto_1) : c.Ev (.Call f [a] [] pos) (.int vs.length) h :=
  ev_call1 hf ha (fun s Q E t hh hQ => PyProof.Rows.len_tuple (hh ▸ hl) (by rw [List.size_toArray]; omega) (by rw [List.size_toArray]; exact hQ _ _)) he hs
theorem ev_itemT (ha : c.Ev a (KV (.ref l)) h) (hb : c.Ev b (.int (n : Int)) h) (hl : IsTup h l vs.toArray) (hv : vs[n]? = some v) (h2 : n < 2 ^ 62)
    (hs : autoParam (∀ u, subscripted b false (.ref l) (.int n u) = operate [.ref l, .int n u] (getItem (.ref l) (.int n u))) aut3._auto_1) : c.Ev (.Subscript a b pos) (KV v) h := fun s' Q E hh hQ =>
  Subscript_ (ha s' _ _ hh fun t _ => hb _ _ _ hh fun u k => item_tupleT (s := { s' with toks := k }) (j := n) (hh ▸ hl) (by omega) (by omega) (by
    have h1 := (List.getElem?_eq_some_iff.mp hv).1
    unfold seqIndex?
    simp only [Int.not_lt.mpr (Int.natCast_nonneg n), if_false]
    rw [if_pos (by rw [Bool.and_eq_true, decide_eq_true_eq, decide_eq_true_eq]; omega)]; rfl) hv (hQ 0 _) (hs u))
theorem st_range2 {f : PySem.Expr} {p1 : Pos} (K : Nat → Names → Led → Prop) (H : c.St ps news s) (hf : c.Ev f (KV (.type "range")) s.heap) (ha : c.Ev a (.int (n : Int)) s.heap) (hb : c.Ev b (.int (m : Int)) s.heap) (hn : n ≤ 2000) (hm : m ≤ 2000) (hK : K 0 ps news)
    (turn : ∀ i t s' ps' news' own Q', i < m - n → K i ps' news' → c.St ((x, .int ((n : Int) + (i : Int)) t) :: ps') (news' ++ own) s' → Round c own (K (i + 1)) rest Q Q' → c.Do body Q' s')
    (done : ∀ s' ps' news', K (m - n) ps' news' → c.St ps' news' s' → c.Do rest Q s')
    (hx : autoParam (isLoc sc x = true) aut1._auto_1) (hfo : autoParam (∀ env v, foldedSetIterable (.Call f [a, b] [] p1) env v = pure v) aut4._auto_1)
    (he : autoParam (∀ env, eval (.Call f [a, b] [] p1) env = (do let g ← eval f env; callWith p1 g [] (backTo p1 (starEach [a, b] env)) (backToKw p1 (keywordEach [] env)))) aut2._auto_1)
    (hs : autoParam (∀ env, starEach [a, b] env = (false, eval a env) :: starEach [b] env) aut2._auto_1) (hs' : autoParam (∀ env, starEach [b] env = (false, eval b env) :: starEach [] env) aut2._auto_1) (hpl : autoParam (∀ env, ((backTo p1 (starEach [b] env)).any fun x => x.1) = false) aut2._auto_1) : c.Do (.For (.Name x px) (.Call f [a, b] [] p1) body [] pos :: rest) Q s := by
  refine st_for (P := fun i v => ∃ t, v = .int ((n : Int) + i) t) K H (Call_ (hf s _ _ rfl fun _ k => PyProof.Rows.callWith_type1 (args_cons (ha _ _ _ rfl fun t k => args_cons (hb _ _ _ rfl fun u k => args_nil ?_) (hs' _)) (hs _)) (hs _) (hpl _)) (he _)) (fun i v s' ps' news' own Q' hi hP => by obtain ⟨t, rfl⟩ := hP; exact turn i t s' ps' news' own Q' hi) done hx hfo
  obtain ⟨m9, F⟩ := (H.toks k).frm
  have N := (H.toks k).nw
  have N2 := (H.toks k).nd
  obtain ⟨r1, r2⟩ := range_nat hn hm
  exact range2_rows F N fun h' tk t₁ u₁ v₁ hR F' N' _ => at_range ((H.toks k).step (k := tk) F F' N' N2) hR r1 r2 hK
theorem st_range1 {f : PySem.Expr} {p1 : Pos} (K : Nat → Names → Led → Prop) (H : c.St ps news s) (hf : c.Ev f (KV (.type "range")) s.heap) (ha : c.Ev a (.int (n : Int)) s.heap) (hn : n ≤ 2000) (hK : K 0 ps news)
    (turn : ∀ i t s' ps' news' own Q', i < n → K i ps' news' → c.St ((x, .int (i : Int) t) :: ps') (news' ++ own) s' → Round c own (K (i + 1)) rest Q Q' → c.Do body Q' s')
    (done : ∀ s' ps' news', K n ps' news' → c.St ps' news' s' → c.Do rest Q s')
    (hx : autoParam (isLoc sc x = true) aut1._auto_1) (hfo : autoParam (∀ env v, foldedSetIterable (.Call f [a] [] p1) env v = pure v) aut4._auto_1)
    (he : autoParam (∀ env, eval (.Call f [a] [] p1) env = (do let g ← eval f env; callWith p1 g [] (backTo p1 (starEach [a] env)) (backToKw p1 (keywordEach [] env)))) aut2._auto_1)
    (hs : autoParam (∀ env, starEach [a] env = (false, eval a env) :: starEach [] env) aut2._auto_1) : c.Do (.For (.Name x px) (.Call f [a] [] p1) body [] pos :: rest) Q s := by
  refine st_for (P := fun i v => ∃ t, v = .int ((0 : Int) + i) t) K H (Call_ (hf s _ _ rfl fun _ k => PyProof.Rows.callWith_type1 (args_cons (ha _ _ _ rfl fun t k => args_nil ?_) (hs _)) (hs _) rfl) (he _)) (fun i v s' ps' news' own Q' hi hP => by obtain ⟨t, rfl⟩ := hP; rw [Int.zero_add]; exact turn i t s' ps' news' own Q' hi) done hx hfo
  obtain ⟨m9, F⟩ := (H.toks k).frm
  have N := (H.toks k).nw
  have N2 := (H.toks k).nd
  obtain ⟨r1, r2⟩ := range_nat (Nat.zero_le 2000) hn
  exact range1_rows F N fun h' tk t₁ u₁ v₁ hR F' N' _ => at_range ((H.toks k).step (k := tk) F F' N' N2) hR r1 (Nat.sub_zero n ▸ r2) hK
end
noncomputable def ilK (cnt : List Int) (size : Nat) : Nat → Int
  | 0 => 0
  | k + 1 => ilK cnt size k + (((size + k) / size : Nat) : Int) * cnt.getD (size + k) 0

theorem WsAt.keep {h h' : Heap} {x : Addr} {st : WsS} (W : WsAt h x st) (hk : ∀ b o, h.get? b = some o → h'.get? b = some o) : WsAt h' x st := by
  obtain ⟨dx, es, n, D1, D2, vs, tb, t1, t2, h1, h2, h3, h4, h5, h6, h7, h8, h9⟩ := W
  exact ⟨dx, es, n, D1, D2, vs, tb, t1, t2, hk _ _ h1, hk _ _ h2, h3, h4, h5, h6, IsTup.keeps h7 hk, IsTup.keeps h8 hk, h9⟩
theorem inst_of {h : Heap} {x dx C : Addr} {od : Obj} (h1 : h.get? x = some (instObj C dx)) (h2 : h.get? dx = some od) : W.InstAt h x (instObj C dx) C (some od) := ⟨h1, rfl, rfl, h2⟩
theorem mul_okR {a b : Int} (h1 : -4000 ≤ b) (h2 : b ≤ 4000) : IntMulOk a b := .of_right (intBits_le_64 (by omega) (by omega))
theorem mul_okL {a b : Int} (h1 : -4000 ≤ a) (h2 : a ≤ 4000) : IntMulOk a b := .of_left (intBits_le_64 (by omega) (by omega))
theorem ws_attr (w : World) : AttrOk w 90 (Str.ofString "n") ∧ AttrOk w 90 (Str.ofString "nt") ∧ AttrOk w 90 (Str.ofString "norm") := by
  refine ⟨?_, ?_, ?_⟩ <;> (k_dflt (refine' AttrOk.mk ?a ?b ?c ?d); (case a => k_is); (case b => k_is); (case c => k_is); (case d => k_is))
inductive IndK (x D1 : Addr) (ts tb : Tok) (st : WsS) (size i : Nat) (ps : Names) (news : Led) : Prop
  | mk (t : Tok) (e : news = []) (hn : ∀ q ∈ [(Str.ofString "self", Value.ref x), (Str.ofString "tabsize", .int size ts), (Str.ofString "count", .ref D1), (Str.ofString "trailing", .int st.b tb), (Str.ofString "il", .int (ilK st.cnt size i) t)], nget ps q.1 = some q.2)
theorem ilK_next {cnt : List Int} {size i : Nat} (hi : size + i < cnt.length) : ilK cnt size (i + 1) = ilK cnt size i + ((size : Int) + (i : Int)).fdiv (size : Int) * cnt[size + i] := by
  rw [Int.fdiv_eq_ediv_of_nonneg _ (Int.natCast_nonneg size)]
  show _ + _ * cnt.getD (size + i) 0 = _
  rw [List.getD_eq_getElem?_getD, List.getElem?_eq_getElem hi]; rfl
set_option maxHeartbeats 4000000 in
theorem indent_spec (w : World) (x : Addr) (st : WsS) (size : Nat) (ts : Tok) (hs1 : 1 ≤ size) (hs4 : size ≤ 4) (hlen : st.cnt.length ≤ 2000) (hpos : ∀ k ∈ st.cnt, 0 ≤ k ∧ k ≤ 2000) :
    Spec w 10 59 [.ref x, .int size ts] (fun h => WsAt h x st) (fun t => .int (st.b + size * (ilK st.cnt size (st.cnt.length - size) + st.nt)) t) (fun _ => []) (fun _ => True) := by
  obtain ⟨_, w2, w3⟩ := ws_attr w
  k_dflt (refine' spec_of0 (binds := [(Str.ofString "self", .ref x), (Str.ofString "tabsize", .int size ts)]) (qs := [(Str.ofString "self", .ref x), (Str.ofString "tabsize", .int size ts)]) ?k6 ?k7 ?k8 ?k9 ?kb ?c2 ?c3 ?c4 ?c5 ?_)
  case k6 => k_is
  case k7 => k_is
  case k8 => exact fun _ => .of_eq rfl
  case k9 => exact rfl
  case kb => exact kn2 rfl rfl
  case c2 => exact rfl
  case c3 => exact rfl
  case c4 => exact rfl
  case c5 => exact fun _ => rfl
  intro c s Q hk hW H X
  obtain ⟨dx, es, n, D1, D2, vs, tb, t1, t2, h1, h2, h3, h4, h5, h6, h7, h8, h9⟩ := hW
  have hat : ∀ {ps news s} (H : c.St ps news s), W.InstAt s.heap x (instObj 90 dx) 90 (some (dictOf es n)) := fun H => inst_of (H.keep _ _ h1) (H.keep _ _ h2)
  have hv := h9.length
  refine st_unp (ev_attr H (ev_loc H rfl) (hat H) w3 h5) (IsTup.keeps h7 H.keep) H fun s H => st_loc ev_int H fun t s H => ?_
  have hv2 : vs.length ≤ 2000 := hv ▸ hlen
  have hz : size ≤ 2000 := Nat.le_trans hs4 (by decide)
  have hn0 : (size : Int) ≠ 0 := Int.ne_of_gt (Int.ofNat_lt.mpr hs1)
  refine st_range2 (IndK x D1 ts tb st size) H (ev_boo H (by k_is) boot_range (by decide)) (ev_locI H rfl) (ev_lenT (ev_boo H (by k_is) boot_len (by decide)) (ev_loc H rfl) (IsTup.keeps h8 H.keep) (Nat.lt_of_le_of_lt hv2 (by decide))) hz hv2 ⟨t, rfl, kn rfl⟩ ?_ ?_
  · rintro i t s ps _ own Q₂ hi ⟨tt, rfl, hn⟩ H R
    replace H := H.names hn
    have hi' : size + i < st.cnt.length := by omega
    obtain ⟨tv, hv'⟩ := h9.get (size + i) _ (List.getElem?_eq_getElem hi')
    obtain ⟨hp0, hp1⟩ := hpos _ (List.getElem_mem hi')
    refine st_loc (ev_add (ev_locI H rfl) (ev_mul (ev_div (ev_locI H rfl) (ev_locI H rfl) hn0 (PyProof.noPylong_small (by omega))) (ev_itemT (n := size + i) (ev_loc H rfl) (ev_locI H rfl) (IsTup.keeps h8 H.keep) hv' (Nat.lt_trans hi' (Nat.lt_of_le_of_lt hlen (by decide)))).int (mul_okR (Int.le_trans (by decide) hp0) (Int.le_trans hp1 (by decide))))) H fun t' s H => ?_
    exact do_nil (R.next _ _ [] _ H Sub.refl ⟨t', rfl, by rw [ilK_next hi']; exact kn rfl⟩)
  · rintro s ps _ ⟨tt, rfl, hn⟩ H
    replace H := H.sub hn Sub.refl
    rw [hv] at H
    exact st_ret (ev_add (ev_locI H rfl) (ev_mul (ev_locI H rfl) (ev_add (ev_locI H rfl) (ev_attr H (ev_loc H rfl) (hat H) w2 h4).int) (mul_okL (Int.le_trans (by decide) (Int.natCast_nonneg size)) (Int.le_trans (Int.ofNat_le.mpr hs4) (by decide))))) H fun t s H => X.ret t _ _ _ trivial H Sub.nil
end Mine
namespace Mine
section
variable {w : World} {sc scope : Scope} {x : Str} {c : Cx w sc} {ps : Names} {news led : Led} {s : Shared} {px pos : Pos} {elt iter : PySem.Expr} {v : Value} {cl : List (Str × Addr)} {ms : List Int}
theorem off_three {I C D : Addr} {oI oC oD : Obj} (off : LCg.Off3 I C D led) (ne : (@Ne Nat I C) ∧ (@Ne Nat I D) ∧ (@Ne Nat C D)) (n : ND led) : ND ((I, oI) :: (C, oC) :: (D, oD) :: led) := by
  have h := off.mem
  refine List.pairwise_cons.mpr ⟨fun p hp => ?_, List.pairwise_cons.mpr ⟨fun p hp => ?_, List.pairwise_cons.mpr ⟨fun p hp => Ne.symm (h p hp).2.2, n⟩⟩⟩
  · rcases List.mem_cons.mp hp with rfl | hp
    · exact ne.1
    · rcases List.mem_cons.mp hp with rfl | hp
      · exact ne.2.1
      · exact Ne.symm (h p hp).1
  · rcases List.mem_cons.mp hp with rfl | hp
    · exact ne.2.2
    · exact Ne.symm (h p hp).2.1
theorem off_one {D : Addr} : ∀ {l : Led}, LCg.Off1 D l → ∀ p ∈ l, D ≠ p.1
  | [], _, _, h => nomatch h
  | q :: l, x, p, h => by
    rcases List.mem_cons.mp h with rfl | h
    · exact Ne.symm x.1
    · exact off_one x.2 p h
noncomputable def Cx.Elt (c : Cx w sc) (elt : PySem.Expr) (x : Str) (scope : Scope) (cl : List (Str × Addr)) (ps : Names) (news : Led) (T : Nat → Value → Prop) (ms : List Int) : Prop :=
  ∀ (i : Nat) v k C oC m₂ led s' (E' : Value → Shared → Prop) (Q : Value → Shared → Prop), T i v → ms[i]? = some k → LCg.NsObj oC m₂ → m₂ x = some v → c.St ps led s' → (C, oC) ∈ led → Sub news led →
      (∀ t s'', c.St ps led s'' → (∀ b o, s'.heap.get? b = some o → s''.heap.get? b = some o) → Q (.int k t) s'') → wpAny (model PG w) c.A (eval elt (compEnvC scope cl C c.env)) Q E' s'
theorem comp_key {T : Nat → Value → Prop} {s₁ : Shared} {m : Str → Option Value} {ax : Addr} {its : Array Value} {Fin : List Value → Led → Prop} (e1 : ∃ h k, s₁ = { c.s₀ with heap := h, toks := k }) (hm : ∀ x v, nget ps x = some v → m x = some v) (D1 : ND led) (hsub : Sub news led) (hS : LCg.SrcAt c.h₀ ax its led) (hT : ∀ i v, its[i]? = some v → T i v) (hlen : ms.length = its.size)
    (hel : c.Elt elt x scope cl ps news T ms) (fin : ∀ ys, IntsAre ys ms → Fin ys led) : LCg.CompRest PG w c.A c.h₀ c.L m c.env elt x scope cl s₁ (LCg.SrcAt c.h₀ ax its) (fun i v => its[i]? = some v) Fin its.size 0 [] led := by
  obtain ⟨g1, k1, rfl⟩ := e1
  have mk : ∀ {h tk l}, Fr c.h₀ c.L h m → News c.h₀ c.L h l → ND l → c.St ps l { c.s₀ with heap := h, toks := tk } := fun F N D => ⟨⟨_, _, rfl⟩, ⟨m, F, hm⟩, N, D⟩
  have key : ∀ (j i : Nat) (ys : List Value), i + j = its.size → IntsAre ys (ms.take i) → LCg.CompRest PG w c.A c.h₀ c.L m c.env elt x scope cl { c.s₀ with heap := g1, toks := k1 } (LCg.SrcAt c.h₀ ax its) (fun i v => its[i]? = some v) Fin j i ys led := by
    intro j
    induction j with
    | zero =>
      intro i ys hi hy
      rw [List.take_of_length_le (by omega)] at hy
      exact LCg.CompRest.zero (fin ys hy)
    | succ j ih =>
      intro i ys hi hy
      refine LCg.CompRest.succ fun v I oI C oC D m₂ h tk E' hv hC hx F N off ne => ?_
      have hk : ms[i]? = some ms[i] := List.getElem?_eq_getElem (by omega)
      refine hel i v _ C oC m₂ _ _ E' _ (hT i v hv) hk hC hx (mk F N (off_three off ne D1)) (.tail _ (.head _)) (Sub.trans hsub (Sub.skip (Sub.skip (Sub.skip Sub.refl)))) fun t s'' H'' keep => ?_
      obtain ⟨g3, k3, e3⟩ := H''.base
      have N3 := H''.nw
      subst e3
      refine ⟨g3, k3, led, rfl, F.keeps keep, N3, off, hS, ih (i + 1) _ ((Nat.succ_add_eq_add_succ i j).trans hi) ?_⟩
      rw [List.take_add_one, hk]
      exact IntsAre.append hy (.cons _ t .nil)
  exact key its.size 0 [] (Nat.zero_add _) .nil
noncomputable def Cx.Src (c : Cx w sc) (iter : PySem.Expr) (ps : Names) (news : Led) (n : Nat) (T : Nat → Value → Prop) (s : Shared) : Prop :=
  ∀ m, Fr c.h₀ c.L s.heap m → ∀ Qs : Value → Shared → Prop, (∀ ax its led s', Fr c.h₀ c.L s'.heap m → c.St ps led s' → LCg.SrcAt c.h₀ ax its led → Sub news led → its.size = n → (∀ i v, its[i]? = some v → T i v) → Qs (.ref ax) s') → wpAny (model PG w) c.A (eval iter c.env) Qs c.E s
theorem mi_comp {n : Nat} (T : Nat → Value → Prop) (H : c.St ps news s) (hsrc : c.Src iter ps news n T s) (hz : n ≤ sizeLine) (hlen : ms.length = n) (hel : c.Elt elt x scope cl ps news T ms)
    (hcl : closureFor scope c.env = pure cl) (h1 : ∀ y ∈ scope.names, y.2 ≠ .cell) (h2 : scope.kind = .function) (h3 : ∀ y ∈ scope.names, y.2 = .local → scope.names.lookup y.1 = some .local) (h4 : scope.names.lookup x = some .local)
    (hfo : autoParam (∀ env v, foldedSetIterable iter env v = pure v) aut4._auto_1) : c.Mi (.ListComp elt [⟨.Name x px, iter, [], 0⟩] scope pos) ps news ms s := fun Q hQ => by
  obtain ⟨m, F, hm⟩ := H.fr
  refine LCg.ListComp_U F hcl h1 h2 h3 h4 (hsrc m F _ fun ax its led s₁ F1 H₁ hS hsub hn hT => ?_) (hfo _)
  obtain ⟨g1, k1, e1⟩ := H₁.base
  have N1 := H₁.nw
  have D1 := H₁.nd
  subst hn
  refine .inl ⟨ax, its, led, rfl, rfl, F1, N1, hS, hz, fun s₂ h₂ => ?_⟩
  obtain ⟨g2, rfl⟩ := h₂
  exact comp_key ⟨g2, _, by rw [e1]⟩ hm D1 hsub hS hT hlen hel fun ys hy D h tk F N off => hQ (D, ys, ys.length) _ hy (Cx.St.led ⟨⟨_, _, by rw [e1]⟩, ⟨m, F, hm⟩, N, List.pairwise_cons.mpr ⟨off_one off, D1⟩⟩ (Sub.cons hsub))
theorem st_comp {n : Nat} {y : Str} {py spos : Pos} {rest : List Stmt} {Q : Flow → Shared → Prop} (T : Nat → Value → Prop) (H : c.St ps news s) (hsrc : c.Src iter ps news n T s) (hz : n ≤ sizeLine) (hlen : ms.length = n) (hel : c.Elt elt x scope cl ps news T ms)
    (h : ∀ D ys k s', IntsAre ys ms → c.St ((y, .ref D) :: ps) ((D, listOf ys.toArray k) :: news) s' → c.Do rest Q s')
    (hsw : swapsWith (.ListComp elt [⟨.Name x px, iter, [], 0⟩] scope pos) (some (.Name y py)) spos.line c.env = pure true) (hcl : closureFor scope c.env = pure cl) (h1 : ∀ y ∈ scope.names, y.2 ≠ .cell) (h2 : scope.kind = .function) (h3 : ∀ y ∈ scope.names, y.2 = .local → scope.names.lookup y.1 = some .local) (h4 : scope.names.lookup x = some .local) (hy : isLoc sc y = true)
    (hfo : autoParam (∀ env v, foldedSetIterable iter env v = pure v) aut4._auto_1) : c.Do (.Assign [.Name y py] (.ListComp elt [⟨.Name x px, iter, [], 0⟩] scope pos) spos :: rest) Q s := by
  obtain ⟨m, F, hm⟩ := H.fr
  refine wpAny_execs_cons (LCg.Assign_ListComp_U F rfl hsw hcl h1 h2 h3 h4 (isKind_of hy).1 (by show (sc.kind == .class || (sc.kind == .module && c.L != mainGlobals)) = false; rw [c.hk]; rfl) (hsrc m F _ fun ax its led s₁ F1 H₁ hS hsub hn hT => ?_) (hfo _))
  obtain ⟨g1, k1, e1⟩ := H₁.base
  have N1 := H₁.nw
  have D1 := H₁.nd
  subst hn
  refine .inl ⟨ax, its, led, rfl, rfl, F1, N1, hS, hz, fun s₂ h₂ => ?_⟩
  obtain ⟨g2, rfl⟩ := h₂
  exact comp_key ⟨g2, _, by rw [e1]⟩ hm D1 hsub hS hT hlen hel fun ys hy' D h' tk F N off => h D ys _ _ hy' (Cx.St.led ⟨⟨_, _, by rw [e1]⟩, ⟨_, F, nget_set hm fun _ => rfl⟩, N, List.pairwise_cons.mpr ⟨off_one off, D1⟩⟩ (Sub.cons hsub))
end
end Mine
namespace Mine
theorem fill5 (w : World) : PySem.Challenge.rw_re0147_01.row.prog = PG → lw_hd.heap_39 w.params = lw_hd.heap_39 w.params → True := by k_fill; intros; trivial
theorem ints_cons {us : List Value} {n : Int} {ns : List Int} (h : IntsAre us (n :: ns)) : ∃ t vs, us = .int n t :: vs ∧ IntsAre vs ns := by
  cases h with | cons _ t h => exact ⟨t, _, rfl, h⟩
theorem ints_nil {us : List Value} (h : IntsAre us []) : us = [] := List.length_eq_zero_iff.mp h.length
section
variable {w : World} {sc : Scope} {c : Cx w sc} {ps : Names} {news : Led} {s : Shared} {h : Heap} {Q : Flow → Shared → Prop} {rest : List Stmt} {px py pz pos : Pos} {e a b : PySem.Expr} {i j k : Int}
theorem st_unp3 {x1 x2 x3 : Str} {k0 : Nat} {p1 : Pos} (he : c.Mi e ps news [i, j, k] s) (h : ∀ t1 t2 t3 s', c.St ((x3, .int k t3) :: (x2, .int j t2) :: (x1, .int i t1) :: ps) news s' → c.Do rest Q s') (h1 : autoParam (isLoc sc x1 = true) aut1._auto_1) (h2 : autoParam (isLoc sc x2 = true) aut1._auto_1) (h3 : autoParam (isLoc sc x3 = true) aut1._auto_1)
    (ht : autoParam (∀ env, swapsWithSole [.Tuple [.Name x1 px, .Name x2 py, .Name x3 pz] k0 p1] e pos.line env = pure false) aut2._auto_1) (hw : autoParam (swappedStores [.Tuple [.Name x1 px, .Name x2 py, .Name x3 pz] k0 p1] e c.env = pure none) aut1._auto_1) : c.Do (.Assign [.Tuple [.Name x1 px, .Name x2 py, .Name x3 pz] k0 p1] e pos :: rest) Q s := by
  refine wpAny_execs_cons (Assign_Tuple (he _ fun p s' hp H => ?_) (ht _) hw)
  obtain ⟨D, us, n⟩ := p
  dsimp only at hp H ⊢
  obtain ⟨t1, _, rfl, hp1⟩ := ints_cons hp
  obtain ⟨t2, _, rfl, hp2⟩ := ints_cons hp1
  obtain ⟨t3, _, rfl, hp3⟩ := ints_cons hp2
  obtain rfl := ints_nil hp3
  obtain ⟨m, F⟩ := H.frm
  have N := H.nw
  have N2 := H.nd
  exact kun_list F N (N.isList (.head _)) rfl rfl rfl fun h' F' N' => assignInOrder_cons (PyProof.Rows.assign_Name (do_store ((H.step (k := s'.toks) F F' N' N2).led (Sub.skip Sub.refl)) (fun s1 H1 => assignInOrder_cons (PyProof.Rows.assign_Name (do_store H1 (fun s2 H2 => assignInOrder_cons (PyProof.Rows.assign_Name (do_store H2 (fun s3 H3 => assignInOrder_nil (h t1 t2 t3 s3 H3)) h3))) h2))) h1))
theorem ev_and {p q : Bool} (ha : c.Ev a (KV (.bool p)) h) (hb : c.Ev b (KV (.bool q)) h) : c.Ev (.BoolOp .And [a, b] pos) (KV (.bool (p && q))) h := fun s Q E hh hQ =>
  BoolOp_and (ha s _ _ hh fun _ k => wpAny_truthy_bool (by
    cases p with
    | true => exact BoolOp_one (hb _ _ _ hh fun t k => hQ t k)
    | false => exact hQ 0 k))
theorem src_list {β : Type} {es : List PySem.Expr} {ρ : β → List Value} {ps : Names} (H : c.St ps news s) (hl : c.EvL es ρ s.heap) (hz : ∀ b, (ρ b).length ≤ sizeLine) {m : Str → Option Value} (F : Fr c.h₀ c.L s.heap m) {Qs : Value → Shared → Prop}
    (h : ∀ b D s', Fr c.h₀ c.L s'.heap m → c.St ps ((D, listOf (ρ b).toArray 0) :: news) s' → Qs (.ref D) s') : wpAny (model PG w) c.A (eval (.List es pos) c.env) Qs c.E s :=
  List_ (hl s _ _ pos rfl fun b k => newList_K F (H.toks k).nw (fun l h' F' N' lt => h b l _ F' ((H.toks k).more F F' N' lt)) (hz b))
end
noncomputable def lvl (st : WsS) (size : Nat) : Int := st.b + size * (ilK st.cnt size (st.cnt.length - size) + st.nt)
noncomputable def evenOf (st : WsS) : Bool := ((lvl st 2 - lvl st 1 - st.nt).fmod 2 == 0) && ((lvl st 4 - lvl st 2 - 2 * st.nt).fmod 4 == 0)
theorem MethOk {w : World} : plainGet (lw_hd.heap_39 w.params) 90 (Str.ofString "indent_level") = true ∧ findIn (lw_hd.heap_39 w.params) (.ref 90) (Str.ofString "indent_level") = some (some (.ref 59)) ∧ isFn (lw_hd.heap_39 w.params) (.ref 59) = true ∧ keepIn (lw_hd.heap_39 w.params) (.ref 59) = true := by
  refine ⟨?_, ?_, ?_, ?_⟩
  · k_is
  · k_is
  · k_is
  · k_is
set_option maxHeartbeats 4000000 in
theorem even_spec (w : World) (x : Addr) (st : WsS) (hlen : st.cnt.length ≤ 2000) (hpos : ∀ k ∈ st.cnt, 0 ≤ k ∧ k ≤ 2000) :
    Spec w 40 142 [.ref x] (fun h => WsAt h x st) (fun _ : Unit => .bool (evenOf st)) (fun _ => []) (fun _ => True) := by
  obtain ⟨_, w2, _⟩ := ws_attr w
  obtain ⟨g1, g2, g3, g4⟩ := MethOk (w := w)
  k_dflt (refine' spec_of (binds := [(Str.ofString "known", .ref x)]) (qs := []) ?k6 ?k7 ?k8 ?k9 ?kd ?kb ?c2 ?c3 ?c4 ?_)
  case k6 => k_is
  case k7 => k_is
  case k8 => exact fun _ => .of_eq rfl
  case k9 => exact rfl
  case kd => decide +kernel
  case kb => exact kn0
  case c2 => exact rfl
  case c3 => exact rfl
  case c4 => exact rfl
  intro c s Q cells hk hW H Y X
  obtain ⟨dx, es, n, D1, D2, vs, tb, t1, t2, h1, h2, h3, h4, h5, h6, h7, h8, h9⟩ := id hW
  have hat : ∀ {ps news s} (H : c.St ps news s), W.InstAt s.heap x (instObj 90 dx) 90 (some (dictOf es n)) := fun H => inst_of (H.keep _ _ h1) (H.keep _ _ h2)
  obtain ⟨o, rfl, hd⟩ := CellsAre.one Y
  refine st_unp3 (i := lvl st 1) (j := lvl st 2) (k := lvl st 4) (mi_comp (n := 3) (fun i v => ∃ (k : Nat) (t : Tok), v = .int k t ∧ 1 ≤ k ∧ k ≤ 4 ∧ [lvl st 1, lvl st 2, lvl st 4][i]? = some (lvl st k)) H (fun m F Qs hQ => src_list H (evl_cons ev_int (evl_cons ev_int (evl_1 ev_int))) (fun _ => Nat.le_of_ble_eq_true rfl) F fun b D s' F' H' => hQ D _ _ s' F' H' (.inr ⟨_, .head _, rfl, _, rfl⟩) (Sub.skip Sub.refl) rfl ?_) (Nat.le_of_ble_eq_true rfl) rfl ?_ rfl (by decide) rfl (by decide) rfl) fun u1 u2 u3 s H => ?_
  · intro i v hv
    rcases (by have := (Array.getElem?_eq_some_iff.mp hv).1; exact (by simpa using this : i < 3)) with _
    match i, hv with
    | 0, hv => cases hv; exact ⟨1, _, rfl, by decide, by decide, rfl⟩
    | 1, hv => cases hv; exact ⟨2, _, rfl, by decide, by decide, rfl⟩
    | 2, hv => cases hv; exact ⟨4, _, rfl, by decide, by decide, rfl⟩
  · intro i v k C oC m₂ led s' E' Q' hT hk2 hC hx H' hC' hsub hQ
    obtain ⟨kk, tk, rfl, hk1, hk4, hkk⟩ := hT
    obtain rfl := Option.some.inj (hk2.symm.trans hkk)
    obtain ⟨m, F⟩ := H'.frm
    exact MethodCall_ (kcf_cell H'.nw rfl (hsub.1 _ (.head _)) hd (method_inst F c.hX (hat H') g1 g2 g3 h6 (callWith_K c.hX g4 (args_cons (LCgL.ld_own H'.nw hC' hC hx (args_nil ⟨c.hX.keeps H'.keep, Cx.use (indent_spec w x st kk tk hk1 hk4 hlen hpos) (Nat.le_trans (Nat.le_of_ble_eq_true rfl) hk) H' (hW.keep H'.keep) fun t s'' _ H'' kp => hQ t s'' H'' kp⟩))))))
  · have hc : ∀ {ps s p}, c.St ps [(c.L + 1, o)] s → c.Ev (.Name (Str.ofString "known") p) (KV (.ref x)) s.heap := fun H => ev_cell H rfl (.head _) hd
    exact st_ret (ev_and (ev_cmp (ev_mod (ev_sub (ev_sub (ev_locI H rfl) (ev_locI H rfl)) (ev_attr H (hc H) (hat H) w2 h4).int) ev_int (by decide)) ev_int (fun _ _ _ _ _ _ => op_eq) rfl) (ev_cmp (ev_mod (ev_sub (ev_sub (ev_locI H rfl) (ev_locI H rfl)) (ev_mul ev_int (ev_attr H (hc H) (hat H) w2 h4).int (mul_okL (by decide) (by decide)))) ev_int (by decide)) ev_int (fun _ _ _ _ _ _ => op_eq) rfl)) H fun t s' H' => X.ret () _ _ _ trivial H' Sub.nil
end Mine
namespace Mine
theorem fill6 (w : World) : PySem.Challenge.rw_re0147_01.row.prog = PG → lw_hd.heap_39 w.params = lw_hd.heap_39 w.params → True := by k_fill; intros; trivial
section
variable {prog : Program} {w : World} {A : Around} {E : Value → Shared → Prop} {s : Shared} {h₀ : Heap} {L D : Addr} {m : Str → Option Value} {news news' : List (Addr × Obj)} {v : Value} {r : List Value} {n : Nat} {u : Tok}
theorem item_first {value slice : PySem.Expr} {Q : Value → Shared → Prop} (N : News h₀ L s.heap news) (hm : (D, listOf (v :: r).toArray n) ∈ news) (h : Q v s)
    (hs : autoParam (subscripted slice false (.ref D) (.int 0 u) = operate [.ref D, .int 0 u] (getItem (.ref D) (.int 0 u))) aut6._auto_1) : wpAny (model prog w) A (subscriptTail value slice (.ref D) (.int 0 u)) Q E s :=
  tail_any (News.isList N hm).typeIs slot_list_getitem.lookup (wpAny_getItem_list (News.isList N hm) (by decide) (by decide) (by simp) h) hs
theorem item_last {value slice : PySem.Expr} {vs : List Value} (r : List Value) {Q : Value → Shared → Prop} (N : News h₀ L s.heap news) (hm : (D, listOf vs.toArray n) ∈ news) (hv : vs = r ++ [v]) (hz : r.length ≤ 100000) (h : Q v s)
    (hs : autoParam (subscripted slice false (.ref D) (.int (-1) u) = operate [.ref D, .int (-1) u] (getItem (.ref D) (.int (-1) u))) aut6._auto_1) : wpAny (model prog w) A (subscriptTail value slice (.ref D) (.int (-1) u)) Q E s := by
  subst hv
  have e : (r ++ [v]).toArray.size = r.length + 1 := by simp
  refine tail_any (News.isList N hm).typeIs slot_list_getitem.lookup (wpAny_getItem_list_neg (News.isList N hm) (by decide) (by rw [e]; omega) (by decide) ?_ h) hs
  rw [e, show ((-1 : Int) + ((r.length + 1 : Nat) : Int)).toNat = r.length by omega]
  simp
theorem del_first {Q : Unit → Shared → Prop} (F : Fr h₀ L s.heap m) (N : News h₀ L s.heap news) (U : Upd D (listOf (v :: r).toArray n) (listOf r.toArray (n + 1)) news news') (hz : r.length ≤ 100000)
    (h : ∀ h', Fr h₀ L h' m → News h₀ L h' news' → Q () { s with heap := h' }) : wpAny (model prog w) A (delItem (.ref D) (.int 0 u)) Q E s :=
  ki_del (k := 0) (q := r) F N (by decide) (by unfold seqIndex?; simp) rfl U (by rw [sizeLine_eq]; exact Nat.le_trans (Nat.succ_le_succ hz) (by decide)) h
theorem delL_last (r : List Value) : ki_delL (r ++ [v]) r.length = some r := by
  induction r with
  | nil => rfl
  | cons x r ih =>
    show (match ki_delL (r ++ [v]) r.length with | some q => some (x :: q) | none => none) = some (x :: r)
    rw [ih]
theorem del_last {vs : List Value} (r : List Value) {Q : Unit → Shared → Prop} (F : Fr h₀ L s.heap m) (N : News h₀ L s.heap news) (U : Upd D (listOf vs.toArray n) (listOf r.toArray (n + 1)) news news') (hv : vs = r ++ [v]) (hz : r.length ≤ 100000)
    (h : ∀ h', Fr h₀ L h' m → News h₀ L h' news' → Q () { s with heap := h' }) : wpAny (model prog w) A (delItem (.ref D) (.int (-1) u)) Q E s := by
  subst hv
  exact ki_del (k := r.length) (q := r) F N (by decide) (by unfold seqIndex?; simp; omega) (delL_last r) U (by rw [sizeLine_eq, List.length_append]; exact Nat.le_trans (Nat.succ_le_succ hz) (by decide)) h
end
noncomputable def find4 (x y : Str) (i j : Int) : Int := match Builtin.Str.occurrences x y (fromIndex x.length i) (min (fromIndex x.length j) x.length) 1 with | k :: _ => (k : Int) | [] => -1
theorem gives_find4 (x y : Str) (i j : Int) (t u v z : Tok) : Gives (Builtin.«str.find» ⟨[.str x t, .str y u, .int i v, .int j z], []⟩) (.int (find4 x y i j)) := by
  show Gives (match Builtin.Str.occurrences x y (fromIndex x.length i) (min (fromIndex x.length j) x.length) 1 with | k :: _ => retInt k | [] => (do rule "str.find.not-found"; retInt (-1))) _
  unfold find4
  cases Builtin.Str.occurrences x y (fromIndex x.length i) (min (fromIndex x.length j) x.length) 1 with
  | nil => exact .rule (.of_eq rfl)
  | cons k _ => exact .of_eq rfl
theorem call_find4 {prog : Program} {w : World} {A : Around} {E : Value → Shared → Prop} {s : Shared} {x y : Str} {t u v z : Tok} {i j : Int} {Q : Value → Shared → Prop} (hq : Q (.int (find4 x y i j) s.toks) { s with toks := s.toks + 1 }) :
    wpAny (model prog w) A (call (.builtin "str.find") [.str x t, .str y u, .int i v, .int j z]) Q E s :=
  call_gives F.slot_str_find (typeIs_str _ _ _) F.entry_str_find (F.args_str_find_4 _ _ _ _) (gives_find4 x y i j t u v z) hq
noncomputable def ellLoop (got : Str) (ep : Int) : List Str → Int → Bool
  | [], _ => true
  | w :: r, sp => if find4 got w sp ep < 0 then false else ellLoop got ep r (find4 got w sp ep + (w.length : Int))
theorem ellLoop_stop {got w : Str} {ep sp : Int} {ws : List Str} {i : Nat} (hw : ws[i]? = some w) (h : find4 got w sp ep < 0) : ellLoop got ep (ws.drop i) sp = false := by
  obtain ⟨hi, e⟩ := List.getElem?_eq_some_iff.mp hw
  rw [List.drop_eq_getElem_cons hi, e, ellLoop, if_pos h]
theorem ellLoop_go {got w : Str} {ep sp : Int} {ws : List Str} {i : Nat} (hw : ws[i]? = some w) (h : ¬ find4 got w sp ep < 0) : ellLoop got ep (ws.drop i) sp = ellLoop got ep (ws.drop (i + 1)) (find4 got w sp ep + (w.length : Int)) := by
  obtain ⟨hi, e⟩ := List.getElem?_eq_some_iff.mp hw
  rw [List.drop_eq_getElem_cons hi, e, ellLoop, if_neg h]

noncomputable def ellTail (got : Str) (ep : Int) (ws : List Str) (sp : Int) : Bool := if ep < sp then false else ellLoop got ep ws sp
noncomputable def ellEnd (got : Str) (pre : List Str) (b : Str) (sp : Int) : Bool := if (b.length : Int) ≠ 0 then (if Txt.endswith got b = true then ellTail got ((got.length : Int) - b.length) pre sp else false) else ellTail got got.length (pre ++ [b]) sp
noncomputable def ellM (got a0 : Str) (mid : List Str) (b0 : Str) : Bool := if (a0.length : Int) ≠ 0 then (if Txt.startswith got a0 = true then ellEnd got mid b0 a0.length else false) else ellEnd got (a0 :: mid) b0 0
theorem vals_at {vs : List Value} {l : List (Str × Tok)} {i : Nat} {v : Value} (e : vs = l.map fun p => Value.str p.1 p.2) (hv : vs[i]? = some v) : ∃ w t, (l.map (·.1))[i]? = some w ∧ v = .str w t := by
  subst e
  rw [List.getElem?_map] at hv
  cases h : l[i]? with
  | none => rw [h] at hv; cases hv
  | some p => rw [h] at hv; cases hv; exact ⟨p.1, p.2, by rw [List.getElem?_map, h]; rfl, rfl⟩
theorem split_two {l : List (Str × Tok)} (h : 2 ≤ l.length) : ∃ a ta b tb lm, l = (a, ta) :: (lm ++ [(b, tb)]) := by
  match l, h with
  | (a, ta) :: r, h =>
    have hr : r ≠ [] := by rintro rfl; simp at h
    exact ⟨a, ta, (r.getLast hr).1, (r.getLast hr).2, r.dropLast, by rw [show ((r.getLast hr).1, (r.getLast hr).2) = r.getLast hr from rfl, List.dropLast_concat_getLast hr]⟩

section
variable {w : World} {sc : Scope} {c : Cx w sc} {x xm : Str} {ps : Names} {news : Led} {s : Shared} {h : Heap} {Q : Flow → Shared → Prop} {rest : List Stmt} {px py pz pos : Pos} {e a b d : PySem.Expr} {i j k : Int} {r r₁ r₂ r₃ : Tok → Value} {y z u : Str} {l D : Addr} {v : Value} {vs us : List Value} {n : Nat} {pl : Sem Bool}
theorem ts_notIn (ha : c.Ev a (.str y) h) (hb : c.Ev b (.str z) h) (hm : autoParam (behindInMarks .NotIn b = false) aut1._auto_1) : c.Ts (.Compare a [.NotIn] [b] pos) (!!(Builtin.Str.occurrences z y 0 z.length 1).isEmpty) h := ts_cmp ha hb (fun s Q E t u _ hQ => notIn_str (hQ s.toks)) hm
theorem ts_plain {t : Bool} (ha : c.Ev e (KV (.bool t)) h) (hi : autoParam (∀ env whole, isTrue e env whole = (do let v ← whole; standAt e.pos; holding [v] (truthy v))) aut4._auto_1) : c.Ts e t h := fun s Q E hh hQ => isTrue_plain (ha s _ _ hh fun _ k => wpAny_truthy_bool (hQ k)) (hi _ _)
theorem ts_str (ha : c.Ev e (.str y) h) (hl : (y.length : Int) < 9223372036854775808) (hi : autoParam (∀ env whole, isTrue e env whole = (do let v ← whole; standAt e.pos; holding [v] (truthy v))) aut4._auto_1) : c.Ts e ((y.length : Int) != 0) h := fun s Q E hh hQ => isTrue_plain (ha s _ _ hh fun _ k => SBL.truthy hl (hQ _)) (hi _ _)
theorem ev_lenL {f : PySem.Expr} (hf : c.Ev f (KV (.builtin "len")) h) (ha : c.Ev a (KV (.ref l)) h) (hl : h.IsList l vs.toArray) (hz : vs.length ≤ 100000)
    (he : autoParam (∀ env, eval (.Call f [a] [] pos) env = (do let g ← eval f env; callWith pos g [] (backTo pos (starEach [a] env)) (backToKw pos (keywordEach [] env)))) aut2._auto_1)
    (hs : autoParam (∀ env, starEach [a] env = (false, eval a env) :: starEach [] env) aut2._auto_1) : c.Ev (.Call f [a] [] pos) (.int vs.length) h :=
  ev_call1 hf ha (fun s Q E t hh hQ => by
    have e : vs.toArray.size = vs.length := List.size_toArray ..
    exact call_len_list (hh ▸ hl) (by rw [e]; omega) (by rw [e]; exact hQ _ _)) he hs
theorem ev_lenS {f : PySem.Expr} (hf : c.Ev f (KV (.builtin "len")) h) (ha : c.Ev a (.str y) h) (hl : y.length < 100000)
    (he : autoParam (∀ env, eval (.Call f [a] [] pos) env = (do let g ← eval f env; callWith pos g [] (backTo pos (starEach [a] env)) (backToKw pos (keywordEach [] env)))) aut2._auto_1)
    (hs : autoParam (∀ env, starEach [a] env = (false, eval a env) :: starEach [] env) aut2._auto_1) : c.Ev (.Call f [a] [] pos) (.int y.length) h :=
  ev_call1 hf ha (fun s Q E t hh hQ => PySem.P.len_str (by omega) (hQ _ _)) he hs
theorem ev_meth1 {id : String} {r' : Tok → Value} (hm : ∀ (s : Shared) (t : Tok) (pl : Sem Bool) (Q : Value × List Value → Shared → Prop) (E : Value → Shared → Prop), Q (.builtin id, [.str y t]) s → wpAny (model PG w) c.A (getMethod (.str y t) xm pl) Q E s) (ho : c.Ev a (.str y) h) (hb : c.Ev b r h)
    (hop : ∀ (s : Shared) (Q E : Value → Shared → Prop) (t u : Tok), s.heap = h → (∀ t k, Q (r' t) { s with toks := k }) → wpAny (model PG w) c.A (call (.builtin id) [.str y t, r u]) Q E s)
    (he : autoParam (eval (.Call (.Attribute a xm px) [b] [] pos) c.env = (do let ov ← eval a c.env; standAt px.atName; let __x ← holding [ov] (getMethod ov xm pl); match __x with | (f, first) => callWith pos f first (backTo pos (starEach [b] c.env)) [])) aut1._auto_1)
    (hs : autoParam (∀ env, starEach [b] env = (false, eval b env) :: starEach [] env) aut2._auto_1) : c.Ev (.Call (.Attribute a xm px) [b] [] pos) r' h := fun s Q E hh hQ =>
  MethodCall_ (pl := pl) (ho s _ _ hh fun t k => hm _ _ _ _ _ (callWith_method1 (args_cons (hb _ _ _ hh fun u k => args_nil (hop _ _ _ t u hh fun t k => hQ t k)) (hs _)) (hs _) rfl)) he
theorem st_assert {t : Bool} (ht : c.Ts e t s.heap) (hb : t = true) (H : c.St ps news s) (h : ∀ s', c.St ps news s' → c.Do rest Q s') : c.Do (.Assert e none pos :: rest) Q s :=
  wpAny_execs_cons (wpAny_Assert_new rfl (ht s _ _ rfl fun k => by rw [if_pos hb]; exact h _ (H.toks k)))
theorem ev_first {us : List Value} {k0 : Nat} (H : c.St ps news s) (ha : c.Ev a (KV (.ref D)) s.heap) (hm : (D, listOf (v :: us).toArray n) ∈ news) (hs : autoParam (∀ u, subscripted (.Constant (.int 0) k0 px) false (.ref D) (.int 0 u) = operate [.ref D, .int 0 u] (getItem (.ref D) (.int 0 u))) aut3._auto_1) : c.Ev (.Subscript a (.Constant (.int 0) k0 px) pos) (KV v) s.heap := fun s' Q E hh hQ =>
  Subscript_ (ha s' _ _ hh fun _ _ => wpAny_Constant_int (item_first (h₀ := c.h₀) (L := c.L) (hh ▸ H.nw) hm (hQ 0 _) (hs _)))
theorem ev_last {us : List Value} {k0 : Nat} (H : c.St ps news s) (ha : c.Ev a (KV (.ref D)) s.heap) (hm : (D, listOf (us ++ [v]).toArray n) ∈ news) (hz : us.length ≤ 100000) (hs : autoParam (∀ u, subscripted (.UnaryOp .USub (.Constant (.int 1) k0 px) py) false (.ref D) (.int (-1) u) = operate [.ref D, .int (-1) u] (getItem (.ref D) (.int (-1) u))) aut3._auto_1) : c.Ev (.Subscript a (.UnaryOp .USub (.Constant (.int 1) k0 px) py) pos) (KV v) s.heap := fun s' Q E hh hQ =>
  Subscript_ (ha s' _ _ hh fun _ _ => UnaryOp_ (wpAny_Constant_int (neg_int (item_last us (h₀ := c.h₀) (L := c.L) (hh ▸ H.nw) hm rfl hz (hQ 0 _) (hs _)))))
theorem st_del {o' : Obj} {f : Led} (H : c.St ps news s) (ha : c.Ev a (KV (.ref D)) s.heap) (hb : c.Ev b (.int i) s.heap) (U : Rep D (listOf vs.toArray n) o' news f)
    (hop : ∀ (s : Shared) (t : Tok) (m : Str → Option Value) (Q : Unit → Shared → Prop) (E : Value → Shared → Prop), Fr c.h₀ c.L s.heap m → News c.h₀ c.L s.heap news → Upd D (listOf vs.toArray n) o' news f → (∀ h', Fr c.h₀ c.L h' m → News c.h₀ c.L h' f → Q () { s with heap := h' }) → wpAny (model PG w) c.A (delItem (.ref D) (.int i t)) Q E s)
    (h : ∀ s', c.St ps f s' → c.Do rest Q s') : c.Do (.Delete [.Subscript a b px] pos :: rest) Q s :=
  wpAny_execs_cons (wpAny_Delete (wpAny_deleteEach_cons (delete_Subscript (ha s _ _ rfl fun _ _ => hb _ _ _ rfl fun t k => by
    obtain ⟨m, F⟩ := (H.toks k).frm
    have N := (H.toks k).nw
    have N2 := (H.toks k).nd
    obtain ⟨U1, U2⟩ := U.upd N2
    exact hop _ t m _ _ F N U1 fun h' F' N' => wpAny_deleteEach_nil (h _ ((H.toks k).step (k := k) F F' N' U2))))))
theorem st_split (H : c.St ps news s) (ha : c.Ev a (.str y) s.heap) (hb : c.Ev b (.str z) s.heap) (hz : (z.length == 0) = false) (hl : y.length + 2 ≤ sizeLine)
    (h : ∀ (ws : List (Str × Tok)) D s', ws.map (·.1) = Txt.split y z → (∀ a ∈ ws.map (·.1), a.length ≤ y.length) → c.St ((x, .ref D) :: ps) ((D, listOf (ws.map fun p => Value.str p.1 p.2).toArray 0) :: news) s' → c.Do rest Q s') (hx : autoParam (isLoc sc x = true) aut1._auto_1)
    (he : autoParam (eval (.Call (.Attribute a (Str.ofString "split") px) [b] [] pz) c.env = (do let ov ← eval a c.env; standAt px.atName; let __x ← holding [ov] (getMethod ov (Str.ofString "split") pl); match __x with | (f, first) => callWith pz f first (backTo pz (starEach [b] c.env)) [])) aut1._auto_1)
    (hs : autoParam (∀ env, starEach [b] env = (false, eval b env) :: starEach [] env) aut2._auto_1) (hw : autoParam (∀ env, swapsWith (.Call (.Attribute a (Str.ofString "split") px) [b] [] pz) (some (.Name x py)) pos.line env = pure false) aut2._auto_1) : c.Do (.Assign [.Name x py] (.Call (.Attribute a (Str.ofString "split") px) [b] [] pz) pos :: rest) Q s :=
  wpAny_execs_cons (wpAny_Assign_Name (MethodCall_ (pl := pl) (ha s _ _ rfl fun t k => PySem.GM.split (callWith_method1 (args_cons (hb _ _ _ rfl fun u k => args_nil (by
    obtain ⟨m, F⟩ := (H.toks k).frm
    have N := (H.toks k).nw
    have N2 := (H.toks k).nd
    exact splitN1A F N hz (fun ws h' k' h1 _ h3 _ F' N' => do_store ((H.toks k).more (k := k') F F' N' fun p hp => Heap.lt_size (N p hp).1) (fun s' H' => h ws _ s' h1 h3 H') hx) hl)) (hs _)) (hs _) rfl)) he) (hw _))
theorem ev_find (ho : c.Ev a (.str y) h) (hb : c.Ev b (.str z) h) (hd : c.Ev d (.int i) h) (he : c.Ev e (.int j) h)
    (hev : autoParam (eval (.Call (.Attribute a (Str.ofString "find") px) [b, d, e] [] pos) c.env = (do let ov ← eval a c.env; standAt px.atName; let __x ← holding [ov] (getMethod ov (Str.ofString "find") pl); match __x with | (f, first) => callWith pos f first (backTo pos (starEach [b, d, e] c.env)) [])) aut1._auto_1)
    (hs : autoParam (∀ env, starEach [b, d, e] env = (false, eval b env) :: starEach [d, e] env) aut2._auto_1) (hs2 : autoParam (∀ env, starEach [d, e] env = (false, eval d env) :: starEach [e] env) aut2._auto_1) (hs3 : autoParam (∀ env, starEach [e] env = (false, eval e env) :: starEach [] env) aut2._auto_1) (hpl : autoParam (∀ env, ((backTo pos (starEach [d, e] env)).any fun x => x.1) = false) aut2._auto_1) :
    c.Ev (.Call (.Attribute a (Str.ofString "find") px) [b, d, e] [] pos) (.int (find4 y z i j)) h := fun s Q E hh hQ =>
  MethodCall_ (pl := pl) (ho s _ _ hh fun t k => PySem.GM.find (callWith_method1 (args_cons (hb _ _ _ hh fun u k => args_cons (hd _ _ _ hh fun u2 k => args_cons (he _ _ _ hh fun u3 k => args_nil (call_find4 (hQ _ _))) (hs3 _)) (hs2 _)) (hs _)) (hs _) (hpl _))) hev
end
theorem eq_of_bne {i j : Int} (h : (i != j) = false) : i = j := bne_eq_false_iff_eq.mp h
structure EllP (want got : Str) (b : Bool) : Prop where
  no : (Builtin.Str.occurrences want (Str.ofString "...") 0 want.length 1).isEmpty = true → b = (want == got)
  yes : ∀ a0 mid b0, (Builtin.Str.occurrences want (Str.ofString "...") 0 want.length 1).isEmpty = false → Txt.split want (Str.ofString "...") = a0 :: (mid ++ [b0]) → b = ellM got a0 mid b0
noncomputable abbrev sVals (l : List (Str × Tok)) : List Value := l.map fun p => .str p.1 p.2
theorem s_len (l : List (Str × Tok)) : (sVals l).length = l.length := List.length_map _
noncomputable def ellN (got : Str) (tg : Tok) (D : Addr) (sp e : Int) (t1 t2 : Tok) : Names := [(Str.ofString "got", .str got tg), (Str.ofString "ws", .ref D), (Str.ofString "startpos", .int sp t1), (Str.ofString "endpos", .int e t2)]
inductive EllE {w : World} {sc : Scope} (c : Cx w sc) (got b0 : Str) (tg tb : Tok) (D : Addr) (M : Bool) (s : Shared) : Prop
  | mk (l : List (Str × Tok)) (n : Nat) (sp : Int) (t1 t2 : Tok) (hl : l.length ≤ 3000) (hlo : ∀ p ∈ l, p.1.length ≤ 1000) (hM : M = ellEnd got (l.map (·.1)) b0 sp) (H : c.St (ellN got tg D sp got.length t1 t2) [(D, listOf (sVals l ++ [Value.str b0 tb]).toArray n)] s)
inductive EllT {w : World} {sc : Scope} (c : Cx w sc) (got : Str) (tg : Tok) (D : Addr) (M : Bool) (sp : Int) (t1 : Tok) (s : Shared) : Prop
  | mk (l : List (Str × Tok)) (n : Nat) (e : Int) (t2 : Tok) (hlo : ∀ p ∈ l, p.1.length ≤ 1000) (hM : M = ellTail got e (l.map (·.1)) sp) (H : c.St (ellN got tg D sp e t1 t2) [(D, listOf (sVals l).toArray n)] s)
inductive EllK (got : Str) (tg : Tok) (M : Bool) (e : Int) (t2 : Tok) (ws : List Str) (i : Nat) (ps : Names) (news : Led) : Prop
  | mk (sp : Int) (t1 : Tok) (he : news = []) (hM : M = ellLoop got e (ws.drop i) sp) (hn : ∀ q ∈ [(Str.ofString "got", Value.str got tg), (Str.ofString "startpos", .int sp t1), (Str.ofString "endpos", .int e t2)], nget ps q.1 = some q.2)
theorem ellTail_go {got : Str} {e sp : Int} {ws : List Str} (h : ¬ e < sp) : ellTail got e ws sp = ellLoop got e ws sp := if_neg h
theorem fit5 {n : Nat} (h : n ≤ 3003) : n ≤ 100000 := Nat.le_trans h (by decide)
theorem fit6 {n : Nat} (h : n ≤ 1000) : n < 100000 := Nat.lt_of_le_of_lt h (by decide)
theorem fit7 {n : Nat} (h : n ≤ 1000) : (n : Int) < 9223372036854775808 := Int.lt_of_le_of_lt (Int.ofNat_le.mpr h) (by decide)
theorem piece_len {l : List (Str × Tok)} {w : Str} {i : Nat} (hlo : ∀ p ∈ l, p.1.length ≤ 1000) (h : (l.map (·.1))[i]? = some w) : w.length ≤ 1000 := by
  obtain ⟨p, hp, rfl⟩ := List.mem_map.mp (List.mem_of_getElem? h)
  exact hlo p hp
theorem split_fit {want : Str} {l : List (Str × Tok)} (h1 : want.length ≤ 1000) (h : l.map (·.1) = Txt.split want (Str.ofString "...")) : l.length ≤ 2000 := by
  have := split_weight want (Str.ofString "...") (by decide)
  rw [← h, List.length_map] at this
  omega
theorem ell_fin {want got a0 b0 : Str} {ta tb : Tok} {lm : List (Str × Tok)} (hoc : (Builtin.Str.occurrences want (Str.ofString "...") 0 want.length 1).isEmpty = false) (h : ((a0, ta) :: (lm ++ [(b0, tb)])).map (·.1) = Txt.split want (Str.ofString "...")) : EllP want got (ellM got a0 (lm.map (·.1)) b0) := by
  refine ⟨fun h => absurd (hoc.symm.trans h) (by decide), fun a1 mid b1 _ h2 => ?_⟩
  rw [← h, List.map_cons, List.map_append] at h2
  obtain ⟨rfl, h3⟩ := List.cons.inj h2
  obtain ⟨e1, e2⟩ := List.append_inj' h3 rfl
  rw [← e1, ← (List.cons.inj e2).1]
set_option maxHeartbeats 8000000 in
theorem ell_spec (w : World) (want got : Str) (tw tg : Tok) (h1 : want.length ≤ 1000) (h2 : got.length ≤ 1000)
    (hs2 : (Builtin.Str.occurrences want (Str.ofString "...") 0 want.length 1).isEmpty = false → 2 ≤ (Txt.split want (Str.ofString "...")).length) :
    Spec w 10 28 [.str want tw, .str got tg] (fun _ => True) (fun b : Bool => .bool b) (fun _ => []) (EllP want got) := by
  k_dflt (refine' spec_of0 (binds := [(Str.ofString "want", .str want tw), (Str.ofString "got", .str got tg)]) (qs := [(Str.ofString "want", .str want tw), (Str.ofString "got", .str got tg)]) ?k6 ?k7 ?k8 ?k9 ?kb ?c2 ?c3 ?c4 ?c5 ?_)
  case k6 => k_is
  case k7 => k_is
  case k8 => exact fun _ => .of_eq rfl
  case k9 => exact rfl
  case kb => exact kn2 rfl rfl
  case c2 => exact rfl
  case c3 => exact rfl
  case c4 => exact rfl
  case c5 => exact fun _ => rfl
  intro c s Q hk _ H X
  refine st_if (Cx.Ts.tm H (ts_notIn (ev_glo H (by k_is)).str (ev_locS H rfl))) ?_ ?_
  · intro hb s Q' H In
    rw [Bool.not_not] at hb
    exact st_ret (ev_cmp (ev_locS H rfl) (ev_locS H rfl) (fun _ _ _ _ _ _ => op_eqS) rfl) H fun _ s H => In.ret _ _ (X.ret (want == got) _ _ _ ⟨fun _ => rfl, fun _ _ _ h => absurd (hb.symm.trans h) (by decide)⟩ H Sub.nil)
  intro hoc s Q' H In
  rw [Bool.not_not] at hoc
  refine do_nil (In.next _ ?_)
  clear In Q'
  refine st_split H (ev_locS H rfl) (ev_glo H (by k_is)).str rfl (by rw [sizeLine_eq]; omega) fun l D s hsp hshort H => ?_
  have hl2 : 2 ≤ l.length := by have := hs2 hoc; rwa [← hsp, List.length_map] at this
  have hl1 := split_fit h1 hsp
  have hsh : ∀ p ∈ l, p.1.length ≤ 1000 := fun p hp => Nat.le_trans (hshort _ (List.mem_map_of_mem hp)) h1
  obtain ⟨a0, ta, b0, tb, lm, rfl⟩ := split_two hl2
  have hfin := ell_fin (got := got) hoc hsp

  generalize hM0 : ellM got a0 (lm.map (·.1)) b0 = M at hfin
  obtain ⟨hla, hsh⟩ := List.forall_mem_cons.mp hsh
  replace hla : a0.length ≤ 1000 := hla
  replace hl1 : lm.length + 2 ≤ 2000 := by rw [List.length_cons, List.length_append] at hl1; exact hl1
  have hlb : b0.length ≤ 1000 := hsh (b0, tb) (List.mem_append_right _ (.head _))
  have hlo : ∀ p ∈ lm, p.1.length ≤ 1000 := fun p hp => hsh p (List.mem_append_left _ hp)
  have hlw : (Value.str a0 ta :: (sVals lm ++ [Value.str b0 tb])).length = lm.length + 2 := by rw [List.length_cons, List.length_append, s_len]; rfl
  have hgot := fit6 h2
  have hlm : lm.length + 2 ≤ 3003 := Nat.le_trans hl1 (by decide)
  rw [show ((a0, ta) :: (lm ++ [(b0, tb)])).map (fun p => Value.str p.1 p.2) = Value.str a0 ta :: (sVals lm ++ [Value.str b0 tb]) from by rw [List.map_cons, List.map_append]; rfl] at H
  refine st_assert (ts_ge (ev_lenL (ev_boo H (by k_is) boot_len (by decide)) (ev_loc H rfl) (H.nw.isList (.head _)) (by rw [hlw]; exact fit5 hlm)) ev_int) (by rw [decide_eq_true_eq, hlw]; exact Int.ofNat_le.mpr (Nat.le_add_left 2 _)) H fun s H => ?_
  refine st_two ev_int (ev_lenS (ev_boo H (by k_is) boot_len (by decide)) (ev_locS H rfl) hgot) H fun t1 t2 s H => ?_
  refine st_loc (ev_first H (ev_loc H rfl) (.head _)) H fun _ s H => ?_
  refine do_fin (EllE c got b0 tg tb D M) ?_ fun fin => ?_
  · skip
    rintro s ⟨l1, n, sp, t1, t2, hl1, hlo, hM, H⟩
    have hl5 : (sVals l1).length ≤ 100000 := by rw [s_len]; exact fit5 (Nat.le_trans hl1 (by decide))
    refine st_loc (ev_last H (ev_loc H rfl) (.head _) hl5) H fun _ s H => ?_
    refine do_fin (EllT c got tg D M sp t1) ?_ fun fin => ?_
    · skip
      rintro s ⟨l2, n, e, t2, hlo, hM, H⟩
      refine st_if (Cx.Ts.tm H (ts_gt (ev_locI H rfl) (ev_locI H rfl))) ?_ ?_
      · intro hb s Q' H In
        exact st_ret ev_bool H fun _ s H => In.ret _ _ (X.ret false _ _ _ (hM.trans (if_pos (of_decide_eq_true hb)) ▸ hfin) H Sub.nil)
      intro hb s Q' H In
      refine do_nil (In.next _ ?_)

      refine st_forL (vs := sVals l2) (nw := []) (EllK got tg M e t2 (l2.map fun p : Str × Tok => p.1)) H (ev_loc H rfl) Sub.refl ⟨sp, t1, rfl, hM.trans (ellTail_go (of_decide_eq_false hb)), kn rfl⟩ ?_ ?_
      · rintro i v s ps _ own Q₂ hi hv ⟨sp', t1, rfl, hM, hn⟩ H R
        obtain ⟨wi, twi, hw, rfl⟩ := vals_at rfl hv
        replace H := H.names hn
        refine st_loc (ev_find (ev_locS H rfl) (ev_locS H rfl) (ev_locI H rfl) (ev_locI H rfl)) H fun t s H => ?_
        refine st_if (Cx.Ts.tm H (ts_lt (ev_locI H rfl) ev_int)) ?_ ?_
        · intro hb s Q' H In
          exact st_ret ev_bool H fun _ s H => In.ret _ _ (R.ret _ _ (X.ret false _ _ _ (hM.trans (ellLoop_stop hw (of_decide_eq_true hb)) ▸ hfin) H Sub.nil))
        intro hb s Q' H In
        refine do_nil (In.next _ (st_aug H rfl (ev_lenS (ev_boo H (by k_is) boot_len (by decide)) (ev_locS H rfl) (fit6 (piece_len hlo hw))) (fun s Q E t hQ => iadd_int (hQ _ _)) fun t s H => ?_))
        exact do_nil (R.next _ _ [] _ H Sub.refl ⟨_, t, rfl, hM.trans (ellLoop_go hw (of_decide_eq_false hb)), kn rfl⟩)
      · rintro s ps _ ⟨sp', t1, rfl, hM, hn⟩ H
        rw [List.drop_of_length_le (by rw [List.length_map, List.length_map]; exact Nat.le_refl _)] at hM
        exact st_ret ev_bool H fun _ s H => X.ret true _ _ _ (hM.trans (show ellLoop got e [] sp' = true from rfl) ▸ hfin) H Sub.nil
    refine st_if (Cx.Ts.tm H (ts_str (ev_locS H rfl) (fit7 hlb))) ?_ ?_
    · intro hb s Q' H In
      replace hM := hM.trans (if_pos (bne_iff_ne.mp hb))
      refine st_if (Cx.Ts.tm H (ts_plain (ev_meth1 (fun _ _ _ _ _ h => PySem.GM.endswith h) (ev_locS H rfl) (ev_locS H rfl) fun _ _ _ _ _ _ hQ => PySem.SC.endswith (hQ 0 _)))) ?_ ?_
      · intro he s Q₂ H In'
        refine st_aug H rfl (ev_lenS (ev_boo H (by k_is) boot_len (by decide)) (ev_locS H rfl) (fit6 hlb)) (fun s Q E t hQ => isub_int (hQ _ _)) fun t s H => ?_
        refine st_del H (ev_loc H rfl) (ev_neg ev_int) .head (fun s t m Q E F N U h => del_last (sVals l1) F N U rfl hl5 h) fun s H => ?_
        exact do_nil (In'.next _ (do_nil (In.next _ (fin _ ⟨l1, n + 1, _, t, hlo, hM.trans (if_pos he), H.sub (kn rfl) Sub.refl⟩))))
      · intro he s Q₂ H In'
        exact st_ret ev_bool H fun _ s H => In'.ret _ _ (In.ret _ _ (X.ret false _ _ _ (hM.trans (if_neg (by rw [he]; decide)) ▸ hfin) H Sub.nil))
    · intro hb s Q' H In
      exact do_nil (In.next _ (fin _ ⟨l1 ++ [(b0, tb)], n, _, t2, fun p hp => (List.mem_append.mp hp).elim (hlo p) fun h => List.mem_singleton.mp h ▸ hlb, by rw [List.map_append]; exact hM.trans (if_neg (fun h => h (eq_of_bne hb))), by rw [show sVals (l1 ++ [(b0, tb)]) = sVals l1 ++ [Value.str b0 tb] from List.map_append ..]; exact H.sub (kn rfl) Sub.refl⟩))
  refine st_if (Cx.Ts.tm H (ts_str (ev_locS H rfl) (fit7 hla))) ?_ ?_
  · intro hb s Q' H In
    have hM : M = if Txt.startswith got a0 = true then ellEnd got (lm.map (·.1)) b0 a0.length else false := hM0.symm.trans (if_pos (bne_iff_ne.mp hb))
    refine st_if (Cx.Ts.tm H (ts_plain (ev_meth1 (fun _ _ _ _ _ h => PySem.GM.startswith h) (ev_locS H rfl) (ev_locS H rfl) fun _ _ _ _ _ _ hQ => PySem.SC.startswith (hQ 0 _)))) ?_ ?_
    · intro he s Q₂ H In'
      refine st_loc (ev_lenS (ev_boo H (by k_is) boot_len (by decide)) (ev_locS H rfl) (fit6 hla)) H fun t s H => ?_
      refine st_del H (ev_loc H rfl) ev_int .head (fun s t m Q E F N U h => del_first F N U (Nat.le_of_succ_le (Nat.le_trans (Nat.le_of_eq hlw) (fit5 hlm))) h) fun s H => ?_
      exact do_nil (In'.next _ (do_nil (In.next _ (fin _ ⟨lm, _, _, t, t2, Nat.le_trans (Nat.le_add_right _ 2) (Nat.le_trans hl1 (by decide)), hlo, hM.trans (if_pos he), H.sub (kn rfl) Sub.refl⟩))))
    · intro he s Q₂ H In'
      exact st_ret ev_bool H fun _ s H => In'.ret _ _ (In.ret _ _ (X.ret false _ _ _ (hM.trans (if_neg (by rw [he]; decide)) ▸ hfin) H Sub.nil))
  · intro hb s Q' H In
    exact do_nil (In.next _ (fin _ ⟨(a0, ta) :: lm, 0, 0, t1, t2, Nat.le_trans (Nat.le_succ _) (Nat.le_trans hl1 (by decide)), List.forall_mem_cons.mpr ⟨hla, hlo⟩, hM0.symm.trans (if_neg (fun h => h (eq_of_bne hb))), H.sub (kn rfl) Sub.refl⟩))
end Mine
namespace Mine
section
variable {w : World} {sc : Scope} {c : Cx w sc} {xi xc : Str} {ps : Names} {news : Led} {s : Shared} {Q : Flow → Shared → Prop} {rest body : List Stmt} {pk pv pt pos p1 : Pos} {a f : PySem.Expr} {l : Addr} {vs : List Value} {k0 : Nat}
theorem Cx.St.but {W : List Addr} {h' : Heap} {k : Nat} (H : c.St ps news s) (hk : ∀ b o, b ∉ W → s.heap.get? b = some o → h'.get? b = some o) (hL : c.L ∉ W) (h0 : ∀ b ∈ W, c.h₀.get? b = none) (hn : ∀ q ∈ news, q.1 ∉ W) : c.St ps news { s with heap := h', toks := k } := by
  obtain ⟨m, F, hm⟩ := H.fr
  exact ⟨H.rebase, ⟨m, ⟨F.ns.at' fun o e => hk _ o hL e, fun b o q => hk b o (fun hb => nomatch (h0 b hb).symm.trans q) (F.keep b o q), F.above⟩, hm⟩, fun p hp => ⟨hk _ _ (hn p hp) (H.nw p hp).1, (H.nw p hp).2⟩, H.nd⟩
noncomputable def EnumH (e it l : Addr) (vs : List Value) (i : Nat) (h : Heap) : Prop := (∃ old, IsEnum h e it i old) ∧ h.IsListIter it l i ∧ h.IsList l vs.toArray
inductive EnumI (c : Cx w sc) (e it l : Addr) (vs : List Value) (K : Nat → Names → Led → Prop) (k : Nat) (s : Shared) : Prop
  | mk (i : Nat) (ps : Names) (nw : Led) (hi : i ≤ vs.length) (hk : k = vs.length + 1 - i) (hS : EnumH e it l vs i s.heap) (H : c.St ps nw s) (off : ∀ q ∈ nw, q.1 ∉ [e, it]) (hK : K i ps nw)
noncomputable def EnumQ (c : Cx w sc) (rest : List Stmt) (Q : Flow → Shared → Prop) (I : Shared → Prop) (f : Flow) (s : Shared) : Prop := match f with
  | .ret v => Q (.ret v) s
  | .brk => c.Do rest Q s
  | _ => I s
theorem not_in2 {a e it : Addr} (h1 : (@Ne Nat a e)) (h2 : (@Ne Nat a it)) : a ∉ [e, it] := fun h => (List.mem_cons.mp h).elim h1 fun h => h2 (List.mem_singleton.mp h)
theorem enum_own {e it : Addr} {i : Nat} (x1 : (@Ne Nat e it)) (hLW : c.L ∉ [e, it]) (hW : ∀ b ∈ [e, it], c.h₀.get? b = none) (hl : c.h₀.IsList l vs.toArray) (hS : EnumH e it l vs i s.heap) (H : c.St ps news s) (off : ∀ q ∈ news, q.1 ∉ [e, it]) :
    ∃ own, c.St ps (news ++ own) s ∧ ∀ s' ps' nx led, c.St ps' led s' → Sub (nx ++ own) led → EnumH e it l vs i s'.heap ∧ (∀ q ∈ nx, q.1 ∉ [e, it]) ∧ c.St ps' nx s' := by
  obtain ⟨⟨old, en⟩, ⟨oi, hoi, li⟩, ls⟩ := hS
  obtain ⟨oe, hoe⟩ : ∃ oe, s.heap.get? e = some oe := ⟨_, en⟩
  have mem : ∀ p ∈ [(e, oe), (it, oi)], p.1 ∈ [e, it] ∧ s.heap.get? p.1 = some p.2 := kn2 ⟨.head _, hoe⟩ ⟨.tail _ (.head _), hoi⟩
  refine ⟨[(e, oe), (it, oi)], ⟨H.base, H.fr, fun p hp => (List.mem_append.mp hp).elim (H.nw p) fun hp => ⟨(mem p hp).2, fun h => hLW (h ▸ (mem p hp).1), hW _ (mem p hp).1⟩, List.pairwise_append.mpr ⟨H.nd, List.pairwise_cons.mpr ⟨kn1 x1, List.pairwise_singleton ..⟩, fun q hq p hp h => off q hq (h ▸ (mem p hp).1)⟩⟩, fun s' ps' nx led H' hs => ?_⟩
  have get : ∀ p ∈ [(e, oe), (it, oi)], s'.heap.get? p.1 = some p.2 := fun p hp => (H'.nw p (hs.1 p (List.mem_append_right _ hp))).1
  have d := (List.pairwise_append.mp (hs.2 H'.nd)).2.2
  refine ⟨⟨⟨old, (get _ (.head _)).trans (hoe.symm.trans en)⟩, ⟨oi, get _ (.tail _ (.head _)), li⟩, hl.at fun o q => H'.keep _ o q⟩, fun q hq => not_in2 (d q hq _ (.head _)) (d q hq _ (.tail _ (.head _))), H'.led (Sub.trans Sub.left hs)⟩
theorem enum_put {T : Addr} {u v : Value} {Qu : Unit → Shared → Prop} {E : Value → Shared → Prop} (H : c.St ps news s) (hT : s.heap.IsTuple T #[u, v]) (hxi : isLoc sc xi = true) (hxc : isLoc sc xc = true)
    (h : ∀ s', (∀ b o, b ≠ c.L → s.heap.get? b = some o → s'.heap.get? b = some o) → c.St ((xc, v) :: (xi, u) :: ps) news s' → Qu () s') : wpAny (model PG w) c.A (assign (.Tuple [.Name xi pk, .Name xc pv] k0 pt) c.env (.ref T)) Qu E s := by
  have hp : (c.env.scope.kind == .class || (c.env.scope.kind == .module && c.env.locals != c.env.globals)) = false := by show (sc.kind == .class || (sc.kind == .module && c.L != mainGlobals)) = false; rw [c.hk]; rfl
  refine wpAny_assign_Tuple rfl hT rfl rfl fun h₃ hx₃ => ?_
  have up : ∀ b o, s.heap.get? b = some o → h₃.get? b = some o := fun b o q => hx₃ b o (Nat.ne_of_lt (Heap.lt_size q)) q
  have H3 := H.but (W := []) (h' := h₃) (k := s.toks) (fun b o _ q => up b o q) (fun h => nomatch h) (fun _ h => nomatch h) (fun _ _ h => nomatch h)
  obtain ⟨m3, F₃⟩ := H3.frm
  show wpAny _ c.A (do holding [v] (assign (.Name xi pk) c.env u); do holding [] (assign (.Name xc pv) c.env v); pure ()) _ _ _
  refine wpAny_bind (wpAny_holding (wpAny_assign_Name (wpAny_storeName_local (isKind_of hxi).1 F₃.ns (fun h₄ hn₄ hs₄ => ?_) hp)))
  have F₄ := F₃.set hn₄ hs₄
  have H4 := H3.put (k := s.toks + 1) F₃ F₄ (H3.nw.set hs₄)
  refine wpAny_bind (wpAny_holding (wpAny_assign_Name (wpAny_storeName_local (isKind_of hxc).1 F₄.ns (fun h₅ hn₅ hs₅ => wpAny_pure ?_) hp)))
  exact h _ (fun b o hb q => hs₅.extBut b o hb (hs₄.extBut b o hb (up b o q))) (H4.put (k := s.toks + 1 + 1) F₄ (F₄.set hn₅ hs₅) (H4.nw.set hs₅))
theorem st_enum (K : Nat → Names → Led → Prop) (H : c.St ps news s) (hf : c.Ev f (KV (.type "enumerate")) s.heap) (ha : c.Ev a (KV (.ref l)) s.heap) (hl : c.h₀.IsList l vs.toArray) (hK : K 0 ps news)
    (turn : ∀ i t v s' ps' news' own Q', vs[i]? = some v → K i ps' news' → c.St ((xc, v) :: (xi, .int i t) :: ps') (news' ++ own) s' → Round c own (K (i + 1)) rest Q Q' → c.Do body Q' s')
    (done : ∀ s' ps' news', K vs.length ps' news' → c.St ps' news' s' → c.Do rest Q s')
    (hxi : autoParam (isLoc sc xi = true) aut1._auto_1) (hxc : autoParam (isLoc sc xc = true) aut1._auto_1) (hfo : autoParam (∀ env v, foldedSetIterable (.Call f [a] [] p1) env v = pure v) aut4._auto_1)
    (he : autoParam (∀ env, eval (.Call f [a] [] p1) env = (do let g ← eval f env; callWith p1 g [] (backTo p1 (starEach [a] env)) (backToKw p1 (keywordEach [] env)))) aut2._auto_1)
    (hs : autoParam (∀ env, starEach [a] env = (false, eval a env) :: starEach [] env) aut2._auto_1) : c.Do (.For (.Tuple [.Name xi pk, .Name xc pv] k0 pt) (.Call f [a] [] p1) body [] pos :: rest) Q s := by
  refine wpAny_execs_cons (wpAny_For (Call_ (hf s _ _ rfl fun _ k => PyProof.Rows.callWith_type1 (args_cons (ha _ _ _ rfl fun t k => args_nil ?_) (hs _)) (hs _) rfl) (he _)) (hfo _))
  have Hk := H.toks k
  clear H hf ha
  generalize ({ s with toks := k } : Shared) = s at Hk
  obtain ⟨ol, hol, _⟩ := id hl
  obtain ⟨n1, n2, n3⟩ := next_new Hk
  obtain ⟨m9, F9⟩ := Hk.frm
  have hLl : c.L ≠ l := fun e => absurd (Heap.lt_size hol) (e ▸ Nat.not_lt.mpr F9.above)
  have n1' : c.h₀.get? (s.heap.objs.size + 1) = none := Heap.get?_none_of_le (Nat.le_succ_of_le (Nat.le_of_lt (Nat.lt_of_le_of_lt F9.above F9.ns.lt)))
  have n2' : c.L ≠ s.heap.objs.size + 1 := Nat.ne_of_lt (Nat.lt_succ_of_lt F9.ns.lt)
  have n3' : ∀ q ∈ news, q.1 ≠ s.heap.objs.size + 1 := fun q hq => Nat.ne_of_lt (Nat.lt_succ_of_lt (Heap.lt_size (Hk.nw q hq).1))
  refine enum_rows F9 (hl.at fun o q => F9.keep _ o q) fun h9 en li ls F8 k9 x1 x2 x3 _ _ => wpAny_pyIter_enum en ?_
  generalize s.heap.objs.size + 1 = e at *
  generalize s.heap.objs.size = it at *
  have W := WalksT.enumerate (prog := PG) (w := w) (A := c.A) rfl e it l x1 x2 x3 vs.toArray
  rw [List.size_toArray] at W
  have hW : ∀ b ∈ [e, it], c.h₀.get? b = none := kn2 n1' n1
  have hLW : c.L ∉ [e, it] := not_in2 n2' n2
  have hlL : ∀ b ∈ [e, it, l], b ≠ c.L := kn3 (Ne.symm n2') (Ne.symm n2) (Ne.symm hLl)
  have h8 : c.St ps news { s with heap := h9 } := Hk.step (k := s.toks) F9 F8 (fun p hp => ⟨k9 _ _ (Hk.nw p hp).1, (Hk.nw p hp).2⟩) Hk.nd
  refine codeAny_forLoop_any (EnumI c e it l vs K) ?_ (vs.length + 1) ⟨0, ps, news, Nat.zero_le _, rfl, ⟨⟨_, en⟩, li, ls⟩, h8, fun q hq => not_in2 (n3' q hq) (n3 q hq), hK⟩
  clear h8 Hk n3 n3' F9 F8 k9 en li ls n1 n2 n1' n2' hLl hK
  rintro k s' ⟨i, ps', nw, hi, rfl, hS, H', off, hK'⟩
  rcases Nat.lt_or_ge i vs.length with hlt | hge
  · refine W.item i _ _ _ hlt hS fun T vals h₁ tk₁ hPt _ hT hMid hk₁ => ?_
    obtain ⟨t, x, hx, rfl⟩ := hPt
    refine W.go _ k0 pt i T _ _ _ hMid fun h₂ hst₂ hk₂ => ?_
    refine enum_put ((H'.but (k := tk₁) hk₁ hLW hW off).but (k := tk₁) hk₂ hLW hW off) (hT.at fun o q => hk₂ T o (W.apart i T h₁ hMid) q) hxi hxc fun s5 keep H5 => ?_
    obtain ⟨own, H6, back⟩ := enum_own x1 hLW hW hl (W.frame _ _ s5.heap hst₂ fun b hb o q => keep b o (hlL b hb) q) H5 off
    exact wpAny_mono (wpAny_passesOwn c.own (turn i t x s5 ps' nw own (EnumQ c rest Q fun s => ∃ m, m < vs.length + 1 - i ∧ EnumI c e it l vs K m s) (by simpa using hx) hK' H6 ⟨fun s6 ps6 nx led H6 hs6 hK6 => (let ⟨b1, b2, b3⟩ := back s6 ps6 nx led H6 hs6; ⟨vs.length + 1 - (i + 1), Nat.sub_lt_sub_left (Nat.lt_succ_of_lt hlt) (Nat.lt_succ_self i), i + 1, ps6, nx, hlt, rfl, b1, b3, b2, hK6⟩), fun _ _ h => h, fun _ h => h⟩)) (fun f s₃ h₆ => by cases f <;> exact h₆) fun _ _ q => q
  · have hin : i = vs.length := Nat.le_antisymm hi hge
    subst hin
    exact W.done _ _ _ hS fun h₁ tk₁ hk₁ => wpAny_execs_nil (done _ ps' nw hK' (H'.but hk₁ hLW hW off))
end
end Mine
namespace Mine
theorem fill7 (w : World) : PySem.Challenge.rw_re0147_01.row.prog = PG → lw_hd.heap_39 w.params = lw_hd.heap_39 w.params → True := by k_fill; intros; trivial
noncomputable def RulesA (w : World) (h : Heap) (ra : Addr) (ad : Int → List Addr) : Prop :=
  ∃ f, h.MapOf (intKind PG w) ra f ∧ ∀ k, 256 ≤ k → k ≤ 258 → ∃ l, f k = some (.ref l) ∧ h.IsList l ((ad k).map Value.ref).toArray
section
variable {w : World} {sc : Scope} {c : Cx w sc} {x : Str} {ps : Names} {news : Led} {s : Shared} {h : Heap} {Q : Flow → Shared → Prop} {rest : List Stmt} {px py pz pos : Pos} {e a b d : PySem.Expr} {i j k : Int} {l D : Addr} {v : Value} {vs us : List Value} {n : Nat} {α : Type} {g : α → Value} {tl : α → Led} {φ : α → Prop} {pl : Sem Bool}
theorem ev_dictI {m : Int → Option Value} (hm : h.MapOf (intKind PG w) l m) (hv : m i = some v) (ha : c.Ev a (KV (.ref l)) h) (hb : c.Ev b (.int i) h)
    (hs : autoParam (∀ t, subscripted b false (.ref l) (.int i t) = operate [.ref l, .int i t] (getItem (.ref l) (.int i t))) aut3._auto_1) (hg : autoParam (∀ r, letTemporaryGo a (.ref l) r = pure ()) aut3._auto_1) :
    c.Ev (.Subscript a b pos) (KV v) h := fun s Q E hh hQ =>
  Subscript_ (ha s _ _ hh fun _ _ => hb _ _ _ hh fun t k => subscriptTail_builtin (s := { s with toks := k }) (hh ▸ hm).typeIs slot_dict_getitem.lookup (wpAny_getItem_of (intKind_is _ w i t) (hh ▸ hm) hv (hQ 0 _)) (hs t) hg)
theorem st_append {f : Obj → Led} (H : c.St ps news s) (ha : c.Ev a (KV (.ref D)) s.heap) (he : ∀ s', c.St ps news s' → c.Mk e ps news g tl φ s') (U : ∀ o', Rep D (listOf vs.toArray n) o' news (f o')) (hz : vs.length ≤ 2000)
    (h : ∀ o s', φ o → c.St ps (tl o ++ f (listOf (vs ++ [g o]).toArray (n + 1))) s' → c.Do rest Q s')
    (hev : autoParam (eval (.Call (.Attribute a (Str.ofString "append") px) [e] [] pz) c.env = (do let ov ← eval a c.env; standAt px.atName; let __x ← holding [ov] (getMethod ov (Str.ofString "append") pl); match __x with | (f, first) => callWith pz f first (backTo pz (starEach [e] c.env)) [])) aut1._auto_1)
    (hs : autoParam (∀ env, starEach [e] env = (false, eval e env) :: starEach [] env) aut2._auto_1) (hi : autoParam (interactive c.env = false) aut1._auto_1) (hw : autoParam (∀ env, swapsWith (.Call (.Attribute a (Str.ofString "append") px) [e] [] pz) none pos.line env = pure false) aut2._auto_1) : c.Do (.Expr (.Call (.Attribute a (Str.ofString "append") px) [e] [] pz) pos :: rest) Q s :=
  wpAny_execs_cons (wpAny_Expr_any (MethodCall_ (pl := pl) (ha s _ _ rfl fun _ k => listMethod_K (H.toks k).nw (U (listOf vs.toArray n)).mem PySem.F.slot_list_append PySem.F.type_list_append (callWith_method1 (args_cons (he _ (H.toks k) _ fun o s' ho H' => args_nil (by
    obtain ⟨m, F⟩ := H'.frm
    have N := H'.nw
    have N2 := H'.nd
    have U' : Rep D (listOf vs.toArray n) (listOf (vs.toArray.push (g o)) (n + 1)) (tl o ++ news) (tl o ++ f (listOf (vs.toArray.push (g o)) (n + 1))) := (U _).app
    obtain ⟨U1, U2⟩ := U'.upd N2
    refine append_K F N U1 (fun h' F' N' => ?_) (by rw [List.size_toArray, sizeLine_eq]; omega)
    have := H'.step (k := s'.toks) F F' N' U2
    rw [List.push_toArray] at this
    exact h o _ ho this)) (hs _)) (hs _) rfl)) hev) hi (hw _))
end
noncomputable def moveOne (ad : Int → List Addr) (ns : List Int) (k : Nat) : List (Nat × Addr) := match ns[k]? with
  | some n => if 256 ≤ n then (ad n).map fun a => (k, a) else []
  | none => []
noncomputable def movesUp (ad : Int → List Addr) (ns : List Int) : Nat → List (Nat × Addr)
  | 0 => []
  | k + 1 => movesUp ad ns k ++ moveOne ad ns k
noncomputable abbrev tupOf (k : Int) (t : Tok) (a : Addr) : Obj := tupO [.int k t, .ref a]
inductive MovesAre (tups : List (Addr × Obj)) : List Value → List (Nat × Addr) → Prop
  | nil : MovesAre tups [] []
  | cons {vs : List Value} {mv : List (Nat × Addr)} {a b : Addr} {k : Nat} {t : Tok} : (a, tupOf (k : Int) t b) ∈ tups → MovesAre tups vs mv → MovesAre tups (.ref a :: vs) ((k, b) :: mv)
theorem MovesAre.mono {tups tups' : List (Addr × Obj)} (hs : ∀ p ∈ tups, p ∈ tups') {vs : List Value} {mv : List (Nat × Addr)} (h : MovesAre tups vs mv) : MovesAre tups' vs mv := by
  induction h with
  | nil => exact .nil
  | cons hm _ ih => exact .cons (hs _ hm) ih
theorem MovesAre.snoc {tups : List (Addr × Obj)} {a b : Addr} {k : Nat} {t : Tok} (hm : (a, tupOf (k : Int) t b) ∈ tups) {vs : List Value} {mv : List (Nat × Addr)} (h : MovesAre tups vs mv) : MovesAre tups (vs ++ [.ref a]) (mv ++ [(k, b)]) := by
  induction h with
  | nil => exact .cons hm .nil
  | cons hm' _ ih => exact .cons hm' ih
theorem MovesAre.length {tups : List (Addr × Obj)} {vs : List Value} {mv : List (Nat × Addr)} (h : MovesAre tups vs mv) : vs.length = mv.length := by
  induction h with
  | nil => rfl
  | cons _ _ ih => simp [ih]
theorem moveOne_len {ad : Int → List Addr} (had : ∀ k, (ad k).length ≤ 3) (ns : List Int) (k : Nat) : (moveOne ad ns k).length ≤ 3 := by
  unfold moveOne
  split
  · split
    · rw [List.length_map]; exact had _
    · exact Nat.zero_le _
  · exact Nat.zero_le _
theorem movesUp_len {ad : Int → List Addr} (had : ∀ k, (ad k).length ≤ 3) (ns : List Int) : ∀ k, (movesUp ad ns k).length ≤ 3 * k
  | 0 => Nat.le_refl _
  | k + 1 => by
    have h1 := movesUp_len had ns k
    have h2 := moveOne_len had ns k
    show (movesUp ad ns k ++ moveOne ad ns k).length ≤ _
    rw [List.length_append]; omega

theorem moves_yes {ad : Int → List Addr} {ns : List Int} {i : Nat} {n : Int} (hn : ns[i]? = some n) (h : 256 ≤ n) : movesUp ad ns (i + 1) = movesUp ad ns i ++ (ad n).map fun a => (i, a) := by
  show _ ++ moveOne ad ns i = _; unfold moveOne; rw [hn]; exact congrArg _ (if_pos h)
theorem moves_no {ad : Int → List Addr} {ns : List Int} {i : Nat} {n : Int} (hn : ns[i]? = some n) (h : ¬ 256 ≤ n) : movesUp ad ns (i + 1) = movesUp ad ns i := by
  show _ ++ moveOne ad ns i = _; unfold moveOne; rw [hn]; exact (congrArg _ (if_neg h)).trans (List.append_nil _)
theorem moves_fit {ad : Int → List Addr} {ns : List Int} {i j : Nat} {n : Int} {tups : Led} {vs : List Value} (had : ∀ k, (ad k).length ≤ 3) (hi : i < 100) (h : MovesAre tups vs (movesUp ad ns i ++ ((ad n).take j).map fun a => (i, a))) : vs.length ≤ 2000 := by
  rw [h.length, List.length_append, List.length_map]
  exact Nat.le_trans (Nat.add_le_add (Nat.le_trans (movesUp_len had ns i) (Nat.mul_le_mul_left 3 (Nat.le_of_lt hi))) (Nat.le_trans (List.length_take_le' ..) (had n))) (by decide)
inductive MovK (ad : Int → List Addr) (ns : List Int) (ra : Addr) (i : Nat) (ps : Names) (news : Led) : Prop
  | mk (ml : Addr) (vs : List Value) (nn : Nat) (tups : Led) (hmv : MovesAre tups vs (movesUp ad ns i)) (hn : ∀ q ∈ [(Str.ofString "moves", Value.ref ml), (Str.ofString "rules", .ref ra)], nget ps q.1 = some q.2) (e : news = (ml, listOf vs.toArray nn) :: tups)
inductive MovL (f : Nat → List (Nat × Addr)) (qs : Names) (ml : Addr) (own : Led) (j : Nat) (ps : Names) (news : Led) : Prop
  | mk (vs : List Value) (nn : Nat) (tups : Led) (hmv : MovesAre tups vs (f j)) (hn : ∀ q ∈ qs, nget ps q.1 = some q.2) (e : news = (ml, listOf vs.toArray nn) :: (tups ++ own))
set_option maxHeartbeats 8000000 in
theorem moves_spec (w : World) (row ra : Addr) (ns : List Int) (ad : Int → List Addr) (hlen : ns.length ≤ 100) (hns : ∀ n ∈ ns, n ≤ 258) (had : ∀ k, (ad k).length ≤ 3) :
    Spec w 20 149 [.ref row, .ref ra] (fun h => IntsAt h row ns ∧ RulesA w h ra ad) (fun p : Addr × List Value × Nat × Led => .ref p.1) (fun p => (p.1, listOf p.2.1.toArray p.2.2.1) :: p.2.2.2) (fun p => MovesAre p.2.2.2 p.2.1 (movesUp ad ns ns.length)) := by
  k_dflt (refine' spec_of0 (binds := [(Str.ofString "row", .ref row), (Str.ofString "rules", .ref ra)]) (qs := [(Str.ofString "row", .ref row), (Str.ofString "rules", .ref ra)]) ?k6 ?k7 ?k8 ?k9 ?kb ?c2 ?c3 ?c4 ?c5 ?_)
  case k6 => k_is
  case k7 => k_is
  case k8 => exact fun _ => .of_eq rfl
  case k9 => exact rfl
  case kb => exact kn2 rfl rfl
  case c2 => exact rfl
  case c3 => exact rfl
  case c4 => exact rfl
  case c5 => exact fun _ => rfl
  intro c s Q hk hp H X
  obtain ⟨⟨vs, hl, hi⟩, m, hm, hr⟩ := hp
  refine st_mk (mk_list evl_nil H fun _ => Nat.zero_le _) fun p s _ H => ?_
  refine st_enum (MovK ad ns ra) H (ev_boo H (by k_is) boot_enumerate (by decide)) (ev_loc H rfl) hl ⟨p.2, [], 0, [], .nil, kn rfl, rfl⟩ ?_ ?_
  · rintro i t v s ps _ own Q₂ hv ⟨ml, vs', nn, tups, hmv, hn, rfl⟩ H R
    obtain ⟨n, tn, rfl, hns'⟩ := ints_at hi hv
    replace H := H.names2 hn
    have hi' : i < 100 := Nat.lt_of_lt_of_le (List.getElem?_eq_some_iff.mp hns').1 hlen
    refine st_if (tm_mk (mk_call1 (fun _ => nonterm_spec w n tn) (Nat.le_trans (Nat.le_of_ble_eq_true rfl) hk) H trivial (ev_glo H (by k_is)) (ev_loc H rfl) (by k_is)) fun _ _ => rfl) ?_ ?_
    · intro hb s Q₃ H In
      have hb := of_decide_eq_true hb
      obtain ⟨l, hml, hll⟩ := hr n hb (hns n (List.mem_of_getElem? hns'))
      refine st_forB (vs := (ad n).map Value.ref) (MovL (fun j => movesUp ad ns i ++ ((ad n).take j).map fun a => (i, a)) [(Str.ofString "moves", Value.ref ml), (Str.ofString "rules", .ref ra), (Str.ofString "place", .int i t)] ml own) H (ev_dictI (MapOf_keep hm H.keep) hml (ev_loc H rfl) (ev_locI H rfl)) hll ⟨_, Sub.refl, vs', nn, tups, by rw [List.take_zero]; exact (List.append_nil _).symm ▸ hmv, kn rfl, rfl⟩ ?_ ?_
      · rintro j v s ps _ own₂ Q₄ hj hv ⟨vs', nn, tups, hmv, hn, rfl⟩ H R
        replace H := H.names hn
        rw [List.getElem?_map] at hv
        obtain ⟨b, hb, rfl⟩ := Option.map_eq_some_iff.mp hv
        refine st_append H (ev_loc H rfl) (fun s' H' => mk_pair ((ev_loc H' rfl).mk H') fun _ s'' _ H'' => ev_loc H'' rfl) (fun _ => .head) (moves_fit had hi' hmv) fun o s _ H => ?_
        refine do_nil (R.next _ _ ((ml, listOf (vs' ++ [Value.ref o.2.2]).toArray (nn + 1)) :: ((o.2.2, tupOf (i : Int) t b) :: tups ++ own)) _ H Sub.swap ⟨_, _, (o.2.2, tupOf (i : Int) t b) :: tups, ?_, kn rfl, rfl⟩)
        rw [take_snoc hb, List.map_append, ← List.append_assoc]
        exact (hmv.mono fun p hp => .tail _ hp).snoc (.head _)
      · rintro s ps _ ⟨vs', nn, tups, hmv, hn, rfl⟩ H
        rw [List.length_map, List.take_length, ← moves_yes hns' hb] at hmv
        exact do_nil (In.next _ (do_nil (R.next _ _ ((ml, listOf vs'.toArray nn) :: tups) _ H Sub.refl ⟨ml, vs', nn, tups, hmv, fun q hq => hn q (List.mem_append_left [_] hq), rfl⟩)))
    · intro hb s Q₃ H In
      exact do_nil (In.next _ (do_nil (R.next _ _ ((ml, listOf vs'.toArray nn) :: tups) _ H Sub.refl ⟨ml, vs', nn, tups, moves_no hns' (of_decide_eq_false hb) ▸ hmv, kn rfl, rfl⟩)))
  · rintro s ps _ ⟨ml, vs', nn, tups, hmv, hn, rfl⟩ H
    exact st_ret (ev_loc H (hn _ (.head _))) H fun t s H => X.ret (ml, vs', nn, tups) _ _ _ (hi.length ▸ hmv) H Sub.refl
end Mine
namespace Mine
theorem fill8 (w : World) : PySem.Challenge.rw_re0147_01.row.prog = PG → lw_hd.heap_39 w.params = lw_hd.heap_39 w.params → True := by k_fill; intros; trivial
noncomputable def Keeps (h h' : Heap) : Prop := ∀ b o, h.get? b = some o → h'.get? b = some o

noncomputable def mexFrom (xs : List Nat) : Nat → Nat → Nat
  | 0, i => i
  | f + 1, i => if i ∈ xs then mexFrom xs f (i + 1) else i
noncomputable def mexL (xs : List Nat) : Nat := mexFrom xs 3 0
section
variable {xs : List Nat}
theorem mex_yes {f i : Nat} (h : i ∈ xs) : mexFrom xs (f + 1) i = mexFrom xs f (i + 1) := if_pos h
theorem mex_no {f i : Nat} (h : i ∉ xs) : mexFrom xs (f + 1) i = i := if_neg h
theorem mex_le (f : Nat) : ∀ i, mexFrom xs f i ≤ i + f := by
  induction f with
  | zero => exact fun i => Nat.le_refl _
  | succ f ih =>
    intro i
    by_cases h : i ∈ xs
    · rw [mex_yes h]; exact Nat.le_trans (ih (i + 1)) (Nat.le_of_eq (Nat.succ_add_eq_add_succ i f))
    · rw [mex_no h]; exact Nat.le_add_right _ _
theorem mexL_lt (xs : List Nat) : mexL xs < 4 := Nat.lt_succ_of_le (Nat.zero_add 3 ▸ mex_le 3 0)
theorem mex_all (f : Nat) : ∀ i, mexFrom xs f i ∈ xs → ∀ v, i ≤ v → v ≤ i + f → v ∈ xs := by
  induction f with
  | zero => exact fun i h v h1 h2 => Nat.le_antisymm h1 h2 ▸ h
  | succ f ih =>
    intro i h v h1 h2
    by_cases hi : i ∈ xs
    · rw [mex_yes hi] at h
      rcases Nat.lt_or_eq_of_le h1 with h1 | rfl
      · exact ih (i + 1) h v h1 (Nat.succ_add_eq_add_succ i f ▸ h2)
      · exact hi
    · rw [mex_no hi] at h; exact absurd h hi
theorem mex_below (f : Nat) : ∀ i v, i ≤ v → v < mexFrom xs f i → v ∈ xs := by
  induction f with
  | zero => exact fun i v h1 h2 => absurd h2 (Nat.not_lt.mpr h1)
  | succ f ih =>
    intro i v h1 h2
    by_cases hi : i ∈ xs
    · rw [mex_yes hi] at h2
      rcases Nat.lt_or_eq_of_le h1 with h1 | rfl
      · exact ih (i + 1) v h1 h2
      · exact hi
    · rw [mex_no hi] at h2; exact absurd h2 (Nat.not_lt.mpr h1)
theorem no_four (h : xs.length ≤ 3) (h0 : 0 ∈ xs) (h1 : 1 ∈ xs) (h2 : 2 ∈ xs) (h3 : 3 ∈ xs) : False := by
  have ne : ∀ {a b : Nat} {l : List Nat}, a ≠ b → a ∈ l → a ∈ l.erase b := fun h => (List.mem_erase_of_ne h).mpr
  have m1 := ne (by decide : 1 ≠ 0) h1
  have m2 := ne (by decide : 2 ≠ 1) (ne (by decide : 2 ≠ 0) h2)
  have := List.length_pos_of_mem (ne (by decide : 3 ≠ 2) (ne (by decide : 3 ≠ 1) (ne (by decide : 3 ≠ 0) h3)))
  rw [List.length_erase_of_mem m2, List.length_erase_of_mem m1, List.length_erase_of_mem h0, Nat.sub_sub, Nat.sub_sub] at this
  exact absurd this (Nat.not_lt.mpr (Nat.le_of_eq (Nat.sub_eq_zero_of_le h)))
theorem mexL_not (h : xs.length ≤ 3) : mexL xs ∉ xs := fun hm =>
  have k := fun v h => mex_all 3 0 hm v (Nat.zero_le v) h
  no_four h (k 0 (by decide)) (k 1 (by decide)) (k 2 (by decide)) (k 3 (by decide))
noncomputable def outP (xs : List Nat) : Value → Bool
  | .int k _ => !((xs.map (fun n : Nat => (n : Int))).any (· == k))
  | _ => false
theorem out_at (k : Nat) (t : Tok) : outP xs (.int (k : Int) t) = true ↔ k ∉ xs := by
  show (!_) = true ↔ _
  rw [Bool.not_eq_true', ← Bool.not_eq_true, List.any_eq_true]
  refine not_congr ⟨fun ⟨x, hx, e⟩ => ?_, fun h => ⟨k, List.mem_map.mpr ⟨k, h, rfl⟩, beq_self_eq_true _⟩⟩
  obtain ⟨n, hn, rfl⟩ := List.mem_map.mp hx
  exact Int.ofNat_inj.mp (eq_of_beq e) ▸ hn
theorem mex_find (f : Nat) : ∀ (i : Nat) (vs : List Value), vs.length = f + 1 → (∀ (j : Nat) (v : Value), vs[j]? = some v → ∃ t, v = Value.int ((i + j : Nat) : Int) t) → mexFrom xs f i ∉ xs → ∃ t rest, vs.filter (outP xs) = Value.int ((mexFrom xs f i : Nat) : Int) t :: rest := by
  induction f with
  | zero =>
    intro i vs hl hv hn
    obtain ⟨a, r, rfl⟩ := List.exists_cons_of_length_eq_add_one hl
    obtain ⟨t, rfl⟩ : ∃ t, a = Value.int (i : Int) t := hv 0 a rfl
    exact ⟨t, _, List.filter_cons_of_pos ((out_at i t).mpr hn)⟩
  | succ f ih =>
    intro i vs hl hv hn
    obtain ⟨a, r, rfl⟩ := List.exists_cons_of_length_eq_add_one hl
    obtain ⟨t, rfl⟩ : ∃ t, a = Value.int (i : Int) t := hv 0 a rfl
    by_cases h : i ∈ xs
    · rw [mex_yes h] at hn ⊢
      rw [List.filter_cons_of_neg fun k => (out_at i t).mp k h]
      exact ih (i + 1) r (Nat.succ.inj hl) (fun j v e => by rw [Nat.succ_add_eq_add_succ]; exact hv (j + 1) v e) hn
    · rw [mex_no h]
      exact ⟨t, _, List.filter_cons_of_pos ((out_at i t).mpr h)⟩
theorem mex_filter (hx : xs.length ≤ 3) {vs : List Value} (hl : vs.length = 4) (hv : ∀ (j : Nat) (v : Value), vs[j]? = some v → ∃ t, v = Value.int ((0 : Int) + (j : Int) * 1) t) : ∃ t rest, vs.filter (outP xs) = Value.int ((mexL xs : Nat) : Int) t :: rest :=
  mex_find 3 0 vs hl (fun j v e => (hv j v e).imp fun t h => by rw [h, Int.mul_one, Int.zero_add, Nat.zero_add]) (mexL_not hx)
end
theorem mex_comp {prog : Program} {w : World} {A : Around} {E : Value → Shared → Prop} {s : Shared} {env : Env} {scope : Scope} {cl : List (Str × Addr)} {pos p1 p2 p3 p4 p5 : Pos} {iter : PySem.Expr} {Q : Value → Shared → Prop} {xs : List Nat} {vs : List Value} {cL ledA : Addr}
    (hh : A.handled = none) (hclos : closureFor scope env = pure cl) (hcell : ∀ y ∈ scope.names, y.2 ≠ .cell) (hkind : scope.kind = .function)
    (hnames : ∀ y ∈ scope.names, y.2 = .local → scope.names.lookup y.1 = some .local) (hx : scope.names.lookup (Str.ofString "number") = some .local)
    (hkN : ∀ C, (compEnvC scope cl C env).kindOf (Str.ofString "number") = some .local) (hkL : ∀ C, (compEnvC scope cl C env).kindOf (Str.ofString "led") = some .cell) (hkF : ∀ C, (compEnvC scope cl C env).scope.kind = .function)
    (hs : ∀ x, foldedSetIterable iter env x = pure x)
    (hiter : wpAny (model prog w) A (eval iter env) (fun xv s₁ => ∃ r t u v h tk, xv = .ref r ∧ IsRange h r 0 4 1 t u v ∧ Keeps s.heap h ∧ s₁ = { s with heap := h, toks := tk }) E s)
    (hcl : cl.lookup (Str.ofString "led") = some cL) (hled : s.heap.IsCell cL (some (.ref ledA))) (hL : s.heap.IsList ledA vs.toArray) (hi : IntsAre vs (xs.map fun n : Nat => (n : Int))) (hx3 : xs.length ≤ 3)
    (h : ∀ D h' tk ys, s.heap.get? D = none → h'.IsList D ys → h'.PlainList D ys → (∃ t rest, ys.toList = Value.int ((mexL xs : Nat) : Int) t :: rest) → Keeps s.heap h' → Q (.ref D) { s with heap := h', toks := tk }) :
    wpAny (model prog w) A (eval (.ListComp (.Name (Str.ofString "number") p1) [⟨.Name (Str.ofString "number") p2, iter, [.Compare (.Name (Str.ofString "number") p3) [.NotIn] [.Name (Str.ofString "led") p4] p5], 0⟩] scope pos) env) Q E s := by
  refine wpAny_ListComp_free (outP xs) (fun v y => y = v) hclos hcell hkind hnames hx (wpAny_mono hiter (fun xv s₁ h₁ => ?_) fun _ _ e => e) hs
  obtain ⟨r, t, u, v, h1, tk1, rfl, hr, hk1, rfl⟩ := h₁
  refine wpAny_pyIter_range hr (by decide) ?_
  have W := Walks.range (prog := prog) (w := w) hh h1.objs.size 0 1 4
  have push : ∀ oo, Keeps h1 (h1.push oo) := fun oo b o e => Heap.get?_push_of_some _ e
  refine ⟨_, _, _, 4, _, _, rfl, W, by decide, (by show IsRangeIter _ _ _ _ _; exact Heap.get?_push_size _ rfl), ?_, ⟨?_, ?_⟩, ?_⟩
  · intro b hb
    rw [List.mem_singleton.mp hb]
    show @LT.lt Nat _ h1.objs.size (h1.push _).objs.size
    rw [Heap.size_push]; exact Nat.lt_succ_self _
  · intro C i v s₃ m₃ E' _ hP hn hm hk _
    obtain ⟨tv, rfl⟩ := hP
    have keep3 : Keeps s.heap s₃.heap := fun b o e => hk b o (by
      intro hb
      have := Heap.lt_size (hk1 b o e)
      rw [List.mem_singleton.mp hb] at this
      exact Nat.lt_irrefl _ this) (push _ _ _ (hk1 b o e))
    rw [List.forIn_cons]
    refine wpAny_bind ?_
    rw [if_pos rfl]
    refine wpAny_bind (wpAny_isTrue_Compare1 (wpAny_Name (wpAny_loadName_local (hkF C) (hkN C) hn hm (wpAny_Name (wpAny_loadName_cell (hkF C) (hkL C) hcl (hled.keeps keep3) ?_) (by decide))) (by decide)))
    refine notin_list_ints (hL.at fun o e => keep3 _ o e) hi ?_
    refine wpAny_truthy_bool ?_
    refine wpAny_pure ?_
    show wpAny _ _ (forIn [] _ _) _ _ _
    rw [List.forIn_nil]
    exact wpAny_pure ⟨rfl, _, _, rfl, fun b o e => e⟩
  · intro C i v s₃ m₃ E' _ hP _ hn hm hk _
    exact wpAny_Name (wpAny_loadName_local (hkF C) (hkN C) hn hm ⟨rfl, _, _, rfl, fun b o e => e⟩) (by decide)
  · intro D h' tk ys vs' hD hl hpl hlen hP hF hk
    have keep' : Keeps s.heap h' := fun b o e => hk b o (by
      intro hb
      have := Heap.lt_size (hk1 b o e)
      rw [List.mem_singleton.mp hb] at this
      exact Nat.lt_irrefl _ this) (push _ _ _ (hk1 b o e))
    refine h D h' tk ys ?_ hl hpl ?_ keep'
    · cases q : s.heap.get? D with
      | none => rfl
      | some o => rw [push _ _ _ (hk1 _ _ q)] at hD; cases hD
    · obtain ⟨t0, rest, e⟩ := mex_filter hx3 hlen hP
      rw [e] at hF
      have eq : ∀ {a b : List Value}, Paired (fun v y => y = v) a b → b = a := by
        intro a b hp
        induction hp with
        | nil => rfl
        | cons h _ ih => rw [h, ih]
      exact ⟨t0, rest, eq hF⟩
noncomputable def KvsWorth (kvs : List (Int × Value)) (wv : Int → Option Nat) : Prop := (∀ k v, wv k = some v → v < 4) ∧ ∀ k, (∀ v, wv k = some v → ∃ t, valueAt kvs k = some (.int (v : Int) t)) ∧ (wv k = none → valueAt kvs k = none)
noncomputable def wvUp (SA SB SC : Int → List Int) : Nat → Int → Option Nat
  | 0 => fun _ => none
  | i + 1 => fun k => if k = 256 + (i : Int) then some (mexL [xorL (wvUp SA SB SC i) (SA (256 + (i : Int))), xorL (wvUp SA SB SC i) (SB (256 + (i : Int))), xorL (wvUp SA SB SC i) (SC (256 + (i : Int)))]) else wvUp SA SB SC i k
theorem wvUp_succ (SA SB SC : Int → List Int) (i : Nat) (k : Int) : wvUp SA SB SC (i + 1) k = if k = 256 + (i : Int) then some (mexL [xorL (wvUp SA SB SC i) (SA (256 + (i : Int))), xorL (wvUp SA SB SC i) (SB (256 + (i : Int))), xorL (wvUp SA SB SC i) (SC (256 + (i : Int)))]) else wvUp SA SB SC i k := rfl
theorem wvUp_none (SA SB SC : Int → List Int) : ∀ (i : Nat) (k : Int), 256 + (i : Int) ≤ k → wvUp SA SB SC i k = none
  | 0, _, _ => rfl
  | i + 1, k, h => by
    rw [wvUp_succ]
    rw [if_neg (by omega)]
    exact wvUp_none SA SB SC i k (by omega)
theorem KvsWorth.fresh {kvs : List (Int × Value)} {SA SB SC : Int → List Int} {i : Nat} (h : KvsWorth kvs (wvUp SA SB SC i)) : valueAt kvs (256 + (i : Int)) = none := (h.2 _).2 (wvUp_none SA SB SC i _ (by omega))
theorem valueAt_snoc {kvs : List (Int × Value)} {n : Int} {v : Value} (h : valueAt kvs n = none) (k : Int) : valueAt (kvs ++ [(n, v)]) k = if k = n then some v else valueAt kvs k := by
  unfold valueAt at h ⊢
  rw [List.find?_append]
  by_cases hk : k = n
  · subst hk
    rw [if_pos rfl]
    cases hf : kvs.find? (fun kv => decide (kv.1 = k)) with
    | none => simp
    | some x => rw [hf] at h; cases h
  · rw [if_neg hk]
    cases hf : kvs.find? (fun kv => decide (kv.1 = k)) with
    | none => simp [Ne.symm hk]
    | some x => rfl
theorem KvsWorth.step {kvs : List (Int × Value)} {SA SB SC : Int → List Int} {i : Nat} {t : Tok} (h : KvsWorth kvs (wvUp SA SB SC i)) :
    KvsWorth (stored kvs (256 + (i : Int)) (.int ((mexL [xorL (wvUp SA SB SC i) (SA (256 + (i : Int))), xorL (wvUp SA SB SC i) (SB (256 + (i : Int))), xorL (wvUp SA SB SC i) (SC (256 + (i : Int)))] : Nat) : Int) t)) (wvUp SA SB SC (i + 1)) := by
  rw [stored_absent h.fresh]
  refine ⟨fun k v e => ?_, fun k => ?_⟩
  · rw [wvUp_succ] at e
    split at e
    · cases e; exact mexL_lt _
    · exact h.1 k v e
  · rw [valueAt_snoc h.fresh]
    rw [wvUp_succ]
    by_cases hk : k = 256 + (i : Int)
    · rw [if_pos hk, if_pos hk]
      exact ⟨fun v e => ⟨t, by rw [← Option.some.inj e]⟩, fun e => nomatch e⟩
    · rw [if_neg hk, if_neg hk]
      exact h.2 k

section
variable {w : World} {sc : Scope} {c : Cx w sc} {x : Str} {ps : Names} {news : Led} {s : Shared} {h : Heap} {Q : Flow → Shared → Prop} {rest body : List Stmt} {px py pz pos : Pos} {e a b d : PySem.Expr} {es : List PySem.Expr} {i j k : Int} {l D : Addr} {v : Value} {vs us : List Value} {n : Nat} {o : Obj} {kvs : List (Int × Value)} {wv : Int → Option Nat}
theorem worth_led (H : c.St ps news s) (hm : (D, o) ∈ news) (lo : (D == sysModules) = false) (hD : Obj.IsDictOf (intKind PG w) o kvs) (hk : KvsWorth kvs wv) : WorthAt w s.heap D wv :=
  ⟨lo, hk.1, _, (Heap.dictOf_iff.mpr ⟨o, H.nw.get hm, hD⟩).mapOf, hk.2⟩
theorem Cx.Ev.run {r : Tok → Value} {Q E : Value → Shared → Prop} (H : c.Ev e r s.heap) (hQ : ∀ t k, Q (r t) { s with toks := k }) : wpAny (model PG w) c.A (eval e c.env) Q E s := H s Q E rfl hQ
theorem Cx.St.kept {h' : Heap} {k : Nat} (H : c.St ps news s) (hk : Keeps s.heap h') : c.St ps news { s with heap := h', toks := k } := by
  obtain ⟨m, F⟩ := H.frm
  have N := H.nw
  have D := H.nd
  exact H.step F (F.keeps hk) (fun p hp => ⟨hk _ _ (N p hp).1, (N p hp).2⟩) D
theorem mk_dict (H : c.St ps news s) : c.Mk (.Dict [] [] pos) ps news (fun p : Addr × Obj => .ref p.1) (fun p => [p]) (fun p => (p.1 == sysModules) = false ∧ Obj.IsDictOf (intKind PG w) p.2 ([] : List (Int × Value))) s := fun Q hQ => by
  obtain ⟨m, F⟩ := H.frm
  have N := H.nw
  exact newDict_K F N (TopRead.nolimit (topRead_of c.T)) fun d h' o F' N' lt lo _ _ hi _ => hQ (d, o) _ ⟨lo, hi⟩ (H.more (k := s.toks) F F' N' lt)
theorem do_setItem {f : Obj → Led} {t : Tok} {Qu : Unit → Shared → Prop} {E : Value → Shared → Prop} (H : c.St ps news s) (U : ∀ o', Rep D o o' news (f o')) (hd : Obj.IsDictOf (intKind PG w) o kvs) (hz : kvs.length ≤ 3)
    (h : ∀ o' s', Obj.IsDictOf (intKind PG w) o' (stored kvs i v) → c.St ps (f o') s' → Qu () s') : wpAny (model PG w) c.A (setItem (.ref D) (.int i t) v) Qu E s := by
  obtain ⟨m, F⟩ := H.frm
  have N := H.nw
  have N2 := H.nd
  have hm := N _ (U o).mem
  refine wpAny_setItem_pairs (hsz := by rw [sizeLine_eq]; omega) (intKind_is _ _ i t) (Heap.dictOf_iff.mpr ⟨o, hm.1, hd⟩) fun h' hmm hs => ?_
  obtain ⟨o', ho', hd'⟩ := Heap.dictOf_iff.mp hmm
  obtain ⟨p, q, e1, e2⟩ := (U o').sp
  rw [e1] at N N2
  obtain ⟨g1, g2, g3⟩ := nd_mid (o' := o') N2
  exact h o' _ hd' (H.step (k := s.toks + 1) F (F.change hs hm.2.1 hm.2.2) (e2 ▸ N.setIn g1 g2 hs ho') (e2 ▸ g3))
theorem Cx.At.mono {P P' : Nat → Value → Prop} {K : Nat → Names → Led → Prop} {it : Value} (H : c.At n P K it s) (hp : ∀ i v, P i v → P' i v) : c.At n P' K it s := by
  obtain ⟨I, S, F, ps, nw, e, W, a1, a2, a3, a4, a5, a6, a7⟩ := H
  exact ⟨I, S, F, ps, nw, e, ⟨W.sub, W.frame, fun i s Q E hi hs k => W.item i s Q E hi hs fun v h' tk hv => k v h' tk (hp _ _ hv), W.done, W.self⟩, a1, a2, a3, a4, a5, a6, a7⟩
theorem st_forD {β : Type} {ρ : β → List Value} (K : Nat → Names → Led → Prop) (H : c.St ps news s) (hl : c.EvL es ρ s.heap) (hn : ∀ b, (ρ b).length = n) (hz : n ≤ sizeLine) (hK : K 0 ps news)
    (turn : ∀ i v s' ps' news' own Q', i < n → (∃ b, (ρ b)[i]? = some v) → K i ps' news' → c.St ((x, v) :: ps') (news' ++ own) s' → Round c own (K (i + 1)) rest Q Q' → c.Do body Q' s')
    (done : ∀ s' ps' news', K n ps' news' → c.St ps' news' s' → c.Do rest Q s')
    (hx : autoParam (isLoc sc x = true) aut1._auto_1) (hf : autoParam (∀ env v, foldedSetIterable (.List es py) env v = pure v) aut4._auto_1) : c.Do (.For (.Name x px) (.List es py) body [] pos :: rest) Q s :=
  st_for K H (mk_list hl H (fun b => (hn b).symm ▸ hz) _ fun p s' _ H' => by
    have h1 := H'.nw _ (.head _)
    have := at_list (K := K) (H'.led (Sub.skip Sub.refl)) (H'.nw.isList (.head _)) (Ne.symm h1.2.1) (fun q hq e => (List.pairwise_cons.mp H'.nd).1 q hq e.symm) hK
    rw [hn] at this
    exact wpAny_mono this (fun it s₂ h => h.mono fun i v hv => ⟨p.1, hv⟩) fun _ _ h => h) turn done hx hf
end

theorem three {P : Nat → Prop} (h0 : P 0) (h1 : P 1) (h2 : P 2) : ∀ i, i < 3 → P i
  | 0, _ => h0
  | 1, _ => h1
  | 2, _ => h2
theorem kind_in {i : Nat} (h : i < 3) : 256 ≤ 256 + (i : Int) ∧ 256 + (i : Int) ≤ 258 := by omega
inductive WrtK (w : World) (ra wd cl : Addr) (R : Led) (SA SB SC : Int → List Int) (i : Nat) (ps : Names) (news : Led) : Prop
  | mk (wo ol : Obj) (kvs : List (Int × Value)) (cv : Option Value) (hol : ol.data = .cell cv) (hkd : Obj.IsDictOf (intKind PG w) wo kvs) (hkw : KvsWorth kvs (wvUp SA SB SC i)) (hkl : kvs.length ≤ i) (hn : nget ps (Str.ofString "rules") = some (.ref ra)) (e : news = (wd, wo) :: (cl, ol) :: R)
inductive WrtT (h : Heap) (xv : List Int → Nat) (ms : List Int) (j : Nat) (v : Value) : Prop
  | mk (a : Addr) (S : List Int) (e : v = .ref a) (hi : IntsAt h a S) (hm : ms[j]? = some (xv S : Int))
set_option maxHeartbeats 4000000 in
theorem worth_spec (w : World) (ra : Addr) (RA RB RC : Int → Addr) (SA SB SC : Int → List Int) :
    Spec w 40 130 [.ref ra] (fun h => RulesA w h ra (fun k => [RA k, RB k, RC k]) ∧ ∀ k, 256 ≤ k → k ≤ 258 → IntsAt h (RA k) (SA k) ∧ IntsAt h (RB k) (SB k) ∧ IntsAt h (RC k) (SC k))
      (fun p : Addr × Obj => .ref p.1) (fun p => [p]) (fun p => ∀ h, h.get? p.1 = some p.2 → WorthAt w h p.1 (wvUp SA SB SC 3)) := by
  k_dflt (refine' spec_of (binds := [(Str.ofString "rules", .ref ra)]) (qs := [(Str.ofString "rules", .ref ra)]) ?k6 ?k7 ?k8 ?k9 ?kd ?kb ?c2 ?c3 ?c4 ?_)
  case k6 => k_is
  case k7 => k_is
  case k8 => exact fun _ => .of_eq rfl
  case k9 => exact rfl
  case kd => decide +kernel
  case kb => exact kn1 rfl
  case c2 => exact rfl
  case c3 => exact rfl
  case c4 => exact rfl
  intro c s Q cells hk hp H Y X
  obtain ⟨⟨m, hm, hr⟩, hI⟩ := hp
  obtain ⟨o1, o2, rfl, d1, d2⟩ := CellsAre.two Y
  refine st_mkC (mk_dict H) rfl d2 (fun _ _ => .tail (.tail .head)) fun p s oc hp hc H => ?_
  obtain ⟨wd, wo⟩ := p
  obtain ⟨lo, hwo⟩ := hp
  refine st_forD (n := 3) (WrtK w ra wd (c.L + 1 + 1) [(c.L + 1, oc)] SA SB SC) H (evl_cons ev_int (evl_cons ev_int (evl_1 ev_int))) (fun _ => rfl) (Nat.le_of_ble_eq_true rfl)
    ⟨wo, o1, [], _, d1, hwo, ⟨fun _ _ h => (nomatch h), fun _ => ⟨fun _ h => (nomatch h), fun _ => rfl⟩⟩, Nat.le_refl _, rfl, rfl⟩ ?_ ?_
  · rintro i v s ps _ own Q₂ hi ⟨b, hv⟩ ⟨wo, ol, kvs, cv, hol, hkd, hkw, hkl, hn, rfl⟩ H R
    obtain ⟨tn, rfl⟩ : ∃ tn, v = .int (256 + (i : Int)) tn := by
      clear hkl hkw R H hol hkd
      revert i
      exact three (fun hv => ⟨_, (Option.some.inj hv).symm⟩) (fun hv => ⟨_, (Option.some.inj hv).symm⟩) (fun hv => ⟨_, (Option.some.inj hv).symm⟩)
    obtain ⟨k1, k2⟩ := kind_in hi
    obtain ⟨hIA, hIB, hIC⟩ := hI (256 + (i : Int)) k1 k2
    obtain ⟨l, hml, hll⟩ := hr (256 + (i : Int)) k1 k2
    have hstep := fun t => KvsWorth.step (t := t) hkw
    generalize hxv : xorL (wvUp SA SB SC i) = xv at hstep
    generalize hx : xv (SA (256 + (i : Int))) = xa at hstep
    generalize hy : xv (SB (256 + (i : Int))) = xb at hstep
    generalize hz : xv (SC (256 + (i : Int))) = xc at hstep
    refine st_mkC (mi_comp (n := 3) (ms := [(xa : Int), xb, xc]) (WrtT c.h₀ xv [(xa : Int), xb, xc]) H (fun m' F Qs hQ => Cx.Ev.run (ev_dictI (MapOf_keep hm H.keep) hml (ev_loc H hn) (ev_locI H rfl)) fun _ k => hQ l _ _ _ F (H.toks k) (.inl hll) Sub.refl rfl ?_) (Nat.le_of_ble_eq_true rfl) rfl ?_ rfl (by decide) rfl (by decide) rfl) rfl hol (fun _ _ => .tail (.tail .head)) fun p s ol hp hol H => ?_
    · intro j v hv
      match j, hv with
      | 0, hv => exact ⟨_, _, (Option.some.inj hv).symm, hIA, by rw [hx]; rfl⟩
      | 1, hv => exact ⟨_, _, (Option.some.inj hv).symm, hIB, by rw [hy]; rfl⟩
      | 2, hv => exact ⟨_, _, (Option.some.inj hv).symm, hIC, by rw [hz]; rfl⟩
      | j + 3, hv => cases hv
    · rintro j v k C oC m₂ led s' E' Q' ⟨a, S, rfl, hS, hkk⟩ hk2 hC hxm H' hC' hsub hQ
      obtain rfl := Option.some.inj (hk2.symm.trans hkk)
      obtain ⟨m', F⟩ := H'.frm
      subst hxv
      exact Call_ (LCgL.ld_global F c.hX c.T (by k_is) (callWith_K c.hX (by k_is) (args_cons (LCgL.ld_own H'.nw hC' hC hxm (args_cons (kcf_cell H'.nw rfl (hsub.1 _ (nm 2 rfl)) hc (args_nil ⟨c.hX.keeps H'.keep, Cx.use (value_spec w a wd S (wvUp SA SB SC i)) (Nat.le_trans (Nat.le_of_ble_eq_true rfl) hk) H' ⟨hS.keep H'.keep, worth_led H' (hsub.1 _ (.head _)) lo hkd hkw⟩ fun t s'' _ H'' kp => hQ t s'' H'' kp⟩)))))))
    obtain ⟨D, us, nl⟩ := p
    obtain ⟨m', F⟩ := H.frm
    have N := H.nw
    have hcc := (N _ (nm 2 rfl)).1
    refine wpAny_execs_cons ?_
    refine wpAny_Assign_Subscript (Subscript_ ?_)
    refine' mex_comp (xs := [xa, xb, xc]) (cL := c.L + 1 + 1) (ledA := D) ?a1 ?a2 ?a3 ?a4 ?a5 ?a6 ?a7 ?a8 ?a9 ?a10 ?a11 ?a12 ?a13 ?a14 ?a15 ?a16 ?_
    case a1 => exact rfl
    case a2 => exact rfl
    case a3 => decide
    case a4 => exact rfl
    case a5 => decide
    case a6 => exact rfl
    case a7 => exact fun _ => rfl
    case a8 => exact fun _ => rfl
    case a9 => exact fun _ => rfl
    case a10 => exact fun _ => rfl
    case a11 =>
      refine Call_ (Cx.Ev.run (ev_boo H (by k_is) boot_range (by decide)) fun _ k => ?_)
      exact PyProof.Rows.callWith_type1 (args_cons (wpAny_Constant_int (args_nil (range1_rows (s := { s with toks := k + 1 }) F N fun h' tk t₁ u₁ v₁ hR F' N' kp => ⟨_, _, _, _, h', tk, rfl, hR, kp, rfl⟩))))
    case a12 => exact rfl
    case a13 => exact ⟨ol, hcc, hol⟩
    case a14 => exact N.isList (.head _)
    case a15 => exact hp
    case a16 => exact Nat.le_refl 3
    intro D' h' tk ys hD hl _ hys kp
    obtain ⟨t, rest, hys⟩ := hys
    obtain rfl : ys = (Value.int (mexL [xa, xb, xc] : Int) t :: rest).toArray := by rw [← hys]
    have H' := (H.led (nw := [(wd, wo), (c.L + 1 + 1, ol), (c.L + 1, oc)] ++ own) (Sub.skip Sub.refl)).kept (k := tk + 1) kp
    refine wpAny_Constant_int (item_litK (vs := Value.int (mexL [xa, xb, xc] : Int) t :: rest) hl (Int.le_refl 0) (by decide) rfl (Cx.Ev.run (ev_cell H' rfl (nm 2 rfl) hc) fun _ k1 => Cx.Ev.run (ev_locI (H'.toks k1) rfl) fun t1 k2 => do_setItem (H'.toks k2) (fun _ => .head) hkd (Nat.le_trans hkl (Nat.le_of_lt hi)) fun wo' s' hwo' H => do_nil ?_))
    exact R.next _ _ _ _ H Sub.refl ⟨wo', ol, _, _, hol, hwo', hstep t, Nat.le_trans (stored_length_le _ _ _) (Nat.succ_le_succ hkl), hn, rfl⟩
  · rintro s ps _ ⟨wo, ol, kvs, cv, hol, hkd, hkw, hkl, hn, rfl⟩ H
    exact st_ret (ev_cell H rfl (nm 2 rfl) hc) H fun t s H => X.ret (wd, wo) _ _ _ (fun h hg => ⟨lo, hkw.1, _, Heap.DictOf.mapOf (Heap.dictOf_iff.mpr ⟨wo, hg, hkd⟩), hkw.2⟩) H (Sub.one (.head _))
end Mine
namespace Mine
theorem fill9 (w : World) : PySem.Challenge.rw_re0147_01.row.prog = PG → lw_hd.heap_39 w.params = lw_hd.heap_39 w.params → True := by k_fill; intros; trivial
theorem ints_snocI {vs : List Value} {ns : List Int} (h : IntsAre vs ns) (n : Int) (t : Tok) : IntsAre (vs ++ [.int n t]) (ns ++ [n]) := by
  induction h with
  | nil => exact .cons _ _ .nil
  | cons k u _ ih => exact .cons k u ih
inductive RuleGood (i j : Nat) (r : List Int) : Prop
  | mk (low : List Int) (e : r = (14 + 3 * (i : Int) + (j : Int)) :: low) (hl : low.length ≤ 2) (hb : ∀ x ∈ low, 256 ≤ x ∧ x < 256 + (i : Int))
inductive RuleIn (tups : Led) (i j : Nat) (a : Addr) : Prop
  | mk (r : List Int) (vs : List Value) (n : Nat) (hm : (a, listOf vs.toArray n) ∈ tups) (hi : IntsAre vs r) (hg : RuleGood i j r)
noncomputable def RuleIns (tups : Led) (i : Nat) (as : List Addr) : Prop := ∀ j a, as[j]? = some a → RuleIn tups i j a
inductive LedIn (tups : Led) (i : Nat) (l : Addr) : Prop
  | mk (as : List Addr) (n : Nat) (h3 : as.length = 3) (hm : (l, listOf (as.map Value.ref).toArray n) ∈ tups) (hr : RuleIns tups i as)
noncomputable def KvsRules (tups : List (Addr × Obj)) (kvs : List (Int × Value)) (i : Nat) : Prop := (∀ k < i, ∃ l, valueAt kvs (256 + (k : Int)) = some (.ref l) ∧ LedIn tups k l) ∧ (∀ k : Nat, i ≤ k → valueAt kvs (256 + (k : Int)) = none) ∧ kvs.length ≤ i
theorem RuleIns.mono {t t' : List (Addr × Obj)} (hs : ∀ p ∈ t, p ∈ t') {i : Nat} {as : List Addr} (h : RuleIns t i as) : RuleIns t' i as := fun j a e =>
  let ⟨r, vs, n, hm, hi, hg⟩ := h j a e; ⟨r, vs, n, hs _ hm, hi, hg⟩
theorem LedIn.mono {t t' : List (Addr × Obj)} (hs : ∀ p ∈ t, p ∈ t') {i : Nat} {l : Addr} (h : LedIn t i l) : LedIn t' i l :=
  let ⟨as, n, h1, h2, h3⟩ := h; ⟨as, n, h1, hs _ h2, h3.mono hs⟩
theorem KvsRules.step {t t' : List (Addr × Obj)} (hs : ∀ p ∈ t, p ∈ t') {kvs : List (Int × Value)} {i : Nat} (h : KvsRules t kvs i) {l : Addr} (hl : LedIn t' i l) : KvsRules t' (stored kvs (256 + (i : Int)) (.ref l)) (i + 1) := by
  have hf := h.2.1 i (Nat.le_refl _)
  rw [stored_absent hf]
  refine ⟨fun k hk => ?_, fun k hk => ?_, by rw [List.length_append]; exact Nat.succ_le_succ h.2.2⟩
  · rw [valueAt_snoc hf]
    by_cases e : k = i
    · subst e; rw [if_pos rfl]; exact ⟨l, rfl, hl⟩
    · rw [if_neg (by omega)]
      obtain ⟨l', e1, e2⟩ := h.1 k (by omega)
      exact ⟨l', e1, e2.mono hs⟩
  · rw [valueAt_snoc hf, if_neg (by omega)]
    exact h.2.1 k (by omega)
theorem sign_size : ∀ (i : Nat), i < 3 → (Txt.slice (Str.ofString "+-*/|&<>=") (some (3 * (i : Int))) (some (3 * (i : Int) + 3))).cps.size = 3 := three (by decide +kernel) (by decide +kernel) (by decide +kernel)
noncomputable def signOf (i j : Nat) : Str := Str.ofString (["+", "-", "*", "/", "|", "&", "<", ">", "="].getD (3 * i + j) "")
theorem sign_all : ∀ i : Nat, i < 3 → ∀ j : Nat, j < 3 → ∀ c, (Txt.slice (Str.ofString "+-*/|&<>=") (some (3 * (i : Int))) (some (3 * (i : Int) + 3))).cps[j]? = some c → c < 128 ∧ ((⟨#[c]⟩ : Str) == signOf i j) = true := by
  have key : ∀ i : Nat, i < 3 → ∀ j : Nat, j < 3 → ((Txt.slice (Str.ofString "+-*/|&<>=") (some (3 * (i : Int))) (some (3 * (i : Int) + 3))).cps[j]?.all fun c => decide (c < 128) && ((⟨#[c]⟩ : Str) == signOf i j)) = true := by decide +kernel
  intro i hi j hj c h
  have := key i hi j hj
  rw [h] at this
  exact (Bool.and_eq_true_iff.mp this).imp of_decide_eq_true id
theorem sign_at (i j : Nat) (h : i < 3) (hj : j < 3) (v : Value) (hS : SignAt (Txt.slice (Str.ofString "+-*/|&<>=") (some (3 * (i : Int))) (some (3 * (i : Int) + 3))) j v) : ∃ t, v = .str (signOf i j) t := by
  obtain ⟨c, u, hc, rfl⟩ := hS
  exact ⟨u, congrArg (Value.str · u) (eq_of_beq (sign_all i h j hj c hc).2)⟩

section
variable {w : World} {sc : Scope} {c : Cx w sc} {x : Str} {ps : Names} {news : Led} {s : Shared} {h : Heap} {Q : Flow → Shared → Prop} {rest body : List Stmt} {px py pz pos : Pos} {e a b d : PySem.Expr} {es : List PySem.Expr} {i j k : Int} {y : Str} {l D : Addr} {v : Value} {vs us : List Value} {n : Nat} {o : Obj} {kvs : List (Int × Value)} {wv : Int → Option Nat}
theorem Cx.Mk.run {α : Type} {g : α → Value} {tl : α → Led} {φ : α → Prop} {Q : Value → Shared → Prop} (H : c.Mk e ps news g tl φ s) (hQ : ∀ a s', φ a → c.St ps (tl a ++ news) s' → Q (g a) s') : wpAny (model PG w) c.A (eval e c.env) Q c.E s := H Q hQ
theorem mk_sliceS (H : c.St ps news s) (hy : c.Ev e (.str y) s.heap) (ha : c.Ev a (.int i) s.heap) (hb : c.Ev b (.int j) s.heap) (hz : y.length ≤ sizeLine)
    (hs : autoParam (∀ t D, subscripted (.Slice (some a) (some b) none px) false (.str y t) (.ref D) = operate [.ref D, .str y t] (getItem (.str y t) (.ref D))) aut5._auto_1) (hg : autoParam (∀ t r, letTemporaryGo e (.str y t) r = pure ()) aut5._auto_1) :
    c.Mk (.Subscript e (.Slice (some a) (some b) none px) pos) ps news (.str (Txt.slice y (some i) (some j))) (fun _ => []) (fun _ => True) s := fun Q hQ =>
  Subscript_ (hy s _ _ rfl fun t _ => wpAny_Slice (evalPart_some_step (ha _ _ _ rfl fun u _ => evalPart_some_step (hb _ _ _ rfl fun u2 k => evalPart_none_step (by
    obtain ⟨m, F⟩ := (H.toks k).frm
    have N := (H.toks k).nw
    have N2 := (H.toks k).nd
    exact slice_strN_ss (s := { s with toks := k }) F N (fun h' t' k' F' N' => hQ t' _ trivial ((H.toks k).step (k := k') F F' N' N2)) (hs t _) (hg t) hz)))))
end
theorem ex_tk {w : World} {x : Str} {k : Int} {tk : Tok} (h : nsIn (lw_hd.heap_39 w.params) 95 x = some (some (.int k tk))) : ∃ tk, nsIn (lw_hd.heap_39 w.params) 95 x = some (some (.int k tk)) := ⟨tk, h⟩
set_option maxHeartbeats 4000000 in
theorem exact_sign (w : World) (i j : Nat) (hj : j < 3) (hi : i < 3) : ∃ tk, nsIn (lw_hd.heap_39 w.params) 95 (signOf i j) = some (some (.int (14 + 3 * (i : Int) + (j : Int)) tk)) := by
  revert i
  refine three ?_ ?_ ?_ <;> (revert j; refine three ?_ ?_ ?_)
  · exact ex_tk (x := "+") (k := 14) (by k_is)
  · exact ex_tk (x := "-") (k := 15) (by k_is)
  · exact ex_tk (x := "*") (k := 16) (by k_is)
  · exact ex_tk (x := "/") (k := 17) (by k_is)
  · exact ex_tk (x := "|") (k := 18) (by k_is)
  · exact ex_tk (x := "&") (k := 19) (by k_is)
  · exact ex_tk (x := "<") (k := 20) (by k_is)
  · exact ex_tk (x := ">") (k := 21) (by k_is)
  · exact ex_tk (x := "=") (k := 22) (by k_is)
theorem RuleIns.snoc {t t' : Led} {i j : Nat} {as : List Addr} {a : Addr} (h : RuleIns t i as) (hl : as.length = j) (hs : ∀ p ∈ t, p ∈ t') (hr : RuleIn t' i j a) : RuleIns t' i (as ++ [a]) := by
  intro j' a' ha
  rcases Nat.lt_or_ge j' as.length with h1 | h1
  · rw [List.getElem?_append_left h1] at ha
    exact h.mono hs j' a' ha
  · rw [List.getElem?_append_right h1] at ha
    obtain ⟨h2, e⟩ := List.getElem?_eq_some_iff.mp ha
    have ej : j' = j := hl ▸ Nat.le_antisymm (Nat.le_of_sub_eq_zero (Nat.lt_one_iff.mp h2)) h1
    rw [List.getElem_singleton] at e
    exact ej ▸ e ▸ hr
theorem low_ok {i : Nat} {low : List Int} {k : Int} (h : ∀ x ∈ low, 256 ≤ x ∧ x < 256 + (i : Int)) (h0 : 0 < k) (h1 : k < (i : Int) + 1) : ∀ x ∈ low ++ [256 + k - 1], 256 ≤ x ∧ x < 256 + (i : Int) := fun x hx => by
  rcases List.mem_append.mp hx with hx | hx
  · exact h x hx
  · rw [List.mem_singleton.mp hx]; omega
theorem kind_ok {i : Nat} (h : i < 3) : (i : Int) + 1 ≠ 0 ∧ (0 : Int) < (i : Int) + 1 ∧ ((i : Int) + 1).natAbs < 10 := by omega
noncomputable def rulN (rd ll : Addr) (i : Nat) (t : Tok) (num : Int) (tn : Tok) : Names := [(Str.ofString "rules", Value.ref rd), (Str.ofString "led", .ref ll), (Str.ofString "kind", .int i t), (Str.ofString "number", .int num tn)]
inductive RulK (w : World) (rd : Addr) (i : Nat) (ps : Names) (news : Led) : Prop
  | mk (ro : Obj) (kvs : List (Int × Value)) (tups : Led) (hkd : Obj.IsDictOf (intKind PG w) ro kvs) (hkr : KvsRules tups kvs i) (hn : nget ps (Str.ofString "rules") = some (.ref rd)) (e : news = (rd, ro) :: tups)
inductive RulL (i : Nat) (rd ll : Addr) (t : Tok) (R : Led) (j : Nat) (ps : Names) (news : Led) : Prop
  | mk (as : List Addr) (nn : Nat) (tups : Led) (num : Int) (tn : Tok) (has : as.length = j) (hin : RuleIns tups i as) (hn : ∀ q ∈ rulN rd ll i t num tn, nget ps q.1 = some q.2) (e : news = (ll, listOf (as.map Value.ref).toArray nn) :: (tups ++ R))
inductive RulP (i j : Nat) (rd ll rl : Addr) (t : Tok) (R : Led) (p : Nat) (ps : Names) (news : Led) : Prop
  | mk (vr : List Value) (nr : Nat) (low : List Int) (num : Int) (tn : Tok) (hvr : IntsAre vr ((14 + 3 * (i : Int) + (j : Int)) :: low)) (hl : low.length ≤ p) (hb : ∀ x ∈ low, 256 ≤ x ∧ x < 256 + (i : Int)) (hn : ∀ q ∈ rulN rd ll i t num tn ++ [(Str.ofString "rule", .ref rl)], nget ps q.1 = some q.2) (e : news = (rl, listOf vr.toArray nr) :: R)
set_option maxHeartbeats 8000000 in
theorem rules_spec (w : World) (nl : Addr) (ns : List Int) (hlen : ns.length = 3) :
    Spec w 20 118 [.ref nl] (fun h => IntsAt h nl ns) (fun p : Addr × Obj × List (Int × Value) × Led => .ref p.1) (fun p => (p.1, p.2.1) :: p.2.2.2)
      (fun p => Obj.IsDictOf (intKind PG w) p.2.1 p.2.2.1 ∧ KvsRules p.2.2.2 p.2.2.1 3) := by
  k_dflt (refine' spec_of0 (binds := [(Str.ofString "numbers", .ref nl)]) (qs := [(Str.ofString "numbers", .ref nl)]) ?k6 ?k7 ?k8 ?k9 ?kb ?c2 ?c3 ?c4 ?c5 ?_)
  case k6 => k_is
  case k7 => k_is
  case k8 => exact fun _ => .of_eq rfl
  case k9 => exact rfl
  case kb => exact kn1 rfl
  case c2 => exact rfl
  case c3 => exact rfl
  case c4 => exact rfl
  case c5 => exact fun _ => rfl
  intro c s Q hk hp H X
  obtain ⟨vs, hl, hi⟩ := hp
  refine st_mk (mk_dict H) fun p s hp H => ?_
  obtain ⟨rd, ro⟩ := p
  refine st_enum (RulK w rd) H (ev_boo H (by k_is) boot_enumerate (by decide)) (ev_loc H rfl) hl ⟨ro, [], [], hp.2, ⟨fun _ h => absurd h (Nat.not_lt_zero _), fun _ _ => rfl, Nat.le_refl _⟩, rfl, rfl⟩ ?_ ?_
  · rintro i t v s ps _ own Q₂ hv ⟨ro, kvs, tups, hkd, hkr, hn, rfl⟩ H R
    obtain ⟨n, tn, rfl, hns'⟩ := ints_at hi hv
    have hi3 : i < 3 := hlen ▸ (List.getElem?_eq_some_iff.mp hns').1
    refine st_mk (mk_list evl_nil H fun _ => Nat.zero_le _) fun p s _ H => ?_
    obtain ⟨_, ll⟩ := p
    have hz3 := sign_size i hi3
    refine st_for (P := SignAt _) (RulL i rd ll t ((rd, ro) :: tups ++ own)) H
      (Cx.Mk.run (mk_sliceS H ev_str (ev_mul ev_int (ev_locI H rfl) (mul_okL (by decide) (by decide))) (ev_add (ev_mul ev_int (ev_locI H rfl) (mul_okL (by decide) (by decide))) ev_int) (Nat.le_of_ble_eq_true rfl)) fun t s' _ H' => at_str H' ⟨[], 0, [], n, tn, rfl, fun _ _ e => (nomatch e), kn4 hn rfl rfl rfl, rfl⟩) ?_ ?_
    · generalize (rd, ro) :: tups ++ own = R0
      rintro j v s ps _ own₂ Q₃ hj hS ⟨as, nn, tups', num, tn', has, hin, hn, rfl⟩ H R
      rw [hz3] at hj
      obtain ⟨ts, rfl⟩ := sign_at i j hi3 hj v hS
      replace H := H.names hn
      obtain ⟨tk, htk⟩ := exact_sign w i j hj hi3
      refine st_mk (mi_list (evl_1 (ev_exact H (ev_glo H (by k_is)) (ev_locS H rfl) htk)) H (fun _ => .cons _ _ .nil) (Nat.le_of_ble_eq_true rfl)) fun p s hp H => ?_
      obtain ⟨rl, vr, nr⟩ := p
      refine st_range1 (n := 2) (RulP i j rd ll rl t ((ll, listOf (as.map Value.ref).toArray nn) :: (tups' ++ R0) ++ own₂)) H (ev_boo H (by k_is) boot_range (by decide)) ev_int (by decide) ⟨vr, nr, [], num, tn', hp, Nat.le_refl _, (fun _ h => nomatch h), kn rfl, rfl⟩ ?_ ?_
      · generalize (ll, listOf (as.map Value.ref).toArray nn) :: (tups' ++ R0) ++ own₂ = R1
        rintro p t' s ps _ own₃ Q₄ hp2 ⟨vr, nr, low, num, tn', hvr, hlow, hlb, hn, rfl⟩ H R
        replace H := H.names hn
        obtain ⟨hi1, hi0, hi9⟩ := kind_ok hi3
        have hf1 : num.fmod ((i : Int) + 1) < (i : Int) + 1 := Int.fmod_lt_of_pos _ hi0
        refine st_loc (ev_mod (ev_locI H rfl) (ev_add (ev_locI H rfl) ev_int) hi1) H fun t1 s H => ?_
        refine st_aug H rfl (ev_add (ev_locI H rfl) ev_int) (fun s Q E t hQ => ifloordiv_int hi1 (hQ _ _) (.inl (PyProof.noPylong_small (by omega)))) fun t2 s H => ?_
        refine st_if (Cx.Ts.tm H (ts_gt (ev_locI H rfl) ev_int)) ?_ ?_
        · intro hb s Q₅ H In
          refine st_append H (ev_loc H rfl) (fun s' H' => (ev_sub (ev_add (ev_glo H' (by k_is)).int (ev_locI H' rfl)) ev_int).mk H') (fun _ => .head) (by rw [hvr.length]; exact Nat.le_trans (Nat.succ_le_succ (Nat.le_trans hlow (Nat.le_of_lt hp2))) (by decide)) fun o s _ H => ?_
          exact do_nil (In.next _ (do_nil (R.next _ _ _ _ H Sub.refl ⟨_, _, low ++ [256 + num.fmod ((i : Int) + 1) - 1], _, _, ints_snocI hvr _ o, by rw [List.length_append]; exact Nat.succ_le_succ hlow, low_ok hlb (of_decide_eq_true hb) hf1, kn rfl, rfl⟩)))
        · intro hb s Q₅ H In
          exact do_nil (In.next _ (do_nil (R.next _ _ _ _ H Sub.refl ⟨_, _, low, _, _, hvr, Nat.le_succ_of_le hlow, hlb, kn rfl, rfl⟩)))
      · rintro s ps _ ⟨vr, nr, low, num, tn', hvr, hlow, hlb, hn, rfl⟩ H
        replace H := H.sub hn Sub.refl
        refine st_append (vs := as.map Value.ref) H (ev_loc H rfl) (fun s' H' => (ev_loc H' rfl).mk H') (fun _ => .tail .head) (by rw [List.length_map, has]; exact Nat.le_trans (Nat.le_of_lt hj) (by decide)) fun o s _ H => ?_
        have e1 : as.map Value.ref ++ [Value.ref rl] = (as ++ [rl]).map Value.ref := by rw [List.map_append]; rfl
        exact do_nil (R.next _ _ ((ll, listOf ((as ++ [rl]).map Value.ref).toArray (nn + 1)) :: ((rl, listOf vr.toArray nr) :: tups' ++ R0)) _ (e1 ▸ H) Sub.swap ⟨as ++ [rl], nn + 1, (rl, listOf vr.toArray nr) :: tups', num, tn', by rw [List.length_append, has]; rfl, hin.snoc has (fun p hp => .tail _ hp) ⟨_, vr, nr, .head _, hvr, low, rfl, hlow, hlb⟩, kn rfl, rfl⟩)
    · rintro s ps _ ⟨as, nn, tups', num, tn', has, hin, hn, rfl⟩ H
      replace H := H.sub hn Sub.refl
      refine wpAny_execs_cons (wpAny_Assign_Subscript (Cx.Ev.run (ev_loc H rfl) fun _ k1 => Cx.Ev.run (ev_loc (H.toks k1) rfl) fun _ k2 => Cx.Ev.run (ev_add (ev_glo (H.toks k2) (by k_is)).int (ev_locI (H.toks k2) rfl)) fun t k3 => do_setItem (H.toks k3) (fun _ => .tail (Rep.app .head)) hkd (Nat.le_trans hkr.2.2 (Nat.le_of_lt hi3)) fun ro' s' hro' H => do_nil ?_))
      have hlt : LedIn ((ll, listOf (as.map Value.ref).toArray nn) :: (tups' ++ tups)) i ll := ⟨as, nn, by rw [has]; exact hz3, .head _, hin.mono fun p hp => .tail _ (List.mem_append_left _ hp)⟩
      refine R.next _ _ ((rd, ro') :: ((ll, listOf (as.map Value.ref).toArray nn) :: (tups' ++ tups))) _ H (Sub.perm ?_) ⟨ro', _, _, hro', hkr.step (fun p hp => .tail _ (List.mem_append_right _ hp)) hlt, rfl, rfl⟩
      show List.Perm ((rd, ro') :: (((ll, listOf (as.map Value.ref).toArray nn) :: (tups' ++ tups)) ++ own)) (((ll, listOf (as.map Value.ref).toArray nn) :: tups') ++ (rd, ro') :: (tups ++ own))
      rw [List.cons_append, List.append_assoc]
      exact (List.perm_middle (l₁ := (ll, listOf (as.map Value.ref).toArray nn) :: tups') (a := (rd, ro'))).symm
  · rintro s ps _ ⟨ro, kvs, tups, hkd, hkr, hn, rfl⟩ H
    exact st_ret (ev_loc H hn) H fun t s H => X.ret (rd, ro, kvs, tups) _ _ _ ⟨hkd, by rw [hi.length, hlen] at hkr; exact hkr⟩ H Sub.refl
end Mine
namespace Mine
inductive RuleOk (k : Int) (r : List Int) : Prop
  | mk (tok : Int) (low : List Int) (e : r = tok :: low) (t1 : 14 ≤ tok) (t2 : tok ≤ 22) (hl : low.length ≤ 2) (hb : ∀ x ∈ low, 256 ≤ x ∧ x < k)
noncomputable def HoldsAll (h : Heap) (l : List (Addr × Obj)) : Prop := ∀ p ∈ l, h.get? p.1 = some p.2
theorem list_of_holds {h : Heap} {a : Addr} {items : Array Value} {n : Nat} (hg : h.get? a = some (listOf items n)) : h.IsList a items := ⟨_, hg, rfl, _, rfl⟩
theorem RuleIn.ok {tups : Led} {i j : Nat} {a : Addr} (h : RuleIn tups i j a) (hi : i < 3) (hj : j < 3) : ∃ r, RuleOk (256 + (i : Int)) r ∧ ∀ h, HoldsAll h tups → IntsAt h a r := by
  obtain ⟨_, vs, n, hm, hv, low, rfl, hl, hb⟩ := h
  exact ⟨_, ⟨_, low, rfl, by omega, by omega, hl, hb⟩, fun h hh => ⟨vs, list_of_holds (hh _ hm), hv⟩⟩
structure KR where
  l : Addr
  a : Addr
  b : Addr
  c : Addr
  ra : List Int
  rb : List Int
  rc : List Int
structure KR.Ok (tups : Led) (kvs : List (Int × Value)) (k : Int) (y : KR) : Prop where
  val : valueAt kvs k = some (.ref y.l)
  led : ∀ h, HoldsAll h tups → h.IsList y.l (([y.a, y.b, y.c] : List Addr).map Value.ref).toArray
  at_ : ∀ h, HoldsAll h tups → IntsAt h y.a y.ra ∧ IntsAt h y.b y.rb ∧ IntsAt h y.c y.rc
  ok : RuleOk k y.ra ∧ RuleOk k y.rb ∧ RuleOk k y.rc
theorem rules_facts {w : World} {rd : Addr} {ro : Obj} {kvs : List (Int × Value)} {tups : List (Addr × Obj)} (hkd : Obj.IsDictOf (intKind PG w) ro kvs) (hkr : KvsRules tups kvs 3) :
    ∃ (RA RB RC : Int → Addr) (SA SB SC : Int → List Int), (∀ k, 256 ≤ k → k ≤ 258 → RuleOk k (SA k) ∧ RuleOk k (SB k) ∧ RuleOk k (SC k)) ∧
      ∀ h, HoldsAll h ((rd, ro) :: tups) → RulesA w h rd (fun k => [RA k, RB k, RC k]) ∧ ∀ k, 256 ≤ k → k ≤ 258 → IntsAt h (RA k) (SA k) ∧ IntsAt h (RB k) (SB k) ∧ IntsAt h (RC k) (SC k) := by
  have one : ∀ k : Int, ∃ y : KR, 256 ≤ k → k ≤ 258 → y.Ok tups kvs k := by
    intro k
    by_cases hk : 256 ≤ k ∧ k ≤ 258
    · obtain ⟨i, rfl⟩ : ∃ i : Nat, k = 256 + (i : Int) := ⟨(k - 256).toNat, by omega⟩
      have hi3 : i < 3 := by omega
      obtain ⟨l, e, as, n, h3, hm, hr⟩ := hkr.1 i hi3
      match as, h3 with
      | [a, b, c], _ =>
        obtain ⟨r1, g1, x1⟩ := (hr 0 a rfl).ok hi3 (by decide)
        obtain ⟨r2, g2, x2⟩ := (hr 1 b rfl).ok hi3 (by decide)
        obtain ⟨r3, g3, x3⟩ := (hr 2 c rfl).ok hi3 (by decide)
        exact ⟨⟨l, a, b, c, r1, r2, r3⟩, fun _ _ => ⟨e, fun h hh => list_of_holds (hh _ hm), fun h hh => ⟨x1 h hh, x2 h hh, x3 h hh⟩, g1, g2, g3⟩⟩
    · exact ⟨⟨rd, rd, rd, rd, [], [], []⟩, fun h1 h2 => absurd ⟨h1, h2⟩ hk⟩
  obtain ⟨f, hf⟩ := Classical.axiomOfChoice one
  exact ⟨fun k => (f k).a, fun k => (f k).b, fun k => (f k).c, fun k => (f k).ra, fun k => (f k).rb, fun k => (f k).rc, fun k h1 h2 => (hf k h1 h2).ok, fun h hh => ⟨⟨_, Heap.DictOf.mapOf (Heap.dictOf_iff.mpr ⟨ro, hh _ (.head _), hkd⟩), fun k h1 h2 => ⟨_, (hf k h1 h2).val, (hf k h1 h2).led h fun p hp => hh p (.tail _ hp)⟩⟩, fun k h1 h2 => (hf k h1 h2).at_ h fun p hp => hh p (.tail _ hp)⟩⟩
end Mine
namespace Mine
section
variable (SA SB SC : Int → List Int)
noncomputable def Move (ns ns' : List Int) : Prop := ∃ pre n post r, ns = pre ++ n :: post ∧ 256 ≤ n ∧ n ≤ 258 ∧ (r = SA n ∨ r = SB n ∨ r = SC n) ∧ ns' = pre ++ r ++ post
inductive Play (r0 : List Int) : Nat → List (List Int) → List Int → Prop
  | start : Play r0 0 [] r0
  | move {i : Nat} {hist : List (List Int)} {ns ns' : List Int} : Play r0 i hist ns → Move SA SB SC ns ns' → Play r0 (i + 1) (hist ++ [ns]) ns'
noncomputable def AllOk : Prop := ∀ k, 256 ≤ k → k ≤ 258 → RuleOk k (SA k) ∧ RuleOk k (SB k) ∧ RuleOk k (SC k)
end
noncomputable def SymOk (n : Int) : Prop := n = 0 ∨ (14 ≤ n ∧ n ≤ 22) ∨ (256 ≤ n ∧ n ≤ 258)
theorem sym_le {n : Int} (h : SymOk n) : n ≤ 258 := by
  rcases h with h | h | h
  · rw [h]; decide
  · exact Int.le_trans h.2 (by decide)
  · exact h.2
noncomputable def potOne (n : Int) : Nat := if n = 256 then 1 else if n = 257 then 3 else if n = 258 then 7 else 0
noncomputable def pot (ns : List Int) : Nat := (ns.map potOne).sum
noncomputable def opOne (n : Int) : Nat := if 14 ≤ n ∧ n ≤ 22 then 1 else 0
noncomputable def ops (ns : List Int) : Nat := (ns.map opOne).sum
section
variable {SA SB SC : Int → List Int}
theorem AllOk.rule (h : AllOk SA SB SC) {n : Int} {r : List Int} (h1 : 256 ≤ n) (h2 : n ≤ 258) (hr : r = SA n ∨ r = SB n ∨ r = SC n) : RuleOk n r := by
  obtain ⟨a, b, c⟩ := h n h1 h2
  rcases hr with rfl | rfl | rfl
  · exact a
  · exact b
  · exact c
theorem sum_app (f : Int → Nat) (a b : List Int) : ((a ++ b).map f).sum = (a.map f).sum + (b.map f).sum := by rw [List.map_append, List.sum_append]
theorem nt_of {n : Int} (h : 256 ≤ n) : ∃ a : Nat, n = 256 + (a : Int) := ⟨(n - 256).toNat, by rw [Int.toNat_of_nonneg (Int.sub_nonneg_of_le h)]; omega⟩
theorem pot_up : ∀ b, b < 3 → 1 ≤ potOne (256 + ((b : Nat) : Int)) ∧ ∀ a, a < b → 2 * potOne (256 + ((a : Nat) : Int)) + 1 ≤ potOne (256 + ((b : Nat) : Int)) := by decide
theorem pot_half {n : Int} (h1 : 256 ≤ n) (h2 : n ≤ 258) : 1 ≤ potOne n ∧ ∀ x, 256 ≤ x → x < n → 2 * potOne x + 1 ≤ potOne n := by
  obtain ⟨b, rfl⟩ := nt_of h1
  obtain ⟨p, q⟩ := pot_up b (by omega)
  refine ⟨p, fun x hx hl => ?_⟩
  obtain ⟨a, rfl⟩ := nt_of hx
  exact q a (Int.ofNat_lt.mp (Int.lt_of_add_lt_add_left hl))
theorem low_pot {n : Int} (h1 : 256 ≤ n) (h2 : n ≤ 258) {low : List Int} (hl : low.length ≤ 2) (hb : ∀ x ∈ low, 256 ≤ x ∧ x < n) : pot low + 1 ≤ potOne n := by
  obtain ⟨p, q⟩ := pot_half h1 h2
  generalize potOne n = P at p q
  have key : 2 * pot low + low.length ≤ low.length * P := by
    clear hl
    induction low with
    | nil => rw [List.length_nil, Nat.zero_mul]; exact Nat.le_refl 0
    | cons x r ih =>
      have a := ih fun y hy => hb y (.tail _ hy)
      have b := q x (hb x (.head _)).1 (hb x (.head _)).2
      have e : pot (x :: r) = potOne x + pot r := rfl
      rw [List.length_cons, Nat.succ_mul r.length P, e]; omega
  generalize low.length = L at hl key
  generalize pot low = m at key
  rcases Nat.lt_succ_iff_lt_or_eq.mp (Nat.lt_succ_of_le hl) with hl | rfl
  · rcases Nat.lt_succ_iff_lt_or_eq.mp hl with hl | rfl
    · rw [Nat.lt_one_iff.mp hl, Nat.zero_mul] at key; omega
    · omega
  · omega
theorem Move.parts (H : AllOk SA SB SC) {ns ns' : List Int} (m : Move SA SB SC ns ns') : ∃ pre n post tok low, ns = pre ++ n :: post ∧ ns' = pre ++ (tok :: low) ++ post ∧ 256 ≤ n ∧ n ≤ 258 ∧ 14 ≤ tok ∧ tok ≤ 22 ∧ low.length ≤ 2 ∧ ∀ x ∈ low, 256 ≤ x ∧ x < n := by
  obtain ⟨pre, n, post, r, rfl, h1, h2, hr, rfl⟩ := m
  obtain ⟨tok, low, rfl, t1, t2, hl, hb⟩ := H.rule h1 h2 hr
  exact ⟨pre, n, post, tok, low, rfl, rfl, h1, h2, t1, t2, hl, hb⟩
theorem sum_move (f : Int → Nat) (pre post low : List Int) (n tok : Int) : ((pre ++ (tok :: low) ++ post).map f).sum + f n = ((pre ++ n :: post).map f).sum + (f tok + (low.map f).sum) := by
  rw [sum_app, sum_app, sum_app, List.map_cons, List.map_cons, List.sum_cons, List.sum_cons]; omega
theorem op_high {n : Int} (h : 256 ≤ n) : opOne n = 0 := if_neg fun k => absurd (Int.le_trans h k.2) (by decide)
theorem op_low {n : Int} {l : List Int} (h : ∀ x ∈ l, 256 ≤ x ∧ x < n) : (l.map opOne).sum = 0 := by
  induction l with
  | nil => rfl
  | cons x l ih => rw [List.map_cons, List.sum_cons, ih fun y hy => h y (.tail _ hy), op_high (h x (.head _)).1]
theorem Move.facts (H : AllOk SA SB SC) {ns ns' : List Int} (m : Move SA SB SC ns ns') : pot ns' + 1 ≤ pot ns ∧ ops ns' = ops ns + 1 ∧ ns'.length ≤ ns.length + 2 ∧ ((∀ n ∈ ns, SymOk n) → ∀ n ∈ ns', SymOk n) := by
  obtain ⟨pre, n, post, tok, low, rfl, rfl, h1, h2, t1, t2, hl, hb⟩ := m.parts H
  refine ⟨?_, ?_, ?_, fun hg x hx => ?_⟩
  · have hp := low_pot h1 h2 hl hb
    have ne : ∀ k : Int, 22 < k → ¬ tok = k := fun k hk e => absurd (e ▸ t2) (Int.not_le.mpr hk)
    have ht : potOne tok = 0 := (if_neg (ne 256 (by decide))).trans ((if_neg (ne 257 (by decide))).trans (if_neg (ne 258 (by decide))))
    have := sum_move potOne pre post low n tok
    unfold Mine.pot at hp ⊢
    omega
  · have := sum_move opOne pre post low n tok
    rw [op_high h1, op_low hb, show opOne tok = 1 from if_pos ⟨t1, t2⟩] at this
    exact this
  · rw [List.length_append, List.length_append, List.length_append, List.length_cons, List.length_cons]; omega
  · rcases List.mem_append.mp hx with hx | hx
    · rcases List.mem_append.mp hx with hx | hx
      · exact hg x (List.mem_append_left _ hx)
      · rcases List.mem_cons.mp hx with rfl | hx
        · exact .inr (.inl ⟨t1, t2⟩)
        · exact .inr (.inr ⟨(hb x hx).1, Int.le_trans (Int.le_of_lt (hb x hx).2) h2⟩)
    · exact hg x (List.mem_append_right _ (.tail _ hx))
structure RowG (r0 : List Int) (i : Nat) (ns : List Int) : Prop where
  good : ∀ n ∈ ns, SymOk n
  pot : pot ns + i ≤ pot r0
  ops : ops ns = i
  len : ns.length ≤ r0.length + 2 * i
theorem Play.facts (H : AllOk SA SB SC) {r0 : List Int} (g0 : ∀ n ∈ r0, SymOk n) (o0 : ops r0 = 0) {i : Nat} {hist : List (List Int)} {ns : List Int} (p : Play SA SB SC r0 i hist ns) : RowG r0 i ns := by
  induction p with
  | start => exact ⟨g0, Nat.le_refl _, o0, Nat.le_refl _⟩
  | move _ m ih =>
    obtain ⟨b, c, d, g⟩ := m.facts H
    exact ⟨g ih.good, Nat.le_trans (Nat.le_of_eq (Nat.succ_add_eq_add_succ _ _).symm) (Nat.le_trans (Nat.add_le_add_right b _) ih.pot), c.trans (congrArg (· + 1) ih.ops), Nat.le_trans d (Nat.add_le_add_right ih.len 2)⟩
theorem Play.len {r0 : List Int} {i : Nat} {hist : List (List Int)} {ns : List Int} (p : Play SA SB SC r0 i hist ns) : hist.length = i := by
  induction p with
  | start => rfl
  | move _ _ ih => rw [List.length_append, ih]; rfl
end
end Mine
namespace Mine
theorem mexL_mem {xs : List Nat} {v : Nat} (h : v < mexL xs) : v ∈ xs := mex_below 3 0 v (Nat.zero_le v) h
theorem xor_left {a b c : Nat} (h : a ^^^ b = a ^^^ c) : b = c := by
  have := congrArg (a ^^^ ·) h
  simp only [← Nat.xor_assoc, Nat.xor_self, Nat.zero_xor] at this
  exact this
theorem xor_right {a b c : Nat} (h : b ^^^ a = c ^^^ a) : b = c := xor_left (a := a) (by rw [Nat.xor_comm a b, Nat.xor_comm a c]; exact h)
theorem fold_xor (f : Int → Nat) (ns : List Int) : ∀ a : Nat, ns.foldl (fun t n => t ^^^ f n) a = a ^^^ ns.foldl (fun t n => t ^^^ f n) 0 := by
  induction ns with
  | nil => intro a; simp
  | cons n r ih =>
    intro a
    simp only [List.foldl_cons]
    rw [ih (a ^^^ f n), ih (0 ^^^ f n), Nat.zero_xor, Nat.xor_assoc]
theorem xorL_append (wv : Int → Option Nat) (a b : List Int) : xorL wv (a ++ b) = xorL wv a ^^^ xorL wv b := by
  unfold xorL
  rw [List.foldl_append, fold_xor (fun n => (wv n).getD 0) b]
theorem xorL_cons (wv : Int → Option Nat) (n : Int) (b : List Int) : xorL wv (n :: b) = (wv n).getD 0 ^^^ xorL wv b := by
  have := xorL_append wv [n] b
  rw [List.singleton_append] at this
  rw [this]; simp [xorL]
theorem xorL_congr {wv wv' : Int → Option Nat} {ns : List Int} (h : ∀ n ∈ ns, wv n = wv' n) : xorL wv ns = xorL wv' ns := by
  induction ns with
  | nil => rfl
  | cons n r ih => rw [xorL_cons, xorL_cons, h n (.head _), ih fun x hx => h x (.tail _ hx)]
theorem wv_agree (SA SB SC : Int → List Int) {i : Nat} {x : Int} (hx : x < 256 + (i : Int)) : ∀ j, i ≤ j → wvUp SA SB SC j x = wvUp SA SB SC i x := by
  intro j hj
  induction hj with
  | refl => rfl
  | step hj ih => rw [wvUp_succ, if_neg (by have := Int.ofNat_le.mpr hj; simp at this; omega), ih]
section
variable {SA SB SC : Int → List Int}
noncomputable abbrev WV (SA SB SC : Int → List Int) : Int → Option Nat := wvUp SA SB SC 3
theorem wv_low (x : Int) (hx : x < 256) : WV SA SB SC x = none := by
  rw [WV, wv_agree SA SB SC (i := 0) (by omega) 3 (by decide)]; rfl
theorem wv_eq (H : AllOk SA SB SC) {k : Int} (h1 : 256 ≤ k) (h2 : k ≤ 258) : WV SA SB SC k = some (mexL [xorL (WV SA SB SC) (SA k), xorL (WV SA SB SC) (SB k), xorL (WV SA SB SC) (SC k)]) := by
  obtain ⟨i, rfl⟩ : ∃ i : Nat, k = 256 + (i : Int) := ⟨(k - 256).toNat, by omega⟩
  have hc : ∀ r, RuleOk (256 + (i : Int)) r → xorL (wvUp SA SB SC i) r = xorL (WV SA SB SC) r := by
    rintro r ⟨tok, low, rfl, t1, t2, hl, hb⟩
    refine xorL_congr fun n hn => ?_
    have hlt : n < 256 + (i : Int) := by
      rcases List.mem_cons.mp hn with rfl | hn
      · omega
      · exact (hb n hn).2
    exact (wv_agree SA SB SC hlt 3 (by omega)).symm
  obtain ⟨a, b, c⟩ := H _ h1 h2
  rw [WV, wv_agree SA SB SC (i := i + 1) (by omega) 3 (by omega), wvUp_succ, if_pos rfl, hc _ a, hc _ b, hc _ c]
theorem wv_lt (k : Int) (v : Nat) (h : WV SA SB SC k = some v) : v < 4 := by
  rw [WV] at h
  have : ∀ i k v, wvUp SA SB SC i k = some v → v < 4 := by
    intro i
    induction i with
    | zero => intro k v h; cases h
    | succ i ih =>
      intro k v h
      rw [wvUp_succ] at h
      split at h
      · cases h; exact mexL_lt _
      · exact ih k v h
  exact this 3 k v h
theorem Move.lose (H : AllOk SA SB SC) {ns ns' : List Int} (m : Move SA SB SC ns ns') (h0 : xorL (WV SA SB SC) ns = 0) : xorL (WV SA SB SC) ns' ≠ 0 := by
  obtain ⟨pre, n, post, r, rfl, h1, h2, hr, rfl⟩ := m
  intro h
  rw [xorL_append, xorL_cons] at h0
  rw [xorL_append, xorL_append] at h
  have hw := wv_eq H h1 h2
  have hm : xorL (WV SA SB SC) r ∈ [xorL (WV SA SB SC) (SA n), xorL (WV SA SB SC) (SB n), xorL (WV SA SB SC) (SC n)] := by
    rcases hr with rfl | rfl | rfl
    · exact nm 0 rfl
    · exact nm 1 rfl
    · exact nm 2 rfl
  have hne : mexL [xorL (WV SA SB SC) (SA n), xorL (WV SA SB SC) (SB n), xorL (WV SA SB SC) (SC n)] ≠ xorL (WV SA SB SC) r := fun e => mexL_not (xs := [xorL (WV SA SB SC) (SA n), xorL (WV SA SB SC) (SB n), xorL (WV SA SB SC) (SC n)]) (Nat.le_refl 3) (e ▸ hm)
  rw [hw, Option.getD_some] at h0
  apply hne
  rw [Nat.xor_assoc] at h
  exact xor_right (xor_left (h0.trans h.symm))
theorem win_zero {wv : Int → Option Nat} {pre post r : List Int} {n : Int} (h : xorL wv (n :: r) = xorL wv (pre ++ n :: post)) : xorL wv (pre ++ r ++ post) = 0 := by
  rw [xorL_cons, xorL_append, xorL_cons, ← Nat.xor_assoc, Nat.xor_comm (xorL wv pre), Nat.xor_assoc] at h
  rw [xorL_append, xorL_append, xor_left h, ← Nat.xor_assoc, Nat.xor_self, Nat.zero_xor, Nat.xor_self]
theorem xor_some {B : Nat → Prop} {wv : Int → Option Nat} (hw : ∀ k v, wv k = some v → v < 4) (h0 : ¬ B 0) (hb : ∀ a, a < 4 → ∀ b, b < 4 → B (a ^^^ b) → B a ∨ B b) (ns : List Int) (h : B (xorL wv ns)) : ∃ n ∈ ns, (wv n).getD 0 < 4 ∧ B ((wv n).getD 0) := by
  induction ns with
  | nil => exact absurd h h0
  | cons n r ih =>
    have hf : (wv n).getD 0 < 4 := by
      cases e : wv n with
      | none => decide
      | some v => exact hw n v e
    rw [xorL_cons] at h
    rcases hb _ hf _ (xorL_lt hw r) h with h | h
    · exact ⟨n, .head _, hf, h⟩
    · obtain ⟨m, hm, e⟩ := ih h
      exact ⟨m, .tail _ hm, e⟩
theorem win_exists (H : AllOk SA SB SC) {ns : List Int} (hg : ∀ n ∈ ns, SymOk n) (h0 : xorL (WV SA SB SC) ns ≠ 0) :
    ∃ n ∈ ns, 256 ≤ n ∧ ∃ r, (r = SA n ∨ r = SB n ∨ r = SC n) ∧ xorL (WV SA SB SC) (n :: r) = xorL (WV SA SB SC) ns := by
  have k : ∀ t, t < 4 → ∀ a, a < 4 → ∀ b, b < 4 → (a ^^^ b) ^^^ t < a ^^^ b → a ^^^ t < a ∨ b ^^^ t < b := by decide
  obtain ⟨n, hn, _, hlt2⟩ := xor_some (B := fun x => x ^^^ xorL (WV SA SB SC) ns < x) wv_lt (Nat.not_lt_zero _) (k _ (xorL_lt wv_lt ns)) ns (by rw [Nat.xor_self]; exact Nat.pos_of_ne_zero h0)
  have h256 : 256 ≤ n := by
    apply Decidable.byContradiction
    intro hc
    rw [wv_low n (Int.not_le.mp hc)] at hlt2
    exact absurd hlt2 (Nat.not_lt_zero _)
  have h258 := sym_le (hg n hn)
  refine ⟨n, hn, h256, ?_⟩
  rw [wv_eq H h256 h258, Option.getD_some] at hlt2
  have hm := mexL_mem hlt2
  have fin : ∀ r, mexL [xorL (WV SA SB SC) (SA n), xorL (WV SA SB SC) (SB n), xorL (WV SA SB SC) (SC n)] ^^^ xorL (WV SA SB SC) ns = xorL (WV SA SB SC) r → xorL (WV SA SB SC) (n :: r) = xorL (WV SA SB SC) ns := by
    intro r e
    rw [xorL_cons, wv_eq H h256 h258, Option.getD_some, ← e, ← Nat.xor_assoc, Nat.xor_self, Nat.zero_xor]
  simp only [List.mem_cons, List.not_mem_nil, or_false] at hm
  rcases hm with e | e | e
  · exact ⟨_, .inl rfl, fin _ e⟩
  · exact ⟨_, .inr (.inl rfl), fin _ e⟩
  · exact ⟨_, .inr (.inr rfl), fin _ e⟩
end
end Mine
namespace Mine
theorem wsRun_blanks (v : Nat) (rest : List Nat) : ∀ st : WsS, wsRun (List.replicate v 32 ++ rest) st = wsRun rest ⟨st.cnt, st.b + v, st.n + v, st.nt⟩ := by
  induction v with
  | zero => intro st; rfl
  | succ v ih =>
    intro st
    rw [List.replicate_succ, List.cons_append]
    show (if (32 : Nat) = 32 then wsRun (List.replicate v 32 ++ rest) (wsBlank st) else _) = _
    rw [if_pos rfl, ih]
    show wsRun rest ⟨st.cnt, st.b + 1 + v, st.n + 1 + v, st.nt⟩ = wsRun rest ⟨st.cnt, st.b + (v + 1), st.n + (v + 1), st.nt⟩
    rw [Nat.add_assoc, Nat.add_assoc, Nat.add_comm 1 v]
structure Cnt (cnt : List Int) (c : Nat → Int) : Prop where
  len : cnt.length ≤ 4
  at' : ∀ j < 4, cnt.getD j 0 = c j
noncomputable def bump (c : Nat → Int) (v : Nat) : Nat → Int := fun j => if j = v then c j + 1 else c j
theorem grow_getD (cnt : List Int) (b j : Nat) : (wsGrow cnt b).getD j 0 = cnt.getD j 0 := by
  unfold wsGrow
  split
  · rw [flat_zero, List.getD_eq_getElem?_getD, List.getD_eq_getElem?_getD, List.getElem?_append]
    split
    · rfl
    · rename_i h
      rw [List.getElem?_eq_none (Nat.le_of_not_lt h), List.getElem?_replicate]
      split <;> rfl
  · rfl
theorem cnt_tab {cnt : List Int} {c : Nat → Int} (h : Cnt cnt c) {v : Nat} (hv : v < 4) : Cnt ((wsGrow cnt v).set v ((wsGrow cnt v).getD v 0 + 1)) (bump c v) := by
  have hlen := wsGrow_len cnt v
  have hlt : v < (wsGrow cnt v).length := by rw [hlen]; split <;> omega
  refine ⟨by rw [List.length_set, hlen]; have := h.len; split <;> omega, fun j hj => ?_⟩
  unfold bump
  rw [List.getD_eq_getElem?_getD, List.getElem?_set]
  by_cases e : j = v
  · subst e
    rw [if_pos rfl, if_pos rfl, if_pos hlt, Option.getD_some, grow_getD, h.at' j hj]
  · rw [if_neg (Ne.symm e), if_neg e, ← List.getD_eq_getElem?_getD, grow_getD, h.at' j hj]
theorem ilK_pad (cnt : List Int) (size : Nat) : ∀ k, ilK cnt size (cnt.length - size + k) = ilK cnt size (cnt.length - size)
  | 0 => rfl
  | k + 1 => by
    show ilK cnt size (cnt.length - size + k) + (((size + (cnt.length - size + k)) / size : Nat) : Int) * cnt.getD (size + (cnt.length - size + k)) 0 = _
    rw [ilK_pad cnt size k, List.getD_eq_getElem?_getD, List.getElem?_eq_none (by omega), Option.getD_none, Int.mul_zero, Int.add_zero]
theorem ilK_to {cnt : List Int} {size n : Nat} (h : cnt.length ≤ size + n) : ilK cnt size (cnt.length - size) = ilK cnt size n := by
  have := ilK_pad cnt size (n - (cnt.length - size))
  rw [← this, Nat.add_sub_cancel' (Nat.sub_le_of_le_add (Nat.add_comm size n ▸ h))]
theorem ilK_cnt {cnt : List Int} {c : Nat → Int} (h : Cnt cnt c) :
    ilK cnt 1 (cnt.length - 1) = c 1 + 2 * c 2 + 3 * c 3 ∧ ilK cnt 2 (cnt.length - 2) = c 2 + c 3 ∧ ilK cnt 4 (cnt.length - 4) = 0 := by
  have hl := h.len
  rw [ilK_to (n := 3) (by omega), ilK_to (n := 2) (by omega), ilK_to (n := 0) (by omega), ← h.at' 1 (by decide), ← h.at' 2 (by decide), ← h.at' 3 (by decide)]
  refine ⟨?_, ?_, rfl⟩
  · show 0 + 1 * cnt.getD 1 0 + 2 * cnt.getD 2 0 + 3 * cnt.getD 3 0 = _
    rw [Int.zero_add, Int.one_mul]
  · show 0 + 1 * cnt.getD 2 0 + 1 * cnt.getD 3 0 = _
    rw [Int.zero_add, Int.one_mul, Int.one_mul]
theorem evenOf_cnt {st : WsS} {c : Nat → Int} (hb : st.b = 0) (h : Cnt st.cnt c) : evenOf st = (decide ((c 1 + c 3) % 2 = 0) && decide ((c 2 + c 3) % 2 = 0)) := by
  obtain ⟨e1, e2, e4⟩ := ilK_cnt h
  have l1 : lvl st 1 = c 1 + 2 * c 2 + 3 * c 3 + st.nt := by
    show ((st.b : Nat) : Int) + ((1 : Nat) : Int) * (ilK st.cnt 1 (st.cnt.length - 1) + st.nt) = _
    rw [hb, e1]; exact (Int.zero_add _).trans (Int.one_mul _)
  have l2 : lvl st 2 = 2 * (c 2 + c 3 + st.nt) := by
    show ((st.b : Nat) : Int) + ((2 : Nat) : Int) * (ilK st.cnt 2 (st.cnt.length - 2) + st.nt) = _
    rw [hb, e2]; exact Int.zero_add _
  have l4 : lvl st 4 = 4 * (st.nt : Int) := by
    show ((st.b : Nat) : Int) + ((4 : Nat) : Int) * (ilK st.cnt 4 (st.cnt.length - 4) + st.nt) = _
    rw [hb, e4]; exact (Int.zero_add _).trans (congrArg (4 * ·) (Int.zero_add _))
  have d1 : (2 * (c 2 + c 3 + st.nt) - (c 1 + 2 * c 2 + 3 * c 3 + st.nt) - st.nt) = -(c 1 + c 3) := by omega
  have d2 : (4 * (st.nt : Int) - 2 * (c 2 + c 3 + st.nt) - 2 * st.nt) = 2 * -(c 2 + c 3) := by omega
  have d3 : ∀ a : Int, (2 * -a) % 4 = 2 * (a % 2) := fun a => (Int.mul_emod_mul_of_pos (-a) 2 (by decide : (0 : Int) < 2)).trans (congrArg (2 * ·) (Int.neg_emod_two a))
  unfold evenOf
  rw [l1, l2, l4, d1, d2, Int.fmod_eq_emod_of_nonneg _ (by decide), Int.fmod_eq_emod_of_nonneg _ (by decide), Int.neg_emod_two, d3]
  rcases Int.emod_two_eq (c 1 + c 3) with e | e <;> rcases Int.emod_two_eq (c 2 + c 3) with e' | e' <;> rw [e, e'] <;> rfl
theorem fourN {P : Nat → Prop} (h0 : P 0) (h1 : P 1) (h2 : P 2) (h3 : P 3) : ∀ v, v < 4 → P v
  | 0, _ => h0
  | 1, _ => h1
  | 2, _ => h2
  | 3, _ => h3
noncomputable def Par (c : Nat → Int) (x : Nat) : Prop := x < 4 ∧ (c 1 + c 3) % 2 = ((x % 2 : Nat) : Int) ∧ (c 2 + c 3) % 2 = ((x / 2 : Nat) : Int)
theorem xor_bits : ∀ x < 4, ∀ v < 4, x ^^^ v < 4 ∧ (x ^^^ v) % 2 = (x % 2 + v % 2) % 2 ∧ (x ^^^ v) / 2 = (x / 2 + v / 2) % 2 := by decide
theorem bump_bits (c : Nat → Int) : ∀ v < 4, Mine.bump c v 1 + Mine.bump c v 3 = c 1 + c 3 + ((v % 2 : Nat) : Int) ∧ Mine.bump c v 2 + Mine.bump c v 3 = c 2 + c 3 + ((v / 2 : Nat) : Int) :=
  fourN ⟨(Int.add_zero _).symm, (Int.add_zero _).symm⟩ ⟨Int.add_right_comm _ _ _, (Int.add_zero _).symm⟩ ⟨(Int.add_zero _).symm, Int.add_right_comm _ _ _⟩ ⟨(Int.add_assoc _ _ _).symm, (Int.add_assoc _ _ _).symm⟩
theorem Par.bump {c : Nat → Int} {x v : Nat} (h : Par c x) (hv : v < 4) : Par (bump c v) (x ^^^ v) := by
  obtain ⟨hx, h1, h2⟩ := h
  obtain ⟨a, b, d⟩ := xor_bits x hx v hv
  obtain ⟨e, f⟩ := bump_bits c v hv
  refine ⟨a, ?_, ?_⟩
  · rw [e, b, Int.natCast_emod (x % 2 + v % 2) 2, Int.natCast_add, ← h1]; exact (Int.emod_add_emod ..).symm
  · rw [f, d, Int.natCast_emod (x / 2 + v / 2) 2, Int.natCast_add, ← h2]; exact (Int.emod_add_emod ..).symm
noncomputable def leadC (vs : List Nat) : List Nat := vs.flatMap fun v => List.replicate v 32 ++ [9]
theorem wsRun_vals (rest : List Nat) : ∀ (vs : List Nat), (∀ v ∈ vs, v < 4) → ∀ (st : WsS) (c : Nat → Int) (x : Nat), st.b = 0 → Cnt st.cnt c → Par c x →
    ∃ st' c', wsRun (leadC vs ++ rest) st = wsRun rest st' ∧ st'.b = 0 ∧ Cnt st'.cnt c' ∧ Par c' (vs.foldl (· ^^^ ·) x) ∧ st'.n = st.n + (leadC vs).length ∧ st'.nt = st.nt + vs.length := by
  intro vs
  induction vs with
  | nil => intro _ st c x hb hc hp; exact ⟨st, c, rfl, hb, hc, hp, rfl, rfl⟩
  | cons v vs ih =>
    intro hv st c x hb hc hp
    have hv4 := hv v (.head _)
    have e : leadC (v :: vs) ++ rest = List.replicate v 32 ++ (9 :: (leadC vs ++ rest)) := by simp [leadC]
    have e2 : (leadC (v :: vs)).length = v + 1 + (leadC vs).length := by simp [leadC]; omega
    have e3 : wsRun (9 :: (leadC vs ++ rest)) ⟨st.cnt, st.b + v, st.n + v, st.nt⟩ = wsRun (leadC vs ++ rest) (wsTab ⟨st.cnt, st.b + v, st.n + v, st.nt⟩) := by
      show (if (9 : Nat) = 32 then _ else if (9 : Nat) = 9 then _ else _) = _
      rw [if_neg (by decide), if_pos rfl]
    obtain ⟨st', c', h1, h2, h3, h4, h5, h6⟩ := ih (fun u hu => hv u (.tail _ hu)) (wsTab ⟨st.cnt, st.b + v, st.n + v, st.nt⟩) (bump c v) (x ^^^ v) rfl (by
      show Cnt ((wsGrow st.cnt (st.b + v)).set (st.b + v) ((wsGrow st.cnt (st.b + v)).getD (st.b + v) 0 + 1)) _
      rw [hb, Nat.zero_add]; exact cnt_tab hc hv4) (hp.bump hv4)
    refine ⟨st', c', by rw [e, wsRun_blanks, e3, h1], h2, h3, h4, ?_, ?_⟩
    · rw [h5, e2]; show st.n + v + 1 + _ = _; omega
    · rw [h6]; show st.nt + 1 + _ = _; rw [List.length_cons]; omega
noncomputable def valsL (wv : Int → Option Nat) (ns : List Int) : List Nat := (ns.filter fun n => decide (256 ≤ n)).map fun n => (wv n).getD 0
theorem mul_cps : ∀ v < 4, (Txt.mul (Str.ofString " ") ((v : Nat) : Int) ++ Str.ofString "\t").cps.toList = List.replicate v 32 ++ [9] := by decide +kernel
theorem leadL_cps {wv : Int → Option Nat} (hw : ∀ k v, wv k = some v → v < 4) (ns : List Int) : (leadL wv ns).cps.toList = leadC (valsL wv ns) := by
  have key : ∀ (ns : List Int) (s : Str), (ns.foldl (fun s n => s ++ leadOne wv n) s).cps.toList = s.cps.toList ++ leadC (valsL wv ns) := by
    intro ns
    induction ns with
    | nil => intro s; simp [valsL, leadC]
    | cons n r ih =>
      intro s
      rw [List.foldl_cons, ih, Str.cps_append, Array.toList_append, List.append_assoc]
      congr 1
      unfold leadOne valsL
      by_cases hn : 256 ≤ n
      · rw [if_pos hn, List.filter_cons_of_pos (by simpa using hn), List.map_cons]
        have hv : (wv n).getD 0 < 4 := by
          cases e : wv n with
          | none => decide
          | some v => exact hw n v e
        rw [mul_cps _ hv]; simp [leadC]
      · rw [if_neg hn, List.filter_cons_of_neg (by simpa using hn)]
        rfl
  have := key ns (Str.ofString "")
  unfold leadL
  rw [this]; rfl
theorem xorL_vals {wv : Int → Option Nat} (hl : ∀ n, n < 256 → wv n = none) (ns : List Int) : xorL wv ns = (valsL wv ns).foldl (· ^^^ ·) 0 := by
  have key : ∀ (ns : List Int) (a : Nat), ns.foldl (fun t n => t ^^^ (wv n).getD 0) a = (valsL wv ns).foldl (· ^^^ ·) a := by
    intro ns
    induction ns with
    | nil => intro a; rfl
    | cons n r ih =>
      intro a
      unfold valsL
      rw [List.foldl_cons, ih]
      by_cases hn : 256 ≤ n
      · rw [List.filter_cons_of_pos (by simpa using hn), List.map_cons, List.foldl_cons]; rfl
      · rw [List.filter_cons_of_neg (by simpa using hn), hl n (by omega), Option.getD_none, Nat.xor_zero]; rfl
  exact key ns 0
noncomputable def NoLead (z : Str) : Prop := ∀ c, z.cps.toList.head? = some c → c ≠ 32 ∧ c ≠ 9
theorem line_law {wv : Int → Option Nat} (hw : ∀ k v, wv k = some v → v < 4) (hl : ∀ n, n < 256 → wv n = none) (ns : List Int) (z : Str) (hz : NoLead z) :
    evenOf (wsRun (leadL wv ns ++ z).cps.toList wsZero) = decide (xorL wv ns = 0) ∧ (wsRun (leadL wv ns ++ z).cps.toList wsZero).n = (leadL wv ns).length := by
  have hv : ∀ v ∈ valsL wv ns, v < 4 := by
    intro v h
    obtain ⟨n, _, rfl⟩ := List.mem_map.mp h
    cases e : wv n with
    | none => decide
    | some v => exact hw n v e
  obtain ⟨st', c', h1, h2, h3, h4, h5, h6⟩ := wsRun_vals z.cps.toList (valsL wv ns) hv wsZero (fun _ => 0) 0 rfl ⟨by decide, fun j _ => by simp [wsZero]⟩ ⟨by decide, by decide, by decide⟩
  have e1 : (leadL wv ns ++ z).cps.toList = leadC (valsL wv ns) ++ z.cps.toList := by rw [Str.cps_append, Array.toList_append, leadL_cps hw]
  have e2 : wsRun z.cps.toList st' = st' := by
    cases hc : z.cps.toList with
    | nil => rfl
    | cons c r =>
      obtain ⟨a, b⟩ := hz c (by rw [hc]; rfl)
      show (if c = 32 then _ else if c = 9 then _ else st') = st'
      rw [if_neg a, if_neg b]
  rw [e1, h1, e2]
  refine ⟨?_, ?_⟩
  · rw [evenOf_cnt h2 h3, xorL_vals hl]
    obtain ⟨p1, p2, p3⟩ := h4
    generalize (valsL wv ns).foldl (· ^^^ ·) 0 = x at *
    rw [p2, p3]
    clear p2 p3
    revert x
    exact fourN rfl rfl rfl rfl
  · rw [h5]
    show 0 + _ = _
    rw [Nat.zero_add, ← leadL_cps hw]
    exact Array.length_toList
end Mine
namespace Mine
section
open PySem.StrLaws Builtin Builtin.Str
theorem occ_from (s sub : Str) (lo hi : Nat) :
    (occurrences s sub lo hi 1 = [] ∧ ∀ k, lo ≤ k → ¬ At s sub hi k) ∨ ∃ k r, occurrences s sub lo hi 1 = k :: r ∧ lo ≤ k ∧ At s sub hi k ∧ ∀ j, lo ≤ j → At s sub hi j → k ≤ j := by
  have mem : ∀ k, lo ≤ k → At s sub hi k → k ∈ List.range' lo (hi + 1 - lo) := fun k h1 h2 => List.mem_range'_1.mpr ⟨h1, by have := h2.1; omega⟩
  rw [occ_eq]
  rcases occ_first s sub hi 1 (Nat.le_refl _) (List.range' lo (hi + 1 - lo)) lo (fun i h => (List.mem_range'_1.mp h).1) with ⟨h0, hn⟩ | ⟨pre, a, post, e, h0, ha, hn⟩
  · exact .inl ⟨by rw [h0], fun k h1 h2 => hn k (mem k h1 h2) h2⟩
  · generalize (forIn (List.range' lo (hi + 1 - lo)) ((#[] : Array Nat), lo) (occBody s sub hi 1)).run.fst = arr at h0
    have h1 : arr.toList[0]? = some a := by rw [Array.getElem?_toList]; exact h0
    obtain ⟨r, hr⟩ := List.head?_eq_some_iff.mp (List.head?_eq_getElem?.trans h1)
    have hp := List.pairwise_lt_range' (s := lo) (n := hi + 1 - lo)
    rw [e] at hp mem
    refine .inr ⟨a, r, hr, (List.mem_range'_1.mp (e ▸ List.mem_append_right _ (.head _))).1, ha, fun j h2 h3 => ?_⟩
    rcases List.mem_append.mp (mem j h2 h3) with hj | hj
    · exact absurd h3 (hn j hj)
    · rcases List.mem_cons.mp hj with rfl | hj
      · exact Nat.le_refl _
      · exact Nat.le_of_lt ((List.pairwise_cons.mp (List.pairwise_append.mp hp).2.1).1 j hj)
end
section
open Builtin Builtin.Str
inductive InOrd (got : Str) (ep : Nat) : List Str → Nat → Prop
  | nil {sp : Nat} : InOrd got ep [] sp
  | cons {w : Str} {r : List Str} {sp : Nat} (k : Nat) (h1 : sp ≤ k) (h2 : StrLaws.At got w ep k) (h3 : InOrd got ep r (k + w.length)) : InOrd got ep (w :: r) sp
theorem InOrd.mono {got : Str} {ep : Nat} {ws : List Str} {sp sp' : Nat} (h : sp ≤ sp') (H : InOrd got ep ws sp') : InOrd got ep ws sp := by
  cases H with
  | nil => exact .nil
  | cons k h1 h2 h3 => exact .cons k (Nat.le_trans h h1) h2 h3
theorem fromIndex_nat (n k : Nat) : fromIndex n (k : Int) = k := by
  unfold fromIndex; rw [if_neg (Int.not_lt.mpr (Int.natCast_nonneg k))]; rfl
theorem find4_nat (got w : Str) (sp ep : Nat) (he : ep ≤ got.length) : find4 got w (sp : Int) (ep : Int) = match occurrences got w sp ep 1 with | k :: _ => (k : Int) | [] => -1 := by
  unfold find4; rw [fromIndex_nat, fromIndex_nat, Nat.min_eq_left he]
  all_goals (cases occurrences got w sp ep 1 <;> rfl)
theorem ellLoop_iff (got : Str) (ep : Nat) (he : ep ≤ got.length) (ws : List Str) : ∀ (sp : Nat), ellLoop got (ep : Int) ws (sp : Int) = true ↔ InOrd got ep ws sp := by
  induction ws with
  | nil => exact fun sp => ⟨fun _ => .nil, fun _ => rfl⟩
  | cons w r ih =>
    intro sp
    show (if find4 got w (sp : Int) (ep : Int) < 0 then false else ellLoop got (ep : Int) r (find4 got w (sp : Int) (ep : Int) + (w.length : Int))) = true ↔ _
    rw [find4_nat _ _ _ _ he]
    rcases occ_from got w sp ep with ⟨h1, h2⟩ | ⟨k, t, h1, h2, h3, h4⟩
    · rw [h1]
      refine ⟨fun h => (nomatch h), fun h => ?_⟩
      cases h with
      | cons k a b c => exact absurd b (h2 k a)
    · rw [h1]
      show (if (k : Int) < 0 then false else ellLoop got (ep : Int) r ((k : Int) + (w.length : Int))) = true ↔ _
      rw [if_neg (Int.not_lt.mpr (Int.natCast_nonneg k)), ← Int.natCast_add, ih]
      refine ⟨fun h => .cons k h2 h3 h, fun h => ?_⟩
      cases h with
      | cons j a b c => exact c.mono (Nat.add_le_add_right (h4 j a b) _)
theorem subAt_empty (g w : Str) (k : Nat) (h : w.length = 0) : subAt g w k = true := by
  have e : w.cps = #[] := Array.eq_empty_of_size_eq_zero h
  unfold subAt
  rw [h, e]
  simp
  exact Nat.min_le_left _ _
theorem at_empty {g w : Str} {k ep : Nat} (h : w.length = 0) (hk : k ≤ ep) : StrLaws.At g w ep k := ⟨by rw [h]; exact hk, subAt_empty _ _ _ h⟩
theorem InOrd.snoc0 {got b : Str} {ep : Nat} (hb : b.length = 0) {mid : List Str} : ∀ {sp : Nat}, sp ≤ ep → (InOrd got ep (mid ++ [b]) sp ↔ InOrd got ep mid sp) := by
  induction mid with
  | nil => exact fun {sp} h => ⟨fun _ => .nil, fun _ => .cons sp (Nat.le_refl _) (at_empty hb h) .nil⟩
  | cons w r ih =>
    intro sp h
    constructor
    · intro h; cases h with
      | cons k a b1 d => exact .cons k a b1 ((ih b1.1).mp d)
    · intro h; cases h with
      | cons k a b1 d => exact .cons k a b1 ((ih b1.1).mpr d)
theorem InOrd.cons0 {got a : Str} {ep : Nat} {r : List Str} (ha : a.length = 0) : InOrd got ep (a :: r) 0 ↔ InOrd got ep r 0 := by
  constructor
  · intro h; cases h with
    | cons k _ _ d => exact d.mono (Nat.zero_le _)
  · intro d; exact .cons 0 (Nat.le_refl _) (at_empty ha (Nat.zero_le _)) (by rw [ha]; exact d)
noncomputable def Match (got a0 : Str) (mid : List Str) (b0 : Str) : Prop := a0.length + b0.length ≤ got.length ∧ subAt got a0 0 = true ∧ subAt got b0 (got.length - b0.length) = true ∧ InOrd got (got.length - b0.length) mid a0.length
theorem sw_iff (x y : Str) : Txt.startswith x y = true ↔ y.length ≤ x.length ∧ subAt x y 0 = true := by unfold Txt.startswith; simp
theorem ew_iff (x y : Str) : Txt.endswith x y = true ↔ y.length ≤ x.length ∧ subAt x y (x.length - y.length) = true := by unfold Txt.endswith; simp
theorem ellTail_iff (got : Str) (ep sp : Nat) (he : ep ≤ got.length) (ws : List Str) : ellTail got (ep : Int) ws (sp : Int) = true ↔ sp ≤ ep ∧ InOrd got ep ws sp := by
  unfold ellTail
  by_cases h : (ep : Int) < (sp : Int)
  · rw [if_pos h]; exact ⟨fun h => (nomatch h), fun h' => absurd h'.1 (by omega)⟩
  · rw [if_neg h, ellLoop_iff got ep he]; exact ⟨fun h' => ⟨by omega, h'⟩, fun h => h.2⟩
theorem ellEnd_iff (got b0 : Str) (pre : List Str) (sp : Nat) : ellEnd got pre b0 (sp : Int) = true ↔ sp + b0.length ≤ got.length ∧ subAt got b0 (got.length - b0.length) = true ∧ InOrd got (got.length - b0.length) pre sp := by
  unfold ellEnd
  by_cases hb : b0.length = 0
  · rw [if_neg (by omega), ellTail_iff got _ sp (Nat.le_refl _), hb, Nat.sub_zero, Nat.add_zero]
    exact ⟨fun h => ⟨h.1, subAt_empty _ _ _ hb, (InOrd.snoc0 hb h.1).mp h.2⟩, fun h => ⟨h.1, (InOrd.snoc0 hb h.1).mpr h.2.2⟩⟩
  · rw [if_pos (by omega)]
    by_cases he : Txt.endswith got b0 = true
    · have he' := (ew_iff _ _).mp he
      rw [if_pos he, ← Int.ofNat_sub he'.1, ellTail_iff got _ sp (Nat.sub_le _ _)]
      exact ⟨fun h => ⟨by omega, he'.2, h.2⟩, fun h => ⟨by omega, h.2.2⟩⟩
    · rw [if_neg he]; exact ⟨fun h => (nomatch h), fun h => absurd ((ew_iff _ _).mpr ⟨by omega, h.2.1⟩) he⟩
theorem ellM_iff (got a0 : Str) (mid : List Str) (b0 : Str) : ellM got a0 mid b0 = true ↔ Match got a0 mid b0 := by
  unfold ellM Match
  by_cases ha : a0.length = 0
  · rw [if_neg (by omega), ha, Nat.zero_add]
    refine (ellEnd_iff got b0 (a0 :: mid) 0).trans ?_
    rw [InOrd.cons0 ha, Nat.zero_add]
    exact ⟨fun h => ⟨h.1, subAt_empty _ _ _ ha, h.2⟩, fun h => ⟨h.1, h.2.2⟩⟩
  · rw [if_pos (by omega)]
    by_cases hs : Txt.startswith got a0 = true
    · rw [if_pos hs, ellEnd_iff]
      exact ⟨fun h => ⟨h.1, ((sw_iff _ _).mp hs).2, h.2⟩, fun h => ⟨h.1, h.2.2⟩⟩
    · rw [if_neg hs]; exact ⟨fun h => (nomatch h), fun h => absurd ((sw_iff _ _).mpr ⟨by omega, h.2.1⟩) hs⟩
end
end Mine
namespace Mine
section
open Builtin Builtin.Str
theorem subAt_list {s w : Str} {k : Nat} (h : subAt s w k = true) : (s.cps.toList.drop k).take w.length = w.cps.toList := by
  unfold subAt at h
  have e := congrArg Array.toList (beq_iff_eq.mp h)
  rw [Array.toList_extract] at e
  rw [← e, List.extract_eq_take_drop]
  congr 1; omega
noncomputable def nd (l : List Nat) : Nat := l.countP (· ≠ 46)
theorem nd_append (a b : List Nat) : nd (a ++ b) = nd a + nd b := List.countP_append ..
theorem nd_all {l : List Nat} (h : ∀ c ∈ l, c ≠ 46) : nd l = l.length := List.countP_eq_length.mpr (by simpa using h)
theorem nd_drop (l : List Nat) (k : Nat) : nd (l.drop k) ≤ nd l := (List.drop_sublist k l).countP_le
theorem InOrd.count {got : Str} {ep : Nat} {ws : List Str} {sp : Nat} (h : InOrd got ep ws sp) (hw : ∀ w ∈ ws, ∀ c ∈ w.cps.toList, c ≠ 46) : (ws.map Str.length).sum ≤ nd ((got.cps.toList.take ep).drop sp) := by
  induction h with
  | nil => exact Nat.zero_le _
  | @cons w r sp k h1 h2 h3 ih =>
    have ih := ih fun u hu => hw u (.tail _ hu)
    have hs := subAt_list h2.2
    have hk := h2.1
    generalize got.cps.toList = g at *
    have e2 : (g.take ep).drop k = w.cps.toList ++ (g.take ep).drop (k + w.length) := by
      conv => lhs; rw [← List.take_append_drop w.length ((g.take ep).drop k)]
      rw [List.drop_drop]
      congr 1
      rw [← hs, List.drop_take, List.take_take, Nat.min_eq_left (Nat.le_sub_of_add_le' hk)]
    have e1 := nd_drop ((g.take ep).drop sp) (k - sp)
    rw [List.drop_drop, Nat.add_sub_cancel' h1, e2, nd_append, nd_all (hw w (.head _)), show w.cps.toList.length = w.length from Array.length_toList] at e1
    rw [List.map_cons, List.sum_cons]
    exact Nat.le_trans (Nat.add_le_add_left ih _) e1
theorem Match.count {got a0 b0 : Str} {mid : List Str} (h : Match got a0 mid b0) (ha : ∀ c ∈ a0.cps.toList, c ≠ 46) (hb : ∀ c ∈ b0.cps.toList, c ≠ 46) (hm : ∀ w ∈ mid, ∀ c ∈ w.cps.toList, c ≠ 46) :
    a0.length + (mid.map Str.length).sum + b0.length ≤ nd got.cps.toList := by
  obtain ⟨h1, h2, h3, h4⟩ := h
  have hc := h4.count hm
  have s1 := subAt_list h2
  have s2 := subAt_list h3
  have hg : got.cps.toList.length = got.length := Array.length_toList
  have ea : a0.cps.toList.length = a0.length := Array.length_toList
  have eb : b0.cps.toList.length = b0.length := Array.length_toList
  generalize got.cps.toList = g at *
  generalize got.length = n at *
  rw [List.drop_zero] at s1
  have e1 : g = g.take (n - b0.length) ++ g.drop (n - b0.length) := (List.take_append_drop _ _).symm
  have e2 : g.drop (n - b0.length) = b0.cps.toList := by rw [← s2, List.take_of_length_le]; rw [List.length_drop, hg, Nat.sub_sub_self (Nat.le_trans (Nat.le_add_left _ _) h1)]; exact Nat.le_refl _
  have e3 : g.take (n - b0.length) = a0.cps.toList ++ (g.take (n - b0.length)).drop a0.length := by
    conv => lhs; rw [← List.take_append_drop a0.length (g.take (n - b0.length))]
    congr 1
    rw [List.take_take, Nat.min_eq_left (Nat.le_sub_of_add_le h1), s1]
  rw [e1, nd_append, e2, e3, nd_append, nd_all ha, nd_all hb, ea, eb]
  exact Nat.add_le_add_right (Nat.add_le_add_left hc _) _
end
end Mine
namespace Mine
noncomputable def textC (n : Int) : List Nat := (textOne n).cps.toList
theorem textC_nt {n : Int} (h : 256 ≤ n) : textC n = [46, 46, 46] := by unfold textC textOne; rw [if_pos h]; decide +kernel
theorem textC_zero : textC 0 = [] := by decide +kernel
theorem textC_op {n : Int} (h1 : 14 ≤ n) (h2 : n ≤ 22) : ∃ c, textC n = [c] ∧ c ≠ 46 ∧ c ≠ 32 ∧ c ≠ 9 := by
  have key : ∀ k ∈ List.range 9, ∃ c ∈ List.range 128, (Txt.item (Str.ofString "+-*/|&<>=") ((k : Nat) : Int)).cps.toList = [c] ∧ c ≠ 46 ∧ c ≠ 32 ∧ c ≠ 9 := by decide +kernel
  have e : textC n = (Txt.item (Str.ofString "+-*/|&<>=") (n - 14)).cps.toList := by unfold textC textOne; rw [if_neg (by omega), if_neg (by omega)]
  obtain ⟨c, _, h⟩ := key (n - 14).toNat (by simp; omega)
  rw [Int.toNat_of_nonneg (by omega)] at h
  exact ⟨c, by rw [e]; exact h⟩
theorem textL_cps (ns : List Int) : (textL ns).cps.toList = ns.flatMap textC := by
  have key : ∀ (ns : List Int) (s : Str), (ns.foldl (fun s n => s ++ textOne n) s).cps.toList = s.cps.toList ++ ns.flatMap textC := by
    intro ns
    induction ns with
    | nil => intro s; simp
    | cons n r ih => intro s; rw [List.foldl_cons, ih, Str.cps_append, Array.toList_append, List.append_assoc, List.flatMap_cons]; rfl
  have := key ns (Str.ofString "")
  unfold textL
  rw [this]; rfl
noncomputable def joinD : List (List Nat) → List Nat
  | [] => []
  | [p] => p
  | p :: q => p ++ [46, 46, 46] ++ joinD q
noncomputable def consP (l : List Nat) : List (List Nat) → List (List Nat)
  | [] => [l]
  | p :: q => (l ++ p) :: q
noncomputable def pcs : List Int → List (List Nat)
  | [] => [[]]
  | n :: r => if 256 ≤ n then [] :: pcs r else consP (textC n) (pcs r)
theorem pcs_cons (n : Int) (r : List Int) : pcs (n :: r) = if 256 ≤ n then [] :: pcs r else consP (textC n) (pcs r) := rfl
theorem pcs_ne (ns : List Int) : pcs ns ≠ [] := by
  cases ns with
  | nil => intro h; cases h
  | cons n r =>
    unfold pcs
    split
    · intro h; cases h
    · cases pcs r <;> (intro h; cases h)
theorem joinD_consP (l : List Nat) (ps : List (List Nat)) : joinD (consP l ps) = l ++ joinD ps := by
  match ps with
  | [] => simp [consP, joinD]
  | [p] => rfl
  | p :: q :: r => simp [consP, joinD]
theorem text_pcs (ns : List Int) : ns.flatMap textC = joinD (pcs ns) := by
  induction ns with
  | nil => rfl
  | cons n r ih =>
    rw [List.flatMap_cons, ih, pcs_cons]
    split
    · rename_i h
      rw [textC_nt h]
      cases e : pcs r with
      | nil => exact absurd e (pcs_ne r)
      | cons p q => rfl
    · rw [joinD_consP]
theorem pcs_clean {ns : List Int} (hg : ∀ n ∈ ns, SymOk n) : ∀ p ∈ pcs ns, ∀ c ∈ p, c ≠ 46 ∧ c ≠ 32 ∧ c ≠ 9 := by
  induction ns with
  | nil => intro p hp c hc; rw [List.mem_singleton.mp hp] at hc; cases hc
  | cons n r ih =>
    have ih' := ih fun x hx => hg x (.tail _ hx)
    unfold pcs
    split
    · intro p hp c hc
      rcases List.mem_cons.mp hp with rfl | hp
      · cases hc
      · exact ih' p hp c hc
    · rename_i h256
      have ht : ∀ c ∈ textC n, c ≠ 46 ∧ c ≠ 32 ∧ c ≠ 9 := by
        rcases hg n (.head _) with rfl | ⟨h1, h2⟩ | ⟨h1, _⟩
        · rw [textC_zero]; intro c hc; cases hc
        · obtain ⟨d, e, hd⟩ := textC_op h1 h2
          rw [e]; intro c hc; rw [List.mem_singleton.mp hc]; exact hd
        · exact absurd h1 h256
      cases e : pcs r with
      | nil => exact absurd e (pcs_ne r)
      | cons p q =>
        rw [e] at ih'
        intro u hu c hc
        rcases List.mem_cons.mp hu with rfl | hu
        · rcases List.mem_append.mp hc with hc | hc
          · exact ht c hc
          · exact ih' p (.head _) c hc
        · exact ih' u (.tail _ hu) c hc
end Mine
namespace Mine
section
open PySem.StrLaws Builtin Builtin.Str
noncomputable def cutsFrom : Nat → List (List Nat) → List Nat
  | _, [] => []
  | _, [_] => []
  | a, p :: q :: r => (a + p.length) :: cutsFrom (a + p.length + 3) (q :: r)
theorem head_at {g : List Nat} {k : Nat} (h : (g.drop k).take 3 = [46, 46, 46]) : g[k]? = some 46 := by
  have := congrArg (fun l => l[0]?) h
  simpa using this
theorem dot_in {x : Str} {a c : Nat} (hx : (Str.ofString "...").length = 3) (hd : (Str.ofString "...").cps.toList = [46, 46, 46]) (h1 : a ≤ c) (h3 : subAt x (Str.ofString "...") c = true) : (x.cps.toList.drop a)[c - a]? = some 46 := by
  have h4 := subAt_list h3
  rw [hx, hd] at h4
  rw [List.getElem?_drop, Nat.add_sub_cancel' h1]; exact head_at h4
theorem chain_cuts (x : Str) (hx : (Str.ofString "...").length = 3) (hd : (Str.ofString "...").cps.toList = [46, 46, 46]) (ps : List (List Nat)) : ∀ (a : Nat) (cuts : List Nat) (f : Nat), ps ≠ [] → (∀ p ∈ ps, ∀ c ∈ p, c ≠ 46) → x.cps.toList.drop a = joinD ps → a ≤ x.length →
    ChainG x (Str.ofString "...") x.length a cuts f → (∀ k, f ≤ k → ¬ At x (Str.ofString "...") x.length k) → cuts = cutsFrom a ps := by
  induction ps with
  | nil => exact fun _ _ _ h => absurd rfl h
  | cons p ps ih =>
    intro a cuts f _ hp he ha hc hf
    cases ps with
    | nil =>
      cases cuts with
      | nil => rfl
      | cons c r =>
        obtain ⟨h1, ⟨h2, h3⟩, _⟩ := hc
        have h6 := dot_in hx hd h1 h3
        rw [he] at h6
        exact absurd rfl (hp p (.head _) 46 (List.mem_of_getElem? h6))
    | cons q r =>
      have hlen : x.cps.toList.length = x.length := Array.length_toList
      rw [show joinD (p :: q :: r) = p ++ [46, 46, 46] ++ joinD (q :: r) from rfl, List.append_assoc] at he
      have hl := congrArg List.length he
      rw [List.length_drop, hlen, List.length_append, List.length_append] at hl
      replace hl : x.length - a = p.length + (3 + (joinD (q :: r)).length) := hl
      have hl2 : a + p.length + 3 ≤ x.length := by omega
      have hdr : x.cps.toList.drop (a + p.length) = [46, 46, 46] ++ joinD (q :: r) := by
        rw [← List.drop_drop, he, List.drop_left]
      have hdr3 : x.cps.toList.drop (a + p.length + 3) = joinD (q :: r) := by
        rw [← List.drop_drop, hdr]; rfl
      have hAt : At x (Str.ofString "...") x.length (a + p.length) := by
        refine ⟨by rw [hx]; exact hl2, ?_⟩
        unfold subAt
        rw [beq_iff_eq]
        apply Array.ext'
        rw [Array.toList_extract, List.extract_eq_take_drop, hd, hdr, hx, Nat.add_sub_cancel_left]
        rfl
      cases cuts with
      | nil => exact absurd hAt (hf _ (Nat.le_trans (Nat.le_of_eq (show f = a from hc)) (Nat.le_add_right _ _)))
      | cons c t =>
        obtain ⟨h1, ⟨h2, h3⟩, h4, h5⟩ := hc
        have hle : c ≤ a + p.length := Nat.le_of_not_lt fun h => h4 _ (Nat.le_add_right _ _) h hAt
        have hge : ¬ c < a + p.length := by
          intro hlt
          have h8 := dot_in hx hd h1 h3
          rw [he, List.getElem?_append_left (Nat.sub_lt_left_of_lt_add h1 hlt)] at h8
          exact absurd rfl (hp p (.head _) 46 (List.mem_of_getElem? h8))
        obtain rfl : c = a + p.length := Nat.le_antisymm hle (Nat.not_lt.mp hge)
        rw [hx] at h5
        rw [ih (a + p.length + 3) t f (List.cons_ne_nil _ _) (fun u hu => hp u (.tail _ hu)) hdr3 hl2 h5 hf]; rfl
theorem strSub_list (s : Str) (i j : Nat) : (strSub s i j).cps.toList = (s.cps.toList.drop i).take (j - i) := by
  unfold strSub
  rw [Array.toList_extract, List.extract_eq_take_drop]
theorem parts_cuts (x : Str) : ∀ (ps : List (List Nat)) (a : Nat), ps ≠ [] → x.cps.toList.drop a = joinD ps →
    (((a :: (cutsFrom a ps).map (· + 3)).zip (cutsFrom a ps ++ [x.length])).map fun (i, j) => strSub x i j) = ps.map fun p => (⟨p.toArray⟩ : Str)
  | [], _, h, _ => absurd rfl h
  | [p], a, _, he => by
    have hlen : x.cps.toList.length = x.length := Array.length_toList
    show [strSub x a x.length] = [(⟨p.toArray⟩ : Str)]
    congr 1
    have e := strSub_list x a x.length
    rw [he, show joinD [p] = p from rfl, List.take_of_length_le] at e
    · cases hs : strSub x a x.length with
      | mk c => rw [hs] at e; simp only at e; rw [← e]
    · have hl := congrArg List.length he
      rw [List.length_drop, hlen] at hl
      show p.length ≤ _
      rw [show joinD [p] = p from rfl] at hl
      omega
  | p :: q :: r, a, _, he => by
    have hj : joinD (p :: q :: r) = p ++ [46, 46, 46] ++ joinD (q :: r) := rfl
    rw [hj] at he
    have hdr3 : x.cps.toList.drop (a + p.length + 3) = joinD (q :: r) := by
      rw [Nat.add_assoc, ← List.drop_drop, he, List.append_assoc, ← List.append_assoc]
      rw [show p.length + 3 = (p ++ [46, 46, 46]).length by simp, List.drop_left]
    have ih := parts_cuts x (q :: r) (a + p.length + 3) (by simp) hdr3
    show strSub x a (a + p.length) :: _ = (⟨p.toArray⟩ : Str) :: _
    congr 1
    have e := strSub_list x a (a + p.length)
    rw [he, Nat.add_sub_cancel_left, List.append_assoc, List.take_left] at e
    cases hs : strSub x a (a + p.length) with
    | mk c => rw [hs] at e; simp only at e; rw [← e]
theorem kind_all {x : Str} (h : ∀ c ∈ x.cps.toList, c < 256) : Builtin.Str.strKind x = 1 := by
  unfold Builtin.Str.strKind
  rw [if_pos]
  rw [Array.all_eq_true']
  intro c hc
  simpa using h c (by simpa using hc)
theorem split_pcs (x : Str) (ps : List (List Nat)) (hne : ps ≠ []) (hp : ∀ p ∈ ps, ∀ c ∈ p, c ≠ 46) (hx : x.cps.toList = joinD ps) (hk : ∀ c ∈ x.cps.toList, c < 256) :
    Txt.split x (Str.ofString "...") = ps.map fun p => (⟨p.toArray⟩ : Str) := by
  have h3 : (Str.ofString "...").length = 3 := by decide +kernel
  have hd : (Str.ofString "...").cps.toList = [46, 46, 46] := by decide +kernel
  have hkd : Builtin.Str.strKind (Str.ofString "...") = 1 := by decide +kernel
  obtain ⟨f, hc, hf⟩ := occ_tight x (Str.ofString "...") (by rw [h3]; decide)
  have hcut := chain_cuts x h3 hd ps 0 _ f hne hp (by rw [List.drop_zero]; exact hx) (Nat.zero_le _) hc hf
  have hparts := parts_cuts x ps 0 hne (by rw [List.drop_zero]; exact hx)
  have one : cutsFrom 0 ps = [] → [x] = ps.map fun p => (⟨p.toArray⟩ : Str) := by
    intro e
    match ps, hne, e, hx with
    | [p], _, _, hx =>
      show [x] = [_]
      congr 1
      cases x with
      | mk c => simp only at hx; rw [show joinD [p] = p from rfl] at hx; rw [← hx]
  have hlen : x.cps.toList.length = x.length := Array.length_toList
  unfold Txt.split
  split
  · rename_i h
    apply one
    rw [kind_all hk, hkd, h3] at h
    have hlt : x.length < 3 := by simpa using h
    match ps, hne, hx with
    | [p], _, _ => rfl
    | p :: q :: r, _, hx =>
      have := congrArg List.length hx
      rw [show joinD (p :: q :: r) = p ++ [46, 46, 46] ++ joinD (q :: r) from rfl, List.length_append, List.length_append, hlen] at this
      simp only [List.length_cons, List.length_nil] at this
      omega
  · rw [hcut]
    split
    · rename_i h
      exact one (List.isEmpty_iff.mp h)
    · rw [h3]
      exact hparts
end
end Mine
namespace Mine
theorem consP_sum (l : List Nat) (ps : List (List Nat)) : ((consP l ps).map List.length).sum = l.length + (ps.map List.length).sum := by
  cases ps with
  | nil => simp [consP]
  | cons p q => simp [consP]; omega
theorem textC_len {n : Int} (hg : SymOk n) (h : ¬ 256 ≤ n) : (textC n).length = opOne n := by
  rcases hg with rfl | ⟨h1, h2⟩ | ⟨h1, _⟩
  · rw [textC_zero]; rfl
  · obtain ⟨c, e, _⟩ := textC_op h1 h2
    rw [e]; unfold opOne; rw [if_pos ⟨h1, h2⟩]; rfl
  · exact absurd h1 h
theorem pcs_sum {ns : List Int} (hg : ∀ n ∈ ns, SymOk n) : ((pcs ns).map List.length).sum = ops ns := by
  induction ns with
  | nil => rfl
  | cons n r ih =>
    have ih' := ih fun x hx => hg x (.tail _ hx)
    have ho : ops (n :: r) = opOne n + ops r := rfl
    rw [pcs_cons, ho]
    split
    · rename_i h
      rw [List.map_cons, List.sum_cons, ih', op_high h]; rfl
    · rename_i h
      rw [consP_sum, ih', textC_len (hg n (.head _)) h]
theorem nd_text {ns : List Int} (hg : ∀ n ∈ ns, SymOk n) : nd (ns.flatMap textC) = ops ns := by
  induction ns with
  | nil => rfl
  | cons n r ih =>
    have ih' := ih fun x hx => hg x (.tail _ hx)
    have ho : ops (n :: r) = opOne n + ops r := rfl
    rw [List.flatMap_cons, nd_append, ih', ho]
    congr 1
    rcases hg n (.head _) with rfl | ⟨h1, h2⟩ | ⟨h1, _⟩
    · rw [textC_zero]; rfl
    · obtain ⟨c, e, hc, _⟩ := textC_op h1 h2
      rw [← textC_len (.inr (.inl ⟨h1, h2⟩)) fun h => absurd (Int.le_trans h h2) (by decide)]
      refine nd_all ?_
      rw [e]; intro d hd; rw [List.mem_singleton.mp hd]; exact hc
    · rw [textC_nt h1, op_high h1]; rfl
end Mine
namespace Mine
inductive Exp : List Int → List Int → Prop
  | nil : Exp [] []
  | keep (n : Int) {r r' : List Int} : Exp r r' → Exp (n :: r) (n :: r')
  | grow (n : Int) (e : List Int) {r r' : List Int} : 256 ≤ n → Exp r r' → Exp (n :: r) (e ++ r')
theorem Exp.refl : ∀ r, Exp r r
  | [] => .nil
  | n :: r => .keep n (Exp.refl r)
theorem Exp.app {a a' b b' : List Int} (h : Exp a a') (h2 : Exp b b') : Exp (a ++ b) (a' ++ b') := by
  induction h with
  | nil => exact h2
  | keep n _ ih => exact .keep n ih
  | grow n e hn _ ih => rw [List.append_assoc]; exact .grow n e hn ih
theorem Exp.cut : ∀ {a b c : List Int}, Exp (a ++ b) c → ∃ a' b', c = a' ++ b' ∧ Exp a a' ∧ Exp b b'
  | [], _, c, h => ⟨[], c, rfl, .nil, h⟩
  | n :: a, b, c, h => by
    cases h with
    | keep _ h => obtain ⟨a', b', rfl, h1, h2⟩ := Exp.cut h; exact ⟨n :: a', b', rfl, .keep n h1, h2⟩
    | grow _ e hn h => obtain ⟨a', b', rfl, h1, h2⟩ := Exp.cut h; exact ⟨e ++ a', b', by rw [List.append_assoc], .grow n e hn h1, h2⟩
theorem Exp.trans {a b c : List Int} (h : Exp a b) : Exp b c → Exp a c := by
  induction h generalizing c with
  | nil => exact id
  | keep n _ ih =>
    intro h2
    cases h2 with
    | keep _ h => exact .keep n (ih h)
    | grow _ e hn h => exact .grow n e hn (ih h)
  | grow n e hn _ ih =>
    intro h2
    obtain ⟨a', b', rfl, _, h3⟩ := Exp.cut h2
    exact .grow n a' hn (ih h3)
theorem Move.exp {SA SB SC : Int → List Int} {ns ns' : List Int} (m : Move SA SB SC ns ns') : Exp ns ns' := by
  obtain ⟨pre, n, post, r, rfl, h1, _, _, rfl⟩ := m
  rw [List.append_assoc]
  exact (Exp.refl pre).app (.grow n r h1 (Exp.refl post))
noncomputable def Emb : List (List Nat) → List Nat → Prop
  | [], _ => False
  | [p], t => t = p
  | p :: q :: r, t => ∃ gap t', t = p ++ (gap ++ t') ∧ Emb (q :: r) t'
theorem Emb.consP {ps : List (List Nat)} {t l : List Nat} (h : Emb ps t) : Emb (consP l ps) (l ++ t) := by
  match ps, h with
  | [p], h => show l ++ t = l ++ p; rw [show t = p from h]
  | p :: q :: r, ⟨gap, t', e, h'⟩ => exact ⟨gap, t', by rw [e, List.append_assoc], h'⟩
theorem Exp.emb {r r' : List Int} (h : Exp r r') : Emb (pcs r) (r'.flatMap textC) := by
  induction h with
  | nil => exact rfl
  | @keep n r r' _ ih =>
    rw [pcs_cons, List.flatMap_cons]
    split
    · cases e : pcs r with
      | nil => exact absurd e (pcs_ne r)
      | cons p q => rw [e] at ih; exact ⟨textC n, _, rfl, ih⟩
    · exact ih.consP
  | @grow n e r r' hn _ ih =>
    rw [pcs_cons, if_pos hn, List.flatMap_append]
    cases e' : pcs r with
    | nil => exact absurd e' (pcs_ne r)
    | cons p q => rw [e'] at ih; exact ⟨e.flatMap textC, _, rfl, ih⟩
end Mine
namespace Mine
section
open Builtin Builtin.Str
noncomputable abbrev mk (p : List Nat) : Str := ⟨p.toArray⟩
theorem subAt_of {s : Str} {p pre post : List Nat} (h : s.cps.toList = pre ++ (p ++ post)) : subAt s (mk p) pre.length = true := by
  unfold subAt
  rw [beq_iff_eq]
  apply Array.ext'
  rw [Array.toList_extract, List.extract_eq_take_drop, h, List.drop_left]
  show List.take (pre.length + p.toArray.size - pre.length) _ = p.toArray.toList
  rw [Nat.add_sub_cancel_left, List.size_toArray, List.take_left]
theorem mk_len (p : List Nat) : (mk p).length = p.length := List.size_toArray ..
theorem Emb.inOrd {s : Str} {b0 : List Nat} (mid : List (List Nat)) : ∀ (pre t : List Nat), s.cps.toList = pre ++ t → (∃ gap t', t = gap ++ t' ∧ Emb (mid ++ [b0]) t') →
    (∃ u, t = u ++ b0) ∧ InOrd s (s.length - b0.length) (mid.map mk) pre.length := by
  induction mid with
  | nil =>
    rintro pre t hs ⟨gap, t', e, h⟩
    exact ⟨⟨gap, (show t' = b0 from h) ▸ e⟩, .nil⟩
  | cons w mid ih =>
    rintro pre t hs ⟨gap, t', rfl, h⟩
    obtain ⟨g2, t2, rfl, h2⟩ : ∃ g2 t2, t' = w ++ (g2 ++ t2) ∧ Emb (mid ++ [b0]) t2 := by
      cases mid with
      | nil => exact h
      | cons x y => exact h
    have hs1 : s.cps.toList = (pre ++ gap) ++ (w ++ (g2 ++ t2)) := by rw [hs, List.append_assoc]
    have hs2 : s.cps.toList = (pre ++ gap ++ w) ++ (g2 ++ t2) := by rw [hs1, ← List.append_assoc]
    obtain ⟨⟨u, i2⟩, i3⟩ := ih (pre ++ gap ++ w) (g2 ++ t2) hs2 ⟨g2, t2, rfl, h2⟩
    have hl : s.length = (pre ++ gap).length + w.length + (u.length + b0.length) := by
      rw [← List.length_append, ← List.length_append, ← i2, ← List.length_append, ← hs2]; exact Array.length_toList.symm
    refine ⟨⟨gap ++ w ++ u, by rw [i2, List.append_assoc, List.append_assoc]⟩, .cons (pre ++ gap).length (by rw [List.length_append]; exact Nat.le_add_right _ _) ⟨?_, subAt_of hs1⟩ ?_⟩
    · rw [mk_len w, hl, ← Nat.add_assoc, Nat.add_sub_cancel]; exact Nat.le_add_right _ _
    · rw [mk_len w, ← List.length_append]; exact i3
theorem Emb.fits {s : Str} {a0 b0 : List Nat} {mid : List (List Nat)} (h : Emb (a0 :: (mid ++ [b0])) s.cps.toList) : Match s (mk a0) (mid.map mk) (mk b0) := by
  have hlen : s.cps.toList.length = s.length := Array.length_toList
  obtain ⟨gap, t', e, h'⟩ : ∃ gap t', s.cps.toList = a0 ++ (gap ++ t') ∧ Emb (mid ++ [b0]) t' := by
    cases mid with
    | nil => exact h
    | cons x y => exact h
  obtain ⟨⟨u, i2⟩, i3⟩ := Emb.inOrd mid a0 (gap ++ t') e ⟨gap, t', rfl, h'⟩
  have e3 : s.cps.toList = (a0 ++ u) ++ (b0 ++ []) := by rw [e, i2, List.append_nil, List.append_assoc]
  have hl3 : s.length = (a0 ++ u).length + b0.length := by rw [← hlen, e3, List.append_nil, List.length_append]
  refine ⟨?_, subAt_of (pre := []) (post := gap ++ t') e, ?_, by rw [mk_len b0, mk_len a0]; exact i3⟩
  · rw [mk_len a0, mk_len b0, hl3, List.length_append]; exact Nat.add_le_add_right (Nat.le_add_right _ _) _
  · rw [mk_len b0, hl3, Nat.add_sub_cancel]; exact subAt_of e3
end
end Mine
namespace Mine
section
open Builtin Builtin.Str
theorem dots_mk : Str.ofString "..." = mk [46, 46, 46] := by decide +kernel
theorem textC_small {n : Int} (h : SymOk n) : ∀ c ∈ textC n, c < 256 := by
  rcases h with rfl | ⟨h1, h2⟩ | ⟨h1, _⟩
  · rw [textC_zero]; intro c hc; cases hc
  · have key : ∀ k ∈ List.range 9, ∀ c ∈ (Txt.item (Str.ofString "+-*/|&<>=") ((k : Nat) : Int)).cps.toList, c < 256 := by decide +kernel
    have e : textC n = (Txt.item (Str.ofString "+-*/|&<>=") (n - 14)).cps.toList := by unfold textC textOne; rw [if_neg (by omega), if_neg (by omega)]
    have := key (n - 14).toNat (by simp; omega)
    rw [Int.toNat_of_nonneg (by omega)] at this
    rw [e]; exact this
  · rw [textC_nt h1]; intro c hc; simp at hc; omega
theorem consP_len (l : List Nat) {ps : List (List Nat)} (h : ps ≠ []) : (consP l ps).length = ps.length := by
  cases ps with
  | nil => exact absurd rfl h
  | cons p q => rfl
theorem pcs_two : ∀ {r : List Int}, (∃ n ∈ r, (256 : Int) ≤ n) → 2 ≤ (pcs r).length
  | [], ⟨_, h, _⟩ => nomatch h
  | n :: r, ⟨k, hk, h⟩ => by
    rw [pcs_cons]
    split
    · have : pcs r ≠ [] := pcs_ne r
      have := List.length_pos_iff.mpr this
      rw [List.length_cons]; omega
    · rename_i hn
      rw [consP_len _ (pcs_ne r)]
      rcases List.mem_cons.mp hk with rfl | hk
      · exact absurd h hn
      · exact pcs_two ⟨k, hk, h⟩
theorem occ_dots {r : List Int} (hg : ∀ n ∈ r, SymOk n) : (occurrences (textL r) (Str.ofString "...") 0 (textL r).length 1).isEmpty = true ↔ (pcs r).length < 2 := by
  have hlen : (textL r).cps.toList.length = (textL r).length := Array.length_toList
  have h3 : (Str.ofString "...").length = 3 := by decide +kernel
  have hd : (Str.ofString "...").cps.toList = [46, 46, 46] := by decide +kernel
  have ht : (textL r).cps.toList = joinD (pcs r) := by rw [textL_cps, text_pcs]
  have hc := pcs_clean hg
  rcases occ_from (textL r) (Str.ofString "...") 0 (textL r).length with ⟨h1, h2⟩ | ⟨k, _, h1, _, ⟨h2, hs⟩, _⟩
  · rw [h1]
    refine ⟨fun _ => ?_, fun _ => rfl⟩
    apply Nat.lt_of_not_le
    intro h
    match hp : pcs r, h with
    | p :: q :: t, _ =>
      rw [hp] at ht
      have e : (textL r).cps.toList = p ++ ([46, 46, 46] ++ joinD (q :: t)) := by rw [ht, ← List.append_assoc]; rfl
      refine h2 p.length (Nat.zero_le _) ⟨?_, ?_⟩
      · have := congrArg List.length e
        rw [hlen, List.length_append, List.length_append] at this
        simp only [List.length_cons, List.length_nil] at this
        omega
      · rw [dots_mk]; exact subAt_of e
  · rw [h1]
    refine ⟨fun h => (nomatch h), fun h => ?_⟩
    exfalso
    have h4 := subAt_list hs
    rw [h3, hd] at h4
    have h5 := List.mem_of_getElem? (head_at h4)
    match hp : pcs r, h with
    | [], _ => exact pcs_ne r hp
    | [p], _ =>
      rw [hp] at ht hc
      rw [ht] at h5
      exact (hc p (.head _) 46 h5).1 rfl
theorem text_split {r : List Int} (hg : ∀ n ∈ r, SymOk n) : Txt.split (textL r) (Str.ofString "...") = (pcs r).map mk := by
  refine split_pcs _ _ (pcs_ne r) (fun p hp c hc => (pcs_clean hg p hp c hc).1) (by rw [textL_cps, text_pcs]) ?_
  rw [textL_cps]
  intro c hc
  obtain ⟨n, hn, hc⟩ := List.mem_flatMap.mp hc
  exact textC_small (hg n hn) c hc
theorem dots_two {r : List Int} (hg : ∀ n ∈ r, SymOk n) (h : (occurrences (textL r) (Str.ofString "...") 0 (textL r).length 1).isEmpty = false) : 2 ≤ (Txt.split (textL r) (Str.ofString "...")).length := by
  rw [text_split hg, List.length_map]
  apply Nat.le_of_not_lt
  intro hl
  rw [(occ_dots hg).mpr hl] at h; cases h
theorem ends_two {ps : List (List Nat)} (h : 2 ≤ ps.length) : ∃ a0 mid b0, ps = a0 :: (mid ++ [b0]) := by
  match ps, h with
  | a :: r, h =>
    have hr : r ≠ [] := by rintro rfl; simp at h
    exact ⟨a, r.dropLast, r.getLast hr, by rw [List.dropLast_concat_getLast hr]⟩
theorem occ_false {r : List Int} (hg : ∀ n ∈ r, SymOk n) (h2 : 2 ≤ (pcs r).length) : (occurrences (textL r) (Str.ofString "...") 0 (textL r).length 1).isEmpty = false := by
  cases e : (occurrences (textL r) (Str.ofString "...") 0 (textL r).length 1).isEmpty with
  | false => rfl
  | true => have := (occ_dots hg).mp e; omega
theorem ell_true {r r' : List Int} {v : Bool} (hg : ∀ n ∈ r, SymOk n) (E : Exp r r') (hd : ∃ n ∈ r, (256 : Int) ≤ n) (H : EllP (textL r) (textL r') v) : v = true := by
  have h2 := pcs_two hd
  obtain ⟨a0, mid, b0, hp⟩ := ends_two h2
  have hs := text_split hg
  rw [hp, List.map_cons, List.map_append, List.map_cons, List.map_nil] at hs
  rw [H.2 _ _ _ (occ_false hg h2) hs]
  refine (ellM_iff _ _ _ _).mpr (Emb.fits ?_)
  rw [← hp, textL_cps]
  exact E.emb
theorem ell_false {r r' : List Int} {v : Bool} (hg : ∀ n ∈ r, SymOk n) (hg' : ∀ n ∈ r', SymOk n) (ho : ops r' < ops r) (H : EllP (textL r) (textL r') v) : v = false := by
  have hn := nd_text hg
  have hn' := nd_text hg'
  cases e : (occurrences (textL r) (Str.ofString "...") 0 (textL r).length 1).isEmpty with
  | true =>
    rw [H.1 e]
    rw [beq_eq_false_iff_ne]
    intro h
    rw [← textL_cps, h, textL_cps, hn'] at hn
    omega
  | false =>
    have h2 := dots_two hg e
    rw [text_split hg, List.length_map] at h2
    obtain ⟨a0, mid, b0, hp⟩ := ends_two h2
    have hs := text_split hg
    rw [hp, List.map_cons, List.map_append, List.map_cons, List.map_nil] at hs
    rw [H.2 _ _ _ e hs]
    congr 1
    rw [Bool.eq_false_iff]
    intro hm
    have hM := (ellM_iff _ _ _ _).mp hm
    have hc := pcs_clean hg
    rw [hp] at hc
    have := hM.count (fun c h => (hc a0 (.head _) c h).1) (fun c h => (hc b0 (by simp) c h).1) (by
      intro u hu c h
      obtain ⟨p, hp', rfl⟩ := List.mem_map.mp hu
      exact (hc p (by simp [hp']) c h).1)
    have hsum := pcs_sum hg
    rw [hp, List.map_cons, List.map_append, List.sum_cons, List.sum_append, List.map_cons, List.map_nil, List.sum_cons, List.sum_nil] at hsum
    rw [textL_cps, hn'] at this
    have e1 : (mk a0).length = a0.length := List.size_toArray
    have e2 : (mk b0).length = b0.length := List.size_toArray
    have e3 : ((mid.map mk).map Str.length).sum = (mid.map List.length).sum := by
      rw [List.map_map]; congr 1
    rw [e1, e2, e3] at this
    omega
end
end Mine
namespace Mine
noncomputable def TextsAre (tvs : List Value) (hist : List (List Int)) : Prop := tvs.length = hist.length ∧ ∀ (j : Nat) (r : List Int), hist[j]? = some r → ∃ t, tvs[j]? = some (Value.str (textL r) t)
theorem TextsAre.nil : TextsAre [] [] := ⟨rfl, fun _ _ h => nomatch h⟩
theorem snoc_all {α : Type} {P : Nat → α → Prop} {l : List α} {x : α} (h : ∀ k r, l[k]? = some r → P k r) (hx : P l.length x) : ∀ k r, (l ++ [x])[k]? = some r → P k r := by
  intro k r e
  rcases Nat.lt_or_ge k l.length with h1 | h1
  · rw [List.getElem?_append_left h1] at e; exact h k r e
  · rw [List.getElem?_append_right h1] at e
    obtain ⟨h2, e⟩ := List.getElem?_eq_some_iff.mp e
    rw [List.getElem_singleton] at e
    exact e ▸ Nat.le_antisymm h1 (Nat.le_of_sub_eq_zero (Nat.lt_one_iff.mp h2)) ▸ hx
theorem get_keep {α : Type} {l m : List α} {k : Nat} {r : α} (h : l[k]? = some r) : (l ++ m)[k]? = some r := (List.getElem?_append_left (List.getElem?_eq_some_iff.mp h).1).trans h
theorem TextsAre.snoc {tvs : List Value} {hist : List (List Int)} (h : TextsAre tvs hist) (ns : List Int) (t : Tok) : TextsAre (tvs ++ [Value.str (textL ns) t]) (hist ++ [ns]) :=
  ⟨by rw [List.length_append, List.length_append, h.1]; rfl, snoc_all (fun k r e => (h.2 k r e).imp fun _ => get_keep) ⟨t, h.1 ▸ List.getElem?_concat_length⟩⟩
noncomputable def ansOf (SA SB SC : Int → List Int) (ns : List Int) : Bool := (((xorL (wvUp SA SB SC 3) ns : Nat) : Int) != 0)
theorem row_ok {SA SB SC : Int → List Int} (H : AllOk SA SB SC) {ns : List Int} (hg : ∀ n ∈ ns, SymOk n) : RowOk (wvUp SA SB SC 3) ns := fun n hn => by
  rcases hg n hn with h | h | ⟨h1, h2⟩
  · exact .inl h
  · exact .inr (.inl h)
  · exact .inr (.inr ⟨h1, _, wv_eq H h1 h2⟩)
theorem no_lead {ns : List Int} (hg : ∀ n ∈ ns, SymOk n) : NoLead (textL ns) := by
  intro c hc
  have hm := List.mem_of_mem_head? hc
  rw [textL_cps] at hm
  obtain ⟨n, hn, hm⟩ := List.mem_flatMap.mp hm
  rcases hg n hn with rfl | ⟨h1, h2⟩ | ⟨h1, _⟩
  · rw [textC_zero] at hm; cases hm
  · obtain ⟨d, e, hd⟩ := textC_op h1 h2
    rw [e] at hm; rw [List.mem_singleton.mp hm]; exact hd.2
  · rw [textC_nt h1] at hm; simp at hm; omega
structure WsB (st : WsS) (i : Nat) : Prop where
  b : st.b ≤ i
  len : st.cnt.length ≤ i + 1
  cnt : ∀ k ∈ st.cnt, 0 ≤ k ∧ k ≤ (i : Int)
theorem WsB.up {st : WsS} {i : Nat} (h : WsB st i) : WsB st (i + 1) := ⟨Nat.le_succ_of_le h.b, Nat.le_succ_of_le h.len, fun k hk => ⟨(h.cnt k hk).1, Int.le_trans (h.cnt k hk).2 (Int.le_add_one (Int.le_refl _))⟩⟩
theorem WsB.add {st : WsS} {i : Nat} (h : WsB st i) : ∀ j, WsB st (i + j)
  | 0 => h
  | j + 1 => (h.add j).up
theorem wsRun_bd : ∀ (cs : List Nat) (st : WsS) (i : Nat), WsB st i → WsB (wsRun cs st) (i + cs.length) := by
  intro cs
  induction cs with
  | nil => exact fun st i h => h
  | cons c r ih =>
    intro st i h
    have e : i + (r.length + 1) = i + 1 + r.length := (Nat.succ_add_eq_add_succ i r.length).symm
    rw [List.length_cons, e]
    by_cases h1 : c = 32
    · subst h1; exact ih _ _ ⟨Nat.succ_le_succ h.b, h.up.len, h.up.cnt⟩
    · by_cases h2 : c = 9
      · subst h2; exact ih _ _ ⟨Nat.zero_le _, tab_len h.b h.len, wsTab_mem (Int.natCast_nonneg i) h.cnt⟩
      · rw [show wsRun (c :: r) st = st from (if_neg h1).trans (if_neg h2)]; exact h.up.add _
theorem slice_tail (a b : Str) : Txt.slice (a ++ b) (some ((a.length : Nat) : Int)) none = b := by
  show StrLaws.sliceText (a ++ b) (some ((a.length : Nat) : Int)) none = b
  have hl : (a ++ b).cps.toList.length = a.length + b.length := by rw [← Str.length_append]; exact Array.length_toList
  rw [StrLaws.sliceText_from ⟨by omega, by omega⟩, hl, Str.cps_append, Array.toList_append]
  have e : ((a.length : Nat) : Int).toNat = a.cps.toList.length := by rw [Int.toNat_natCast]; exact Array.length_toList.symm
  have e2 : ((((a.length + b.length : Nat) : Int) - ((a.length : Nat) : Int))).toNat = b.cps.toList.length := by
    have : b.cps.toList.length = b.length := Array.length_toList
    omega
  rw [e, e2, List.drop_left, List.take_length]
theorem even_ans {SA SB SC : Int → List Int} {ns : List Int} {b : Bool} (h : b = decide (xorL (wvUp SA SB SC 3) ns = 0)) : b = !ansOf SA SB SC ns := by
  subst h
  unfold ansOf
  by_cases h : xorL (wvUp SA SB SC 3) ns = 0
  · rw [h]; rfl
  · rw [decide_eq_false h]
    have : (((xorL (wvUp SA SB SC 3) ns : Nat) : Int) != 0) = true := by rw [bne_iff_ne]; omega
    rw [this]; rfl
section
variable {SA SB SC : Int → List Int} {RA RB RC : Int → Addr} {ns : List Int}
noncomputable abbrev adOf (RA RB RC : Int → Addr) (k : Int) : List Addr := [RA k, RB k, RC k]
noncomputable def MvOk (SA SB SC : Int → List Int) (RA RB RC : Int → Addr) (ns : List Int) (x : Nat × Addr) (n : Int) (r : List Int) : Prop :=
  ns[x.1]? = some n ∧ 256 ≤ n ∧ n ≤ 258 ∧ ((x.2 = RA n ∧ r = SA n) ∨ (x.2 = RB n ∧ r = SB n) ∨ (x.2 = RC n ∧ r = SC n))
theorem moveOne_ok (h258 : ∀ n ∈ ns, n ≤ 258) {k : Nat} {x : Nat × Addr} (hx : x ∈ moveOne (adOf RA RB RC) ns k) : ∃ n r, MvOk SA SB SC RA RB RC ns x n r := by
  unfold moveOne at hx
  split at hx
  · rename_i n hn
    split at hx
    · rename_i h256
      obtain ⟨a, ha, rfl⟩ := List.mem_map.mp hx
      have h2 := h258 n (List.mem_of_getElem? hn)
      simp only [adOf, List.mem_cons, List.not_mem_nil, or_false] at ha
      rcases ha with rfl | rfl | rfl
      · exact ⟨n, SA n, hn, h256, h2, .inl ⟨rfl, rfl⟩⟩
      · exact ⟨n, SB n, hn, h256, h2, .inr (.inl ⟨rfl, rfl⟩)⟩
      · exact ⟨n, SC n, hn, h256, h2, .inr (.inr ⟨rfl, rfl⟩)⟩
    · cases hx
  · cases hx
theorem movesUp_ok (h258 : ∀ n ∈ ns, n ≤ 258) {x : Nat × Addr} : ∀ k, x ∈ movesUp (adOf RA RB RC) ns k → ∃ n r, MvOk SA SB SC RA RB RC ns x n r
  | 0, h => nomatch h
  | k + 1, h => (List.mem_append.mp h).elim (movesUp_ok h258 k) (moveOne_ok h258)
theorem movesUp_mem {k : Nat} {x : Nat × Addr} (hx : x ∈ moveOne (adOf RA RB RC) ns k) : ∀ j, k < j → x ∈ movesUp (adOf RA RB RC) ns j
  | 0, h => absurd h (Nat.not_lt_zero _)
  | j + 1, h => by
    by_cases e : k = j
    · subst e; exact List.mem_append_right _ hx
    · exact List.mem_append_left _ (movesUp_mem hx j (by omega))
theorem movesUp_nil (h : movesUp (adOf RA RB RC) ns ns.length = []) : ∀ n ∈ ns, ¬ 256 ≤ n := by
  intro n hn h256
  obtain ⟨k, hk, e⟩ := List.getElem_of_mem hn
  have hx : (k, RA n) ∈ moveOne (adOf RA RB RC) ns k := by
    unfold moveOne
    rw [List.getElem?_eq_getElem hk, e]
    simp only
    rw [if_pos h256]
    exact .head _
  have := movesUp_mem hx ns.length hk
  rw [h] at this; cases this
theorem xor_none (h : ∀ n ∈ ns, ¬ 256 ≤ n) : xorL (wvUp SA SB SC 3) ns = 0 := by
  induction ns with
  | nil => rfl
  | cons n r ih =>
    have e : wvUp SA SB SC 3 n = none := wv_low n (by have := h n (.head _); omega)
    rw [xorL_cons, ih fun x hx => h x (.tail _ hx), e]; rfl
theorem ans_none (h : ∀ n ∈ ns, ¬ 256 ≤ n) : ansOf SA SB SC ns = false := by
  unfold ansOf; rw [xor_none h]; rfl
theorem ans_iff : ansOf SA SB SC ns = true ↔ xorL (wvUp SA SB SC 3) ns ≠ 0 := by
  unfold ansOf; rw [bne_iff_ne]; omega
theorem ans_zero : ansOf SA SB SC ns = false ↔ xorL (wvUp SA SB SC 3) ns = 0 := by
  cases h : ansOf SA SB SC ns with
  | true => have := ans_iff.mp h; simp [this]
  | false =>
    refine ⟨fun _ => Decidable.byContradiction fun h2 => ?_, fun _ => rfl⟩
    rw [ans_iff.mpr h2] at h; cases h
theorem pot_pos {n : Int} (hn : n ∈ ns) (h1 : 256 ≤ n) (h2 : n ≤ 258) : 1 ≤ pot ns := by
  obtain ⟨a, b, rfl⟩ := List.append_of_mem hn
  unfold pot
  rw [sum_app, List.map_cons, List.sum_cons]
  exact Nat.le_trans (pot_half h1 h2).1 (Nat.le_trans (Nat.le_add_right _ _) (Nat.le_add_left _ _))
theorem fmod_two (d : Int) : d.fmod 2 = 0 ∨ d.fmod 2 = 1 := by rw [Int.fmod_eq_emod_of_nonneg _ (by decide)]; exact Int.emod_two_eq d
theorem pot_start (d : Int) : pot [256 + 2, 256 + d.fmod 2, 0] ≤ 10 := by rcases fmod_two d with e | e <;> rw [e] <;> decide
theorem next_ok (H : AllOk SA SB SC) {x : Nat × Addr} {n : Int} {r : List Int} (hm : MvOk SA SB SC RA RB RC ns x n r) (hw : ansOf SA SB SC ns = true → xorL (wvUp SA SB SC 3) (n :: r) = xorL (wvUp SA SB SC 3) ns) :
    Move SA SB SC ns (ns.take x.1 ++ r ++ ns.drop (x.1 + 1)) ∧ ansOf SA SB SC (ns.take x.1 ++ r ++ ns.drop (x.1 + 1)) = !ansOf SA SB SC ns := by
  obtain ⟨hn, h1, h2, ha⟩ := hm
  obtain ⟨hlt, e⟩ := List.getElem?_eq_some_iff.mp hn
  have hns : ns = ns.take x.1 ++ n :: ns.drop (x.1 + 1) := by
    conv => lhs; rw [← List.take_append_drop x.1 ns]
    rw [List.drop_eq_getElem_cons hlt, e]
  have hr : r = SA n ∨ r = SB n ∨ r = SC n := by
    rcases ha with h | h | h
    · exact .inl h.2
    · exact .inr (.inl h.2)
    · exact .inr (.inr h.2)
  have mv : Move SA SB SC ns (ns.take x.1 ++ r ++ ns.drop (x.1 + 1)) := ⟨_, n, _, r, hns, h1, h2, hr, rfl⟩
  refine ⟨mv, ?_⟩
  cases hb : ansOf SA SB SC ns with
  | false => exact ans_iff.mpr (mv.lose H (ans_zero.mp hb))
  | true =>
    have := hw hb
    refine ans_zero.mpr (win_zero (n := n) ?_)
    rw [← hns]; exact this
theorem win_in (H : AllOk SA SB SC) (hg : ∀ n ∈ ns, SymOk n) (hb : ansOf SA SB SC ns = true) :
    ∃ x ∈ movesUp (adOf RA RB RC) ns ns.length, ∃ n r, MvOk SA SB SC RA RB RC ns x n r ∧ xorL (wvUp SA SB SC 3) (n :: r) = xorL (wvUp SA SB SC 3) ns := by
  obtain ⟨n, hn, h256, r, hr, hx⟩ := win_exists H hg (ans_iff.mp hb)
  have h258 := sym_le (hg n hn)
  obtain ⟨k, hk, e⟩ := List.getElem_of_mem hn
  have hnk : ns[k]? = some n := by rw [List.getElem?_eq_getElem hk, e]
  have key : ∀ a, a ∈ adOf RA RB RC n → (k, a) ∈ movesUp (adOf RA RB RC) ns ns.length := fun a ha => movesUp_mem (k := k) (by
    unfold moveOne
    rw [hnk]
    simp only
    rw [if_pos h256]
    exact List.mem_map.mpr ⟨a, ha, rfl⟩) _ hk
  rcases hr with rfl | rfl | rfl
  · exact ⟨_, key (RA n) (.head _), n, _, ⟨hnk, h256, h258, .inl ⟨rfl, rfl⟩⟩, hx⟩
  · exact ⟨_, key (RB n) (.tail _ (.head _)), n, _, ⟨hnk, h256, h258, .inr (.inl ⟨rfl, rfl⟩)⟩, hx⟩
  · exact ⟨_, key (RC n) (.tail _ (.tail _ (.head _))), n, _, ⟨hnk, h256, h258, .inr (.inr ⟨rfl, rfl⟩)⟩, hx⟩
theorem ints_eq {vs : List Value} {a : List Int} (h : IntsAre vs a) : vs.map (fun v => match v with | .int k _ => k | _ => 0) = a := by
  induction h with
  | nil => rfl
  | cons k t _ ih => exact congrArg (k :: ·) ih
theorem ints_uniq {vs : List Value} {a b : List Int} (h : IntsAre vs a) (k : IntsAre vs b) : a = b := (ints_eq h).symm.trans (ints_eq k)
theorem intsAt_uniq {h : Heap} {l : Addr} {a b : List Int} (x : IntsAt h l a) (y : IntsAt h l b) : a = b := by
  obtain ⟨vs, ⟨o, ho, _, n, hd⟩, hi⟩ := x
  obtain ⟨us, ⟨o', ho', _, n', hd'⟩, hi'⟩ := y
  rw [ho] at ho'; cases ho'
  rw [hd] at hd'
  injection hd' with e1 e2
  have : vs = us := by simpa using e1
  subst this
  exact ints_uniq hi hi'
theorem MovesAre.at {tups : List (Addr × Obj)} {vs : List Value} {mv : List (Nat × Addr)} (h : MovesAre tups vs mv) : ∀ {j : Nat} {v : Value}, vs[j]? = some v → ∃ T k t b, v = .ref T ∧ mv[j]? = some (k, b) ∧ (T, tupOf (k : Int) t b) ∈ tups := by
  induction h with
  | nil => exact fun h => nomatch h
  | cons hm _ ih =>
    intro j v e
    cases j with
    | zero => exact ⟨_, _, _, _, (Option.some.inj e).symm, rfl, hm⟩
    | succ j => exact ih (j := j) e
theorem mv_at {h : Heap} {SA SB SC : Int → List Int} {RA RB RC : Int → Addr} {ns : List Int} {x : Nat × Addr} {n : Int} {r : List Int} (hm : MvOk SA SB SC RA RB RC ns x n r) (hI : ∀ k, 256 ≤ k → k ≤ 258 → IntsAt h (RA k) (SA k) ∧ IntsAt h (RB k) (SB k) ∧ IntsAt h (RC k) (SC k)) : IntsAt h x.2 r := by
  obtain ⟨_, h1, h2, ha⟩ := hm
  obtain ⟨a, b, c⟩ := hI n h1 h2
  rcases ha with ⟨e1, e2⟩ | ⟨e1, e2⟩ | ⟨e1, e2⟩
  · rw [e1, e2]; exact a
  · rw [e1, e2]; exact b
  · rw [e1, e2]; exact c
theorem mv_len {SA SB SC : Int → List Int} {RA RB RC : Int → Addr} {ns : List Int} {x : Nat × Addr} {n : Int} {r : List Int} (H : AllOk SA SB SC) (hm : MvOk SA SB SC RA RB RC ns x n r) : r.length ≤ 3 := by
  obtain ⟨_, h1, h2, ha⟩ := hm
  obtain ⟨tok, low, rfl, _, _, hl, _⟩ := H.rule h1 h2 (ha.imp And.right (·.imp And.right And.right))
  exact Nat.succ_le_succ hl
noncomputable def odd : Nat → Bool
  | 0 => false
  | n + 1 => !odd n
theorem odd_mod (i : Nat) : i % 2 = (odd i).toNat := by
  induction i with
  | zero => rfl
  | succ i ih =>
    show _ = (!odd i).toNat
    rw [Nat.add_mod, ih]
    cases odd i <;> rfl
theorem par_step {a b c : Bool} {i : Nat} (h : b = (a ^^ odd i)) (hc : c = !b) : c = (a ^^ odd (i + 1)) := by
  rw [hc, h]; show _ = (a ^^ !odd i)
  cases a <;> cases odd i <;> rfl
theorem text_ops {ns : List Int} (hg : ∀ n ∈ ns, SymOk n) (h : ∀ n ∈ ns, ¬ 256 ≤ n) : (textL ns).length = ops ns := by
  have e : (textL ns).cps.toList.length = (textL ns).length := Array.length_toList
  rw [← e, textL_cps]
  clear e
  induction ns with
  | nil => rfl
  | cons n r ih =>
    have ih' := ih (fun x hx => hg x (.tail _ hx)) (fun x hx => h x (.tail _ hx))
    rw [List.flatMap_cons, List.length_append, ih', textC_len (hg n (.head _)) (h n (.head _))]
    unfold ops
    rw [List.map_cons, List.sum_cons]
inductive RowIn (SA SB SC : Int → List Int) (r0 : List Int) (l : List (List Int)) (ns : List Int) (k : Nat) (r : List Int) : Prop
  | mk (h : List (List Int)) (p : Play SA SB SC r0 k h r) (x : Exp r ns) (b : ∀ j, k = j + 1 → ∃ q, l[j]? = some q ∧ Move SA SB SC q r)
theorem Play.rows {SA SB SC : Int → List Int} {r0 : List Int} {i : Nat} {hist : List (List Int)} {ns : List Int} (p : Play SA SB SC r0 i hist ns) : ∀ (k : Nat) (r : List Int), (hist ++ [ns])[k]? = some r → RowIn SA SB SC r0 (hist ++ [ns]) ns k r := by
  induction p with
  | start => exact snoc_all (l := []) (fun _ _ h => nomatch h) ⟨[], .start, Exp.refl _, fun j h => nomatch h⟩
  | @move i hist ns ns' p m ih =>
    refine snoc_all (fun k r e => ?_) ?_
    · obtain ⟨h, p', x, b⟩ := ih k r e
      exact ⟨h, p', x.trans m.exp, fun j hj => (b j hj).imp fun q hq => ⟨get_keep hq.1, hq.2⟩⟩
    · have hl : (hist ++ [ns]).length = i + 1 := by rw [List.length_append, p.len]; rfl
      rw [hl]
      refine ⟨_, .move p m, Exp.refl _, fun j hj => ⟨ns, get_keep ?_, m⟩⟩
      rw [← Nat.succ.inj hj, ← p.len]; exact List.getElem?_concat_length
theorem start_ok (d : Int) : (∀ n ∈ [256 + 2, 256 + d.fmod 2, 0], SymOk n) ∧ ops [256 + 2, 256 + d.fmod 2, 0] = 0 := by
  unfold SymOk
  rcases fmod_two d with e | e <;> rw [e] <;> decide
theorem par_end {a : Bool} {i : Nat} (h : false = (a ^^ odd i)) : (((i : Nat) : Int).fmod 2 == 1) = a := by
  rw [Int.fmod_eq_emod_of_nonneg _ (by decide), show ((i : Int) % 2) = ((i % 2 : Nat) : Int) from rfl, odd_mod]
  cases e : odd i <;> cases a <;> rw [e] at h <;> first | rfl | cases h
end
end Mine
namespace Mine
structure EllOk (y z : Str) (b : Bool) : Prop where
  ly : y.length ≤ 1000
  lz : z.length ≤ 1000
  two : (Builtin.Str.occurrences y (Str.ofString "...") 0 y.length 1).isEmpty = false → 2 ≤ (Txt.split y (Str.ofString "...")).length
  ans : ∀ v, EllP y z v → v = b
structure LineOk (a : Bool) (z y : Str) : Prop where
  len : z.length ≤ 200
  ev : evenOf (wsRun z.cps.toList wsZero) = !a
  sl : Txt.slice z (some ((wsRun z.cps.toList wsZero).n : Int)) none = y
  cl : (wsRun z.cps.toList wsZero).cnt.length ≤ 2000
  cb : ∀ k ∈ (wsRun z.cps.toList wsZero).cnt, 0 ≤ k ∧ k ≤ 2000
inductive TextOk (hs : List (List Int)) (ns : List Int) (k : Nat) : Prop
  | mk (r r' : List Int) (h : hs[k]? = some r) (h' : hs[k + 1]? = some r') (next : EllOk (textL r) (textL r') true) (last : EllOk (textL r) (textL ns) true) (back : EllOk (textL r') (textL r) false)
section
variable (w : World) (R0 : Led) (rd wd : Addr) (r0 : List Int) (wv : Int → Option Nat) (ad : Int → List Addr) (S : Addr → List Int) (b0 : Bool) (P : Nat → Bool → List (List Int) → List Int → Prop)
noncomputable def Win (ns : List Int) (x : Nat × Addr) : Prop := ∀ n, ns[x.1]? = some n → xorL wv (n :: S x.2) = xorL wv ns
inductive MvG (i : Nat) (a : Bool) (hist : List (List Int)) (ns : List Int) (x : Nat × Addr) : Prop
  | mk (n : Int) (hi : i ≤ 9) (hn : ns[x.1]? = some n) (sl : (S x.2).length ≤ 3) (at_ : ∀ h, HoldsAll h R0 → IntsAt h x.2 (S x.2)) (next : (a = true → Win wv S ns x) → P (i + 1) (!a) (hist ++ [ns]) (ns.take x.1 ++ S x.2 ++ ns.drop (x.1 + 1)))
structure Gm : Prop where
  worth : ∀ h, HoldsAll h R0 → WorthAt w h wd wv
  rules : ∀ h, HoldsAll h R0 → RulesA w h rd ad
  had : ∀ k, (ad k).length ≤ 3
  start : P 0 b0 [] r0
  le10 : ∀ {i a hist ns}, P i a hist ns → i ≤ 10
  le25 : ∀ {i a hist ns}, P i a hist ns → ns.length ≤ 25
  hl : ∀ {i a hist ns}, P i a hist ns → hist.length = i
  row : ∀ {i a hist ns}, P i a hist ns → RowOk wv ns
  le : ∀ {i a hist ns}, P i a hist ns → ∀ n ∈ ns, n ≤ 258
  val : ∀ {i a hist ns}, P i a hist ns → (((xorL wv ns : Nat) : Int) != 0) = a
  line : ∀ {i a hist ns}, P i a hist ns → LineOk a (leadL wv ns ++ textL ns) (textL ns)
  fin : ∀ {i a hist ns}, P i a hist ns → movesUp ad ns ns.length = [] → (textL ns).length = i ∧ (((i : Nat) : Int).fmod 2 == 1) = b0
  texts : ∀ {i a hist ns}, P i a hist ns → ∀ k, k < i → TextOk (hist ++ [ns]) ns k
  mv : ∀ {i a hist ns}, P i a hist ns → ∀ x ∈ movesUp ad ns ns.length, MvG R0 wv S P i a hist ns x
  win : ∀ {i hist ns}, P i true hist ns → ∃ x ∈ movesUp ad ns ns.length, Win wv S ns x
end
section
variable {wv : Int → Option Nat} {S : Addr → List Int} {ns : List Int} {mv : List (Nat × Addr)} {tups : List (Addr × Obj)} {i k : Nat} {ys : List Value}
inductive FilG (wv : Int → Option Nat) (S : Addr → List Int) (ns : List Int) (mv : List (Nat × Addr)) (tups : List (Addr × Obj)) (i : Nat) (ys : List Value) : Prop
  | mk (mv' : List (Nat × Addr)) (h1 : MovesAre tups ys mv') (h2 : ∀ x ∈ mv', x ∈ mv ∧ Win wv S ns x) (h3 : ∀ (j : Nat) x, j < i → mv[j]? = some x → Win wv S ns x → ys ≠ []) (h4 : ys.length ≤ i)
theorem FilG.start : FilG wv S ns mv tups 0 [] := ⟨[], .nil, (fun _ h => nomatch h), (fun _ _ h => absurd h (Nat.not_lt_zero _)), Nat.le_refl _⟩
theorem FilG.step {T b : Addr} {t : Tok} {ok : Bool} (J : FilG wv S ns mv tups i ys) (hT : (T, tupOf (k : Int) t b) ∈ tups) (hx : mv[i]? = some (k, b)) (hok : ok = true ↔ Win wv S ns (k, b)) : FilG wv S ns mv tups (i + 1) (if ok = true then ys ++ [.ref T] else ys) := by
  obtain ⟨mv', h1, h2, h3, h4⟩ := J
  cases ok with
  | true =>
    rw [if_pos rfl]
    refine ⟨mv' ++ [(k, b)], h1.snoc hT, fun x hx' => ?_, fun _ _ _ _ _ => List.append_ne_nil_of_right_ne_nil _ (fun h => nomatch h), by rw [List.length_append]; exact Nat.succ_le_succ h4⟩
    rcases List.mem_append.mp hx' with hx' | hx'
    · exact h2 x hx'
    · rw [List.mem_singleton.mp hx']; exact ⟨List.mem_of_getElem? hx, hok.mp rfl⟩
  | false =>
    refine ⟨mv', h1, h2, fun j x hj hx' hw => ?_, Nat.le_succ_of_le h4⟩
    rcases Nat.lt_succ_iff_lt_or_eq.mp hj with hj | rfl
    · exact h3 j x hj hx' hw
    · rw [hx] at hx'
      exact nomatch hok.mpr (Option.some.inj hx' ▸ hw)
theorem FilG.some (h : ∃ x ∈ mv, Win wv S ns x) (J : FilG wv S ns mv tups mv.length ys) : ys ≠ [] := by
  obtain ⟨_, _, _, h3, _⟩ := J
  obtain ⟨x, hx, hw⟩ := h
  obtain ⟨j, hj, e⟩ := List.getElem_of_mem hx
  exact h3 j x hj (by rw [List.getElem?_eq_getElem hj, e]) hw
end
theorem win_iff {wv : Int → Option Nat} {S : Addr → List Int} {ns : List Int} {x : Nat × Addr} {n : Int} (hn : ns[x.1]? = some n) : (((xorL wv (n :: S x.2) : Nat) : Int) == ((xorL wv ns : Nat) : Int)) = true ↔ Win wv S ns x := by
  rw [beq_iff_eq, Int.ofNat_inj]
  exact ⟨fun h m hm => Option.some.inj (hn.symm.trans hm) ▸ h, fun h => h n hn⟩
theorem mv_fit {ns r : List Int} (j : Nat) (h : ns.length ≤ 25) (hr : r.length ≤ 3) : (ns.take j).length + r.length ≤ sizeLine ∧ (ns.take j ++ r).length + (ns.drop (j + 1)).length ≤ sizeLine := by
  have h1 := Nat.le_trans (List.length_take_le' j ns) h
  have h2 : (ns.drop (j + 1)).length ≤ 25 := by rw [List.length_drop]; exact Nat.le_trans (Nat.sub_le _ _) h
  rw [sizeLine_eq, List.length_append]
  exact ⟨Nat.le_trans (Nat.add_le_add h1 hr) (by decide), Nat.le_trans (Nat.add_le_add (Nat.add_le_add h1 hr) h2) (by decide)⟩
theorem pick_ok (d : Int) {ys : List Value} (h : ys ≠ []) : 0 ≤ d.fmod (ys.length : Int) ∧ (d.fmod (ys.length : Int)).toNat < ys.length ∧ d.fmod (ys.length : Int) < (ys.length : Int) ∧ (ys.length : Int) ≠ 0 := by
  have hlp : (0 : Int) < (ys.length : Int) := Int.ofNat_lt.mpr (List.length_pos_iff.mpr h)
  have h0 := Int.fmod_nonneg_of_pos d hlp
  have h1 := Int.fmod_lt_of_pos d hlp
  exact ⟨h0, (Int.toNat_lt h0).mpr h1, h1, Ne.symm (Int.ne_of_lt hlp)⟩
theorem ell_ok {r r' : List Int} {b : Bool} (hg : ∀ n ∈ r, SymOk n) (h1 : r.length ≤ 100) (h2 : r'.length ≤ 100) (h : ∀ v, EllP (textL r) (textL r') v → v = b) : EllOk (textL r) (textL r') b :=
  ⟨Nat.le_trans (textL_len r) (Nat.le_trans (Nat.mul_le_mul_left 4 h1) (by decide)), Nat.le_trans (textL_len r') (Nat.le_trans (Nat.mul_le_mul_left 4 h2) (by decide)), dots_two hg, h⟩
section
variable {SA SB SC : Int → List Int} {r0 ns : List Int} {i : Nat} {hist : List (List Int)}
theorem line_ok (hg : ∀ n ∈ ns, SymOk n) (hl : ns.length ≤ 25) : LineOk (ansOf SA SB SC ns) (leadL (wvUp SA SB SC 3) ns ++ textL ns) (textL ns) := by
  obtain ⟨hev, hnn⟩ := line_law (wv := wvUp SA SB SC 3) wv_lt wv_low ns (textL ns) (no_lead hg)
  have h200 : (leadL (wvUp SA SB SC 3) ns ++ textL ns).length ≤ 200 := by
    rw [Str.length_append]
    exact Nat.le_trans (Nat.add_le_add (Nat.le_trans (leadL_len wv_lt ns) (Nat.mul_le_mul_left 4 hl)) (Nat.le_trans (textL_len ns) (Nat.mul_le_mul_left 4 hl))) (by decide)
  have B := wsRun_bd (leadL (wvUp SA SB SC 3) ns ++ textL ns).cps.toList wsZero 0 ⟨Nat.le_refl _, Nat.zero_le _, fun _ h => nomatch h⟩
  have hcl : 0 + (leadL (wvUp SA SB SC 3) ns ++ textL ns).cps.toList.length ≤ 200 := by rw [Nat.zero_add]; exact Array.length_toList.symm ▸ h200
  exact ⟨h200, even_ans hev, by rw [hnn]; exact slice_tail _ _, Nat.le_trans B.len (Nat.le_trans (Nat.succ_le_succ hcl) (by decide)), fun k hk => ⟨(B.cnt k hk).1, Int.le_trans (B.cnt k hk).2 (Int.ofNat_le.mpr (Nat.le_trans hcl (by decide)))⟩⟩
theorem texts_ok (H : AllOk SA SB SC) (g0 : ∀ n ∈ r0, SymOk n) (o0 : ops r0 = 0) (h3 : r0.length = 3) (p : Play SA SB SC r0 i hist ns) (hi : i ≤ 10) : ∀ k, k < i → TextOk (hist ++ [ns]) ns k := by
  intro k hk
  have hl : (hist ++ [ns]).length = i + 1 := by rw [List.length_append, p.len]; rfl
  obtain ⟨h', p', x', b'⟩ := p.rows (k + 1) _ (List.getElem?_eq_getElem (by rw [hl]; exact Nat.succ_lt_succ hk))
  obtain ⟨q, hq, m⟩ := b' k rfl
  obtain ⟨h, pq, xq, _⟩ := p.rows k q hq
  have R := pq.facts H g0 o0
  have R' := p'.facts H g0 o0
  have N := p.facts H g0 o0
  have len : ∀ {r : List Int} {j : Nat}, RowG r0 j r → j ≤ 10 → r.length ≤ 100 := fun R hj => Nat.le_trans R.len (by rw [h3]; omega)
  obtain ⟨pre, n, post, r, e, h1, _⟩ := id m
  have hd : ∃ n ∈ q, (256 : Int) ≤ n := ⟨n, e ▸ List.mem_append_right _ (.head _), h1⟩
  have lq := len R (Nat.le_trans (Nat.le_of_lt hk) hi)
  have lr := len R' (Nat.le_trans hk hi)
  exact ⟨q, _, hq, List.getElem?_eq_getElem _, ell_ok R.good lq lr fun v h => ell_true R.good m.exp hd h, ell_ok R.good lq (len N hi) fun v h => ell_true R.good xq hd h, ell_ok R'.good lr lq fun v h => ell_false R'.good R.good (by rw [R.ops, R'.ops]; exact Nat.lt_succ_self k) h⟩
end
theorem mk_gm {w : World} {R0 RT : Led} {rd wd : Addr} {RA RB RC : Int → Addr} {SA SB SC : Int → List Int} (H : AllOk SA SB SC)
    (hR : ∀ h, HoldsAll h RT → RulesA w h rd (adOf RA RB RC) ∧ ∀ k, 256 ≤ k → k ≤ 258 → IntsAt h (RA k) (SA k) ∧ IntsAt h (RB k) (SB k) ∧ IntsAt h (RC k) (SC k))
    (hW : ∀ h, HoldsAll h R0 → WorthAt w h wd (wvUp SA SB SC 3)) (hs : ∀ p ∈ RT, p ∈ R0) {h1 : Heap} (hh : HoldsAll h1 RT) (d : Int) :
    ∃ wv ad S b0 P, Gm w R0 rd wd [256 + 2, 256 + d.fmod 2, 0] wv ad S b0 P := by
  have sub : ∀ h, HoldsAll h R0 → HoldsAll h RT := fun h k p hp => k p (hs p hp)
  obtain ⟨hg0, ho0⟩ := start_ok d
  have hp0 := pot_start d
  have hl0 : [256 + 2, 256 + d.fmod 2, 0].length = 3 := rfl
  generalize [256 + 2, 256 + d.fmod 2, 0] = r0 at hg0 ho0 hp0 hl0
  let S : Addr → List Int := fun a => Classical.epsilon fun l => IntsAt h1 a l
  have mvS : ∀ {ns x n r}, MvOk SA SB SC RA RB RC ns x n r → S x.2 = r := fun hm => (let h := mv_at hm (hR h1 hh).2; intsAt_uniq (Classical.epsilon_spec (p := fun l => IntsAt h1 _ l) ⟨_, h⟩) h)
  have F := fun {i hist ns} (p : Play SA SB SC r0 i hist ns) => p.facts H hg0 ho0
  have le10 := fun {i hist ns} (p : Play SA SB SC r0 i hist ns) => Nat.le_trans (Nat.le_add_left i (pot ns)) (Nat.le_trans (F p).pot hp0)
  have le25 : ∀ {i hist ns}, Play SA SB SC r0 i hist ns → ns.length ≤ 25 := fun p => Nat.le_trans (F p).len (by rw [hl0]; have := le10 p; omega)
  refine ⟨wvUp SA SB SC 3, adOf RA RB RC, S, ansOf SA SB SC r0, fun i a hist ns => Play SA SB SC r0 i hist ns ∧ a = ansOf SA SB SC ns ∧ a = (ansOf SA SB SC r0 ^^ odd i), hW, fun h k => (hR h (sub h k)).1, fun _ => Nat.le_refl 3, ⟨.start, rfl, (Bool.xor_false _).symm⟩, fun p => le10 p.1, fun p => le25 p.1, fun p => p.1.len, fun p => row_ok H (F p.1).good, fun p n hn => sym_le ((F p.1).good n hn), fun p => p.2.1.symm, fun p => p.2.1 ▸ line_ok (F p.1).good (le25 p.1), ?_, fun p => texts_ok H hg0 ho0 hl0 p.1 (le10 p.1), ?_, ?_⟩
  · rintro i a hist ns ⟨p, e, e'⟩ h
    have hnone := movesUp_nil h
    exact ⟨(text_ops (F p).good hnone).trans (F p).ops, par_end ((ans_none hnone).symm.trans (e ▸ e'))⟩
  · rintro i a hist ns ⟨p, e, e'⟩ x hx
    obtain ⟨n, r, hm⟩ := movesUp_ok (SA := SA) (SB := SB) (SC := SC) (fun n hn => sym_le ((F p).good n hn)) ns.length hx
    have hr := mvS hm
    have h1 := pot_pos (List.mem_of_getElem? hm.1) hm.2.1 hm.2.2.1
    refine ⟨n, Nat.le_of_succ_le_succ (Nat.le_trans (Nat.succ_le_of_lt (Nat.lt_add_of_pos_left h1)) (Nat.le_trans (F p).pot hp0)), hm.1, hr ▸ mv_len H hm, fun h k => hr ▸ mv_at hm (hR h (sub h k)).2, fun hw => ?_⟩
    obtain ⟨m, ha⟩ := next_ok H hm fun h => hr ▸ hw (e.trans h) n hm.1
    rw [hr]
    exact ⟨.move p m, by rw [ha, e], par_step (e ▸ e') (by rw [e])⟩
  · rintro i hist ns ⟨p, e, _⟩
    obtain ⟨x, hx, n, r, hm, hw⟩ := win_in (RA := RA) (RB := RB) (RC := RC) H (F p).good e.symm
    exact ⟨x, hx, fun n' hn' => Option.some.inj (hm.1.symm.trans hn') ▸ mvS hm ▸ hw⟩
end Mine
namespace Mine
theorem item_listP {prog : Program} {w : World} {A : Around} {E : Value → Shared → Prop} {s : Shared} {value slice : PySem.Expr} {D : Addr} {vs : List Value} {v : Value} {k : Int} {u : Tok} {Q : Value → Shared → Prop}
    (hl : s.heap.IsList D vs.toArray) (h0 : 0 ≤ k) (h1 : k < 100000) (hv : vs[k.toNat]? = some v) (h : Q v s)
    (hs : autoParam (subscripted slice false (.ref D) (.int k u) = operate [.ref D, .int k u] (getItem (.ref D) (.int k u))) aut6._auto_1) : wpAny (model prog w) A (subscriptTail value slice (.ref D) (.int k u)) Q E s :=
  tail_any hl.typeIs slot_list_getitem.lookup (wpAny_getItem_list hl h0 (Int.lt_trans h1 (by decide)) (by simpa using hv) h) hs
section
variable {w : World} {sc scope : Scope} {c : Cx w sc} {x y : Str} {ps : Names} {news led : Led} {s : Shared} {h : Heap} {Q : Flow → Shared → Prop} {rest body : List Stmt} {px py pz p1 pos spos : Pos} {e a b d iter ct : PySem.Expr} {es : List PySem.Expr} {i j : Int} {z : Str} {l D : Addr} {v : Value} {vs us : List Value} {ns ms : List Int} {n k : Nat} {o : Obj} {cl : List (Str × Addr)} {α β : Type} {g : α → Value} {tl : α → Led} {φ : α → Prop} {r r₁ r₂ : Tok → Value} {t t' : Bool}
theorem st_filter (J : Nat → List Value → Prop) (H : c.St ps news s) (hi : c.Ev iter (KV (.ref l)) s.heap) (hl : (l, listOf vs.toArray k) ∈ news) (hz : vs.length ≤ 2000) (h0 : J 0 [])
    (turn : ∀ i v ys C oC m m₂ led s' (E' : Value → Shared → Prop) (Q : Bool → Shared → Prop), vs[i]? = some v → J i ys → LCg.NsObj oC m₂ → m₂ x = some v → Fr c.h₀ c.L s'.heap m → c.St ps led s' → (C, oC) ∈ led → Sub news led →
      (∀ (ok : Bool) s'', J (i + 1) (if ok = true then ys ++ [v] else ys) → c.St ps led s'' → Fr c.h₀ c.L s''.heap m → Q ok s'') → wpAny (model PG w) c.A (isTrue ct (compEnvC scope cl C c.env) (eval ct (compEnvC scope cl C c.env))) Q E' s')
    (h : ∀ D ys k' s', J vs.length ys → c.St ((y, .ref D) :: ps) ((D, listOf ys.toArray k') :: news) s' → c.Do rest Q s')
    (hkx : ∀ C, (compEnvC scope cl C c.env).kindOf x = some .local) (hb : (x == ("__debug__" : Str)) = false)
    (hsw : swapsWith (.ListComp (.Name x p1) [⟨.Name x px, iter, [ct], 0⟩] scope pos) (some (.Name y py)) spos.line c.env = pure true) (hcl : closureFor scope c.env = pure cl) (h1 : ∀ y ∈ scope.names, y.2 ≠ .cell) (h2 : scope.kind = .function) (h3 : ∀ y ∈ scope.names, y.2 = .local → scope.names.lookup y.1 = some .local) (h4 : scope.names.lookup x = some .local) (hy : isLoc sc y = true)
    (hfo : autoParam (∀ env v, foldedSetIterable iter env v = pure v) aut4._auto_1) : c.Do (.Assign [.Name y py] (.ListComp (.Name x p1) [⟨.Name x px, iter, [ct], 0⟩] scope pos) spos :: rest) Q s := by
  obtain ⟨m, F, hm⟩ := H.fr
  refine wpAny_execs_cons (LCt.Assign_ListComp_T F rfl hsw hcl h1 h2 h3 h4 (isKind_of hy).1 (by show (sc.kind == .class || (sc.kind == .module && c.L != mainGlobals)) = false; rw [c.hk]; rfl) (hi _ _ _ rfl fun _ k1 => ?_) (hfo _))
  obtain ⟨g1, k0, e1⟩ := H.base
  have N := H.nw
  have D1 := H.nd
  have hsz : vs.toArray.size = vs.length := List.size_toArray ..
  refine LCt.CompSrcT.ledger rfl F N hl (by rw [hsz, sizeLine_eq]; exact Nat.le_trans hz (by decide)) fun g2 => ?_
  rw [hsz]
  have mk : ∀ {h tk l}, Fr c.h₀ c.L h m → News c.h₀ c.L h l → ND l → c.St ps l { s with heap := h, toks := tk } := fun F N D => ⟨⟨_, _, by rw [e1]⟩, ⟨m, F, hm⟩, N, D⟩
  have hS : LCg.SrcAt c.h₀ l vs.toArray news := .inr ⟨_, hl, rfl, _, rfl⟩
  have key : ∀ Qf : Flow → Shared → Prop, (∀ s, c.Do rest Q s → Qf .next s) → ∀ (j i : Nat) (ys : List Value), i + j = vs.length → J i ys → LCt.CompRestT PG w c.A c.h₀ c.L m c.env ct (.Name x p1) x scope cl { s with heap := g2, toks := k1 } (LCg.SrcAt c.h₀ l vs.toArray) (fun i v => vs.toArray[i]? = some v) (LCg.FinA c.h₀ c.L m { s with heap := g2, toks := k1 } y Qf) j i ys news := by
    intro Qf hQf j
    induction j with
    | zero =>
      intro i ys hi hJ
      obtain rfl : i = vs.length := hi
      exact LCt.CompRestT.zero fun D h' tk F N off => hQf _ <| h D ys _ _ hJ ⟨⟨_, _, by rw [e1]⟩, ⟨_, F, nget_set hm fun _ => rfl⟩, N, List.pairwise_cons.mpr ⟨off_one off, D1⟩⟩
    | succ j ih =>
      intro i ys hi hJ
      refine LCt.CompRestT.succ fun v I oI C oC D m₂ h tk E' hv hC hx F N off ne => ?_
      refine turn i v ys C oC m m₂ _ _ E' _ (by simpa using hv) hJ hC hx F (mk F N (off_three off ne D1)) (.tail _ (.head _)) (Sub.skip (Sub.skip (Sub.skip Sub.refl))) fun ok s'' hJ' H'' F3 => ?_
      obtain ⟨g3, k3, e3⟩ := H''.base
      have N3 := H''.nw
      obtain rfl : s'' = { s with heap := g3, toks := k3 } := by rw [e3, e1]
      cases ok with
      | true => exact wpAny_Name (wpAny_loadName_local h2 (hkx C) (hC.ns (N3 _ (.tail _ (.head _))).1) hx ⟨g3, k3, news, rfl, F3, N3, off, hS, ih (i + 1) _ ((Nat.succ_add_eq_add_succ i j).trans hi) hJ'⟩) hb
      | false => exact ⟨g3, k3, news, rfl, F3, N3, off, hS, ih (i + 1) _ ((Nat.succ_add_eq_add_succ i j).trans hi) hJ'⟩
  exact key _ (fun _ h => h) vs.length 0 [] (Nat.zero_add _) h0
theorem mi_upto (H : c.St ps news s) (ha : c.Ev a (KV (.ref l)) s.heap) (hb : c.Ev b (.int i) s.heap) (hl : IntsAt s.heap l ns) (h0 : 0 ≤ i) (hz : ns.length ≤ 2000)
    (hs : autoParam (∀ D, subscripted (.Slice none (some b) none px) false (.ref l) (.ref D) = operate [.ref D, .ref l] (getItem (.ref l) (.ref D))) aut3._auto_1) (hg : autoParam (∀ r, letTemporaryGo a (.ref l) r = pure ()) aut3._auto_1) :
    c.Mi (.Subscript a (.Slice none (some b) none px) pos) ps news (ns.take i.toNat) s := fun Q hQ =>
  Subscript_ (ha s _ _ rfl fun _ _ => wpAny_Slice (evalPart_none_step (evalPart_some_step (hb _ _ _ rfl fun u k => evalPart_none_step (by
    obtain ⟨m, F⟩ := (H.toks k).frm
    have N := (H.toks k).nw
    obtain ⟨vs, hv, hi⟩ := hl
    exact kmk_slice_ints (s := { s with toks := k }) F N hv .none (.int _ _) hi (kmk_upto hi h0) rfl (fun D ws h' F' N' lt hw _ _ => hQ (D, ws, 0) _ hw ((H.toks k).more (k := k) F F' N' lt)) (hs _) hg (by rw [List.size_toArray, hi.length, sizeLine_eq]; exact Nat.le_trans hz (by decide)))))))
theorem mi_from (H : c.St ps news s) (ha : c.Ev a (KV (.ref l)) s.heap) (hb : c.Ev b (.int i) s.heap) (hl : IntsAt s.heap l ns) (h0 : 0 ≤ i) (hz : ns.length ≤ 2000)
    (hs : autoParam (∀ D, subscripted (.Slice (some b) none none px) false (.ref l) (.ref D) = operate [.ref D, .ref l] (getItem (.ref l) (.ref D))) aut3._auto_1) (hg : autoParam (∀ r, letTemporaryGo a (.ref l) r = pure ()) aut3._auto_1) :
    c.Mi (.Subscript a (.Slice (some b) none none px) pos) ps news (ns.drop i.toNat) s := fun Q hQ =>
  Subscript_ (ha s _ _ rfl fun _ _ => wpAny_Slice (evalPart_some_step (hb _ _ _ rfl fun u k => evalPart_none_step (evalPart_none_step (by
    obtain ⟨m, F⟩ := (H.toks k).frm
    have N := (H.toks k).nw
    obtain ⟨vs, hv, hi⟩ := hl
    exact kmk_slice_ints (s := { s with toks := k }) F N hv (.int _ _) .none hi (kmk_from hi h0) rfl (fun D ws h' F' N' lt hw _ _ => hQ (D, ws, 0) _ hw ((H.toks k).more (k := k) F F' N' lt)) (hs _) hg (by rw [List.size_toArray, hi.length, sizeLine_eq]; exact Nat.le_trans hz (by decide)))))))
theorem mi_fromL (ha : c.Mi a ps news ns s) (hb : ∀ o s', c.St ps (o :: news) s' → c.Ev b (.int i) s'.heap) (h0 : 0 ≤ i) (hz : ns.length ≤ 2000)
    (hs : autoParam (∀ l D, subscripted (.Slice (some b) none none px) false (.ref l) (.ref D) = operate [.ref D, .ref l] (getItem (.ref l) (.ref D))) aut5._auto_1) :
    c.Mi (.Subscript a (.Slice (some b) none none px) pos) ps news (ns.drop i.toNat) s := fun Q hQ =>
  Subscript_ (ha _ fun p s' hp H' => wpAny_Slice (evalPart_some_step (hb _ _ H' _ _ _ rfl fun u k => evalPart_none_step (evalPart_none_step (by
    obtain ⟨m, F⟩ := (H'.toks k).frm
    have N := (H'.toks k).nw
    refine kba_turn (value' := .Name (Str.ofString "x") default) (fun _ => rfl) ?_
    exact kmk_slice_ints (s := { s' with toks := k }) F N (N.isList (.head _)) (.int _ _) .none hp (kmk_from hp h0) rfl (fun D ws h' F' N' lt hw _ _ => hQ (D, ws, 0) _ hw (((H'.toks k).more (k := k) F F' N' lt).led (Sub.cons (Sub.skip Sub.refl)))) (hs _ _) (fun _ => rfl) (by rw [List.size_toArray, hp.length, sizeLine_eq]; exact Nat.le_trans hz (by decide)))))))
theorem mi_addM (ha : c.Mi a ps news ns s) (hb : ∀ o s', c.St ps (o :: news) s' → c.Mi b ps (o :: news) ms s') (hz : ns.length + ms.length ≤ sizeLine) : c.Mi (.BinOp a .Add b pos) ps news (ns ++ ms) s := fun Q hQ =>
  wpAny_BinOp (ha _ fun p s1 hp H1 => hb _ _ H1 _ fun q s' hq H' => by
    obtain ⟨m, F⟩ := H'.frm
    have N := H'.nw
    exact kmk_add_ints F N (N.isList (.tail _ (.head _))) (N.isList (.head _)) hp hq (fun D us h' F' N' lt hi' => hQ (D, us, 0) _ hi' ((H'.more (k := s'.toks) F F' N' lt).led (Sub.cons (Sub.skip (Sub.skip Sub.refl))))) hz)
theorem mi_addR (ha : c.Mi a ps news ns s) (hb : ∀ o s', c.St ps (o :: news) s' → c.Ev b (KV (.ref l)) s'.heap ∧ IntsAt s'.heap l ms) (hz : ns.length + ms.length ≤ sizeLine) : c.Mi (.BinOp a .Add b pos) ps news (ns ++ ms) s := fun Q hQ =>
  wpAny_BinOp (ha _ fun p s1 hp H1 => (hb _ _ H1).1 _ _ _ rfl fun _ k => by
    obtain ⟨m, F⟩ := (H1.toks k).frm
    have N := (H1.toks k).nw
    obtain ⟨vs, hv, hi⟩ := (hb _ _ H1).2
    exact kmk_add_ints (s := { s1 with toks := k }) F N (N.isList (.head _)) hv hp hi (fun D us h' F' N' lt hi' => hQ (D, us, 0) _ hi' (((H1.toks k).more (k := k) F F' N' lt).led (Sub.cons (Sub.skip Sub.refl)))) hz)
theorem mk_callM {f : PySem.Expr} {fa : Addr} {γ : Type} {g' : γ → Value} {tl' : γ → Led} {φ' : γ → Prop} {pre : α → Heap → Prop} (H : c.St ps news s) (hf : c.Ev f (KV (.ref fa)) s.heap) (ha : ∀ s', c.St ps news s' → c.Mk a ps news g tl φ s') (S : ∀ o, Spec w k fa [g o] (pre o) g' tl' φ') (hkm : k ≤ c.kmax) (hp : ∀ o s', φ o → c.St ps (tl o ++ news) s' → pre o s'.heap) (hk : keepIn (lw_hd.heap_39 w.params) (.ref fa) = true)
    (he : autoParam (∀ env, eval (.Call f [a] [] pos) env = (do let g ← eval f env; callWith pos g [] (backTo pos (starEach [a] env)) (backToKw pos (keywordEach [] env)))) aut2._auto_1)
    (hs : autoParam (∀ env, starEach [a] env = (false, eval a env) :: starEach [] env) aut2._auto_1) : c.Mk (.Call f [a] [] pos) ps news (fun p : α × γ => g' p.2) (fun p => tl' p.2 ++ tl p.1) (fun p => φ p.1 ∧ φ' p.2) s := fun Q hQ =>
  Call_ (hf s _ _ rfl fun _ k => callWith_K c.hX hk (args_cons (ha _ (H.toks k) _ fun o s' ho H' => args_nil ⟨c.hX.keeps H'.keep, Cx.use (S o) hkm H' (hp o s' ho H') fun q s'' hq H'' _ => hQ (o, q) s'' ⟨ho, hq⟩ (by rw [List.append_assoc]; exact H'')⟩) (hs _)) (hs _) rfl) (he _)
theorem mk_cmpM {op : CmpOp} (ha : c.Mk a ps news g (fun _ => []) φ s) (hb : ∀ s', c.St ps news s' → c.Ev b r s'.heap) (hop : ∀ o, φ o → ∀ (s : Shared) (Q E : Value → Shared → Prop) (u : Tok), (∀ k, Q (.bool t) { s with toks := k }) → wpAny (model PG w) c.A (compareOp op (g o) (r u)) Q E s) (hm : autoParam (behindInMarks op b = false) aut1._auto_1) :
    c.Mk (.Compare a [op] [b] px) ps news (KV (.bool t)) (fun _ => []) (fun _ => True) s := fun Q hQ =>
  wpAny_Compare1 (ha _ fun o s1 ho H1 => hb s1 H1 s1 _ _ rfl fun u k => hop o ho _ _ _ u fun k' => hQ 0 _ trivial (H1.toks k')) hm
theorem tm_cmpM {op : CmpOp} (ha : c.Mk a ps news g (fun _ => []) φ s) (hb : ∀ s', c.St ps news s' → c.Ev b r s'.heap) (hop : ∀ o, φ o → ∀ (s : Shared) (Q E : Value → Shared → Prop) (u : Tok), (∀ k, Q (.bool t) { s with toks := k }) → wpAny (model PG w) c.A (compareOp op (g o) (r u)) Q E s) (hm : autoParam (behindInMarks op b = false) aut1._auto_1) :
    c.Tm (.Compare a [op] [b] px) t ps news s := fun Q hQ =>
  wpAny_isTrue_Compare1 (ha _ fun o s1 ho H1 => hb s1 H1 s1 _ _ rfl fun u k => hop o ho _ _ _ u fun k' => wpAny_truthy_bool (hQ _ (H1.toks k'))) hm
theorem Cx.Ev.eq (H : c.Ev e (.int i) h) (hi : i = j) : c.Ev e (.int j) h := hi ▸ H
theorem st_miC {ca : Addr} {o : Obj} {v₀ : Option Value} {f : Obj → Led} (H : c.St ps news s) (he : c.Mi e ps news ns s) (hc : (cellsFrom (c.L + 1) sc.names []).lookup x = some ca) (hd : o.data = .cell v₀) (U : ∀ o', Rep ca o o' news (f o')) (h : ∀ D us n s' o', IntsAre us ns → o'.data = .cell (some (.ref D)) → c.St ps ((D, listOf us.toArray n) :: f o') s' → c.Do rest Q s')
    (hx : autoParam (isCel sc x = true) aut1._auto_1) (hs : autoParam (swapsWith e (some (.Name x px)) pos.line c.env = pure false) aut1._auto_1) : c.Do (.Assign [.Name x px] e pos :: rest) Q s :=
  st_mkC (f := fun (p : Addr × List Value × Nat) o' => (p.1, listOf p.2.1.toArray p.2.2) :: f o') he hc hd (fun p o' => Rep.tail (p := (p.1, listOf p.2.1.toArray p.2.2)) (U o')) (fun p s' o' h1 h2 H' => h p.1 p.2.1 p.2.2 s' o' h1 h2 H') hx hs
theorem eq_empty {A : Around} {E : Value → Shared → Prop} {Q : Value → Shared → Prop} {l b : Addr} (hl : s.heap.IsList l vs.toArray) (hb : s.heap.IsList b #[]) (hu : A.units < cLine) (h : Q (.bool vs.isEmpty) s) :
    wpAny (model PG w) A (compareOp .Eq (.ref l) (.ref b)) Q E s := by
  cases vs with
  | nil => exact PySem.SeqAt.eq_listAt (e := fun _ => true) hl hb rfl hu (fun j h1 => absurd h1 (Nat.not_lt_zero j)) h
  | cons v r => exact PySem.SeqAt.eq_list_lengthsAt hl hb (by simp) hu h
theorem tm_empty (H : c.St ps news s) (ha : c.Ev a (KV (.ref l)) s.heap) (hl : (l, listOf vs.toArray k) ∈ news) (hm : autoParam (behindInMarks .Eq (.List [] py) = false) aut1._auto_1) : c.Tm (.Compare a [.Eq] [.List [] py] px) vs.isEmpty ps news s := fun Q hQ =>
  wpAny_isTrue_Compare1 (ha s _ _ rfl fun _ k => Cx.Mk.run (mk_list evl_nil (H.toks k) fun _ => Nat.zero_le _) fun p s' _ H' => eq_empty (H'.nw.isList (.tail _ hl)) (H'.nw.isList (.head _)) (by have := c.units; show c.un < cLine; omega) (wpAny_truthy_bool (hQ _ (H'.led (Sub.skip Sub.refl))))) hm
theorem ev_not (ha : c.Ev a (KV (.bool t)) h) : c.Ev (.UnaryOp .Not a pos) (KV (.bool !t)) h := fun s Q E hs hQ => UnaryOp_ (ha s _ _ hs fun _ k => not_of (wpAny_truthy_bool (hQ 0 k)))
theorem mk_fromS (H : c.St ps news s) (hy : c.Ev e (.str z) s.heap) (hb : c.Ev b (.int i) s.heap) (hz : z.length ≤ sizeLine)
    (hs : autoParam (∀ t D, subscripted (.Slice (some b) none none px) false (.str z t) (.ref D) = operate [.ref D, .str z t] (getItem (.str z t) (.ref D))) aut5._auto_1) (hg : autoParam (∀ t r, letTemporaryGo e (.str z t) r = pure ()) aut5._auto_1) :
    c.Mk (.Subscript e (.Slice (some b) none none px) pos) ps news (.str (Txt.slice z (some i) none)) (fun _ => []) (fun _ => True) s := fun Q hQ =>
  Subscript_ (hy s _ _ rfl fun t _ => wpAny_Slice (evalPart_some_step (hb _ _ _ rfl fun u k => evalPart_none_step (evalPart_none_step (by
    obtain ⟨m, F⟩ := (H.toks k).frm
    have N := (H.toks k).nw
    have N2 := (H.toks k).nd
    exact slice_strN_sn_len (s := { s with toks := k }) F N (fun h' t' k' F' N' _ => hQ t' _ trivial ((H.toks k).step (k := k') F F' N' N2)) (hs t _) (hg t) hz)))))
theorem ev_itemL (ha : c.Ev a (KV (.ref l)) h) (hb : c.Ev b (.int i) h) (hl : h.IsList l vs.toArray) (hv : vs[i.toNat]? = some v) (h0 : 0 ≤ i) (h2 : i < 100000)
    (hs : autoParam (∀ u, subscripted b false (.ref l) (.int i u) = operate [.ref l, .int i u] (getItem (.ref l) (.int i u))) aut3._auto_1) : c.Ev (.Subscript a b pos) (KV v) h := fun s' Q E hh hQ =>
  Subscript_ (ha s' _ _ hh fun _ _ => hb _ _ _ hh fun u k => item_listP (s := { s' with toks := k }) (hh ▸ hl) h0 h2 hv (hQ 0 k) (hs u))
theorem tm_or (ha : c.Tm a t ps news s) (hb : t = false → ∀ s', c.St ps news s' → c.Tm b t' ps news s') : c.Tm (.BoolOp .Or [a, b] pos) (t || t') ps news s := fun Q hQ =>
  isTrue_or (ha _ fun s1 H1 => by
    cases t with
    | true => exact hQ _ H1
    | false => exact isTrue_or (hb rfl s1 H1 _ fun s2 H2 => by
        cases t' with
        | true => exact hQ _ H2
        | false => exact isTrue_or_nil (hQ _ H2)))
end
end Mine
namespace Mine
theorem into_cx3 {w : World} {scope : Scope} {body : List Stmt} {dp un kmax : Nat} {gd : Option (List Code)} {cn : Str} {a : Addr} {ccd : Value} {outer : List Env} {A₀ : Around} {base h₀ : Heap} {L : Addr} {s : Shared} {m : Str → Option Value} {mean : ExcName → Option Value} {mg mb : Str → Option Value} {E : Value → Shared → Prop} {Q : Flow → Shared → Prop} {l : Addr} {vs : List Value} {o1 o2 o3 : Obj} (hl : h₀.IsList l vs.toArray)
    (B : Below A₀ base outer h₀) (F : Fr h₀ L s.heap m) (hX : (lw_hd.heap_39 w.params).In h₀) (T : Top lw_hd.view_39 LOO mean mg mb h₀) (hk : scope.kind = .function) (N : News h₀ L s.heap [(L + 1 + 1 + 1, o3), (L + 1 + 1, o2), (L + 1, o1)]) (hm : m (Str.ofString "script") = some (.ref l)) (hd : dp + kmax < recursionLimit) (hu : un + 8 * kmax < cLine)
    (own : PassesOwn (model PG w) (ktrTop dp un gd cn scope L a ccd (cellsFrom (L + 1) scope.names []) outer) (envX cn scope L a ccd (cellsFrom (L + 1) scope.names [])) E)
    (h : ∀ (c : Cx w scope) (s' : Shared), kmax ≤ c.kmax → c.h₀.IsList l vs.toArray → c.St [(Str.ofString "script", .ref l)] [(c.L + 1 + 1 + 1, o3), (c.L + 1 + 1, o2), (c.L + 1, o1)] s' → (∀ ps led s'', c.St ps led s'' → ∃ m h k, s'' = { s with heap := h, toks := k } ∧ Fr h₀ L h m) → c.Do body Q s') :
    wpAny (model PG w) (ktrTop dp un gd cn scope L a ccd (cellsFrom (L + 1) scope.names []) outer) (execs body (envX cn scope L a ccd (cellsFrom (L + 1) scope.names []))) Q E s := by
  refine h ⟨dp, un, gd, cn, a, ccd, outer, A₀, base, h₀, L, s, mean, mg, mb, kmax, E, B, T, hX, hk, hd, hu, own⟩ s (Nat.le_refl _) hl ⟨⟨_, _, rfl⟩, ⟨m, F, fun x v hx => by cases List.mem_singleton.mp (nget_mem hx); exact hm⟩, N, ?_⟩ ?_
  · exact List.pairwise_cons.mpr ⟨kn2 (Nat.ne_of_gt (Nat.lt_succ_self _)) (Nat.ne_of_gt (Nat.lt_succ_of_lt (Nat.lt_succ_self _))), List.pairwise_cons.mpr ⟨kn1 (Nat.ne_of_gt (Nat.lt_succ_self _)), List.pairwise_singleton ..⟩⟩
  · rintro ps led s'' ⟨⟨h1, k1, e⟩, ⟨m1, F1, _⟩, _⟩
    exact ⟨m1, h1, k1, e, by rw [e] at F1; exact F1⟩

section
variable {w : World} {sc : Scope} {c : Cx w sc} {ps : Names} {news : Led} {s : Shared} {px pos : Pos} {a b : PySem.Expr} {i : Int} {l : Addr} {ns : List Int}
theorem src_upto {vs : List Value} (H : c.St ps news s) (ha : c.Ev a (KV (.ref l)) s.heap) (hb : c.Ev b (.int i) s.heap) (hl : s.heap.IsList l vs.toArray) (hi : IntsAre vs ns) (h0 : 0 ≤ i) (hz : ns.length ≤ 2000)
    (hs : autoParam (∀ D, subscripted (.Slice none (some b) none px) false (.ref l) (.ref D) = operate [.ref D, .ref l] (getItem (.ref l) (.ref D))) aut3._auto_1) (hg : autoParam (∀ r, letTemporaryGo a (.ref l) r = pure ()) aut3._auto_1) :
    c.Src (.Subscript a (.Slice none (some b) none px) pos) ps news (ns.take i.toNat).length (fun j v => ∃ k t, v = .int k t ∧ (ns.take i.toNat)[j]? = some k) s := fun m F Qs hQ =>
  Subscript_ (ha s _ _ rfl fun _ _ => wpAny_Slice (evalPart_none_step (evalPart_some_step (hb _ _ _ rfl fun u k => evalPart_none_step (by
    exact kmk_slice_ints (s := { s with toks := k }) F H.nw hl .none (.int _ _) hi (kmk_upto hi h0) rfl (fun D ws h' F' N' lt hw _ _ => hQ D _ _ _ F' ((H.toks k).more (k := k) F F' N' lt) (.inr ⟨_, .head _, rfl, _, rfl⟩) (Sub.skip Sub.refl) (by rw [List.size_toArray, hw.length]) fun j v hv => ints_at hw (by simpa using hv)) (hs _) hg (by rw [List.size_toArray, hi.length, sizeLine_eq]; omega))))))
end
theorem draws_are {vs : List Value} {m0 : List Int} (h13 : m0.length ≤ 13) (h : IntsAre vs (m0 ++ List.drop ((m0.length : Nat) : Int).toNat [49, 17, 1, 1, 0, 4, 0, 1, 2, 0, 1, 2, 3])) : ∃ ds : List Int, ds.length = 13 ∧ IntsAre vs ds := by
  refine ⟨_, ?_, h⟩
  rw [List.length_append, List.length_drop, Int.toNat_natCast]
  exact Nat.add_sub_cancel' h13
theorem draw_at {i : Nat} (h : i ≤ 9) : (0 : Int) ≤ 3 + (i : Int) ∧ 3 + (i : Int) < ((13 : Nat) : Int) ∧ 3 + (i : Int) < 2 ^ 63 := by omega
theorem draws_fit {m0 : List Int} {k : Nat} {l : List Int} (h13 : m0.length ≤ 13) (h : l.length ≤ 13) : m0.length + (l.drop k).length ≤ sizeLine := by
  rw [List.length_drop, sizeLine_eq]
  exact Nat.le_trans (Nat.add_le_add h13 (Nat.le_trans (Nat.sub_le _ _) h)) (by decide)
noncomputable def lawN (Dd rd tl : Addr) (bg an : Bool) : Names := [(Str.ofString "draws", .ref Dd), (Str.ofString "rules", .ref rd), (Str.ofString "begins", .bool bg), (Str.ofString "answers", .bool an), (Str.ofString "texts", .ref tl)]
section
variable {w : World} {sc : Scope} {c : Cx w sc} {ps : Names} {news : Led} {s : Shared} {px p1 p2 pos : Pos} {f a b : PySem.Expr} {α : Type} {x : α} {l : List α}
theorem Cx.St.holds (H : c.St ps news s) (n : Nat) : HoldsAll s.heap (news.drop n) := fun p hp => (H.nw p (List.mem_of_mem_drop hp)).1
theorem Cx.St.ints {a : Addr} {vs : List Value} {k : Nat} {ns : List Int} (H : c.St ps news s) (i : Nat) (h : news[i]? = some (a, listOf vs.toArray k)) (hi : IntsAre vs ns) : IntsAt s.heap a ns := IntsAt.of H (nm i h) hi
theorem Cx.St.lst {a : Addr} {vs : List Value} {k : Nat} (H : c.St ps news s) (i : Nat) (h : news[i]? = some (a, listOf vs.toArray k)) : s.heap.IsList a vs.toArray := H.nw.isList (nm i h)
theorem cell_at (c : Cx w sc) {x : Str} {a : Addr} (h : (cellsFrom (c.L + 1) sc.names []).lookup x = some a) : ∃ b, (cellsFrom (c.L + 1) sc.names []).lookup x = some b ∧ a = b := ⟨a, h, rfl⟩
theorem tm_ell {y z : Str} {t t' : Tok} {v : Bool} {k : Nat} (E : EllOk y z v) (hkm : 10 ≤ c.kmax) (hkk : keepIn (lw_hd.heap_39 w.params) (.ref 28) = true) (H : c.St ps news s) (hf : c.Ev f (KV (.ref 28)) s.heap) (ha : c.Ev a (KV (.str y t)) s.heap) (hb : c.Ev b (KV (.str z t')) s.heap)
    (he : autoParam (∀ env, eval (.Call f [a, b] [] pos) env = (do let g ← eval f env; callWith pos g [] (backTo pos (starEach [a, b] env)) (backToKw pos (keywordEach [] env)))) aut2._auto_1)
    (hs : autoParam (∀ env, starEach [a, b] env = (false, eval a env) :: starEach [b] env) aut2._auto_1) (hs' : autoParam (∀ env, starEach [b] env = (false, eval b env) :: starEach [] env) aut2._auto_1) (hpl : autoParam (∀ env, ((backTo pos (starEach [b] env)).any fun x => x.1) = false) aut2._auto_1) :
    c.Tm (.Compare (.Call f [a, b] [] pos) [.IsNot] [.Constant (.bool v) k p1] p2) false ps news s :=
  tm_cmpM (mk_call2 (fun _ _ => ell_spec w y z t t' E.ly E.lz E.two) hkm H trivial hf ha hb hkk he hs hs' hpl) (fun _ _ => ev_bool) (fun o h s Q E' u hQ => isnot_bool (by rw [E.ans o h, bne_self_eq_false]; exact hQ s.toks)) rfl
end
theorem ev_wsn {w : World} {sc : Scope} {c : Cx w sc} {ps : Names} {news : Led} {s : Shared} {y : Str} {px pos : Pos} {x : Addr} {st : WsS} (H : c.St ps news s) (W : WsAt s.heap x st) (hy : nget ps y = some (.ref x)) (hx : isLoc sc y = true) : c.Ev (.Attribute (.Name y px) (Str.ofString "n") pos) (.int st.n) s.heap := by
  obtain ⟨dx, es, n, D1, D2, vs, tb, t1, t2, h1, h2, h3, _⟩ := W
  exact (ev_attr H (ev_loc H hy hx) (inst_of h1 h2) (ws_attr w).1 h3).int
inductive LawK (R0 : Led) (Dd rd cb cc : Addr) (b0 : Bool) (P : Nat → Bool → List (List Int) → List Int → Prop) (i : Nat) (ps : Names) (news : Led) : Prop
  | mk (tl ra : Addr) (tvs rvs : List Value) (tn rn : Nat) (ow ot : Obj) (cv : Option Value) (a : Bool) (ns : List Int) (hist : List (List Int)) (hT : TextsAre tvs hist) (hI : IntsAre rvs ns) (how : ow.data = .cell (some (.ref ra))) (hot : ot.data = .cell cv) (hP : P i a hist ns)
    (hn : ∀ q ∈ lawN Dd rd tl b0 a, nget ps q.1 = some q.2) (hl : news = (tl, listOf tvs.toArray tn) :: (ra, listOf rvs.toArray rn) :: (cc, ot) :: (cb, ow) :: R0)
inductive LawE {w : World} {sc : Scope} (c : Cx w sc) (ad : Int → List Addr) (b0 : Bool) (P : Nat → Bool → List (List Int) → List Int → Prop) (s : Shared) : Prop
  | mk (i : Nat) (tl : Addr) (tvs : List Value) (tn : Nat) (a : Bool) (hist : List (List Int)) (ns : List Int) (t : Tok) (hT : TextsAre (tvs ++ [Value.str (textL ns) t]) (hist ++ [ns])) (hP : P i a hist ns) (hf : movesUp ad ns ns.length = [])
    (H : c.St [(Str.ofString "texts", .ref tl), (Str.ofString "begins", .bool b0)] [(tl, listOf (tvs ++ [Value.str (textL ns) t]).toArray tn)] s)
inductive LawM {w : World} {sc : Scope} (c : Cx w sc) (wv : Int → Option Nat) (ad : Int → List Addr) (S : Addr → List Int) (ps : Names) (R : Obj → Led) (mtups : Led) (a : Bool) (ns : List Int) (s : Shared) : Prop
  | mk (D : Addr) (ys : List Value) (k : Nat) (mv' : List (Nat × Addr)) (ot : Obj) (cv : Option Value) (hm : MovesAre mtups ys mv') (hne : ys ≠ []) (hl : ys.length ≤ 300) (hw : ∀ x ∈ mv', x ∈ movesUp ad ns ns.length ∧ (a = true → Win wv S ns x)) (hot : ot.data = .cell cv)
    (H : c.St ((Str.ofString "moves", .ref D) :: ps) ((D, listOf ys.toArray k) :: R ot) s)
inductive IntCs : List PySem.Expr → List Int → Prop
  | nil : IntCs [] []
  | cons {i : Int} {k : Nat} {p : Pos} {es : List PySem.Expr} {ns : List Int} : IntCs es ns → IntCs (.Constant (.int i) k p :: es) (i :: ns)
theorem evl_ints {w : World} {sc : Scope} {c : Cx w sc} {h : Heap} {es : List PySem.Expr} {ns : List Int} (H : IntCs es ns) : c.EvL es (fun p : { vs : List Value // IntsAre vs ns } => p.1) h := by
  induction H with
  | nil => exact fun s Q E pos _ hQ => args_nil (hQ ⟨[], .nil⟩ s.toks)
  | cons _ ih => exact fun s Q E pos hh hQ => args_cons (wpAny_Constant_int (ih _ _ _ _ hh fun b k => hQ ⟨_, .cons _ _ b.2⟩ k)) rfl
theorem mi_const {w : World} {sc : Scope} {c : Cx w sc} {ps : Names} {news : Led} {s : Shared} {pos : Pos} {es : List PySem.Expr} {ns : List Int} (H : c.St ps news s) (hc : IntCs es ns) (hz : ns.length ≤ 2000) : c.Mi (.List es pos) ps news ns s :=
  mi_list (evl_ints hc) H (fun p => p.2) (by rw [sizeLine_eq]; omega)
set_option maxHeartbeats 8000000 in
theorem law_main : PySem.Challenge.rw_re0147_01.Holds := lw_hd (by
  k_go0
  all_goals try k_fold
  rename World => w
  rename Shared => s9
  rename Top _ _ _ _ _ _ => T9
  rename Frag.In _ _ => KX9
  rename Heap.IsList _ _ _ => hL9
  rename List Int => xs
  rename IntsAre _ _ => hI9
  rename ¬ (_ < _) => hn9
  rename Below _ _ _ _ => K9
  rename Fr _ _ _ _ => F9
  rename News _ _ _ _ => N9
  rename CellsAre _ _ _ => X9
  rename_i h9 tk9 o3 o2 o1 e3 e2 e1
  have fin : ∀ m h k, Fr s9.heap s9.heap.objs.size h m → qk (Flow.ret (Value.bool true)) { s9 with heap := h, toks := k } := by
    intro m h k F'
    clear N9 X9 F9 e3 e2 e1
    k_steps
  clear_value qk
  refine into_cx3 hL9 (kmax := 100) (o1 := o1) (o2 := o2) (o3 := o3) (s := { s9 with heap := h9, toks := tk9 }) K9 F9 KX9 T9 rfl N9 rfl ?a3 ?a4 ?a5 ?_
  case a3 => ktr_room
  case a4 => ktr_units
  case a5 => passes_own
  intro c s hk hl H hX
  have hxs : _ ≤ 63 := Nat.not_lt.mp (fun h => hn9 (Int.ofNat_lt.mpr h))
  refine st_comp _ H (src_upto (i := 13) H (ev_loc H rfl) ev_int (hl.at fun o e => H.keep _ o e) hI9 (by decide) (Nat.le_trans hxs (by decide))) (Nat.le_trans (List.length_take_le ..) (by rw [sizeLine_eq]; decide)) (List.length_map (f := fun k => Int.fmod k (10 ^ Int.toNat 6)) ..) ?_ (fun D ys nD s hys H => ?_) rfl rfl (by decide) rfl (by decide) rfl rfl
  · intro j v k C oC m₂ led s' E' Q' hT hk2 hC hx H' hC' hsub hQ
    obtain ⟨k1, t1, rfl, hk1⟩ := hT
    rw [List.getElem?_map, hk1] at hk2
    obtain rfl := Option.some.inj hk2
    exact wpAny_BinOp (LCgL.ld_own H'.nw hC' hC hx (wpAny_BinOp (wpAny_Constant_int (wpAny_Constant_int (pow_int_small (by decide) (by decide) (by decide) (mod_int' (by decide) (hQ _ _ (H'.toks _) fun _ _ e => e)))))))
  have h13 : (List.map (fun k => Int.fmod k (10 ^ Int.toNat 6)) (List.take (Int.toNat 13) xs)).length ≤ 13 := by rw [List.length_map]; exact List.length_take_le _ _
  generalize List.map (fun k => Int.fmod k (10 ^ Int.toNat 6)) (List.take (Int.toNat 13) xs) = m0 at hys h13
  refine st_mk (mi_add (ms := List.drop (Int.toNat m0.length) [49, 17, 1, 1, 0, 4, 0, 1, 2, 0, 1, 2, 3]) H (ev_loc H rfl) (fun s' H' => ?_) (fun o s' H' => IntsAt.of H' (nm 1 rfl) hys) (draws_fit h13 (by exact Nat.le_of_ble_eq_true rfl))) fun p s hp H => ?_
  · refine mi_fromL (i := (m0.length : Int)) ?_ ?_ ?_ ?_
    · have h1 := fun es ns pos => mi_const (es := es) (ns := ns) (pos := pos) H'
      refine h1 _ _ _ ?_ ?_
      · repeat' first | exact IntCs.nil | refine IntCs.cons ?_
      · exact Nat.le_of_ble_eq_true rfl
    · exact fun o s' H' => ev_lenI (ev_boo H' (by k_is) boot_len (by decide)) (ev_loc H' rfl) (IntsAt.of H' (nm 1 rfl) hys) (Nat.lt_of_le_of_lt h13 (by decide))
    · exact Int.natCast_nonneg _
    · exact Nat.le_of_ble_eq_true rfl
  obtain ⟨Dd, wsd, nd⟩ := p
  obtain ⟨ds, hd13, hDs⟩ := draws_are h13 hp
  have hk0 : 50 ≤ c.kmax := Nat.le_trans (Nat.le_of_ble_eq_true rfl) hk
  obtain ⟨ca, hca, hcae⟩ := cell_at c (x := Str.ofString "worth") (a := c.L + 1) rfl
  obtain ⟨cb, hcb, hcbe⟩ := cell_at c (x := Str.ofString "row") (a := c.L + 1 + 1) rfl
  obtain ⟨cc, hcc, hcce⟩ := cell_at c (x := Str.ofString "total") (a := c.L + 1 + 1 + 1) rfl
  replace H := H.sub (qs := [(Str.ofString "draws", .ref Dd)]) (nw := [(c.L + 1 + 1 + 1, o3), (c.L + 1 + 1, o2), (c.L + 1, o1), (Dd, listOf wsd.toArray nd)]) (kn1 rfl) (Sub.trans (Sub.perm (List.perm_middle (l₁ := [_, _, _]))) (Sub.cons (Sub.skip Sub.refl)))
  rw [hcce, hcbe, hcae] at H
  clear hys hp hI9 hxs hcce hcbe hcae
  have hDd := fun {ps led s} (H : c.St ps led s) (i : Nat) (h : led[i]? = some (Dd, listOf wsd.toArray nd)) => H.ints i h hDs
  refine st_mk (mk_callM H (ev_glo H (by k_is)) (fun s' H' => mi_list (ns := [0, ds.getD 0 0, ds.getD 1 0]) (evl_cons ev_int (evl_cons (ev_itemI (ns := ds) (ev_loc H' rfl) ev_int (hDd H' 3 rfl) (by decide) (by rw [hd13]; decide) (by decide)) (evl_1 (ev_itemI (ns := ds) (ev_loc H' rfl) ev_int (hDd H' 3 rfl) (by decide) (by rw [hd13]; decide) (by decide))))) H' (fun _ => .cons _ _ (.cons _ _ (.cons _ _ .nil))) (Nat.le_of_ble_eq_true rfl)) (fun o => rules_spec w o.1 [0, ds.getD 0 0, ds.getD 1 0] rfl) (Nat.le_trans (Nat.le_of_ble_eq_true rfl) hk0) (fun o s' ho H' => IntsAt.of H' (.head _) ho) (by k_is)) fun p s hp H => ?_
  obtain ⟨p1, rd, ro, kvs, tups⟩ := p
  obtain ⟨RA, RB, RC, SA, SB, SC, hok, hR⟩ := rules_facts hp.2.1 hp.2.2
  dsimp only at H
  generalize (rd, ro) :: tups = RT at H hR
  replace H := H.sub (qs := [(Str.ofString "rules", .ref rd), (Str.ofString "draws", .ref Dd)]) (nw := (cc, o3) :: (cb, o2) :: (ca, o1) :: (Dd, listOf wsd.toArray nd) :: RT) (kn rfl) (Sub.trans (Sub.perm (List.perm_append_comm (l₁ := [_, _, _, _]) (l₂ := RT))) (by rw [List.append_assoc]; exact Sub.app Sub.refl (Sub.skip Sub.refl)))
  refine st_mkC (mk_call1 (fun _ => worth_spec w rd RA RB RC SA SB SC) (Nat.le_trans (Nat.le_of_ble_eq_true rfl) hk0) H (hR _ (H.holds 4)) (ev_glo H (by k_is)) (ev_loc H rfl) (by k_is)) hca e1 (fun _ _ => .tail (.tail (.tail .head))) fun p s o1 hW ho1 H => ?_
  obtain ⟨wd, wo⟩ := p
  refine st_mkC (mi_list (ns := [256 + 2, 256 + (ds.getD 2 0).fmod 2, 0]) (evl_cons (ev_add (ev_glo H (by k_is)).int ev_int) (evl_cons (ev_add (ev_glo H (by k_is)).int (ev_mod (ev_itemI (ns := ds) (ev_loc H rfl) ev_int (hDd H 4 rfl) (by decide) (by rw [hd13]; decide) (by decide)) ev_int (by decide))) (evl_1 (ev_glo H (by k_is)).int))) H (fun _ => .cons _ _ (.cons _ _ (.cons _ _ .nil))) (Nat.le_of_ble_eq_true rfl)) hcb e2 (fun _ _ => .tail (.tail (.tail .head))) fun p s o2 hp ho2 H => ?_
  obtain ⟨ra, rvs, rn⟩ := p
  dsimp only at hp ho2 H
  replace H := H.led (Sub.cons (Sub.perm (List.perm_middle (l₁ := [_, _]))))
  obtain ⟨wv, ad, S, b0, P, G⟩ := mk_gm (R0 := (wd, wo) :: (ca, o1) :: (Dd, listOf wsd.toArray nd) :: RT) (rd := rd) (wd := wd) hok hR (fun h k => hW h (k _ (.head _))) (fun p hp => md 3 hp) (H.holds 6) (ds.getD 2 0)
  replace hDd := fun (h : Heap) (k : HoldsAll h ((wd, wo) :: (ca, o1) :: (Dd, listOf wsd.toArray nd) :: RT)) => (⟨wsd, list_of_holds (k _ (nm 2 rfl)), hDs⟩ : IntsAt h Dd ds)
  have hO : (ca, o1) ∈ (wd, wo) :: (ca, o1) :: (Dd, listOf wsd.toArray nd) :: RT := nm 1 rfl
  clear hW hok hR hDs
  dsimp only [List.cons_append, List.nil_append] at H
  generalize (wd, wo) :: (ca, o1) :: (Dd, listOf wsd.toArray nd) :: RT = R0 at H G hDd hO
  generalize [256 + 2, 256 + (ds.getD 2 0).fmod 2, 0] = r0 at hp G
  refine st_mk (mk_cmpM (t := b0) (mk_call2 (fun _ _ => value_spec w ra wd r0 wv) (Nat.le_trans (Nat.le_of_ble_eq_true rfl) hk0) H ⟨H.ints 0 rfl hp, G.worth _ (H.holds 3)⟩ (ev_glo H (by k_is)) (ev_cell H hcb (nm 2 rfl) ho2) (ev_cell H hca (md 3 hO) ho1) (by k_is)) (fun s' H' => ev_int) (fun o _ s Q E u hQ => ne_int (by rw [G.val G.start]; exact hQ s.toks)) rfl) fun _ s _ H => ?_
  refine st_loc (ev_loc H rfl) H fun _ s H => ?_
  refine st_mk (mk_list evl_nil H fun _ => Nat.zero_le _) fun p s _ H => ?_
  obtain ⟨_, tl⟩ := p
  dsimp only [List.nil_append, List.cons_append] at H
  refine do_fin (LawE c ad b0 P) ?_ fun last => ?_
  · rintro s ⟨i, tl, tvs, tn, a, hist, ns, t, hT, hP, hf, H⟩
    have hi := G.le10 hP
    obtain ⟨htl, hb⟩ := G.fin hP hf
    have htvl : (tvs ++ [Value.str (textL ns) t]).length = i + 1 := by rw [hT.1, List.length_append, G.hl hP]; rfl
    have htv : tvs.length ≤ 100000 := by rw [List.length_append] at htvl; exact Nat.le_trans (Nat.le_of_eq (Nat.succ.inj htvl)) (Nat.le_trans hi (by decide))
    have hlen : (textL ns).length < 100000 := htl ▸ Nat.lt_of_le_of_lt hi (by decide)
    have hlen2 : (tvs ++ [Value.str (textL ns) t]).length ≤ 100000 := htvl ▸ Nat.le_trans (Nat.succ_le_succ hi) (by decide)
    have htx := G.texts hP
    have hT2 := hT.2
    refine st_loc (ev_last H (ev_loc H rfl) (.head _) htv) H fun _ s H => ?_
    have hH := fun {ps s} {own : Led} (H : c.St ps ((tl, listOf (tvs ++ [Value.str (textL ns) t]).toArray tn) :: own) s) => H.nw.isList (.head _)
    generalize tvs ++ [Value.str (textL ns) t] = tvs at hT2 htvl hlen2 hH H
    generalize hist ++ [ns] = hist at hT2 htx
    refine st_if (tm_or (Cx.Ts.tm H (ts_cmp (t := false) (ev_lenS (ev_boo H (by k_is) boot_len (by decide)) (ev_locS H rfl) hlen) (ev_sub (ev_lenL (ev_boo H (by k_is) boot_len (by decide)) (ev_loc H rfl) (hH H) hlen2) ev_int) (fun s Q E t₁ u _ hQ => ne_int (by rw [htvl, htl, show (((i : Nat) : Int) != ((i + 1 : Nat) : Int) - 1) = false from by simp]; exact hQ s.toks)) rfl))
      (fun _ s' H => Cx.Ts.tm H (ts_cmp (t := false) (ev_cmp (ev_mod (ev_lenS (ev_boo H (by k_is) boot_len (by decide)) (ev_locS H rfl) hlen) ev_int (by decide)) ev_int (fun _ _ _ _ _ _ => op_eq) rfl) (ev_loc H rfl) (fun s Q E t₁ u _ hQ => isnot_bool (by rw [htl, hb, bne_self_eq_false]; exact hQ s.toks)) rfl))) (fun h => absurd h (by decide)) fun _ s Q₃ H In => do_nil (In.next _ ?_)
    refine st_range1 (n := i) (fun k ps news => (∀ q ∈ [(Str.ofString "texts", Value.ref tl), (Str.ofString "last", .str (textL ns) t)], nget ps q.1 = some q.2) ∧ news = [(tl, listOf tvs.toArray tn)]) H (ev_boo H (by k_is) boot_range (by decide)) ?_ (Nat.le_trans hi (by decide)) ⟨kn rfl, rfl⟩ ?_ ?_
    · exact Cx.Ev.eq (ev_sub (ev_lenL (ev_boo H (by k_is) boot_len (by decide)) (ev_loc H rfl) (hH H) hlen2) ev_int) (by rw [htvl]; exact (show ((i : Int) + 1) - 1 = i from Int.add_sub_cancel _ _))
    · rintro k tk s ps _ own Q₂ hk' ⟨hn, rfl⟩ H R
      replace H := H.names hn
      obtain ⟨r, r', h1, h2, e1, e2, e3⟩ := htx k hk'
      obtain ⟨ta, ha⟩ := hT2 k r h1
      obtain ⟨tb, hb⟩ : ∃ t, tvs[((k : Int) + 1).toNat]? = some (.str (textL r') t) := hT2 (k + 1) r' h2
      have h28 : keepIn (lw_hd.heap_39 w.params) (.ref 28) = true := by k_is
      have h10 : 10 ≤ c.kmax := Nat.le_trans (Nat.le_of_ble_eq_true rfl) hk0
      have kz : (k : Int) + 1 < 100000 := Int.lt_of_le_of_lt (Int.ofNat_le.mpr (Nat.le_trans hk' hi)) (by decide)
      have evA := fun {s} (H : c.St ((Str.ofString "k", .int k tk) :: [(Str.ofString "texts", Value.ref tl), (Str.ofString "last", .str (textL ns) t)]) ([(tl, listOf tvs.toArray tn)] ++ own) s) (px pos py : Pos) => ev_itemL (i := (k : Int)) (v := .str (textL r) ta) (a := .Name (Str.ofString "texts") px) (pos := pos) (ev_loc (x := Str.ofString "texts") H rfl) (ev_locI (x := Str.ofString "k") (px := py) H rfl) (hH H) ha (Int.natCast_nonneg k) (Int.lt_of_le_of_lt (Int.le_add_one (Int.le_refl _)) kz)
      have evB := fun {s} (H : c.St ((Str.ofString "k", .int k tk) :: [(Str.ofString "texts", Value.ref tl), (Str.ofString "last", .str (textL ns) t)]) ([(tl, listOf tvs.toArray tn)] ++ own) s) (px pos py pz pw : Pos) (kk : Nat) => ev_itemL (i := (k : Int) + 1) (v := .str (textL r') tb) (a := .Name (Str.ofString "texts") px) (pos := pos) (ev_loc (x := Str.ofString "texts") H rfl) (ev_add (px := pw) (ev_locI (x := Str.ofString "k") (px := py) H rfl) (ev_int (k := kk) (px := pz))) (hH H) hb (Int.le_trans (Int.natCast_nonneg k) (Int.le_add_one (Int.le_refl _))) kz
      refine st_if (tm_or (tm_ell e1 h10 h28 H (ev_glo H (by k_is)) (evA H _ _ _) (evB H _ _ _ _ _ _)) (fun _ s' H => tm_ell e2 h10 h28 H (ev_glo H (by k_is)) (evA H _ _ _) (ev_loc H rfl))) (fun h => absurd h (by decide)) fun _ s Q₃ H In => do_nil (In.next _ ?_)
      refine st_if (tm_ell e3 h10 h28 H (ev_glo H (by k_is)) (evB H _ _ _ _ _ _) (evA H _ _ _)) (fun h => absurd h (by decide)) fun _ s Q₄ H In => do_nil (In.next _ ?_)
      exact do_nil (R.next _ _ _ _ H Sub.refl ⟨kn rfl, rfl⟩)
    · intro s ps news hK H
      exact st_ret ev_bool H fun _ s H => by
        obtain ⟨m, h, k, rfl, F⟩ := hX _ _ _ H
        exact fin m h k F
  refine st_range1 (n := 11) (LawK R0 Dd rd cb cc b0 P) H (ev_boo H (by k_is) boot_range (by decide)) ev_int (by decide) ⟨tl, ra, [], rvs, 0, rn, o2, o3, _, b0, r0, [], TextsAre.nil, hp, ho2, e3, G.start, kn rfl, rfl⟩ ?_ ?_
  · rintro i t s ps _ own Q₂ hi ⟨tl, ra, tvs, rvs, tn, rn, ow, ot, cv, a, ns, hist, hT, hI, how, hot, hP, hn, rfl⟩ H R
    replace H := H.names hn
    dsimp only [List.cons_append] at H
    have nxt := fun s ps x y z u led (H : c.St ps led s) (hs : Sub (x :: y :: z :: u :: (R0 ++ own)) led) => R.next s ps (x :: y :: z :: u :: R0) led H hs
    have hz : ∀ h, HoldsAll h (R0 ++ own) → HoldsAll h R0 := fun h k p hp => k p (List.mem_append_left _ hp)
    have hO1 : (ca, o1) ∈ R0 ++ own := List.mem_append_left _ hO
    generalize R0 ++ own = R1 at H nxt hz hO1
    have hl25 := G.le25 hP
    have hl100 : ns.length ≤ 100 := Nat.le_trans hl25 (by decide)
    have hL := G.line hP
    refine st_mk (mk_call2 (fun _ _ => line_spec w ra wd ns wv (G.row hP) hl100) (Nat.le_trans (Nat.le_of_ble_eq_true rfl) hk0) H ⟨H.ints 1 rfl hI, G.worth _ (hz _ (H.holds 4))⟩ (ev_glo H (by k_is)) (ev_cell H hcb (nm 3 rfl) how) (ev_cell H hca (md 4 hO1) ho1) (by k_is)) fun tz s _ H => ?_
    refine st_mk (mk_call1 (fun _ => ws_spec w _ tz (Nat.le_trans hL.len (by decide))) (Nat.le_trans (Nat.le_of_ble_eq_true rfl) hk0) H trivial (ev_glo H (by k_is)) (ev_loc H rfl) (by k_is)) fun p s hWS H => ?_
    obtain ⟨x, WS⟩ := p
    dsimp only [List.nil_append] at H hWS
    replace H := H.led (nw := _ :: _ :: _ :: _ :: (WS ++ R1)) (Sub.perm (List.perm_append_comm_assoc [_, _, _, _] WS R1))
    have hws : ∀ h, HoldsAll h (WS ++ R1) → WsAt h x (wsRun (leadL wv ns ++ textL ns).cps.toList wsZero) := fun h k => hWS h fun q hq => k q (List.mem_append_left _ hq)
    replace hz : ∀ h, HoldsAll h (WS ++ R1) → HoldsAll h R0 := fun h k => hz h fun p hp => k p (List.mem_append_right _ hp)
    replace hO1 : (ca, o1) ∈ WS ++ R1 := List.mem_append_right _ hO1
    have hs1 : Sub R1 (WS ++ R1) := Sub.right
    clear hWS
    generalize WS ++ R1 = R3 at H hws hz hO1 hs1
    obtain ⟨hzl, hev, hsl, hcl, hcb9⟩ := hL
    generalize wsRun (leadL wv ns ++ textL ns).cps.toList wsZero = st at hws hev hsl hcl hcb9
    generalize leadL wv ns ++ textL ns = zz at H hzl hsl
    have hts : tvs.length ≤ 2000 := by rw [hT.1, G.hl hP]; exact Nat.le_trans (G.le10 hP) (by decide)
    refine st_append (D := tl) (vs := tvs) (g := .str (textL ns)) (tl := fun _ => []) (φ := fun _ => True) H (ev_loc H rfl) (fun s' H' => hsl ▸ mk_fromS H' (ev_locS H' rfl) (ev_wsn H' (hws _ (H'.holds 4)) rfl rfl) (Nat.le_trans hzl (by rw [sizeLine_eq]; decide))) (fun _ => .head) hts fun tt s _ H => ?_
    dsimp only [List.nil_append] at H
    refine st_if (tm_cmpM (t := false) (mk_call1 (fun _ => even_spec w x st hcl hcb9) (Nat.le_trans (Nat.le_of_ble_eq_true rfl) hk0) H (hws _ (H.holds 4)) (ev_glo H (by k_is)) (ev_loc H rfl) (by k_is)) (fun s' H' => ev_loc H' rfl) (fun o _ s Q E u hQ => is_bool (by rw [hev, Bool.not_beq_self]; exact hQ s.toks)) rfl) (fun h => absurd h (by decide)) fun _ s Q₃ H In => do_nil (In.next _ ?_)
    clear In Q₃ hws hev hsl hcl hcb9 hzl
    refine st_mk (mk_call2 (fun _ _ => moves_spec w ra rd ns ad hl100 (G.le hP) G.had) (Nat.le_trans (Nat.le_of_ble_eq_true rfl) hk0) H ⟨H.ints 1 rfl hI, G.rules _ (hz _ (H.holds 4))⟩ (ev_glo H (by k_is)) (ev_cell H hcb (nm 3 rfl) how) (ev_loc H rfl) (by k_is)) fun p s hmv H => ?_
    obtain ⟨ml, mvs, nn, mtups⟩ := p
    dsimp only at hmv H
    replace H := H.sub (qs := (Str.ofString "moves", .ref ml) :: (Str.ofString "turn", .int i t) :: lawN Dd rd tl b0 a) (nw := _ :: _ :: _ :: _ :: _ :: (mtups ++ R3)) (kn rfl) (Sub.cons (Sub.perm (List.perm_append_comm_assoc [_, _, _, _] mtups R3)))
    replace hz : ∀ h, HoldsAll h (mtups ++ R3) → HoldsAll h R0 := fun h k => hz h fun p hp => k p (List.mem_append_right _ hp)
    replace hO1 : (ca, o1) ∈ mtups ++ R3 := List.mem_append_right _ hO1
    replace hs1 : Sub R1 (mtups ++ R3) := Sub.trans hs1 Sub.right
    have hmt : ∀ p ∈ mtups, p ∈ mtups ++ R3 := fun p hp => List.mem_append_left _ hp
    generalize mtups ++ R3 = R2 at H hz hO1 hs1 hmt
    refine st_if (tm_empty H (ev_loc H rfl) (.head _)) ?_ ?_
    · intro hem s Q₃ H In
      have hf : movesUp ad ns ns.length = [] := List.length_eq_zero_iff.mp (hmv.length.symm.trans (by rw [List.isEmpty_iff.mp hem]; rfl))
      exact st_brk (In.brk _ (R.brk _ (last _ ⟨i, tl, tvs, tn + 1, a, hist, ns, tt, hT.snoc ns tt, hP, hf, H.sub (kn rfl) (Sub.one (nm 1 rfl))⟩)))
    intro hem s Q₃ H In
    refine do_nil (In.next _ ?_)
    clear In Q₃
    have hmne : mvs ≠ [] := fun e => by rw [e] at hem; cases hem
    have hmvl : mvs.length ≤ 300 := hmv.length ▸ Nat.le_trans (movesUp_len G.had ns ns.length) (Nat.le_trans (Nat.mul_le_mul_left 3 hl25) (by decide))
    clear hem
    refine do_fin (LawM c wv ad S ((Str.ofString "turn", .int i t) :: lawN Dd rd tl b0 a) (fun ot => (tl, listOf (tvs ++ [Value.str (textL ns) tt]).toArray (tn + 1)) :: (ra, listOf rvs.toArray rn) :: (cc, ot) :: (cb, ow) :: R2) mtups a ns) ?_ fun go => ?_
    · rintro s ⟨D, ys, k, mv', ot, cv, hm, hne, hl, hw, hot, H⟩
      dsimp only at H
      obtain ⟨hk1, hlt, hk2, hk3⟩ := pick_ok (ds.getD (3 + (i : Int)).toNat 0) hne
      have hx := List.getElem?_eq_getElem hlt
      obtain ⟨T, j, tj, b, e1', e2', e3'⟩ := hm.at hx
      rw [e1'] at hx
      have hx2 := hw _ (List.mem_of_getElem? e2')
      obtain ⟨n, hi9, hn9, sl, at_, next⟩ := G.mv hP _ hx2.1
      have hi0 := draw_at hi9
      refine st_unp (ev_itemL (vs := ys) (ev_loc H rfl) (ev_mod (ev_itemI (ns := ds) (ev_loc H rfl) (ev_add ev_int (ev_locI H rfl)) (hDd _ (hz _ (H.holds 5))) hi0.1 (hd13 ▸ hi0.2.1) hi0.2.2) (ev_lenL (vs := ys) (ev_boo H (by k_is) boot_len (by decide)) (ev_loc H rfl) (H.lst 0 rfl) (Nat.le_trans hl (by decide))) hk3) (H.lst 0 rfl) hx hk1 (Int.lt_of_lt_of_le hk2 (Int.le_trans (Int.ofNat_le.mpr hl) (by decide)))) (v := .int (j : Int) tj) (u := .ref b) (H.nw.isTup (md 5 (hmt _ e3'))) H fun s H => ?_
      refine st_miC (ns := ns.take j ++ S b ++ ns.drop (j + 1)) H ?_ hcb how (fun _ => .tail (.tail (.tail (.tail .head)))) fun Dn wsn nn' s ow' hp how' H => ?_
      · have hl2 : ns.length ≤ 2000 := Nat.le_trans hl25 (by decide)
        exact mi_addM (mi_addR (l := b) (ns := ns.take j) (ms := S b) (mi_upto (i := (j : Int)) (ns := ns) H (ev_cell H hcb (nm 4 rfl) how) (ev_locI H rfl) (H.ints 2 rfl hI) (Int.natCast_nonneg j) hl2) (fun o s' H' => ⟨ev_loc H' rfl, at_ _ (hz _ (H'.holds 6))⟩) (mv_fit j hl25 sl).1) (fun o s' H' => mi_from (i := (j : Int) + 1) (ns := ns) H' (ev_cell H' hcb (nm 5 rfl) how) (ev_add (ev_locI H' rfl) ev_int) (H'.ints 3 rfl hI) (Int.le_trans (Int.natCast_nonneg j) (Int.le_add_one (Int.le_refl _))) hl2) (mv_fit j hl25 sl).2
      refine st_loc (ev_not (ev_loc H rfl)) H fun _ s H => ?_
      exact do_nil (nxt _ _ _ _ _ _ _ H (Sub.trans Sub.swap (Sub.cons (Sub.skip (Sub.cons (Sub.skip (Sub.cons (Sub.cons hs1))))))) ⟨tl, Dn, _, wsn, tn + 1, nn', ow', ot, cv, !a, _, hist ++ [ns], hT.snoc ns tt, hp, how', hot, next hx2.2, kn rfl, rfl⟩)
    refine st_if (Cx.Ts.tm H (ts_plain (ev_loc H rfl))) ?_ ?_
    · rintro rfl s Q₃ H In
      refine st_mkC (mk_call2 (fun _ _ => value_spec w ra wd ns wv) (Nat.le_trans (Nat.le_of_ble_eq_true rfl) hk0) H ⟨H.ints 2 rfl hI, G.worth _ (hz _ (H.holds 5))⟩ (ev_glo H (by k_is)) (ev_cell H hcb (nm 4 rfl) how) (ev_cell H hca (md 5 hO1) ho1) (by k_is)) hcc hot (fun _ _ => .tail (.tail (.tail .head))) fun tt9 s ot' _ hot' H => ?_
      dsimp only [List.nil_append] at H
      refine st_filter (FilG wv S ns (movesUp ad ns ns.length) mtups) H (ev_loc H rfl) (.head _) (Nat.le_trans hmvl (by decide)) .start ?_ (fun D ys k' s' hJ H => ?_) (fun _ => rfl) (by decide) rfl rfl (by decide) rfl (by decide) rfl rfl
      · intro k9 v9 ys9 C oC m m₂ led s' E' Q' hv hJ hC hxm F H' hC' hsub hQ
        obtain ⟨T, j, tj, b, rfl, hmj, hTm⟩ := hmv.at hv
        obtain ⟨nj, hi9, hn9, sl, at_, _⟩ := G.mv hP _ (List.mem_of_getElem? hmj)
        have hT9 := hsub.1 _ (md 5 (hmt _ hTm))
        obtain ⟨tnn, hx9⟩ := hI.get j nj hn9
        have hjl := (List.getElem?_eq_some_iff.mp hn9).1
        replace hz := fun h (k : HoldsAll h led) => hz h fun p hp => k p (hsub.1 p (md 5 hp))
        refine wpAny_isTrue_Compare1 (Call_ (LCgL.ld_global F c.hX c.T (by k_is) (callWith_K c.hX (by k_is) (args_cons (wpAny_BinOp (List_ (args_cons (Subscript_ (kcf_cell H'.nw hcb (hsub.1 _ (nm 4 rfl)) how (Subscript_ (LCgL.ld_own H'.nw hC' hC hxm (wpAny_Constant_int (item_tupleL (j := 0) (H'.nw.isTup hT9) (by decide) (by decide) rfl rfl (item_listP (H'.nw.isList (hsub.1 _ (nm 2 rfl))) (Int.natCast_nonneg j) (Int.lt_trans (Int.ofNat_lt.mpr (Nat.lt_of_lt_of_le hjl hl25)) (by decide)) hx9 (args_nil (newList_K (s := { s' with toks := s'.toks + 1 }) F H'.nw (fun l h' F' N' lt => ?_) (Nat.le_of_ble_eq_true rfl)))))))))))))))))
        have H1 := (H'.toks (s'.toks + 1)).more (k := s'.toks + 1) F F' N' lt
        refine Subscript_ (LCgL.ld_own H1.nw (.tail _ hC') hC hxm (wpAny_Constant_int (item_tupleL (j := 1) (H1.nw.isTup (.tail _ hT9)) (by decide) (by decide) rfl rfl ?_)))
        have H2 := H1.toks (s'.toks + 1 + 1)
        obtain ⟨bvs, hbl, hbi⟩ := at_ _ (hz _ (H2.holds 1))
        refine kmk_add_ints (vs := [_]) (s := { s' with heap := h', toks := s'.toks + 1 + 1 }) F' N' (H2.nw.isList (.head _)) hbl (.cons _ _ .nil) hbi (fun Db wsb h3 F3 N3 lb hIb => ?_) (by rw [sizeLine_eq]; exact Nat.le_trans (Nat.add_le_add_left sl 1) (by decide))
        have H3 := H2.more (k := s'.toks + 1 + 1) F' F3 N3 lb
        exact args_cons (kcf_cell H3.nw hca (md 2 (hsub.1 _ (md 5 hO1))) ho1 (args_nil ⟨c.hX.keeps H3.keep, Cx.use (value_spec w Db wd (nj :: S b) wv) (Nat.le_trans (Nat.le_of_ble_eq_true rfl) hk0) H3 ⟨H3.ints 0 rfl hIb, G.worth _ (hz _ (H3.holds 2))⟩ fun t4 s4 _ H4 kp => kcf_cell H4.nw hcc (md 2 (hsub.1 _ (nm 3 rfl))) hot' (eq_int (wpAny_truthy_bool (hQ _ _ (hJ.step hTm hmj (win_iff hn9)) (H4.led (Sub.skip (Sub.skip Sub.refl))) (F3.keeps kp))))⟩))
      · have hne : ys ≠ [] := FilG.some (G.win hP) (hmv.length ▸ hJ)
        obtain ⟨mv', h1, h2, h3, h4⟩ := hJ
        exact st_if (tm_empty H (ev_loc H rfl) (.head _)) (fun h => absurd (List.isEmpty_iff.mp h) hne) fun _ s Q₄ H In₂ => do_nil (In₂.next _ (do_nil (In.next _ (go _ ⟨D, ys, k', mv', ot', _, h1, hne, Nat.le_trans h4 hmvl, fun x hx => ⟨(h2 x hx).1, fun _ => (h2 x hx).2⟩, hot', H.sub (kn rfl) (Sub.cons (Sub.skip Sub.refl))⟩))))
    · rintro rfl s Q₃ H In
      exact do_nil (In.next _ (go _ ⟨ml, mvs, nn, _, ot, cv, hmv, hmne, hmvl, fun x hx => ⟨hx, fun h => nomatch h⟩, hot, H⟩))
  · rintro s ps news ⟨tl, ra, tvs, rvs, tn, rn, ow, ot, cv, a, ns, hist, hT, hI, how, hot, hP, hn, rfl⟩ H
    exact absurd (G.le10 hP) (by decide))
end Mine
theorem PySem.Challenge.cw_re0147_01_holds : PySem.Challenge.rw_re0147_01.Holds :=
  Mine.law_main
