import PyProof.Rows.All
import Wide.All
import OpenK.AllK
import Wide.FinOn
import KE.KBytesCut
import Lean
import PySem.Challenge.RW_kl0203_01
set_option Elab.async false
set_option linter.all false
set_option tactic.hygienic false
namespace Mine
section
open PySem PySem.Calls

noncomputable def Ph := Addr → Option Obj
noncomputable def Ph.le (B B' : Ph) : Prop := ∀ a o, B a = some o → B' a = some o
theorem Ph.le_refl (B : Ph) : B.le B := fun z_ z_1 h => h
theorem Ph.le_trans {A B C : Ph} (x : A.le B) (y : B.le C) : A.le C := fun a o h => y a o (x a o h)

inductive HSame (s s' : Shared) : Prop
  | mk (h : Heap) (tk : Nat) (e : s' = { s with heap := h, toks := tk })
theorem HSame.of {s s' : Shared} (x : ∃ h tk, s' = { s with heap := h, toks := tk }) : HSame s s' := let ⟨h, tk, e⟩ := x; ⟨h, tk, e⟩
structure Ret (B : Ph) (s s' : Shared) (B' : Ph) : Prop where
  same : HSame s s'
  ext : ∀ a o, s.heap.get? a = some o → s'.heap.get? a = some o
  le : B.le B'
  new : ∀ a o, B' a = some o → B a = some o ∨ s.heap.get? a = none
  keep : ∀ a o, B' a = some o → s'.heap.get? a = some o

theorem Ret.trans {B B' B'' : Ph} {s s' s'' : Shared} (x : Ret B s s' B') (y : Ret B' s' s'' B'') : Ret B s s'' B'' := by
  obtain ⟨h1, t1, e1⟩ := x.same
  obtain ⟨h2, t2, e2⟩ := y.same
  refine ⟨⟨h2, t2, by rw [e2, e1]⟩, fun a o h => y.ext a o (x.ext a o h), Ph.le_trans x.le y.le, fun a o h => ?_, y.keep⟩
  rcases y.new a o h with q | q
  · exact x.new a o q
  · right
    cases e : s.heap.get? a with
    | none => rfl
    | some o' => rw [x.ext a o' e] at q; cases q

theorem Ret.tok {B : Ph} {s : Shared} (k : ∀ a o, B a = some o → s.heap.get? a = some o) (t : Nat) : Ret B s { s with toks := t } B :=
  ⟨⟨s.heap, t, rfl⟩, fun z_ z_1 h => h, Ph.le_refl B, fun z_ z_1 h => .inl h, k⟩
theorem Ret.refl {B : Ph} {s : Shared} (k : ∀ a o, B a = some o → s.heap.get? a = some o) : Ret B s s B := Ret.tok k s.toks

theorem Ret.heap {B : Ph} {s : Shared} (k : ∀ a o, B a = some o → s.heap.get? a = some o) {h : Heap} {t : Nat} (e : ∀ a o, s.heap.get? a = some o → h.get? a = some o) :
    Ret B s { s with heap := h, toks := t } B :=
  ⟨⟨h, t, rfl⟩, e, Ph.le_refl B, fun z_ z_1 h => .inl h, fun a o h => e a o (k a o h)⟩

noncomputable def Ph.put (B : Ph) (a : Addr) (o : Obj) : Ph := fun b => if b = a then some o else B b
theorem Ph.put_self {B : Ph} {a : Addr} {o : Obj} : B.put a o a = some o := if_pos rfl
theorem Ph.le_put {B : Ph} {a : Addr} {o : Obj} (h : B a = none) : B.le (B.put a o) := fun b o' e => by
  unfold Ph.put
  split
  · rename_i q; subst q; rw [h] at e; cases e
  · exact e
theorem Ret.heap1 {B : Ph} {s : Shared} (k : ∀ a o, B a = some o → s.heap.get? a = some o) {h : Heap} {t : Nat} {b : Addr} {ob : Obj} (e : ∀ a o, s.heap.get? a = some o → h.get? a = some o)
    (hb : s.heap.get? b = none) (hg : h.get? b = some ob) : Ret B s { s with heap := h, toks := t } (B.put b ob) := by
  have hB : B b = none := by
    cases q : B b with
    | none => rfl
    | some o' => have := k b o' q; rw [hb] at this; cases this
  refine ⟨⟨h, t, rfl⟩, e, Ph.le_put hB, fun a o q => ?_, fun a o q => ?_⟩
  · unfold Ph.put at q
    split at q
    · rename_i x; subst x; exact .inr hb
    · exact .inl q
  · unfold Ph.put at q
    split at q
    · rename_i x; subst x; cases q; exact hg
    · exact e a o (k a o q)

theorem size_none (h : Heap) : h.get? h.objs.size = none := by
  cases e : h.get? h.objs.size with
  | none => rfl
  | some o => exact absurd (Heap.lt_size e) (Nat.lt_irrefl _)
theorem Ret.push {B : Ph} {s : Shared} (k : ∀ a o, B a = some o → s.heap.get? a = some o) {t : Nat} (o : Obj) (hf : o.isFreed = false) :
    Ret B s { s with heap := s.heap.push o, toks := t } (B.put s.heap.objs.size o) :=
  Ret.heap1 k (fun z_ z_1 h => Heap.get?_push_of_some o h) (size_none _) (Heap.get?_push_size _ hf)

noncomputable def dn (i : Nat) : DefRec := ((defsOf PySem.Challenge.pw_kl0203_01)[i]?).getD ⟨Str.empty, ⟨[], [], none, [], [], none, []⟩, [], ⟨.function, [], false, false, []⟩, ⟨0, 0, 0, 0⟩⟩

structure Ad where
  fn : Nat → Addr
  pm : Nat → Value
  cd : Nat → Addr
  doc : Nat → Value
  flags : Addr
  gi : Addr
  ig : Addr
  code : Addr
  set : Nat → Addr

noncomputable def defNames : List Str := ["Int2AP", "ParseFlags", "is_not", "contains", "delitem", "getitem", "indexOf", "setitem", "iconcat", "in_table_b1", "in_table_c11", "in_table_c4", "in_table_c6", "in_table_c7", "in_table_c8", "in_table_c9",
  "_law_runs", "_law_within", "_law_word", "_law_three", "_law_reply", "_law_nothing", "_law_refused", "_law_dealt", "law"]
noncomputable def setNames : List Str := ["b1_set", "c6_set", "c7_set", "c8_set", "c9_set"]
noncomputable def builtinFns : List String := ["abs", "divmod", "enumerate", "hasattr", "ord", "sum", "len", "isinstance", "chr"]
noncomputable def builtinTypes : List String := ["int", "tuple", "ValueError", "type", "TypeError", "range", "bytes", "IndexError", "set", "enumerate"]

inductive Means (ad : Ad) : Str → Value → Prop
  | fn (i : Nat) (x : Str) (h : defNames[i]? = some x) : Means ad x (.ref (ad.fn i))
  | set (i : Nat) (x : Str) (h : setNames[i]? = some x) : Means ad x (.ref (ad.set i))
  | flags : Means ad "Flags" (.ref ad.flags)
  | blt (x : String) (v : Value) (h : bootBuiltins (Str.ofString x) = some v) (hn : Str.ofString x ∉ defNames) (hs : Str.ofString x ∉ setNames) (hf : Str.ofString x ≠ "Flags") (h0 : Str.ofString x ∉ (["_sre", "__name__"] : List Str)) (hb : Str.ofString x ∉ bootMainNames) : Means ad (Str.ofString x) v

noncomputable def BNs (B : Ph) (a : Addr) (m : Str → Option Value) : Prop := ∃ o es ep, B a = some o ∧ o.data = .dict es ep ∧ StrKeys es ∧ ∀ name, nsFind es name = m name
theorem BNs.mono {B B' : Ph} {a : Addr} {m : Str → Option Value} (x : BNs B a m) (le : B.le B') : BNs B' a m :=
  let ⟨o, es, ep, h, r⟩ := x; ⟨o, es, ep, le _ _ h, r⟩
theorem BNs.ns {B : Ph} {a : Addr} {m : Str → Option Value} {h : Heap} (x : BNs B a m) (k : ∀ a o, B a = some o → h.get? a = some o) : h.Ns a m :=
  let ⟨o, es, ep, h, r⟩ := x; ⟨o, es, ep, k _ _ h, r⟩

noncomputable def fnObj (d : DefRec) (pm : Value) (cd : Addr) (doc : Value) : Obj := { cls := .type "function", data := .func (d.data pm (.ref cd) doc) }
noncomputable def FnAt (B : Ph) (a : Addr) (d : DefRec) (pm : Value) (cd : Addr) (doc : Value) : Prop := ∃ oc vs t, B a = some (fnObj d pm cd doc) ∧ B cd = some oc ∧ oc.data = .fields vs ∧ vs[1]? = some (.str d.name t)
theorem FnAt.mono {B B' : Ph} {a : Addr} {d : DefRec} {pm : Value} {cd : Addr} {doc : Value} (x : FnAt B a d pm cd doc) (le : B.le B') : FnAt B' a d pm cd doc :=
  let ⟨oc, vs, t, h1, h2, r⟩ := x; ⟨oc, vs, t, le _ _ h1, le _ _ h2, r⟩

noncomputable def setHas (i : Nat) (k : Int) : Bool := match i with
  | 0 => [173, 847, 6150, 6155, 6156, 6157, 8203, 8204, 8205, 8288, 65279].any (· == k) || (decide (65024 ≤ k) && decide (k < 65040))
  | 1 => decide (65529 ≤ k) && decide (k < 65534)
  | 2 => decide (12272 ≤ k) && decide (k < 12284)
  | 3 => [832, 833, 8206, 8207].any (· == k) || (decide (8234 ≤ k) && decide (k < 8239)) || (decide (8298 ≤ k) && decide (k < 8304))
  | _ => k == 917505 || (decide (917536 ≤ k) && decide (k < 917632))

noncomputable def codeWords : List Int := [14, 4, 0, 8, 4294967295, 24, 5, 0, 4294967295, 2, 1, 16, 70, 16, 76, 16, 65, 16, 71, 16, 83, 16, 32, 16, 40, 17, 0, 24, 6, 0, 4294967295, 20, 41, 1, 17, 1, 16, 41, 1]
noncomputable def patObj (ad : Ad) (p : Value) (tf : Tok) : Obj := { cls := .type "re.Pattern", data := .fields #[p, .int 0 tf, rawInt 1, .ref ad.gi, .ref ad.ig, .ref ad.code, rawInt 1] }
noncomputable def giObj (h : Int) (t u : Tok) (n : Nat) : Obj := { cls := .type "dict", data := .dict #[⟨h, .str "flags" t, .int 1 u⟩] n }
noncomputable def codeObj : Obj := { cls := .type "tuple", data := .seq (codeWords.map rawInt).toArray }

structure Wd (w : World) (ad : Ad) (B : Ph) : Prop where
  main : ∃ mg mb, BNs B mainGlobals mg ∧ BNs B builtinsNs mb ∧ ∀ x v, Means ad x v → mg x = some v ∨ (mg x = none ∧ mb x = some v)
  lim : ∃ mc, BNs B cStatics mc ∧ mc "sys.recursionlimit" = none
  fn : ∀ i, i < 25 → FnAt B (ad.fn i) (dn i) (ad.pm i) (ad.cd i) (ad.doc i)
  pat : ∃ p tf, B ad.flags = some (patObj ad p tf)
  gi : ∃ t u n, B ad.gi = some (giObj (PyData.keyHash w.params "flags") t u n)
  code : B ad.code = some codeObj
  set : ∀ i, i < 5 → ∃ o n, B (ad.set i) = some o ∧ o.IntSetOf (setHas i) n ∧ n < scanBound

theorem Wd.mono {w : World} {ad : Ad} {B B' : Ph} (x : Wd w ad B) (le : B.le B') : Wd w ad B' := by
  obtain ⟨⟨mg, mb, a1, a2, a3⟩, ⟨mc, b1, b2⟩, c, ⟨p, tf, d⟩, ⟨t, u, n, e⟩, f, g⟩ := x
  exact ⟨⟨mg, mb, a1.mono le, a2.mono le, a3⟩, ⟨mc, b1.mono le, b2⟩, fun i h => (c i h).mono le, ⟨p, tf, le _ _ d⟩, ⟨t, u, n, le _ _ e⟩, le _ _ f, fun i h => let ⟨o, n, h1, h2⟩ := g i h; ⟨o, n, le _ _ h1, h2⟩⟩
theorem Wd.noLimit {w : World} {ad : Ad} {B : Ph} {h : Heap} (x : Wd w ad B) (k : ∀ a o, B a = some o → h.get? a = some o) : h.NoLimit := let ⟨mc, b1, b2⟩ := x.lim; ⟨mc, b1.ns k, b2⟩

inductive At : List Str → List (Option Value) → Str → Option Value → Prop
  | head {x : Str} {xs : List Str} {v : Option Value} {V : List (Option Value)} : At (x :: xs) (v :: V) x v
  | tail {x y : Str} {xs : List Str} {v w : Option Value} {V : List (Option Value)} (h : At xs V x v) : At (y :: xs) (w :: V) x v

noncomputable def valOf (env : Env) (m cm : Str → Option Value) (x : Str) : Option Value := if env.kindOf x = some .local then m x else cm x

structure Sc where
  xs : List Str
  gs : List Str
structure ScOk (env : Env) (sc : Sc) : Prop where
  kind : env.scope.kind = .function
  loc : ∀ x ∈ sc.xs, env.kindOf x = some .local ∨ (env.kindOf x = some .cell ∧ ∃ c, env.cells.lookup x = some c)
  glob : ∀ x ∈ sc.gs, env.kindOf x = some .globalImplicit
  nodup : sc.xs.Nodup
  globals : env.globals = mainGlobals
  builtins : env.builtins = builtinsNs
  cells : (env.cells.map (·.1)).Nodup
  dbg : ∀ x ∈ sc.xs ++ sc.gs, (x == ("__debug__" : Str)) = false

inductive HStore (env : Env) (sc : Sc) (V : List (Option Value)) (h : Heap) : Prop
  | mk (m cm : Str → Option Value) (h1 : h.Ns env.locals m) (h2 : ∀ n c, (n, c) ∈ env.cells → h.IsCell c (cm n)) (h3 : ∀ x v, At sc.xs V x v → valOf env m cm x = v)
structure Rd (w : World) (ad : Ad) (B : Ph) (env : Env) (sc : Sc) (V : List (Option Value)) (s : Shared) : Prop where
  ok : ScOk env sc
  wd : Wd w ad B
  keep : ∀ a o, B a = some o → s.heap.get? a = some o
  store : HStore env sc V s.heap

theorem Rd.ret {w : World} {ad : Ad} {B B' : Ph} {env : Env} {sc : Sc} {V : List (Option Value)} {s s' : Shared} (r : Rd w ad B env sc V s) (x : Ret B s s' B') : Rd w ad B' env sc V s' := by
  obtain ⟨m, cm, h1, h2, h3⟩ := r.store
  exact ⟨r.ok, r.wd.mono x.le, x.keep, m, cm, h1.keeps x.ext, fun n c e => (h2 n c e).keeps x.ext, h3⟩

theorem At.mem {xs : List Str} {V : List (Option Value)} {x : Str} {v : Option Value} (h : At xs V x v) : x ∈ xs := by
  induction h with
  | head => exact .head _
  | tail _ ih => exact .tail _ ih

section
variable {prog : Program} {w : World} {ad : Ad} {A : Around} {E : Value → Shared → Prop} {s : Shared} {B : Ph} {env : Env} {sc : Sc} {V : List (Option Value)}

theorem Rd.loadName {x : Str} {v : Value} {Q : Value → Shared → Prop} (r : Rd w ad B env sc V s) (hv : At sc.xs V x (some v)) (h : Q v s) : wpAny (model prog w) A (loadName env x) Q E s := by
  obtain ⟨m, cm, h1, h2, h3⟩ := r.store
  have e := h3 x _ hv
  unfold valOf at e
  rcases r.ok.loc x hv.mem with q | ⟨q, c, hc⟩
  · rw [if_pos q] at e
    exact wpAny_loadName_local r.ok.kind q h1 e h
  · rw [if_neg (by rw [q]; decide)] at e
    exact wpAny_loadName_cell r.ok.kind q hc (e ▸ h2 x c (mem_of_lookup hc)) h
end

structure Stab (w : World) (ad : Ad) (env : Env) (sc : Sc) (V : List (Option Value)) (C : Ph → Shared → Prop) : Prop where
  ret : ∀ {B s s' B'}, C B s → Ret B s s' B' → C B' s'
  rd : ∀ {B s}, C B s → Rd w ad B env sc V s

noncomputable def priv (env : Env) (N : List (Addr × Obj)) : List Addr := env.locals :: (env.cells.map (·.2) ++ N.map (·.1))

structure Cx (w : World) (ad : Ad) (s₀ : Shared) (B₀ : Ph) (env : Env) (sc : Sc) (V : List (Option Value)) (N : List (Addr × Obj)) (B : Ph) (s : Shared) : Prop where
  rd : Rd w ad B env sc V s
  len : V.length = sc.xs.length
  ret : Ret B₀ s₀ s B
  own : ∀ p ∈ N, s.heap.get? p.1 = some p.2
  sep : (priv env N).Nodup
  fresh : ∀ a ∈ priv env N, s₀.heap.get? a = none ∧ B a = none

theorem fst_inj {α β : Type} : ∀ {l : List (α × β)}, (l.map (·.1)).Nodup → ∀ {n : α} {a b : β}, (n, a) ∈ l → (n, b) ∈ l → a = b
  | [], _, _, _, _, h, _ => nomatch h
  | (x, y) :: r, nd, n, a, b, h1, h2 => by
    obtain ⟨hd, nd'⟩ := List.nodup_cons.mp (by simpa only [List.map_cons] using nd)
    rcases List.mem_cons.mp h1 with e1 | e1 <;> rcases List.mem_cons.mp h2 with e2 | e2
    · cases e1; cases e2; rfl
    · cases e1; exact absurd (List.mem_map_of_mem (f := (·.1)) e2) hd
    · cases e2; exact absurd (List.mem_map_of_mem (f := (·.1)) e1) hd
    · exact fst_inj nd' e1 e2
theorem snd_inj {α β : Type} : ∀ {l : List (α × β)}, (l.map (·.2)).Nodup → ∀ {n m : α} {a : β}, (n, a) ∈ l → (m, a) ∈ l → n = m
  | [], _, _, _, _, h, _ => nomatch h
  | (x, y) :: r, nd, n, m, a, h1, h2 => by
    obtain ⟨hd, nd'⟩ := List.nodup_cons.mp (by simpa only [List.map_cons] using nd)
    rcases List.mem_cons.mp h1 with e1 | e1 <;> rcases List.mem_cons.mp h2 with e2 | e2
    · cases e1; cases e2; rfl
    · cases e1; exact absurd (List.mem_map_of_mem (f := (·.2)) e2) hd
    · cases e2; exact absurd (List.mem_map_of_mem (f := (·.2)) e1) hd
    · exact snd_inj nd' e1 e2

inductive Sel (a : Addr) (o o' : Obj) : List (Addr × Obj) → List (Addr × Obj) → Prop
  | head {r : List (Addr × Obj)} : Sel a o o' ((a, o) :: r) ((a, o') :: r)
  | tail {p : Addr × Obj} {r r' : List (Addr × Obj)} (h : Sel a o o' r r') : Sel a o o' (p :: r) (p :: r')
inductive Del (a : Addr) (o : Obj) : List (Addr × Obj) → List (Addr × Obj) → Prop
  | head {r : List (Addr × Obj)} : Del a o ((a, o) :: r) r
  | tail {p : Addr × Obj} {r r' : List (Addr × Obj)} (h : Del a o r r') : Del a o (p :: r) (p :: r')

theorem Sel.mem {a : Addr} {o o' : Obj} {l l' : List (Addr × Obj)} (h : Sel a o o' l l') : (a, o) ∈ l := by
  induction h with
  | head => exact .head _
  | tail _ ih => exact .tail _ ih
theorem Sel.map {a : Addr} {o o' : Obj} {l l' : List (Addr × Obj)} (h : Sel a o o' l l') : l'.map (·.1) = l.map (·.1) := by
  induction h with
  | head => rfl
  | tail _ ih => simp only [List.map_cons, ih]
theorem Sel.other {a : Addr} {o o' : Obj} {l l' : List (Addr × Obj)} (h : Sel a o o' l l') (nd : (l.map (·.1)).Nodup) : ∀ p ∈ l', p = (a, o') ∨ (p ∈ l ∧ p.1 ≠ a) := by
  induction h with
  | head =>
    intro p hp
    rcases List.mem_cons.mp hp with e | hp
    · exact .inl e
    · refine .inr ⟨.tail _ hp, fun e => ?_⟩
      exact (List.nodup_cons.mp nd).1 (List.mem_map.mpr ⟨p, hp, e⟩)
  | @tail q r r' h' ih =>
    intro p hp
    rcases List.mem_cons.mp hp with e | hp
    · refine .inr ⟨e ▸ .head _, fun e' => ?_⟩
      subst e
      exact (List.nodup_cons.mp nd).1 (List.mem_map.mpr ⟨_, h'.mem, e'.symm⟩)
    · rcases ih (List.nodup_cons.mp nd).2 p hp with z | ⟨z1, z2⟩
      · exact .inl z
      · exact .inr ⟨.tail _ z1, z2⟩
theorem Del.mem {a : Addr} {o : Obj} {l l' : List (Addr × Obj)} (h : Del a o l l') : (a, o) ∈ l := by
  induction h with
  | head => exact .head _
  | tail _ ih => exact .tail _ ih
theorem Del.sub {a : Addr} {o : Obj} {l l' : List (Addr × Obj)} (h : Del a o l l') : l'.Sublist l := by
  induction h with
  | head => exact List.sublist_cons_self _ _
  | tail _ ih => exact ih.cons_cons _
theorem Del.apart {a : Addr} {o : Obj} {l l' : List (Addr × Obj)} (h : Del a o l l') (nd : (l.map (·.1)).Nodup) : ∀ p ∈ l', p.1 ≠ a := by
  induction h with
  | head => exact fun p hp e => (List.nodup_cons.mp nd).1 (List.mem_map.mpr ⟨p, hp, e⟩)
  | @tail q r r' h' ih =>
    intro p hp
    rcases List.mem_cons.mp hp with e | hp
    · subst e
      exact fun e' => (List.nodup_cons.mp nd).1 (List.mem_map.mpr ⟨_, h'.mem, e'.symm⟩)
    · exact ih (List.nodup_cons.mp nd).2 p hp

section
variable {w : World} {ad : Ad} {s₀ : Shared} {B₀ : Ph} {env : Env} {sc : Sc} {V : List (Option Value)} {N : List (Addr × Obj)} {B : Ph} {s : Shared}

theorem Cx.alive (c : Cx w ad s₀ B₀ env sc V N B s) {a : Addr} (h : a ∈ priv env N) : ∃ o, s.heap.get? a = some o := by
  obtain ⟨m, cm, h1, h2, _⟩ := c.rd.store
  rcases List.mem_cons.mp h with rfl | h
  · obtain ⟨o, _, _, ho, _⟩ := h1; exact ⟨o, ho⟩
  · rcases List.mem_append.mp h with h | h
    · obtain ⟨⟨n, a'⟩, hp, rfl⟩ := List.mem_map.mp h
      obtain ⟨o, ho, _⟩ := h2 n a' hp
      exact ⟨o, ho⟩
    · obtain ⟨p, hp, rfl⟩ := List.mem_map.mp h
      exact ⟨_, c.own p hp⟩

theorem Cx.go (c : Cx w ad s₀ B₀ env sc V N B s) {s' : Shared} {B' : Ph} (x : Ret B s s' B') : Cx w ad s₀ B₀ env sc V N B' s' := by
  refine ⟨c.rd.ret x, c.len, c.ret.trans x, fun p hp => x.ext _ _ (c.own p hp), c.sep, fun a ha => ⟨(c.fresh a ha).1, ?_⟩⟩
  cases e : B' a with
  | none => rfl
  | some o =>
    rcases x.new a o e with q | q
    · rw [(c.fresh a ha).2] at q; cases q
    · obtain ⟨o', ho⟩ := c.alive ha
      rw [ho] at q; cases q

theorem Cx.stab : Stab w ad env sc V (fun B s => Cx w ad s₀ B₀ env sc V N B s) := ⟨fun c x => c.go x, fun c => c.rd⟩

theorem Cx.sepN (c : Cx w ad s₀ B₀ env sc V N B s) : (N.map (·.1)).Nodup := (List.nodup_append.mp (List.nodup_cons.mp c.sep).2).2.1
theorem Cx.sepL (c : Cx w ad s₀ B₀ env sc V N B s) : ∀ p ∈ N, p.1 ≠ env.locals := fun z_ hp e => (List.nodup_cons.mp c.sep).1 (e ▸ List.mem_append_right _ (List.mem_map_of_mem hp))
theorem Cx.sepC (c : Cx w ad s₀ B₀ env sc V N B s) : ∀ p ∈ N, ∀ q ∈ env.cells, p.1 ≠ q.2 := fun p hp q hq e =>
  (List.nodup_append.mp (List.nodup_cons.mp c.sep).2).2.2 q.2 (List.mem_map_of_mem hq) p.1 (List.mem_map_of_mem hp) e.symm
theorem Cx.sepLC (c : Cx w ad s₀ B₀ env sc V N B s) : ∀ q ∈ env.cells, q.2 ≠ env.locals := fun z_ hq e => (List.nodup_cons.mp c.sep).1 (e ▸ List.mem_append_left _ (List.mem_map_of_mem hq))

theorem Cx.upd (c : Cx w ad s₀ B₀ env sc V N B s) {a : Addr} {o o' : Obj} {N' : List (Addr × Obj)} {h : Heap} {t : Nat} (S : Sel a o o' N N') (hs : Heap.SameBut a s.heap h) (hg : h.get? a = some o') :
    Cx w ad s₀ B₀ env sc V N' B { s with heap := h, toks := t } := by
  have hp := c.fresh a (List.mem_cons_of_mem _ (List.mem_append_right _ (List.mem_map_of_mem S.mem)))
  have e : priv env N' = priv env N := by unfold priv; rw [S.map]
  have keep : ∀ b o, B b = some o → h.get? b = some o := fun b o q => (hs.2 b (fun z => by subst z; rw [hp.2] at q; cases q)).trans (c.rd.keep b o q)
  obtain ⟨m, cm, h1, h2, h3⟩ := c.rd.store
  refine ⟨⟨c.rd.ok, c.rd.wd, keep, m, cm, h1.sameBut hs (c.sepL _ S.mem).symm, fun n q hq => (h2 n q hq).sameBut hs (c.sepC _ S.mem _ hq).symm, h3⟩, c.len, ?_, fun p hp' => ?_, e ▸ c.sep, e ▸ c.fresh⟩
  · obtain ⟨h1, t1, e1⟩ := c.ret.same
    refine ⟨⟨h, t, by rw [e1]⟩, fun b o q => ?_, c.ret.le, c.ret.new, keep⟩
    exact (hs.2 b (fun z => by subst z; rw [hp.1] at q; cases q)).trans (c.ret.ext b o q)
  · rcases S.other c.sepN p hp' with z | ⟨z1, z2⟩
    · rw [z]; exact hg
    · exact (hs.2 _ z2).trans (c.own p z1)

theorem Cx.alloc (c : Cx w ad s₀ B₀ env sc V N B s) {t : Nat} (o : Obj) (hf : o.isFreed = false) : Cx w ad s₀ B₀ env sc V ((s.heap.objs.size, o) :: N) B { s with heap := s.heap.push o, toks := t } := by
  have c' : Cx w ad s₀ B₀ env sc V N B { s with heap := s.heap.push o, toks := t } := c.go (Ret.heap c.rd.keep fun z_ z_1 e => Heap.get?_push_of_some o e)
  have hn : ∀ a ∈ priv env N, a ≠ s.heap.objs.size := fun a ha e => by
    obtain ⟨o, ho⟩ := c.alive ha
    rw [e, size_none] at ho; cases ho
  have perm : (priv env ((s.heap.objs.size, o) :: N)).Perm (s.heap.objs.size :: priv env N) := by
    unfold priv
    rw [List.map_cons]
    exact (List.Perm.cons _ List.perm_middle).trans (List.Perm.swap _ _ _)
  refine ⟨c'.rd, c'.len, c'.ret, fun p hp => ?_, perm.nodup_iff.mpr (List.nodup_cons.mpr ⟨fun h => hn _ h rfl, c.sep⟩), fun a ha => ?_⟩
  · rcases List.mem_cons.mp hp with rfl | hp
    · exact Heap.get?_push_size _ hf
    · exact c'.own p hp
  · rcases List.mem_cons.mp (perm.mem_iff.mp ha) with rfl | ha
    · refine ⟨?_, ?_⟩
      · cases e : s₀.heap.get? s.heap.objs.size with
        | none => rfl
        | some o' => have := c.ret.ext _ _ e; rw [size_none] at this; cases this
      · cases e : B s.heap.objs.size with
        | none => rfl
        | some o' => have := c.rd.keep _ _ e; rw [size_none] at this; cases this
    · exact c.fresh a ha

theorem Cx.freeze (c : Cx w ad s₀ B₀ env sc V N B s) {a : Addr} {o : Obj} {N' : List (Addr × Obj)} (D : Del a o N N') : Cx w ad s₀ B₀ env sc V N' (B.put a o) s ∧ B.le (B.put a o) := by
  have ha := c.fresh a (List.mem_cons_of_mem _ (List.mem_append_right _ (List.mem_map_of_mem D.mem)))
  have le := Ph.le_put (o := o) ha.2
  have keep : ∀ b o', B.put a o b = some o' → s.heap.get? b = some o' := fun b o' q => by
    unfold Ph.put at q
    split at q
    · rename_i z; subst z; cases q; exact c.own _ D.mem
    · exact c.rd.keep b o' q
  have sub : (priv env N').Sublist (priv env N) := by
    unfold priv
    exact (((D.sub.map _)).append_left _).cons_cons _
  refine ⟨⟨⟨c.rd.ok, c.rd.wd.mono le, keep, c.rd.store⟩, c.len, ⟨c.ret.same, c.ret.ext, Ph.le_trans c.ret.le le, fun b o' q => ?_, keep⟩, fun p hp => c.own p (D.sub.subset hp), c.sep.sublist sub, fun b hb => ⟨(c.fresh b (sub.subset hb)).1, ?_⟩⟩, le⟩
  · unfold Ph.put at q
    split at q
    · rename_i z; subst z; exact .inr ha.1
    · exact c.ret.new b o' q
  · unfold Ph.put
    rw [if_neg ?_]
    · exact (c.fresh b (sub.subset hb)).2
    · rintro rfl
      rcases List.mem_cons.mp hb with z | z
      · exact c.sepL _ D.mem z
      · rcases List.mem_append.mp z with z | z
        · obtain ⟨q, hq, e⟩ := List.mem_map.mp z
          exact c.sepC _ D.mem q hq e.symm
        · obtain ⟨p, hp, e⟩ := List.mem_map.mp z
          exact D.apart c.sepN p hp e

inductive Put (x : Str) (v : Value) : List Str → List (Option Value) → List (Option Value) → Prop
  | head {xs : List Str} {u : Option Value} {V : List (Option Value)} : Put x v (x :: xs) (u :: V) (some v :: V)
  | tail {y : Str} {xs : List Str} {u : Option Value} {V V' : List (Option Value)} (h : Put x v xs V V') : Put x v (y :: xs) (u :: V) (u :: V')
theorem Put.mem {x : Str} {v : Value} {xs : List Str} {V V' : List (Option Value)} (h : Put x v xs V V') : x ∈ xs := by
  induction h with
  | head => exact .head _
  | tail _ ih => exact .tail _ ih
theorem Put.len {x : Str} {v : Value} {xs : List Str} {V V' : List (Option Value)} (h : Put x v xs V V') : V'.length = V.length := by
  induction h with
  | head => rfl
  | tail _ ih => simp only [List.length_cons, ih]
theorem At.inv {y : Str} {ys : List Str} {u : Option Value} {W : List (Option Value)} {x : Str} {v : Option Value} {P : Prop} (q : At (y :: ys) (u :: W) x v) (f : x = y → v = u → P) (g : At ys W x v → P) : P := by cases q with | head => exact f rfl rfl | tail q => exact g q
theorem Put.at {x : Str} {v : Value} {xs : List Str} {V V' : List (Option Value)} (h : Put x v xs V V') (nd : xs.Nodup) : ∀ y u, At xs V' y u → (y = x ∧ u = some v) ∨ (y ≠ x ∧ At xs V y u) := by
  induction h with
  | head =>
    exact fun y u hy => hy.inv (fun e1 e2 => .inl ⟨e1, e2⟩) fun hy => .inr ⟨fun e => (List.nodup_cons.mp nd).1 (e ▸ hy.mem), .tail hy⟩
  | @tail z xs w V V' h' ih =>
    exact fun y u hy => hy.inv (fun e1 e2 => .inr ⟨fun e => (List.nodup_cons.mp nd).1 (e1 ▸ e ▸ h'.mem), e1 ▸ e2 ▸ .head⟩) fun hy => (ih (List.nodup_cons.mp nd).2 y u hy).imp id fun q => ⟨q.1, .tail q.2⟩

variable {prog : Program} {A : Around} {E : Value → Shared → Prop}
theorem Cx.storeName (c : Cx w ad s₀ B₀ env sc V N B s) {x : Str} {v : Value} {V' : List (Option Value)} {Q : Unit → Shared → Prop} (P : Put x v sc.xs V V')
    (h : ∀ s', Cx w ad s₀ B₀ env sc V' N B s' → Q () s') : wpAny (model prog w) A (storeName env x v) Q E s := by
  obtain ⟨m, cm, h1, h2, h3⟩ := c.rd.store
  have k := c.rd.ok.kind
  have hL := c.fresh env.locals (.head _)
  rcases c.rd.ok.loc x P.mem with q | ⟨q, ca, hc⟩
  · refine wpAny_storeName_local q h1 (fun h' hn hs => h _ ?_) (by rw [k]; rfl)
    have keep : ∀ b o, B b = some o → h'.get? b = some o := fun b o e => (hs.2 b (fun z => by subst z; rw [hL.2] at e; cases e)).trans (c.rd.keep b o e)
    refine ⟨⟨c.rd.ok, c.rd.wd, keep, _, cm, hn, fun n a hm => (h2 n a hm).sameBut hs (c.sepLC _ hm), fun y u hy => ?_⟩, P.len.trans c.len, ?_, fun p hp => (hs.2 _ (c.sepL p hp)).trans (c.own p hp), c.sep, c.fresh⟩
    · unfold valOf
      rcases P.at c.rd.ok.nodup y u hy with ⟨rfl, rfl⟩ | ⟨z1, z2⟩
      · rw [if_pos q]; exact if_pos rfl
      · have := h3 y u z2
        unfold valOf at this
        split
        · rename_i hl; rw [if_pos hl] at this; exact (if_neg z1).trans this
        · rename_i hl; rw [if_neg hl] at this; exact this
    · obtain ⟨h1, t1, e1⟩ := c.ret.same
      exact ⟨⟨h', _, by rw [e1]⟩, fun b o e => (hs.2 b (fun z => by subst z; rw [hL.1] at e; cases e)).trans (c.ret.ext b o e), c.ret.le, c.ret.new, keep⟩
  · have hm := mem_of_lookup hc
    have hC := c.fresh ca (List.mem_cons_of_mem _ (List.mem_append_left _ (List.mem_map_of_mem hm)))
    have nd2 : (env.cells.map (·.2)).Nodup := (List.nodup_append.mp (List.nodup_cons.mp c.sep).2).1
    have capart : ∀ n a, (n, a) ∈ env.cells → n ≠ x → a ≠ ca := fun n a hna hne e => by
      subst e
      exact hne (snd_inj nd2 hna hm)
    refine wpAny_storeName_cell k q hc (h2 x ca hm) fun h' hn hs => h _ ?_
    have keep : ∀ b o, B b = some o → h'.get? b = some o := fun b o e => (hs.2 b (fun z => by subst z; rw [hC.2] at e; cases e)).trans (c.rd.keep b o e)
    refine ⟨⟨c.rd.ok, c.rd.wd, keep, m, (fun y => if y = x then some v else cm y), h1.sameBut hs (c.sepLC _ hm).symm, fun n a hna => ?_, fun y u hy => ?_⟩, P.len.trans c.len, ?_, fun p hp => (hs.2 _ (c.sepC p hp _ hm)).trans (c.own p hp), c.sep, c.fresh⟩
    · by_cases e : n = x
      · subst e
        rw [fst_inj c.rd.ok.cells hna hm]
        show h'.IsCell ca (if n = n then some v else cm n)
        rw [if_pos rfl]; exact hn
      · show h'.IsCell a (if n = x then some v else cm n)
        rw [if_neg e]
        exact (h2 n a hna).sameBut hs (capart n a hna e)
    · unfold valOf
      rcases P.at c.rd.ok.nodup y u hy with ⟨rfl, rfl⟩ | ⟨z1, z2⟩
      · rw [if_neg (by rw [q]; decide)]; exact if_pos rfl
      · have := h3 y u z2
        unfold valOf at this
        split
        · rename_i hl; rw [if_pos hl] at this; exact this
        · rename_i hl; rw [if_neg hl] at this; exact (if_neg z1).trans this
    · obtain ⟨h1, t1, e1⟩ := c.ret.same
      exact ⟨⟨h', _, by rw [e1]⟩, fun b o e => (hs.2 b (fun z => by subst z; rw [hC.1] at e; cases e)).trans (c.ret.ext b o e), c.ret.le, c.ret.new, keep⟩
end
end
section
open PySem PySem.Calls

theorem Stab.tok {w : World} {ad : Ad} {env : Env} {sc : Sc} {V : List (Option Value)} {C : Ph → Shared → Prop} (S : Stab w ad env sc V C) {B : Ph} {s : Shared} (c : C B s) (t : Nat) : C B { s with toks := t } :=
  S.ret c (Ret.tok (S.rd c).keep t)

structure AOk (d : Nat) (A : Around) : Prop where
  handled : A.handled = none
  depth : A.depth + d < recursionLimit
  units : A.units + 10 * d + 10 < cLine
theorem AOk.mono {d e : Nat} {A : Around} (x : AOk d A) (h : e ≤ d) : AOk e A := ⟨x.handled, by have := x.depth; lia, by have := x.units; lia⟩
theorem AOk.deeper {d : Nat} {A : Around} (x : AOk (d + 1) A) (env : Env) : AOk d (A.deeper env) := ⟨x.handled, by show A.depth + 1 + d < _; have := x.depth; lia, by show A.units + 3 + 10 * d + 10 < _; have := x.units; lia⟩
theorem AOk.room {d : Nat} {A : Around} (x : AOk d A) : A.depth < recursionLimit := by have := x.depth; lia
theorem AOk.unit {d : Nat} {A : Around} (x : AOk d A) : A.units < cLine := by have := x.units; lia

section
variable {prog : Program} {w : World} {ad : Ad} {A : Around} {E : Value → Shared → Prop} {s : Shared} {B : Ph} {env : Env} {sc : Sc} {V : List (Option Value)} {C : Ph → Shared → Prop}
variable {a b : Int} {t u : Tok} {pos : Pos}

theorem x_name {x : Str} {v : Value} {Q : Value → Shared → Prop} (S : Stab w ad env sc V C) (c : C B s) (hv : At sc.xs V x (some v)) (h : Q v s) : wpAny (model prog w) A (eval (.Name x pos) env) Q E s :=
  wpAny_Name ((S.rd c).loadName hv h) ((S.rd c).ok.dbg x (List.mem_append_left _ hv.mem))
theorem x_glob {x : Str} {v : Value} {Q : Value → Shared → Prop} (S : Stab w ad env sc V C) (c : C B s) (hx : x ∈ sc.gs) (hv : Means ad x v) (h : Q v s) : wpAny (model prog w) A (eval (.Name x pos) env) Q E s := by
  have r := S.rd c
  obtain ⟨mg, mb, g1, g2, g3⟩ := r.wd.main
  have hd := r.ok.dbg x (List.mem_append_right _ hx)
  have hg : s.heap.Ns env.globals mg := r.ok.globals ▸ g1.ns r.keep
  have hb : s.heap.Ns env.builtins mb := r.ok.builtins ▸ g2.ns r.keep
  rcases g3 x v hv with q | ⟨q1, q2⟩
  · exact Name_function_global r.ok.kind (r.ok.glob x hx) (loadGlobal_global hg q h) hd
  · exact Name_function_global r.ok.kind (r.ok.glob x hx) (loadGlobal_builtin hg q1 hb q2 h) hd

theorem x_int {k : Nat} {Q : Value → Shared → Prop} (S : Stab w ad env sc V C) (c : C B s) (h : ∀ t s', C B s' → Q (.int a t) s') : wpAny (model prog w) A (eval (.Constant (.int a) k pos) env) Q E s := wpAny_Constant_int (h _ _ (S.tok c _))
theorem x_bytes {k : Nat} {x : List UInt8} {Q : Value → Shared → Prop} (S : Stab w ad env sc V C) (c : C B s) (h : ∀ t s', C B s' → Q (.bytes x.toArray t) s') : wpAny (model prog w) A (eval (.Constant (.bytes x) k pos) env) Q E s := W.Constant_bytes (h _ _ (S.tok c _))
theorem x_str {k : Nat} {x : Str} {Q : Value → Shared → Prop} (S : Stab w ad env sc V C) (c : C B s) (h : ∀ t s', C B s' → Q (.str x t) s') : wpAny (model prog w) A (eval (.Constant (.str x) k pos) env) Q E s := wpAny_Constant_str (h _ _ (S.tok c _))

theorem x_add {Q : Value → Shared → Prop} (S : Stab w ad env sc V C) (c : C B s) (h : ∀ t s', C B s' → Q (.int (a + b) t) s') : wpAny (model prog w) A (binaryOp .Add (.int a t) (.int b u)) Q E s := P.add_int (h _ _ (S.tok c _))
theorem x_sub {Q : Value → Shared → Prop} (S : Stab w ad env sc V C) (c : C B s) (h : ∀ t s', C B s' → Q (.int (a - b) t) s') : wpAny (model prog w) A (binaryOp .Sub (.int a t) (.int b u)) Q E s := P.sub_int (h _ _ (S.tok c _))
theorem x_mul {Q : Value → Shared → Prop} (S : Stab w ad env sc V C) (c : C B s) (hm : IntMulOk a b) (h : ∀ t s', C B s' → Q (.int (a * b) t) s') : wpAny (model prog w) A (binaryOp .Mult (.int a t) (.int b u)) Q E s := P.mul_int (h _ _ (S.tok c _)) hm
theorem x_div {Q : Value → Shared → Prop} (S : Stab w ad env sc V C) (c : C B s) (hb : 0 < b) (hz : b.natAbs.log2 < 9000) (h : ∀ t s', C B s' → Q (.int (a / b) t) s') : wpAny (model prog w) A (binaryOp .FloorDiv (.int a t) (.int b u)) Q E s :=
  PyProof.Rows.floordiv_int (by lia) (by rw [Int.fdiv_eq_ediv_of_nonneg a (by lia)]; exact h _ _ (S.tok c _)) (.inl (PyProof.noPylong_of_log2 hz))
theorem x_mod {Q : Value → Shared → Prop} (S : Stab w ad env sc V C) (c : C B s) (hb : 0 < b) (h : ∀ t s', C B s' → Q (.int (a % b) t) s') : wpAny (model prog w) A (binaryOp .Mod (.int a t) (.int b u)) Q E s :=
  PyProof.Rows.mod_int' (by lia) (by rw [Int.fmod_eq_emod_of_nonneg a (by lia)]; exact h _ _ (S.tok c _))
theorem x_pow {Q : Value → Shared → Prop} (S : Stab w ad env sc V C) (c : C B s) (hn : 0 ≤ b) (hsz : (Builtin.Int.intBits a : Int) * b ≤ 2 ^ 27) (h : ∀ t s', C B s' → Q (.int (a ^ b.toNat) t) s') : wpAny (model prog w) A (binaryOp .Pow (.int a t) (.int b u)) Q E s :=
  PyProof.Rows.pow_int hn hsz (h _ _ (S.tok c _))
theorem x_and {Q : Value → Shared → Prop} (S : Stab w ad env sc V C) (c : C B s) (h : ∀ t s', C B s' → Q (.int (Builtin.bitAnd a b) t) s') : wpAny (model prog w) A (binaryOp .BitAnd (.int a t) (.int b u)) Q E s := PyProof.Rows.and_int (h _ _ (S.tok c _))
theorem x_neg {Q : Value → Shared → Prop} (S : Stab w ad env sc V C) (c : C B s) (h : ∀ t s', C B s' → Q (.int (-a) t) s') : wpAny (model prog w) A (unaryOp .USub (.int a t)) Q E s := P.neg_int (h _ _ (S.tok c _))
theorem x_eq {Q : Value → Shared → Prop} (h : Q (.bool (decide (a = b))) s) : wpAny (model prog w) A (compareOp .Eq (.int a t) (.int b u)) Q E s := P.eq_int (by rw [show (a == b) = decide (a = b) from rfl]; exact h)
theorem x_ne {Q : Value → Shared → Prop} (h : Q (.bool (!decide (a = b))) s) : wpAny (model prog w) A (compareOp .NotEq (.int a t) (.int b u)) Q E s := P.ne_int (by rw [show (a != b) = !decide (a = b) from rfl]; exact h)
theorem x_lt {Q : Value → Shared → Prop} (h : Q (.bool (decide (a < b))) s) : wpAny (model prog w) A (compareOp .Lt (.int a t) (.int b u)) Q E s := P.lt_int h
theorem x_le {Q : Value → Shared → Prop} (h : Q (.bool (decide (a ≤ b))) s) : wpAny (model prog w) A (compareOp .LtE (.int a t) (.int b u)) Q E s := P.le_int h
theorem x_gt {Q : Value → Shared → Prop} (h : Q (.bool (decide (b < a))) s) : wpAny (model prog w) A (compareOp .Gt (.int a t) (.int b u)) Q E s := P.gt_int h
theorem x_truthy {Q : Bool → Shared → Prop} (h : Q (!decide (a = 0)) s) : wpAny (model prog w) A (truthy (.int a t)) Q E s := P.truthy_int (by rw [show (a != 0) = !decide (a = 0) from rfl]; exact h)

theorem x_bin {op : Operator} {l r : Expr} {Q : Value → Shared → Prop} (h : wpAny (model prog w) A (eval l env) (fun a s₁ => wpAny (model prog w) A (eval r env) (fun b s₂ => wpAny (model prog w) A (binaryOp op a b) Q E s₂) E s₁) E s) :
    wpAny (model prog w) A (eval (.BinOp l op r pos) env) Q E s := wpAny_BinOp h
theorem x_un {op : UnaryOp} {x : Expr} {Q : Value → Shared → Prop} (h : wpAny (model prog w) A (eval x env) (fun v s₁ => wpAny (model prog w) A (unaryOp op v) Q E s₁) E s) : wpAny (model prog w) A (eval (.UnaryOp op x pos) env) Q E s := wpAny_UnaryOp h
theorem x_cmp {l r : Expr} {op : CmpOp} {Q : Value → Shared → Prop} (hm : behindInMarks op r = false)
    (h : wpAny (model prog w) A (eval l env) (fun a s₁ => wpAny (model prog w) A (eval r env) (fun b s₂ => wpAny (model prog w) A (compareOp op a b) Q E s₂) E s₁) E s) :
    wpAny (model prog w) A (eval (.Compare l [op] [r] pos) env) Q E s := wpAny_Compare1 h hm
theorem x_tcmp {l r : Expr} {op : CmpOp} {whole : Sem Value} {Q : Bool → Shared → Prop} (hm : behindInMarks op r = false)
    (h : wpAny (model prog w) A (eval l env) (fun a s₁ => wpAny (model prog w) A (eval r env) (fun b s₂ => wpAny (model prog w) A (compareOp op a b) (fun c s₃ => wpAny (model prog w) A (truthy c) Q E s₃) E s₂) E s₁) E s) :
    wpAny (model prog w) A (isTrue (.Compare l [op] [r] pos) env whole) Q E s := wpAny_isTrue_Compare1 h hm
theorem x_bool {b : Bool} {Q : Bool → Shared → Prop} (h : Q b s) : wpAny (model prog w) A (truthy (.bool b)) Q E s := wpAny_truthy_bool h
end

noncomputable def okSc (names : List (Str × NameKind)) (sc : Sc) : Bool :=
  sc.xs.all (fun x => names.lookup x == some .local || names.lookup x == some .cell) && sc.gs.all (fun x => names.lookup x == some .globalImplicit) && decide sc.xs.Nodup &&
  (sc.xs ++ sc.gs).all (fun x => !(x == ("__debug__" : Str))) && decide (names.map (·.1)).Nodup

theorem cellsFrom_names : ∀ (names : List (Str × NameKind)) (n : Nat) (acc : List (Str × Addr)), ∀ x ∈ (cellsFrom n names acc).map (·.1), x ∈ names.map (·.1) ∨ x ∈ acc.map (·.1)
  | [], _, _, x, h => .inr h
  | (y, k) :: r, n, acc, x, h => by
    unfold cellsFrom at h
    split at h
    · rcases cellsFrom_names r _ _ x h with q | q
      · exact .inl (.tail _ q)
      · rcases List.mem_cons.mp (by simpa only [List.map_cons] using q) with q | q
        · exact .inl (by rw [q]; exact .head _)
        · exact .inr q
    · rcases cellsFrom_names r _ _ x h with q | q
      · exact .inl (.tail _ q)
      · exact .inr q
theorem cellsFrom_nodup : ∀ (names : List (Str × NameKind)) (n : Nat) (acc : List (Str × Addr)), (names.map (·.1)).Nodup → (acc.map (·.1)).Nodup → (∀ x ∈ acc.map (·.1), x ∉ names.map (·.1)) → ((cellsFrom n names acc).map (·.1)).Nodup
  | [], _, _, _, h, _ => h
  | (y, k) :: r, n, acc, h1, h2, h3 => by
    obtain ⟨a1, a2⟩ := List.nodup_cons.mp (by simpa only [List.map_cons] using h1)
    unfold cellsFrom
    split
    · refine cellsFrom_nodup r _ _ a2 ?_ ?_
      · simp only [List.map_cons, List.nodup_cons]
        exact ⟨fun q => h3 y q (.head _), h2⟩
      · intro x hx
        rcases List.mem_cons.mp (by simpa only [List.map_cons] using hx) with q | q
        · rw [q]; exact a1
        · exact fun z => h3 x q (.tail _ z)
    · exact cellsFrom_nodup r _ _ a2 h2 fun x hx z => h3 x hx (.tail _ z)

theorem okSc_ok {fd : FuncData} {L a : Addr} {sc : Sc} (h : okSc fd.scope.names sc = true) (hk : fd.scope.kind = .function) (hg : fd.globals = mainGlobals) (hb : fd.builtins = builtinsNs) : ScOk (callEnvC fd L a) sc := by
  unfold okSc at h
  simp only [Bool.and_eq_true, List.all_eq_true, decide_eq_true_eq, Bool.or_eq_true, beq_iff_eq, Bool.not_eq_true'] at h
  obtain ⟨⟨⟨⟨h1, h2⟩, h3⟩, h4⟩, h5⟩ := h
  refine ⟨hk, fun x hx => ?_, fun x hx => h2 x hx, h3, hg, hb, cellsFrom_nodup _ _ _ h5 List.nodup_nil (fun z_ h => nomatch h), fun x hx => h4 x hx⟩
  rcases h1 x hx with q | q
  · exact .inl q
  · exact .inr ⟨q, Option.isSome_iff_exists.mp (W.cellsFrom_some _ _ _ (.inl q))⟩

theorem valOf_bind (env : Env) : ∀ (ps : List Str) (vals : List Value) (m cm : Str → Option Value) (x : Str), ps.Nodup → ps.length = vals.length →
    valOf env (bindL env.kindOf (ps.zip vals) m) (bindC env.kindOf (ps.zip vals) cm) x = match (ps.zip vals).lookup x with | some v => some v | none => valOf env m cm x
  | [], [], _, _, _, _, _ => rfl
  | [], _ :: _, _, _, _, _, h => nomatch h
  | _ :: _, [], _, _, _, _, h => nomatch h
  | p :: ps, v :: vals, m, cm, x, nd, hl => by
    obtain ⟨n1, n2⟩ := List.nodup_cons.mp nd
    have ih := valOf_bind env ps vals (if env.kindOf p = some .local then fun y => if y = p then some v else m y else m) (if env.kindOf p = some .local then cm else fun y => if y = p then some v else cm y) x n2 (Nat.succ.inj hl)
    have e : valOf env (bindL env.kindOf ((p :: ps).zip (v :: vals)) m) (bindC env.kindOf ((p :: ps).zip (v :: vals)) cm) x = _ := ih
    rw [e]
    show _ = match (((p, v) :: ps.zip vals).lookup x) with | some v => some v | none => valOf env m cm x
    rw [List.lookup_cons]
    by_cases hx : x = p
    · subst hx
      have : (ps.zip vals).lookup x = none := by
        cases q : (ps.zip vals).lookup x with
        | none => rfl
        | some u => exact absurd (List.of_mem_zip (mem_of_lookup q)).1 n1
      rw [this]
      simp only [beq_self_eq_true]
      unfold valOf
      split
      · exact if_pos rfl
      · exact if_pos rfl
    · have : (x == p) = false := beq_eq_false_iff_ne.mpr hx
      rw [this]
      simp only
      cases q : (ps.zip vals).lookup x with
      | some u => rfl
      | none =>
        simp only
        unfold valOf
        split
        · rename_i hl
          by_cases hp : env.kindOf p = some .local
          · rw [if_pos hp]; exact if_neg hx
          · rw [if_neg hp]
        · rename_i hl
          by_cases hp : env.kindOf p = some .local
          · rw [if_pos hp]
          · rw [if_neg hp]; exact if_neg hx

theorem At.start0 {rest : List Str} {x : Str} {v : Option Value} (h : At rest (List.replicate rest.length none) x v) : none = v := by
  induction rest with
  | nil => cases h
  | cons y r ih => exact h.inv (fun z_ e => e.symm) ih
theorem At.start {rest : List Str} {x : Str} {v : Option Value} : ∀ {ps : List Str} {vals : List Value}, ps.length = vals.length → (ps ++ rest).Nodup → At (ps ++ rest) (vals.map some ++ List.replicate rest.length none) x v →
    (match (ps.zip vals).lookup x with | some v => some v | none => none) = v := fun {ps} => by
  induction ps with
  | nil =>
    intro vals hl _ h
    obtain rfl := List.length_eq_zero_iff.mp hl.symm
    exact At.start0 h
  | cons p ps ih =>
    intro vals hl nd h
    cases vals with
    | nil => cases hl
    | cons u vals =>
      obtain ⟨n1, n2⟩ := List.nodup_cons.mp nd
      have h' : At (p :: (ps ++ rest)) (some u :: (vals.map some ++ List.replicate rest.length none)) x v := h
      show (match (((p, u) :: ps.zip vals).lookup x) with | some v => some v | none => none) = v
      rw [List.lookup_cons]
      refine h'.inv (fun e1 e2 => ?_) fun h' => ?_
      · subst e1 e2; simp only [beq_self_eq_true]
      · have : (x == p) = false := beq_eq_false_iff_ne.mpr fun e => n1 (e ▸ h'.mem)
        rw [this]
        exact ih (Nat.succ.inj hl) n2 h'

section
variable {prog : Program} {w : World} {ad : Ad} {A : Around} {E : Value → Shared → Prop} {s : Shared} {B : Ph}

theorem def_callX {d : DefRec} {f : Addr} {vals : List Value} {ps rest xs gs : List Str} {V0 : List (Option Value)} {n : Nat} {Q : Value → Shared → Prop} (hw : Wd w ad B) (hkeep : ∀ a o, B a = some o → s.heap.get? a = some o) {pm : Value} {cd : Addr} {doc : Value} (hfn : FnAt B f d pm cd doc) (hA : AOk (n + 1) A)
    (hxs : ps ++ rest = xs) (hV : vals.map some ++ List.replicate rest.length none = V0) (hlen : ps.length = vals.length) (hok : okSc d.scope.names ⟨xs, gs⟩ = true) (hk : d.scope.kind = .function) (hco : d.scope.isCoroutine = false) (hge : d.scope.isGenerator = false)
    (hbind : ∀ pm cd doc, bindArgs (d.data pm (.ref cd) doc) ⟨vals, []⟩ = pure (ps.zip vals))
    (body : ∀ env s', env.scope = d.scope → env.frame = some env.locals → Cx w ad s B env ⟨xs, gs⟩ V0 [] B s' →
      wpAny (model prog w) (A.deeper env) (execs d.body env) (fun fl s'' => Q (match fl with | .ret v => v | _ => .none) s'') (fun e s'' => wpAny (model prog w) (A.deeper env) (leaving env e) (fun z_ s₃ => E e s₃) (fun e' s₃ => E e' s₃) s'') s') :
    wpAny (model prog w) A (call (.ref f) vals) Q E s := by
  subst hxs hV
  obtain ⟨oc, vs, t, h1, h2, h3, h4⟩ := hfn
  have hok' := hok
  unfold okSc at hok'
  simp only [Bool.and_eq_true, List.all_eq_true, decide_eq_true_eq, Bool.or_eq_true, beq_iff_eq, Bool.not_eq_true'] at hok'
  obtain ⟨⟨⟨⟨k1, _⟩, k3⟩, _⟩, _⟩ := hok'
  have hall : ((ps.zip vals).all fun y => d.scope.names.lookup y.1 == some .local || d.scope.names.lookup y.1 == some .cell) = true := by
    rw [List.all_eq_true]
    intro x hx
    have := k1 x.1 (List.mem_append_left _ (List.of_mem_zip hx).1)
    simpa using this
  refine wpAny_call (codeAny_call_cells (fd := d.data pm (.ref cd) doc) (o := fnObj d pm cd doc) (body := d.body) (binds := ps.zip vals) hA.room (hkeep _ _ h1) rfl (hw.noLimit hkeep)
    ⟨cd, oc, vs, t, rfl, hkeep _ _ h2, h3, h4⟩ rfl (hbind _ _ _) rfl (W.kindsX hall _) (fun s₁ x => ?_) hco hge hk)
  have sok : ScOk (callEnvC (d.data pm (.ref cd) doc) s.heap.objs.size f) ⟨ps ++ rest, gs⟩ := okSc_ok hok hk rfl rfl
  have hfresh : ∀ a, s.heap.objs.size ≤ a → s.heap.get? a = none := fun a ha => by
    cases e : s.heap.get? a with
    | none => rfl
    | some o => exact absurd (Heap.lt_size e) (Nat.not_lt.mpr ha)
  have hBn : ∀ a, s.heap.get? a = none → B a = none := fun a ha => by
    cases e : B a with
    | none => rfl
    | some o => rw [hkeep a o e] at ha; cases ha
  have keep : ∀ a o, B a = some o → s₁.heap.get? a = some o := fun a o e => x.toInCall.keep a o (hkeep a o e)
  have hL : (callEnvC (d.data pm (.ref cd) doc) s.heap.objs.size f).locals = s.heap.objs.size := rfl
  have hcell : ∀ p ∈ (callEnvC (d.data pm (.ref cd) doc) s.heap.objs.size f).cells, s.heap.objs.size < p.2 := fun p hp => x.above p.1 p.2 hp
  have hscp : (callEnvC (d.data pm (.ref cd) doc) s.heap.objs.size f).scope = d.scope := rfl
  have hfrm : (callEnvC (d.data pm (.ref cd) doc) s.heap.objs.size f).frame = some (callEnvC (d.data pm (.ref cd) doc) s.heap.objs.size f).locals := rfl
  generalize hge : callEnvC (d.data pm (.ref cd) doc) s.heap.objs.size f = env at x sok hL hcell hscp hfrm
  have cx : Cx w ad s B env ⟨ps ++ rest, gs⟩ (vals.map some ++ List.replicate rest.length none) [] B s₁ := by
    refine ⟨⟨sok, hw, keep, bindL env.kindOf (ps.zip vals) (fun z_ => none), bindC env.kindOf (ps.zip vals) (fun z_ => none), x.toInCall.ns, fun nm c hm => ?_, fun y v hy => ?_⟩, ?_, ⟨.of x.toInCall.same, x.toInCall.keep, Ph.le_refl B, fun z_ z_1 h => .inl h, keep⟩, (fun z_ h => nomatch h), ?_, fun a ha => ?_⟩
    · have hlk : env.cells.lookup nm = some c := by
        have nd := sok.cells
        generalize env.cells = l at hm nd
        induction l with
        | nil => cases hm
        | cons q r ih =>
          obtain ⟨q1, q2⟩ := q
          obtain ⟨n1, n2⟩ := List.nodup_cons.mp (by simpa only [List.map_cons] using nd)
          rw [List.lookup_cons]
          rcases List.mem_cons.mp hm with e | e
          · cases e; simp only [beq_self_eq_true]
          · have : (nm == q1) = false := beq_eq_false_iff_ne.mpr fun z => n1 (z ▸ List.mem_map_of_mem (f := (·.1)) e)
            rw [this]; exact ih e n2
      exact x.cell nm c hlk
    · rw [valOf_bind env ps vals _ _ y (List.nodup_append.mp k3).1 hlen]
      have := At.start hlen k3 hy
      rw [← this]
      cases (ps.zip vals).lookup y with
      | some v => rfl
      | none => show (if _ then none else none) = none; split <;> rfl
    · show (vals.map some ++ List.replicate rest.length none).length = (ps ++ rest).length
      rw [List.length_append, List.length_append, List.length_map, List.length_replicate, hlen]
    · unfold priv
      rw [List.map_nil, List.append_nil]
      refine List.nodup_cons.mpr ⟨fun h => ?_, ?_⟩
      · obtain ⟨p, hp, e⟩ := List.mem_map.mp h
        have := hcell p hp
        rw [e, hL] at this
        exact Nat.lt_irrefl _ this
      · have := x.apart
        exact List.pairwise_map.mpr this
    · have : s.heap.get? a = none := by
        refine hfresh a ?_
        unfold priv at ha
        rw [List.map_nil, List.append_nil] at ha
        rcases List.mem_cons.mp ha with e | h
        · rw [e, hL]; exact Nat.le_refl _
        · obtain ⟨p, hp, e⟩ := List.mem_map.mp h
          rw [← e]; exact Nat.le_of_lt (hcell p hp)
      exact ⟨this, hBn a this⟩
  subst hge
  exact wpAny_mono (body _ s₁ hscp hfrm cx) (fun fl s'' h => h) fun z_ z_1 h => h

theorem def_call {d : DefRec} {f : Addr} {vals : List Value} {ps rest xs gs : List Str} {V0 : List (Option Value)} {n : Nat} {Q : Value → Shared → Prop} (hw : Wd w ad B) (hkeep : ∀ a o, B a = some o → s.heap.get? a = some o) {pm : Value} {cd : Addr} {doc : Value} (hfn : FnAt B f d pm cd doc) (hA : AOk (n + 1) A)
    (hxs : ps ++ rest = xs) (hV : vals.map some ++ List.replicate rest.length none = V0) (hlen : ps.length = vals.length) (hok : okSc d.scope.names ⟨xs, gs⟩ = true) (hk : d.scope.kind = .function) (hco : d.scope.isCoroutine = false) (hge : d.scope.isGenerator = false)
    (hbind : ∀ pm cd doc, bindArgs (d.data pm (.ref cd) doc) ⟨vals, []⟩ = pure (ps.zip vals))
    (body : ∀ env s', env.scope = d.scope → Cx w ad s B env ⟨xs, gs⟩ V0 [] B s' →
      wpAny (model prog w) (A.deeper env) (execs d.body env) (fun fl s'' => Q (match fl with | .ret v => v | _ => .none) s'') (fun z_ z_1 => False) s') :
    wpAny (model prog w) A (call (.ref f) vals) Q E s :=
  def_callX hw hkeep hfn hA hxs hV hlen hok hk hco hge hbind fun env s' h1 z_ c => wpAny_mono (body env s' h1 c) (fun z_ z_1 h => h) fun z_ z_1 h => h.elim
end
end
section
open PySem PySem.Calls

noncomputable def Br (b : Bool) (X Y : Prop) : Prop := (b = true → X) ∧ (b = false → Y)
theorem Br.of {b : Bool} {X Y : Prop} (h : Br b X Y) : if b = true then X else Y := by
  cases b with
  | true => rw [if_pos rfl]; exact h.1 rfl
  | false => rw [if_neg Bool.false_ne_true]; exact h.2 rfl
theorem x_ite {p : Prop} {inst : Decidable p} {X Y : Prop} (h1 : p → X) (h2 : ¬ p → Y) : Br (@decide p inst) X Y := ⟨fun h => h1 (of_decide_eq_true h), fun h => h2 (of_decide_eq_false h)⟩
theorem x_iten {p : Prop} {inst : Decidable p} {X Y : Prop} (h1 : ¬ p → X) (h2 : p → Y) : Br (!@decide p inst) X Y := ⟨fun h => h1 (by simpa using h), fun h => h2 (by simpa using h)⟩
theorem x_itt {X Y : Prop} (h : X) : Br true X Y := ⟨fun z_ => h, fun h => nomatch h⟩
theorem x_itf {X Y : Prop} (h : Y) : Br false X Y := ⟨(fun h => nomatch h), fun z_ => h⟩
theorem x_itb {b : Bool} {X Y : Prop} (h1 : b = true → X) (h2 : b = false → Y) : Br b X Y := ⟨h1, h2⟩
theorem x_itn {b : Bool} {X Y : Prop} (h : Br b Y X) : Br (!b) X Y := ⟨fun e => h.2 (by simpa using e), fun e => h.1 (by simpa using e)⟩

section
variable {prog : Program} {w : World} {ad : Ad} {A : Around} {E : Value → Shared → Prop} {s : Shared} {B : Ph} {env : Env} {sc : Sc} {V : List (Option Value)} {C : Ph → Shared → Prop}
variable {s₀ : Shared} {B₀ : Ph} {N : List (Addr × Obj)} {pos p' : Pos}

theorem s_cons {st : Stmt} {rest : List Stmt} {Q : Flow → Shared → Prop} (h : ∀ Q' : Flow → Shared → Prop, Q' = (fun f s' => match f with | .next => wpAny (model prog w) A (execs rest env) Q E s' | f => Q f s') → wpAny (model prog w) A (exec st env) Q' E s) :
    wpAny (model prog w) A (execs (st :: rest) env) Q E s := by
  rw [execs_cons]
  refine wpAny_bind (wpAny_mono (h _ rfl) (fun f s' h' => ?_) fun z_ z_1 x => x)
  cases f <;> first | exact h' | exact wpAny_pure h'
theorem s_next {rest : List Stmt} {Q Q' : Flow → Shared → Prop} (hQ : Q' = (fun f s' => match f with | .next => wpAny (model prog w) A (execs rest env) Q E s' | f => Q f s')) (h : wpAny (model prog w) A (execs rest env) Q E s) : Q' .next s := by subst hQ; exact h
theorem s_ret {rest : List Stmt} {v : Value} {Q Q' : Flow → Shared → Prop} (hQ : Q' = (fun f s' => match f with | .next => wpAny (model prog w) A (execs rest env) Q E s' | f => Q f s')) (h : Q (.ret v) s) : Q' (.ret v) s := by subst hQ; exact h
theorem s_nil {Q : Flow → Shared → Prop} (h : Q .next s) : wpAny (model prog w) A (execs [] env) Q E s := wpAny_execs_nil h
theorem s_assign {x : Str} {value : Expr} {Q : Flow → Shared → Prop} (hs : swapsWith value (some (.Name x p')) pos.line env = pure false)
    (h : wpAny (model prog w) A (eval value env) (fun v s₁ => wpAny (model prog w) A (storeName env x v) (fun z_ => Q .next) E s₁) E s) : wpAny (model prog w) A (exec (.Assign [.Name x p'] value pos) env) Q E s := wpAny_Assign_Name h hs
theorem s_return {e : Expr} {Q : Flow → Shared → Prop} (h : wpAny (model prog w) A (eval e env) (fun v => Q (.ret v)) E s) : wpAny (model prog w) A (exec (.Return (some e) pos) env) Q E s := wpAny_Return_some h
theorem s_if {test : Expr} {body orelse : List Stmt} {Q : Flow → Shared → Prop}
    (h : wpAny (model prog w) A (isTrue test env (eval test env)) (fun b s₂ => Br b (wpAny (model prog w) A (execs body env) Q E s₂) (wpAny (model prog w) A (execs orelse env) Q E s₂)) E s) :
    wpAny (model prog w) A (exec (.If test body orelse pos) env) Q E s := wpAny_If (wpAny_mono h (fun z_ z_1 h => h.of) fun z_ z_1 x => x)
theorem x_store {x : Str} {v : Value} {V' : List (Option Value)} {Q : Unit → Shared → Prop} (c : Cx w ad s₀ B₀ env sc V N B s) (P : Put x v sc.xs V V') (h : ∀ s', Cx w ad s₀ B₀ env sc V' N B s' → Q () s') :
    wpAny (model prog w) A (storeName env x v) Q E s := c.storeName P h
end

theorem s_enterL {prog : Program} {w : World} {ad : Ad} {A : Around} {E : Value → Shared → Prop} {s : Shared} {B : Ph} {env : Env} {sc : Sc} {V : List (Option Value)} {s₀ : Shared} {B₀ : Ph} {N : List (Addr × Obj)} {st : Stmt} {rest : List Stmt} {Q : Flow → Shared → Prop}
    (c : Cx w ad s₀ B₀ env sc V N B s)
    (h : ∀ (Q' : Flow → Shared → Prop), Q' = (fun f s' => match f with | .next => wpAny (model prog w) A (execs rest env) Q E s' | f => Q f s') → let V' := V; let C : Ph → Shared → Prop := fun B s => Cx w ad s₀ B₀ env sc V' N B s; Stab w ad env sc V' C → C B s → wpAny (model prog w) A (exec st env) Q' E s) :
    wpAny (model prog w) A (execs (st :: rest) env) Q E s :=
  s_cons fun Q' hQ' => h Q' hQ' Cx.stab c

local macro_rules | `(tactic| kd_p) => `(tactic| first | exact At.head | (refine At.tail ?_; kd_p))
local macro_rules | `(tactic| kd_p1) => `(tactic| first | exact Put.head | (refine Put.tail ?_; kd_p1))

noncomputable def nat17 (f : Nat) : Nat := f
section
variable {prog : Program} {w : World} {ad : Ad} {A : Around} {E : Value → Shared → Prop} {s : Shared} {B : Ph}
set_option maxRecDepth 100000 in
theorem is_not_none {v : Value} {n : Nat} {Q : Value → Shared → Prop} (hw : Wd w ad B) (hkeep : ∀ a o, B a = some o → s.heap.get? a = some o) (hA : AOk (n + 1) A)
    (h : ∀ s', Ret B s s' B → Q (.bool (!(v == .none))) s') : wpAny (model prog w) A (call (.ref (ad.fn 2)) [v, .none]) Q E s := by
  refine def_call (d := dn 2) (ps := ["a", "b"]) (rest := []) (gs := []) hw hkeep (hw.fn 2 (by decide)) hA rfl rfl rfl (by decide +kernel) rfl rfl rfl (fun z_ z_1 z_2 => rfl) ?_
  intro env s' he c
  try with_reducible refine @s_next _ _ _ _ _ _ _ _ _ (by assumption) ?_
  refine @s_cons _ _ _ _ _ _ _ _ _ (fun Q' hQ' => ?_)
  refine s_return ?_
  refine x_cmp rfl ?_
  refine x_name Cx.stab c (by kd_p) ?_
  refine x_name Cx.stab c (by kd_p) ?_
  refine isNot_none ?_
  refine s_ret (by assumption) ?_
  exact h _ c.ret
end
end
section
open PySem PySem.Calls

inductive D where
  | none
  | bool (b : Bool)
  | int (i : Int)
  | bytes (l : List UInt8)
  | ref (a : Addr)
  | list (l : List D)
  | tuple (l : List D)

noncomputable def listObj (xs : List Value) (n : Nat := 0) : Obj := { cls := .type "list", data := .seq xs.toArray n }
noncomputable def tupObj (xs : List Value) (n : Nat := 0) : Obj := { cls := .type "tuple", data := .seq xs.toArray n }

mutual
inductive Rep (B : Ph) : Value → D → Prop
  | none : Rep B .none .none
  | bool (b : Bool) : Rep B (.bool b) (.bool b)
  | int (i : Int) (t : Tok) : Rep B (.int i t) (.int i)
  | bytes (l : List UInt8) (t : Tok) : Rep B (.bytes l.toArray t) (.bytes l)
  | ref (a : Addr) : Rep B (.ref a) (.ref a)
  | list (a : Addr) (n : Nat) (xs : List Value) (ds : List D) (h : B a = some (listObj xs n)) (r : Reps B xs ds) : Rep B (.ref a) (.list ds)
  | tuple (a : Addr) (n : Nat) (xs : List Value) (ds : List D) (h : B a = some (tupObj xs n)) (r : Reps B xs ds) : Rep B (.ref a) (.tuple ds)
inductive Reps (B : Ph) : List Value → List D → Prop
  | nil : Reps B [] []
  | cons {x : Value} {xs : List Value} {d : D} {ds : List D} (h : Rep B x d) (r : Reps B xs ds) : Reps B (x :: xs) (d :: ds)
end

theorem Rep.mono {B B' : Ph} (le : B.le B') {v : Value} {d : D} (h : Rep B v d) : Rep B' v d :=
  Rep.rec (motive_1 := fun v d z_ => Rep B' v d) (motive_2 := fun vs ds z_ => Reps B' vs ds) .none .bool .int .bytes .ref (fun a n xs ds h z_ r => .list a n xs ds (le _ _ h) r) (fun a n xs ds h z_ r => .tuple a n xs ds (le _ _ h) r) .nil (fun z_ z_1 h r => .cons h r) h
theorem Reps.ind {B : Ph} {P : List Value → List D → Prop} {vs : List Value} {ds : List D} (h : Reps B vs ds) (h0 : P [] []) (h1 : ∀ {x xs d ds}, Rep B x d → Reps B xs ds → P xs ds → P (x :: xs) (d :: ds)) : P vs ds :=
  Reps.rec (motive_1 := fun z_ z_1 z_2 => True) (motive_2 := fun vs ds z_ => P vs ds) trivial (fun z_ => trivial) (fun z_ z_1 => trivial) (fun z_ z_1 => trivial) (fun z_ => trivial) (fun z_ z_1 z_2 z_3 z_4 z_5 z_6 => trivial) (fun z_ z_1 z_2 z_3 z_4 z_5 z_6 => trivial) h0 (fun h r z_ ih => h1 h r ih) h
theorem Reps.mono {B B' : Ph} (le : B.le B') {vs : List Value} {ds : List D} (h : Reps B vs ds) : Reps B' vs ds := h.ind .nil fun h z_ ih => .cons (h.mono le) ih
theorem Rep.eInt {B : Ph} {v : Value} {i : Int} {P : Value → Prop} (h : Rep B v (.int i)) (f : ∀ t, P (.int i t)) : P v := by cases h; exact f _
theorem Rep.eBytes {B : Ph} {v : Value} {l : List UInt8} {P : Value → Prop} (h : Rep B v (.bytes l)) (f : ∀ t, P (.bytes l.toArray t)) : P v := by cases h; exact f _
theorem Rep.eBool {B : Ph} {v : Value} {b : Bool} {P : Value → Prop} (h : Rep B v (.bool b)) (f : P (.bool b)) : P v := by cases h; exact f
theorem Rep.eRef {B : Ph} {v : Value} {a : Addr} {P : Value → Prop} (h : Rep B v (.ref a)) (f : P (.ref a)) : P v := by cases h; exact f
inductive IsInt (v : Value) (i : Int) : Prop
  | mk (t : Tok) (e : v = .int i t)
inductive IsList (B : Ph) (v : Value) (ds : List D) : Prop
  | mk (a : Addr) (n : Nat) (xs : List Value) (e : v = .ref a) (h : B a = some (listObj xs n)) (r : Reps B xs ds)
inductive IsTup' (B : Ph) (v : Value) (ds : List D) : Prop
  | mk (a : Addr) (n : Nat) (xs : List Value) (e : v = .ref a) (h : B a = some (tupObj xs n)) (r : Reps B xs ds)
theorem Rep.isInt {B : Ph} {v : Value} {i : Int} (h : Rep B v (.int i)) : IsInt v i := h.eInt (P := fun v => IsInt v i) fun t => ⟨t, rfl⟩
theorem Rep.isBytes {B : Ph} {v : Value} {l : List UInt8} (h : Rep B v (.bytes l)) : ∃ t, v = .bytes l.toArray t := h.eBytes (P := fun v => ∃ t, v = .bytes l.toArray t) fun t => ⟨t, rfl⟩
theorem Rep.isBool {B : Ph} {v : Value} {b : Bool} (h : Rep B v (.bool b)) : v = .bool b := h.eBool (P := fun v => v = .bool b) rfl
theorem Rep.isRef {B : Ph} {v : Value} {a : Addr} (h : Rep B v (.ref a)) : v = .ref a := h.eRef (P := fun v => v = .ref a) rfl
theorem Rep.isList {B : Ph} {v : Value} {ds : List D} (h : Rep B v (.list ds)) : IsList B v ds := by cases h with | list a n xs _ hB r => exact ⟨a, n, xs, rfl, hB, r⟩
theorem Rep.isTup {B : Ph} {v : Value} {ds : List D} (h : Rep B v (.tuple ds)) : IsTup' B v ds := by cases h with | tuple a n xs _ hB r => exact ⟨a, n, xs, rfl, hB, r⟩
theorem Reps.eNil {B : Ph} {vs : List Value} {P : List Value → Prop} (h : Reps B vs []) (f : P []) : P vs := by cases h; exact f
theorem Reps.eCons {B : Ph} {vs : List Value} {d : D} {ds : List D} {P : List Value → Prop} (h : Reps B vs (d :: ds)) (f : ∀ x xs, Rep B x d → Reps B xs ds → P (x :: xs)) : P vs := by cases h with | cons h r => exact f _ _ h r

inductive IsCons (B : Ph) (vs : List Value) (d : D) (ds : List D) : Prop
  | mk (x : Value) (xs : List Value) (e : vs = x :: xs) (h : Rep B x d) (r : Reps B xs ds)
theorem Reps.isCons {B : Ph} {vs : List Value} {d : D} {ds : List D} (h : Reps B vs (d :: ds)) : IsCons B vs d ds := h.eCons (P := fun vs => IsCons B vs d ds) fun x xs h r => ⟨x, xs, rfl, h, r⟩
theorem Reps.isNil {B : Ph} {vs : List Value} (h : Reps B vs []) : vs = [] := h.eNil (P := fun vs => vs = []) rfl
theorem Reps.both {B : Ph} {x : Value} {xs : List Value} {d : D} {ds : List D} (h : Reps B (x :: xs) (d :: ds)) : Rep B x d ∧ Reps B xs ds := by cases h with | cons h r => exact ⟨h, r⟩
theorem Reps.length {B : Ph} {vs : List Value} {ds : List D} (h : Reps B vs ds) : vs.length = ds.length := h.ind (P := fun vs ds => vs.length = ds.length) rfl fun z_ z_1 ih => congrArg Nat.succ ih
theorem Reps.get {B : Ph} {vs : List Value} {ds : List D} (h : Reps B vs ds) : ∀ {i : Nat} {d : D}, ds[i]? = some d → ∃ v, vs[i]? = some v ∧ Rep B v d :=
  h.ind (P := fun vs ds => ∀ {i : Nat} {d : D}, ds[i]? = some d → ∃ v, vs[i]? = some v ∧ Rep B v d) (fun h => nomatch h) fun {x _ _ _} h _ ih i _ e => by
    cases i with
    | zero => exact ⟨x, rfl, Option.some.inj e ▸ h⟩
    | succ i => exact ih e
theorem Reps.append {B : Ph} {vs ws : List Value} {ds es : List D} (h : Reps B vs ds) (s : Reps B ws es) : Reps B (vs ++ ws) (ds ++ es) := h.ind (P := fun vs ds => Reps B (vs ++ ws) (ds ++ es)) s fun h z_ ih => .cons h ih
theorem Reps.snoc {B : Ph} {vs : List Value} {ds : List D} {v : Value} {d : D} (r : Reps B vs ds) (h : Rep B v d) : Reps B (vs ++ [v]) (ds ++ [d]) := r.append (.cons h .nil)
theorem Reps.drop {B : Ph} {vs : List Value} {ds : List D} (h : Reps B vs ds) : ∀ k : Nat, Reps B (vs.drop k) (ds.drop k) :=
  h.ind (P := fun vs ds => ∀ k : Nat, Reps B (vs.drop k) (ds.drop k)) (fun k => by rw [List.drop_nil, List.drop_nil]; exact .nil) fun h r ih k => by
    cases k with
    | zero => exact .cons h r
    | succ k => exact ih k
theorem Reps.set {B : Ph} {vs : List Value} {ds : List D} (h : Reps B vs ds) : ∀ (k : Nat) {v : Value} {d : D}, Rep B v d → Reps B (vs.set k v) (ds.set k d) :=
  h.ind (P := fun vs ds => ∀ (k : Nat) {v : Value} {d : D}, Rep B v d → Reps B (vs.set k v) (ds.set k d)) (fun z_ z_1 z_2 z_3 => .nil) fun h r ih k z_ z_1 h' => by
    cases k with
    | zero => exact .cons h' r
    | succ k => exact .cons h (ih k h')
theorem Reps.erase {B : Ph} {vs : List Value} {ds : List D} (h : Reps B vs ds) : ∀ (k : Nat), Reps B (vs.eraseIdx k) (ds.eraseIdx k) :=
  h.ind (P := fun vs ds => ∀ k : Nat, Reps B (vs.eraseIdx k) (ds.eraseIdx k)) (fun z_ => .nil) fun h r ih k => by
    cases k with
    | zero => exact r
    | succ k => exact .cons h (ih k)
theorem Reps.replicate {B : Ph} {v : Value} {d : D} (h : Rep B v d) : ∀ k : Nat, Reps B (List.replicate k v) (List.replicate k d)
  | 0 => .nil
  | k + 1 => .cons h (Reps.replicate h k)
theorem Reps.places {B : Ph} {vs : List Value} {ds : List D} (h : Reps B vs ds) : ∀ js : List Nat, Reps B (js.filterMap (vs[·]?)) (js.filterMap (ds[·]?))
  | [] => .nil
  | j :: js => by
    have ih := Reps.places h js
    cases hn : ds[j]? with
    | some n =>
      obtain ⟨t, hv, hr⟩ := h.get hn
      simp only [List.filterMap_cons, hn, hv]
      exact .cons hr ih
    | none =>
      have hv : vs[j]? = none := by
        rw [List.getElem?_eq_none_iff] at hn ⊢
        rw [h.length]; exact hn
      simp only [List.filterMap_cons, hn, hv]
      exact ih
noncomputable def pick {α : Type} (ds : List α) (lo hi st : Option Int) : List α :=
  (sliceRange (sliceBounds lo hi st ds.length).1 (sliceBounds lo hi st ds.length).2.1 (sliceBounds lo hi st ds.length).2.2).filterMap (ds[·]?)
theorem slicePick_eq (vs : List Value) (lo hi st : Option Int) : slicePick vs.toArray lo hi st = (pick vs lo hi st).toArray := by
  simp [slicePick, pick]
theorem Reps.pick {B : Ph} {vs : List Value} {ds : List D} (h : Reps B vs ds) (lo hi st : Option Int) : Reps B (pick vs lo hi st) (pick ds lo hi st) := by
  unfold Mine.pick
  rw [h.length]
  exact h.places _
theorem Reps.ints {B : Ph} : ∀ {vs : List Value} {ns : List Int}, Reps B vs (ns.map .int) → PyProof.Rows.IntsAre vs ns := fun {vs ns} h => by
  induction ns generalizing vs with
  | nil => exact h.eNil (P := fun vs => PyProof.Rows.IntsAre vs []) .nil
  | cons n ns ih => exact h.eCons (P := fun vs => PyProof.Rows.IntsAre vs (n :: ns)) fun x xs hx r => hx.eInt (P := fun x => PyProof.Rows.IntsAre (x :: xs) (n :: ns)) fun t => .cons n t (ih r)

theorem Ret.weaken {B B₁ B' : Ph} {s s' : Shared} (k : ∀ a o, B a = some o → s.heap.get? a = some o) (x : Ret B₁ s s' B') : Ret B s s' B :=
  ⟨x.same, x.ext, Ph.le_refl B, fun z_ z_1 h => .inl h, fun a o h => x.ext a o (k a o h)⟩

section
variable {w : World} {ad : Ad} {s₀ : Shared} {B₀ : Ph} {env : Env} {sc : Sc} {V : List (Option Value)} {N : List (Addr × Obj)} {B : Ph} {s : Shared}

theorem Cx.upd0 (c : Cx w ad s₀ B₀ env sc V N B s) {a : Addr} {o o' : Obj} {h : Heap} {t : Nat} (f : Obj → Obj) (ha : s₀.heap.get? a = some o) (hB : B a = none) (hf : (f o).isFreed = false) (hs : h = s.heap.update a f) (e : f o = o') :
    Cx w ad { s₀ with heap := s₀.heap.update a f } B₀ env sc V N B { s with heap := h, toks := t } ∧ h.get? a = some o' := by
  subst hs e
  have hp : a ∉ priv env N := fun z => by rw [(c.fresh a z).1] at ha; cases ha
  have hps : s.heap.get? a = some o := c.ret.ext a o ha
  have hs := Heap.SameBut.update s.heap a f
  have hs0 := Heap.SameBut.update s₀.heap a f
  have hL : env.locals ≠ a := fun z => hp (z ▸ List.mem_cons_self)
  have keep : ∀ b o, B b = some o → (s.heap.update a f).get? b = some o := fun b o q => (hs.2 b (fun z => by subst z; rw [hB] at q; cases q)).trans (c.rd.keep b o q)
  obtain ⟨m, cm, h1, h2, h3⟩ := c.rd.store
  have alive : ∀ b, b ≠ a → s₀.heap.get? b = none → (s₀.heap.update a f).get? b = none := fun b hb q => (hs0.2 b hb).trans q
  refine ⟨⟨⟨c.rd.ok, c.rd.wd, keep, m, cm, h1.sameBut hs hL, fun n q hq => (h2 n q hq).sameBut hs (fun z => hp (z ▸ List.mem_cons_of_mem _ (List.mem_append_left _ (List.mem_map_of_mem (f := (·.2)) hq)))), h3⟩, c.len, ?_, fun p hp' => ?_, c.sep, fun b hb => ⟨alive b (fun z => hp (z ▸ hb)) (c.fresh b hb).1, (c.fresh b hb).2⟩⟩, Heap.get?_update_self f hps hf⟩
  · obtain ⟨h1, t1, e1⟩ := c.ret.same
    refine ⟨⟨s.heap.update a f, t, by rw [e1]⟩, fun b o q => ?_, c.ret.le, fun b o q => ?_, keep⟩
    · by_cases z : b = a
      · subst z
        rw [Heap.get?_update_self f ha hf] at q
        cases q
        exact Heap.get?_update_self f hps hf
      · exact (hs.2 b z).trans (c.ret.ext b o ((hs0.2 b z).symm.trans q))
    · rcases c.ret.new b o q with z | z
      · exact .inl z
      · refine .inr (alive b ?_ z)
        rintro rfl
        rw [z] at ha; cases ha
  · exact (hs.2 _ (fun z => hp (z ▸ List.mem_cons_of_mem _ (List.mem_append_right _ (List.mem_map_of_mem hp'))))).trans (c.own p hp')
end

section
variable {prog : Program} {w : World} {ad : Ad} {A : Around} {E : Value → Shared → Prop} {s : Shared} {B : Ph} {env : Env} {sc : Sc} {V : List (Option Value)} {C : Ph → Shared → Prop}
variable {s₀ : Shared} {B₀ : Ph} {N : List (Addr × Obj)} {pos p' : Pos}

theorem Stab.new (S : Stab w ad env sc V C) (c : C B s) (o : Obj) (hf : o.isFreed = false) {t : Nat} : C (B.put s.heap.objs.size o) { s with heap := s.heap.push o, toks := t } := S.ret c (Ret.push (S.rd c).keep o hf)
theorem Stab.newle (S : Stab w ad env sc V C) (c : C B s) (o : Obj) : B.le (B.put s.heap.objs.size o) := Ph.le_put (by
  cases q : B s.heap.objs.size with
  | none => rfl
  | some o' => have := (S.rd c).keep _ o' q; rw [size_none] at this; cases this)
theorem Stab.grow (S : Stab w ad env sc V C) (c : C B s) {h : Heap} {t : Nat} (e : ∀ a o, s.heap.get? a = some o → h.get? a = some o) : C B { s with heap := h, toks := t } := S.ret c (Ret.heap (S.rd c).keep e)

theorem x_list {elts : List Expr} {Q : Value → Shared → Prop} (S : Stab w ad env sc V C) (_c : C B s)
    (h : wpAny (model prog w) A (spliced (backTo pos (starEach elts env))) (fun vs s₁ => ∃ B₁, C B₁ s₁ ∧ vs.length ≤ sizeLine ∧ ∀ a s' B', B₁.le B' → B' a = some (listObj vs) → C B' s' → Q (.ref a) s') E s) : wpAny (model prog w) A (eval (.List elts pos) env) Q E s :=
  wpAny_List (wpAny_mono h (fun vs s₁ ⟨B₁, c, h1, h2⟩ => ⟨h1, h2 _ _ _ (S.newle c _) Ph.put_self (S.new c _ rfl)⟩) fun z_ z_1 x => x)
theorem x_tuple {elts : List Expr} {k : Nat} {Q : Value → Shared → Prop} (S : Stab w ad env sc V C) (_c : C B s)
    (h : wpAny (model prog w) A (spliced (backTo pos (starEach elts env))) (fun vs s₁ => ∃ B₁, C B₁ s₁ ∧ vs.length ≤ sizeLine ∧ ∀ a s' B', B₁.le B' → B' a = some (tupObj vs) → C B' s' → Q (.ref a) s') E s) : wpAny (model prog w) A (eval (.Tuple elts k pos) env) Q E s :=
  wpAny_Tuple (wpAny_mono h (fun vs s₁ ⟨B₁, c, h1, h2⟩ => ⟨h1, h2 _ _ _ (S.newle c _) Ph.put_self (S.new c _ rfl)⟩) fun z_ z_1 x => x)
theorem x_listO {elts : List Expr} {Q : Value → Shared → Prop} (_c : Cx w ad s₀ B₀ env sc V N B s)
    (h : wpAny (model prog w) A (spliced (backTo pos (starEach elts env))) (fun vs s₁ => ∃ V N B₁, Cx w ad s₀ B₀ env sc V N B₁ s₁ ∧ vs.length ≤ sizeLine ∧ ∀ a s', Cx w ad s₀ B₀ env sc V ((a, listObj vs) :: N) B₁ s' → Q (.ref a) s') E s) : wpAny (model prog w) A (eval (.List elts pos) env) Q E s :=
  wpAny_List (wpAny_mono h (fun vs s₁ ⟨V, N, B₁, c, h1, h2⟩ => ⟨h1, h2 _ _ (c.alloc (t := s₁.toks) _ rfl)⟩) fun z_ z_1 x => x)
theorem x_args0 {Q : List Value → Shared → Prop} (h : Q [] s) : wpAny (model prog w) A (spliced (backTo pos (starEach [] env))) Q E s := spliced_nil h
theorem x_args {e : Expr} {rest : List Expr} {Q : List Value → Shared → Prop} (he : starEach (e :: rest) env = (false, eval e env) :: starEach rest env)
    (h : wpAny (model prog w) A (eval e env) (fun v s₁ => wpAny (model prog w) A (spliced (backTo pos (starEach rest env))) (fun vs s₂ => Q (v :: vs) s₂) E s₁) E s) : wpAny (model prog w) A (spliced (backTo pos (starEach (e :: rest) env))) Q E s := by
  rw [he]; exact spliced_cons h

theorem x_call {func : Expr} {args : List Expr} {Q : Value → Shared → Prop}
    (he : eval (.Call func args [] pos) env = (do callWith pos (← eval func env) [] (backTo pos (starEach args env)) (backToKw pos (keywordEach [] env))))
    (h : wpAny (model prog w) A (eval func env) (fun f s₁ => wpAny (model prog w) A (callWith pos f [] (backTo pos (starEach args env)) []) Q E s₁) E s) :
    wpAny (model prog w) A (eval (.Call func args [] pos) env) Q E s := PyProof.Rows.Call_ h he
inductive Called (C : Ph → Shared → Prop) (Q' : List Value → Shared → Prop) (vs : List Value) (s : Shared) : Prop
  | mk (B : Ph) (c : C B s) (h : Q' vs s)
theorem callNow {f : Value} {vs : List Value} {Q : Value → Shared → Prop} {Q' : List Value → Shared → Prop} (hQ : Q' = fun vs s₁ => wpAny (model prog w) A (call f vs) Q E s₁) (c : C B s) (h : wpAny (model prog w) A (call f vs) Q E s) : Called C Q' vs s := ⟨B, c, hQ ▸ h⟩
theorem x_cdef {i : Nat} {e : Expr} {rest : List Expr} {Q : Value → Shared → Prop} (S : Stab w ad env sc V C) (c : C B s) (hi : i < 25) (he : starEach (e :: rest) env = (false, eval e env) :: starEach rest env)
    (h : ∀ Q' : List Value → Shared → Prop, Q' = (fun vs s₁ => wpAny (model prog w) A (call (.ref (ad.fn i)) vs) Q E s₁) → wpAny (model prog w) A (spliced (backTo pos (starEach (e :: rest) env))) (Called C Q') E s) :
    wpAny (model prog w) A (callWith pos (.ref (ad.fn i)) [] (backTo pos (starEach (e :: rest) env)) []) Q E s := by
  have h := h _ rfl
  rw [he] at h ⊢
  exact callWith_function (o := fnObj (dn i) (ad.pm i) (ad.cd i) (ad.doc i)) (fd := (dn i).data (ad.pm i) (.ref (ad.cd i)) (ad.doc i)) (evalArgs_plain (wpAny_mono h (fun vs s₁ h₁ => by
    obtain ⟨_, c₁, h₁⟩ := h₁
    obtain ⟨_, _, _, h1, _⟩ := (S.rd c₁).wd.fn i hi
    exact ⟨⟨(S.rd c₁).keep _ _ h1, rfl⟩, h₁⟩) fun z_ z_1 x => x))
theorem x_cdef0 {i : Nat} {Q : Value → Shared → Prop} (S : Stab w ad env sc V C) (c : C B s) (hi : i < 25)
    (h : wpAny (model prog w) A (call (.ref (ad.fn i)) []) Q E s) :
    wpAny (model prog w) A (callWith pos (.ref (ad.fn i)) [] (backTo pos (starEach [] env)) []) Q E s := by
  obtain ⟨_, _, _, h1, _⟩ := (S.rd c).wd.fn i hi
  exact callWith_function (o := fnObj (dn i) (ad.pm i) (ad.cd i) (ad.doc i)) (fd := (dn i).data (ad.pm i) (.ref (ad.cd i)) (ad.doc i)) (PyProof.Rows.evalArgs_none ⟨⟨(S.rd c).keep _ _ h1, rfl⟩, h⟩)
theorem x_cblt {id : String} {e : Expr} {rest : List Expr} {Q : Value → Shared → Prop} (he : starEach (e :: rest) env = (false, eval e env) :: starEach rest env) (hp : (backTo pos (starEach rest env)).any (·.1) = false)
    (h : wpAny (model prog w) A (spliced (backTo pos (starEach (e :: rest) env))) (fun vs s₁ => wpAny (model prog w) A (call (.builtin id) vs) Q E s₁) E s) :
    wpAny (model prog w) A (callWith pos (.builtin id) [] (backTo pos (starEach (e :: rest) env)) []) Q E s := PyProof.Rows.callWith_builtin1 h he hp
theorem x_ctype {T : String} {e : Expr} {rest : List Expr} {Q : Value → Shared → Prop} (he : starEach (e :: rest) env = (false, eval e env) :: starEach rest env) (hp : (backTo pos (starEach rest env)).any (·.1) = false)
    (h : wpAny (model prog w) A (spliced (backTo pos (starEach (e :: rest) env))) (fun vs s₁ => wpAny (model prog w) A (call (.type T) vs) Q E s₁) E s) :
    wpAny (model prog w) A (callWith pos (.type T) [] (backTo pos (starEach (e :: rest) env)) []) Q E s := PyProof.Rows.callWith_type1 h he hp
end
end
section
open PySem PySem.Calls PyProof.Rows

section
variable {prog : Program} {w : World} {ad : Ad} {A : Around} {E : Value → Shared → Prop} {s : Shared} {B : Ph} {env : Env} {sc : Sc} {V : List (Option Value)} {C : Ph → Shared → Prop}
variable {s₀ : Shared} {B₀ : Ph} {N : List (Addr × Obj)} {pos p' : Pos} {a b : Addr} {xs ys : List Value} {n m : Nat} {k : Int} {t u : Tok} {value slice : Expr} {ds es : List D} {d : D} {x : Value}

theorem isList_of {h : Heap} (e : h.get? a = some (listObj xs n)) : h.IsList a xs.toArray := ⟨_, e, rfl, n, rfl⟩
theorem isTup_of {h : Heap} (e : h.get? a = some (tupObj xs n)) : IsTup h a xs.toArray := ⟨_, e, rfl, n, rfl⟩
theorem Stab.isList (S : Stab w ad env sc V C) (c : C B s) (e : B a = some (listObj xs n)) : s.heap.IsList a xs.toArray := isList_of ((S.rd c).keep _ _ e)
theorem Stab.isTup (S : Stab w ad env sc V C) (c : C B s) (e : B a = some (tupObj xs n)) : IsTup s.heap a xs.toArray := isTup_of ((S.rd c).keep _ _ e)
theorem Cx.isList (c : Cx w ad s₀ B₀ env sc V N B s) (e : (a, listObj xs n) ∈ N) : s.heap.IsList a xs.toArray := isList_of (c.own _ e)

theorem x_index {Q : Value → Shared → Prop} (h : wpAny (model prog w) A (eval value env) (fun o s₁ => wpAny (model prog w) A (eval slice env) (fun i s₂ => wpAny (model prog w) A (subscriptTail value slice o i) Q E s₂) E s₁) E s) :
    wpAny (model prog w) A (eval (.Subscript value slice pos) env) Q E s := Subscript_ h
theorem x_itemV {Q : Value → Shared → Prop} (hs : subscripted slice false (.ref a) (.int k u) = operate [.ref a, .int k u] (getItem (.ref a) (.int k u))) (hl : s.heap.IsList a xs.toArray) (h0 : 0 ≤ k) (hfit : k < 2 ^ 63) (hx : xs[k.toNat]? = some x) (h : Q x s) :
    wpAny (model prog w) A (subscriptTail value slice (.ref a) (.int k u)) Q E s :=
  tail_any hl.typeIs slot_list_getitem.lookup (wpAny_getItem_list hl h0 hfit (by simpa using hx) h) hs
theorem x_item {Q : Value → Shared → Prop} (hs : subscripted slice false (.ref a) (.int k u) = operate [.ref a, .int k u] (getItem (.ref a) (.int k u))) (hl : s.heap.IsList a xs.toArray) (r : Reps B xs ds) (h0 : 0 ≤ k) (hfit : k < 2 ^ 63) (hx : ds[k.toNat]? = some d) (h : ∀ x, Rep B x d → Q x s) :
    wpAny (model prog w) A (subscriptTail value slice (.ref a) (.int k u)) Q E s :=
  let ⟨x, h1, h2⟩ := r.get hx
  x_itemV hs hl h0 hfit h1 (h x h2)
theorem x_itemT {Q : Value → Shared → Prop} (hs : subscripted slice false (.ref a) (.int k u) = operate [.ref a, .int k u] (getItem (.ref a) (.int k u))) (hl : IsTup s.heap a xs.toArray) (r : Reps B xs ds) (h0 : 0 ≤ k) (hfit : k < 2 ^ 63) (hx : ds[k.toNat]? = some d) (h : ∀ x, Rep B x d → Q x s) :
    wpAny (model prog w) A (subscriptTail value slice (.ref a) (.int k u)) Q E s := by
  obtain ⟨x, h1, h2⟩ := r.get hx
  have hlt : k.toNat < xs.length := (List.getElem?_eq_some_iff.mp h1).1
  exact item_tupleT (j := k.toNat) hl (by lia) (by lia) (seqIndex_of h0 (by lia)) h1 (h x h2) hs

theorem x_lenL {Q : Value → Shared → Prop} (S : Stab w ad env sc V C) (c : C B s) (hl : s.heap.IsList a xs.toArray) (hz : xs.length < 2 ^ 62) (h : ∀ t s', C B s' → Q (.int xs.length t) s') : wpAny (model prog w) A (call (.builtin "len") [.ref a]) Q E s :=
  len_list hl (by simp only [List.size_toArray]; lia) (by simpa only [List.size_toArray] using h _ _ (S.tok c _))
theorem x_lenT {Q : Value → Shared → Prop} (S : Stab w ad env sc V C) (c : C B s) (hl : IsTup s.heap a xs.toArray) (hz : xs.length < 2 ^ 62) (h : ∀ t s', C B s' → Q (.int xs.length t) s') : wpAny (model prog w) A (call (.builtin "len") [.ref a]) Q E s :=
  len_tuple hl (by simp only [List.size_toArray]; lia) (by simpa only [List.size_toArray] using h _ _ (S.tok c _))
theorem x_lenB {l : List UInt8} {Q : Value → Shared → Prop} (S : Stab w ad env sc V C) (c : C B s) (hz : l.length ≤ 1099511627776) (h : ∀ t s', C B s' → Q (.int l.length t) s') : wpAny (model prog w) A (call (.builtin "len") [.bytes l.toArray u]) Q E s :=
  W.len_bytes (by simpa only [List.size_toArray] using hz) (by simpa only [List.size_toArray] using h _ _ (S.tok c _))

theorem x_slice {lo hi st : Option Expr} {p : Pos} {Q : Value → Shared → Prop} (S : Stab w ad env sc V C) (_c : C B s) (hs : ∀ a b, ∃ ops, subscripted (.Slice lo hi st p) false (.ref a) (.ref b) = operate ops (getItem (.ref a) (.ref b)))
    (h : wpAny (model prog w) A (eval value env) (fun o s₁ => wpAny (model prog w) A (evalPart lo env) (fun vl s₂ => wpAny (model prog w) A (evalPart hi env) (fun vu s₃ => wpAny (model prog w) A (evalPart st env) (fun vk s₄ =>
      ∃ a xs l u k B₁, o = .ref a ∧ C B₁ s₄ ∧ s₄.heap.IsList a xs.toArray ∧ IsPart vl l ∧ IsPart vu u ∧ IsPart vk k ∧ k ≠ some 0 ∧ xs.length ≤ sizeLine ∧ ∀ b s' B', B₁.le B' → B' b = some (listObj (pick xs l u k)) → C B' s' → Q (.ref b) s') E s₃) E s₂) E s₁) E s) :
    wpAny (model prog w) A (eval (.Subscript value (.Slice lo hi st p) pos) env) Q E s := by
  refine x_index (wpAny_mono h (fun o s₁ h₁ => wpAny_Slice (wpAny_mono h₁ (fun vl s₂ h₂ => wpAny_mono h₂ (fun vu s₃ h₃ => wpAny_mono h₃ (fun vk s₄ h₄ => ?_) fun z_ z_1 x => x) fun z_ z_1 x => x) fun z_ z_1 x => x)) fun z_ z_1 x => x)
  obtain ⟨a, xs, l, u, k, B₁, rfl, c, hl, pl, pu, pk, h0, hsz, hQ⟩ := h₄
  obtain ⟨ops, hs⟩ := hs a s₄.heap.objs.size
  refine tail_any (T := "list") (hl.push _).typeIs slot_list_getitem.lookup (wpAny_getItem_list_slice (hl.push _) (Heap.IsSliceOf.new ..) pl pu pk h0 ?_ (by simpa using hsz)) hs
  have c1 := S.grow c (h := s₄.heap.push { cls := .type "slice", data := .fields #[vl, vu, vk] }) (t := s₄.toks) (fun z_ z_1 e => Heap.get?_push_of_some _ e)
  have c2 := S.new c1 (listObj (pick xs l u k)) rfl (t := s₄.toks)
  rw [slicePick_eq]
  exact hQ _ _ _ (S.newle c1 _) Ph.put_self c2
theorem x_sliceB {lo hi : Option Expr} {p : Pos} {Q : Value → Shared → Prop} (S : Stab w ad env sc V C) (_c : C B s) (hs : ∀ v b, ∃ ops, subscripted (.Slice lo hi none p) false v (.ref b) = operate ops (getItem v (.ref b)))
    (h : wpAny (model prog w) A (eval value env) (fun o s₁ => wpAny (model prog w) A (evalPart lo env) (fun vl s₂ => wpAny (model prog w) A (evalPart hi env) (fun vu s₃ =>
      ∃ x t l u B₁, o = .bytes x t ∧ C B₁ s₃ ∧ IsPart vl l ∧ IsPart vu u ∧ x.size ≤ sizeLine ∧ ∀ t s', C B₁ s' → Q (.bytes (W.KBy.picked x l u) t) s') E s₂) E s₁) E s) :
    wpAny (model prog w) A (eval (.Subscript value (.Slice lo hi none p) pos) env) Q E s := by
  refine x_index (wpAny_mono h (fun o s₁ h₁ => wpAny_Slice (wpAny_mono h₁ (fun vl s₂ h₂ => wpAny_mono h₂ (fun vu s₃ h₃ => ?_) fun z_ z_1 x => x) fun z_ z_1 x => x)) fun z_ z_1 x => x)
  obtain ⟨x, t, l, u, B₁, rfl, c, pl, pu, hsz, hQ⟩ := h₃
  obtain ⟨ops, hs⟩ := hs (.bytes x t) s₃.heap.objs.size
  rw [evalPart_none]
  refine wpAny_pure ?_
  refine tail_any (T := "bytes") (W.typeIs_bytes _ _ _) W.FB.slot_bytes_getitem.lookup (getItem_meets (W.typeIs_bytes _ _ _) (by decide) W.FB.slot_bytes_getitem W.FB.entry_bytes_getitem (W.FB.args_bytes_getitem_2 _ _) (W.KBc.meets_slice2 x t _ pl pu)
    ⟨Heap.IsSliceOf.new _ _ _ _, Nat.le_trans (W.KBc.size_picked_le x l u) hsz, fun t' k => ?_⟩) hs
  exact hQ _ _ (S.tok (S.grow c (h := s₃.heap.push { cls := .type "slice", data := .fields #[vl, vu, .none] }) (t := s₃.toks) (fun z_ z_1 e => Heap.get?_push_of_some _ e)) k)

theorem x_addL {Q : Value → Shared → Prop} (S : Stab w ad env sc V C) (c : C B s) (hl : s.heap.IsList a xs.toArray) (hb : s.heap.IsList b ys.toArray) (hz : xs.length + ys.length ≤ sizeLine)
    (h : ∀ e s' B', B.le B' → B' e = some (listObj (xs ++ ys)) → C B' s' → Q (.ref e) s') : wpAny (model prog w) A (binaryOp .Add (.ref a) (.ref b)) Q E s := by
  obtain ⟨⟨cls, dd, data, sl⟩, ho, hc, n, hd⟩ := id hl
  obtain ⟨⟨cls2, dd2, data2, sl2⟩, ho2, hc2, n2, hd2⟩ := id hb
  simp only at hc hd hc2 hd2
  subst hc hd hc2 hd2
  refine concat_meets ⟨_, ho, rfl⟩ ⟨_, ho2, rfl⟩ noFill_list_add seq_list_add PySem.F.slot_list_add PySem.F.entry_list_add (PySem.F.args_list_add_2 _ _) (list_addW a b xs.toArray ys.toArray n n2 dd dd2 sl sl2 (by simpa using hz)) ⟨ho, ho2, ?_⟩
  rw [show xs.toArray ++ ys.toArray = (xs ++ ys).toArray by simp]
  exact h _ _ _ (S.newle c _) Ph.put_self (S.new c (listObj (xs ++ ys)) rfl (t := s.toks))
theorem x_addLO {Q : Value → Shared → Prop} (c : Cx w ad s₀ B₀ env sc V N B s) (hl : s.heap.IsList a xs.toArray) (hb : s.heap.IsList b ys.toArray) (hz : xs.length + ys.length ≤ sizeLine)
    (h : ∀ e s', Cx w ad s₀ B₀ env sc V ((e, listObj (xs ++ ys)) :: N) B s' → Q (.ref e) s') : wpAny (model prog w) A (binaryOp .Add (.ref a) (.ref b)) Q E s := by
  obtain ⟨⟨cls, dd, data, sl⟩, ho, hc, n, hd⟩ := id hl
  obtain ⟨⟨cls2, dd2, data2, sl2⟩, ho2, hc2, n2, hd2⟩ := id hb
  simp only at hc hd hc2 hd2
  subst hc hd hc2 hd2
  refine concat_meets ⟨_, ho, rfl⟩ ⟨_, ho2, rfl⟩ noFill_list_add seq_list_add PySem.F.slot_list_add PySem.F.entry_list_add (PySem.F.args_list_add_2 _ _) (list_addW a b xs.toArray ys.toArray n n2 dd dd2 sl sl2 (by simpa using hz)) ⟨ho, ho2, ?_⟩
  rw [show xs.toArray ++ ys.toArray = (xs ++ ys).toArray by simp]
  exact h _ _ (c.alloc (listObj (xs ++ ys)) rfl (t := s.toks))
theorem x_addB {l r : List UInt8} {Q : Value → Shared → Prop} (S : Stab w ad env sc V C) (c : C B s) (hz : l.length + r.length ≤ 16777216) (h : ∀ t s', C B s' → Q (.bytes (l ++ r).toArray t) s') :
    wpAny (model prog w) A (binaryOp .Add (.bytes l.toArray t) (.bytes r.toArray u)) Q E s :=
  W.KBy.add_bytes (by simpa using hz) (fun t' k => by rw [show l.toArray ++ r.toArray = (l ++ r).toArray by simp]; exact h _ _ (S.tok c _))

theorem listObj_push : ({ cls := .type "list", data := .seq (xs.toArray.push x) (n + 1) } : Obj) = listObj (xs ++ [x]) (n + 1) := by simp [listObj]
theorem x_append {N' : List (Addr × Obj)} {Q : Value → Shared → Prop} (c : Cx w ad s₀ B₀ env sc V N B s) (P : Sel a (listObj xs n) (listObj (xs ++ [x]) (n + 1)) N N') (hz : xs.length ≤ sizeLine) (h : ∀ s', Cx w ad s₀ B₀ env sc V N' B s' → Q .none s') :
    wpAny (model prog w) A (call (.builtin "list.append") [.ref a, x]) Q E s :=
  append_at (its := xs.toArray) (n := n) (c.own _ P.mem) (fun h' hs ho => h _ (c.upd (t := s.toks) P hs (ho.trans (by rw [listObj_push])))) (by simpa using hz)
end
end
section
open PySem PySem.Calls PyProof.Rows

section
variable {w : World} {ad : Ad} {s₀ : Shared} {B₀ : Ph} {env : Env} {sc : Sc} {V : List (Option Value)} {N L L' : List (Addr × Obj)} {B : Ph} {s : Shared}

theorem priv_mem {a : Addr} {N : List (Addr × Obj)} (h : a ∈ N.map (·.1)) : a ∈ priv env N := List.mem_cons_of_mem _ (List.mem_append_right _ h)

theorem Cx.turn (c : Cx w ad s₀ B₀ env sc V (N ++ L) B s) (hL : L'.map (·.1) = L.map (·.1)) {h : Heap} {t : Nat} (e : ∀ b o, b ∉ L.map (·.1) → s.heap.get? b = some o → h.get? b = some o) (g : ∀ p ∈ L', h.get? p.1 = some p.2) :
    Cx w ad s₀ B₀ env sc V (N ++ L') B { s with heap := h, toks := t } := by
  have eP : priv env (N ++ L') = priv env (N ++ L) := by unfold priv; rw [List.map_append, List.map_append, hL]
  have inL : ∀ b, b ∈ L.map (·.1) → b ∈ priv env (N ++ L) := fun b hb => priv_mem (by rw [List.map_append]; exact List.mem_append_right _ hb)
  have sepN := c.sepN
  rw [List.map_append] at sepN
  have hloc : env.locals ∉ L.map (·.1) := fun z => (List.nodup_cons.mp c.sep).1 (List.mem_append_right _ (by rw [List.map_append]; exact List.mem_append_right _ z))
  have hcell : ∀ q ∈ env.cells, q.2 ∉ L.map (·.1) := fun q hq z => (List.nodup_append.mp (List.nodup_cons.mp c.sep).2).2.2 q.2 (List.mem_map_of_mem hq) q.2 (by rw [List.map_append]; exact List.mem_append_right _ z) rfl
  have hNL : ∀ p ∈ N, p.1 ∉ L.map (·.1) := fun p hp z => (List.nodup_append.mp sepN).2.2 p.1 (List.mem_map_of_mem hp) p.1 z rfl
  have keep : ∀ b o, B b = some o → h.get? b = some o := fun b o q => e b o (fun z => by rw [(c.fresh b (inL b z)).2] at q; cases q) (c.rd.keep b o q)
  obtain ⟨m, cm, h1, h2, h3⟩ := c.rd.store
  refine ⟨⟨c.rd.ok, c.rd.wd, keep, m, cm, h1.at' fun o q => e _ o hloc q, fun n q hq => ?_, h3⟩, c.len, ?_, fun p hp => ?_, eP ▸ c.sep, eP ▸ c.fresh⟩
  · obtain ⟨o, ho, r⟩ := h2 n q hq
    exact ⟨o, e _ o (hcell _ hq) ho, r⟩
  · obtain ⟨h1, t1, e1⟩ := c.ret.same
    exact ⟨⟨h, t, by rw [e1]⟩, fun b o q => e b o (fun z => by rw [(c.fresh b (inL b z)).1] at q; cases q) (c.ret.ext b o q), c.ret.le, c.ret.new, keep⟩
  · rcases List.mem_append.mp hp with hp | hp
    · exact e _ _ (hNL p hp) (c.own p (List.mem_append_left _ hp))
    · exact g p hp

theorem Cx.sub (c : Cx w ad s₀ B₀ env sc V N B s) {N' : List (Addr × Obj)} (hs : N'.Sublist N) : Cx w ad s₀ B₀ env sc V N' B s := by
  have sub : (priv env N').Sublist (priv env N) := by
    unfold priv
    exact (((hs.map _)).append_left _).cons_cons _
  exact ⟨c.rd, c.len, c.ret, fun p hp => c.own p (hs.subset hp), c.sep.sublist sub, fun a ha => c.fresh a (sub.subset ha)⟩

theorem Cx.perm (c : Cx w ad s₀ B₀ env sc V N B s) {N' : List (Addr × Obj)} (hp : N'.Perm N) : Cx w ad s₀ B₀ env sc V N' B s := by
  have pp : (priv env N').Perm (priv env N) := by
    unfold priv
    exact List.Perm.cons _ (List.Perm.append_left _ (hp.map _))
  exact ⟨c.rd, c.len, c.ret, fun p q => c.own p (hp.mem_iff.mp q), pp.nodup_iff.mpr c.sep, fun a ha => c.fresh a (pp.mem_iff.mp ha)⟩

theorem Cx.drop (c : Cx w ad s₀ B₀ env sc V (N ++ L) B s) {h : Heap} {t : Nat} (e : ∀ b o, b ∉ L.map (·.1) → s.heap.get? b = some o → h.get? b = some o) :
    Cx w ad s₀ B₀ env sc V N B { s with heap := h, toks := t } := by
  have inL : ∀ b, b ∈ L.map (·.1) → b ∈ priv env (N ++ L) := fun b hb => priv_mem (by rw [List.map_append]; exact List.mem_append_right _ hb)
  have sepN := c.sepN
  rw [List.map_append] at sepN
  have hloc : env.locals ∉ L.map (·.1) := fun z => (List.nodup_cons.mp c.sep).1 (List.mem_append_right _ (by rw [List.map_append]; exact List.mem_append_right _ z))
  have hcell : ∀ q ∈ env.cells, q.2 ∉ L.map (·.1) := fun q hq z => (List.nodup_append.mp (List.nodup_cons.mp c.sep).2).2.2 q.2 (List.mem_map_of_mem hq) q.2 (by rw [List.map_append]; exact List.mem_append_right _ z) rfl
  have hNL : ∀ p ∈ N, p.1 ∉ L.map (·.1) := fun p hp z => (List.nodup_append.mp sepN).2.2 p.1 (List.mem_map_of_mem hp) p.1 z rfl
  have keep : ∀ b o, B b = some o → h.get? b = some o := fun b o q => e b o (fun z => by rw [(c.fresh b (inL b z)).2] at q; cases q) (c.rd.keep b o q)
  obtain ⟨m, cm, h1, h2, h3⟩ := c.rd.store
  have c' := c.sub (List.sublist_append_left N L)
  refine ⟨⟨c.rd.ok, c.rd.wd, keep, m, cm, h1.at' fun o q => e _ o hloc q, fun n q hq => ?_, h3⟩, c.len, ?_, fun p hp => e _ _ (hNL p hp) (c'.own p hp), c'.sep, c'.fresh⟩
  · obtain ⟨o, ho, r⟩ := h2 n q hq
    exact ⟨o, e _ o (hcell _ hq) ho, r⟩
  · obtain ⟨h1, t1, e1⟩ := c.ret.same
    exact ⟨⟨h, t, by rw [e1]⟩, fun b o q => e b o (fun z => by rw [(c.fresh b (inL b z)).1] at q; cases q) (c.ret.ext b o q), c.ret.le, c.ret.new, keep⟩

theorem Cx.adopt (c : Cx w ad s₀ B₀ env sc V N B s) {a : Addr} {o : Obj} (ha : s.heap.get? a = some o) (hp : a ∉ priv env N) (hB : B a = none) (h0 : s₀.heap.get? a = none) : Cx w ad s₀ B₀ env sc V N (B.put a o) s := by
  have le := Ph.le_put (o := o) hB
  have keep : ∀ b o', B.put a o b = some o' → s.heap.get? b = some o' := fun b o' q => by
    unfold Ph.put at q
    split at q
    · rename_i z; subst z; cases q; exact ha
    · exact c.rd.keep b o' q
  refine ⟨⟨c.rd.ok, c.rd.wd.mono le, keep, c.rd.store⟩, c.len, ⟨c.ret.same, c.ret.ext, Ph.le_trans c.ret.le le, fun b o' q => ?_, keep⟩, c.own, c.sep, fun b hb => ⟨(c.fresh b hb).1, ?_⟩⟩
  · unfold Ph.put at q
    split at q
    · rename_i z; subst z; exact .inr h0
    · exact c.ret.new b o' q
  · unfold Ph.put
    rw [if_neg (fun z => by subst z; exact hp hb)]
    exact (c.fresh b hb).2
end

theorem Cx.freeze' {w : World} {ad : Ad} {s₀ : Shared} {B₀ : Ph} {env : Env} {sc : Sc} {V : List (Option Value)} {N N' : List (Addr × Obj)} {B : Ph} {s : Shared} (c : Cx w ad s₀ B₀ env sc V N B s) {a : Addr} {o : Obj} (D : Del a o N N') : ∃ B', B.le B' ∧ B' a = some o ∧ Cx w ad s₀ B₀ env sc V N' B' s :=
  let ⟨c', le⟩ := c.freeze D; ⟨_, le, Ph.put_self, c'⟩

structure Iter (prog : Program) (w : World) (ad : Ad) (s₀ : Shared) (B₀ : Ph) (env : Env) (sc : Sc) (Bm : Ph) (I : Addr) (M : List D → List (Addr × Obj) → Prop) : Prop where
  item : ∀ {A : Around} {E : Value → Shared → Prop} {Q : Option Value → Shared → Prop} {s V N B L d ds}, A.handled = none → M (d :: ds) L → Bm.le B → Cx w ad s₀ B₀ env sc V (N ++ L) B s →
    (∀ v L' s', M ds L' → Rep B v d → Cx w ad s₀ B₀ env sc V (N ++ L') B s' → Q (some v) s') → wpAny (model prog w) A (pyNext (.ref I)) Q E s
  goT : ∀ {A : Around} {E : Value → Shared → Prop} {Q : Unit → Shared → Prop} {s V N B L v ds elts k p}, M ds L → Cx w ad s₀ B₀ env sc V (N ++ L) B s →
    Q () s → wpAny (model prog w) A (letOwnedTupleGo (.Tuple elts k p) (.ref I) v) Q E s
  done : ∀ {A : Around} {E : Value → Shared → Prop} {Q : Option Value → Shared → Prop} {s V N B L}, A.handled = none → M [] L → Bm.le B → Cx w ad s₀ B₀ env sc V (N ++ L) B s →
    (∀ s', Cx w ad s₀ B₀ env sc V N B s' → Q none s') → wpAny (model prog w) A (pyNext (.ref I)) Q E s
  self : ∀ {A : Around} {E : Value → Shared → Prop} {Q : Value → Shared → Prop} {s V N B L ds}, M ds L → Cx w ad s₀ B₀ env sc V (N ++ L) B s → Q (.ref I) s → wpAny (model prog w) A (pyIter (.ref I)) Q E s

section
variable {prog : Program} {w : World} {ad : Ad} {A : Around} {E : Value → Shared → Prop} {s : Shared} {B Bm : Ph} {env : Env} {sc : Sc} {V : List (Option Value)} {s₀ : Shared} {B₀ : Ph} {N L : List (Addr × Obj)} {pos p' : Pos} {a I : Addr} {xs : List Value} {n : Nat} {ds : List D}

theorem go_plain {elts : List Expr} {k : Nat} {pos : Pos} {v : Value} {o : Obj} {T : String} {vs : Array Value} {Q : Unit → Shared → Prop} (ho : s.heap.get? I = some o) (hc : o.cls = .type T) (hd : o.data = .fields vs)
    (hT : ["enumerate", "zip", "dict_itemiterator", "dict_reverseitemiterator", "odict_iterator", "itertools.zip_longest", "itertools.pairwise"].contains T = false) (hQ : Q () s) :
    wpAny (model prog w) A (letOwnedTupleGo (.Tuple elts k pos) (.ref I) v) Q E s := by
  unfold letOwnedTupleGo
  cases v with
  | ref T' =>
    refine wpAny_bind (wpAny_load ho ?_)
    rw [hc, hd]
    show wpAny _ A (if (["enumerate", "zip", "dict_itemiterator", "dict_reverseitemiterator", "odict_iterator", "itertools.zip_longest", "itertools.pairwise"].contains T && vs[0]? == some (rawInt T')) = true then _ else _) Q E s
    rw [if_neg (by rw [hT, Bool.false_and]; exact Bool.false_ne_true)]
    exact wpAny_pure hQ
  | _ => exact wpAny_pure hQ

inductive ListM (Bm : Ph) (I a : Addr) (xs : List Value) (ds : List D) (L : List (Addr × Obj)) : Prop
  | mk (o : Obj) (i : Nat) (e : L = [(I, o)]) (hc : o.cls = .type "list_iterator") (hd : o.data = .fields #[.ref a, .int (i : Nat) 0]) (r : Reps Bm (xs.drop i) ds) : ListM Bm I a xs ds L
theorem Iter.list (hB : Bm a = some (listObj xs n)) : Iter prog w ad s₀ B₀ env sc Bm I (ListM Bm I a xs) where
  item := by
    rintro A E Q s V N B L d ds hh ⟨o, i, rfl, hc, hd, r⟩ le c hQ
    have hit : s.heap.IsListIter I a i := ⟨o, c.own _ (List.mem_append_right _ (.head _)), hc, hd⟩
    have hl : s.heap.IsList a xs.toArray := isList_of (c.rd.keep _ _ (le _ _ hB))
    cases hx : xs.drop i with
    | nil => rw [hx] at r; cases r
    | cons x r' =>
      have hi : xs[i]? = some x := by rw [← List.head?_drop, hx]; rfl
      have hr : xs.drop (i + 1) = r' := by rw [← List.drop_drop, hx]; rfl
      rw [hx] at r
      obtain ⟨hrep, r⟩ := Reps.both r
      refine wpAny_pyNext_list_item hit hl (x := x) (by simpa using hi) fun h' ⟨o', ho', hc', hd'⟩ hs' => ?_
      refine hQ _ [(I, o')] _ ⟨o', i + 1, rfl, hc', hd', hr ▸ r⟩ (hrep.mono le) (c.turn (L' := [(I, o')]) (t := s.toks) rfl (fun b o hb e => (hs'.2 b (fun z => hb (by simp [z]))).trans e) fun p hp => ?_)
      cases List.mem_singleton.mp hp; exact ho'
  goT := by
    rintro A E Q s V N B L v ds elts k p ⟨o, i, rfl, hc, hd, r⟩ c hQ
    exact go_plain (c.own _ (List.mem_append_right _ (.head _))) hc hd (by decide) hQ
  done := by
    rintro A E Q s V N B L hh ⟨o, i, rfl, hc, hd, r⟩ le c hQ
    have hit : s.heap.IsListIter I a i := ⟨o, c.own _ (List.mem_append_right _ (.head _)), hc, hd⟩
    have hl : s.heap.IsList a xs.toArray := isList_of (c.rd.keep _ _ (le _ _ hB))
    have hx : xs.toArray[i]? = none := by
      generalize hz : xs.drop i = z at r
      cases r
      simpa using hz
    exact wpAny_pyNext_list_end hh hit hl hx fun h' he => hQ _ (c.drop (t := s.toks) fun b o hb e => he b o (fun z => hb (by simp [z])) e)
  self := by
    rintro A E Q s V N B L ds ⟨o, i, rfl, hc, hd, r⟩ c hQ
    exact wpAny_pyIter_listiter ⟨o, c.own _ (List.mem_append_right _ (.head _)), hc, hd⟩ hQ

inductive TupM (Bm : Ph) (I a : Addr) (xs : List Value) (ds : List D) (L : List (Addr × Obj)) : Prop
  | mk (o : Obj) (i : Nat) (e : L = [(I, o)]) (hc : o.cls = .type "tuple_iterator") (hd : o.data = .fields #[.ref a, .int (i : Nat) 0]) (r : Reps Bm (xs.drop i) ds) : TupM Bm I a xs ds L
theorem Iter.tup (hB : Bm a = some (tupObj xs n)) : Iter prog w ad s₀ B₀ env sc Bm I (TupM Bm I a xs) where
  item := by
    rintro A E Q s V N B L d ds hh ⟨o, i, rfl, hc, hd, r⟩ le c hQ
    have hit : s.heap.IsTupleIter I a i := ⟨o, c.own _ (List.mem_append_right _ (.head _)), hc, hd⟩
    have hl : s.heap.IsTuple a xs.toArray := isTup_of (c.rd.keep _ _ (le _ _ hB))
    cases hx : xs.drop i with
    | nil => rw [hx] at r; cases r
    | cons x r' =>
      have hi : xs[i]? = some x := by rw [← List.head?_drop, hx]; rfl
      have hr : xs.drop (i + 1) = r' := by rw [← List.drop_drop, hx]; rfl
      rw [hx] at r
      obtain ⟨hrep, r⟩ := Reps.both r
      refine wpAny_pyNext_tuple_item hit hl (x := x) (by simpa using hi) fun h' ⟨o', ho', hc', hd'⟩ hs' => ?_
      refine hQ _ [(I, o')] _ ⟨o', i + 1, rfl, hc', hd', hr ▸ r⟩ (hrep.mono le) (c.turn (L' := [(I, o')]) (t := s.toks) rfl (fun b o hb e => (hs'.2 b (fun z => hb (by simp [z]))).trans e) fun p hp => ?_)
      cases List.mem_singleton.mp hp; exact ho'
  goT := by
    rintro A E Q s V N B L v ds elts k p ⟨o, i, rfl, hc, hd, r⟩ c hQ
    exact go_plain (c.own _ (List.mem_append_right _ (.head _))) hc hd (by decide) hQ
  done := by
    rintro A E Q s V N B L hh ⟨o, i, rfl, hc, hd, r⟩ le c hQ
    have hit : s.heap.IsTupleIter I a i := ⟨o, c.own _ (List.mem_append_right _ (.head _)), hc, hd⟩
    have hl : s.heap.IsTuple a xs.toArray := isTup_of (c.rd.keep _ _ (le _ _ hB))
    have hx : xs.toArray[i]? = none := by
      generalize hz : xs.drop i = z at r
      cases r
      simpa using hz
    exact wpAny_pyNext_tuple_end hh hit hl hx fun h' he => hQ _ (c.drop (t := s.toks) fun b o hb e => he b o (fun z => hb (by simp [z])) e)
  self := by
    rintro A E Q s V N B L ds ⟨o, i, rfl, hc, hd, r⟩ c hQ
    exact wpAny_pyIter_tupleiter ⟨o, c.own _ (List.mem_append_right _ (.head _)), hc, hd⟩ hQ

noncomputable def steps (x c : Int) : Nat → List Int
  | 0 => []
  | n + 1 => x :: steps (x + c) c n
noncomputable def RangeM (I : Addr) (c : Int) : List D → List (Addr × Obj) → Prop := fun ds L => ∃ (x : Int) (n : Nat), L = [(I, { cls := .type "range_iterator", data := .fields #[rawInt x, rawInt n, rawInt c] })] ∧ ds = (steps x c n).map .int
theorem Iter.range {c : Int} : Iter prog w ad s₀ B₀ env sc Bm I (RangeM I c) where
  item := by
    rintro A E Q s V N B L d ds hh ⟨x, n, rfl, e⟩ le cx hQ
    cases n with
    | zero => cases e
    | succ n =>
      simp only [steps, List.map_cons, List.cons.injEq] at e
      obtain ⟨rfl, rfl⟩ := e
      refine wpAny_pyNext_range_item (cx.own _ (List.mem_append_right _ (.head _))) (by push_cast; lia) fun h' hit hs' => ?_
      refine hQ _ [(I, { cls := .type "range_iterator", data := .fields #[rawInt (x + c), rawInt n, rawInt c] })] _ ⟨x + c, n, rfl, rfl⟩ (.int _ _) (cx.turn (L' := [(I, { cls := .type "range_iterator", data := .fields #[rawInt (x + c), rawInt n, rawInt c] })]) (t := s.toks + 1) rfl (fun b o hb e => (hs'.2 b (fun z => hb (by simp [z]))).trans e) fun p hp => ?_)
      cases List.mem_singleton.mp hp
      have : ((n + 1 : Nat) : Int) - 1 = n := by push_cast; lia
      unfold IsRangeIter at hit
      rw [this] at hit
      exact hit
  goT := by
    rintro A E Q s V N B L v ds elts k p ⟨x, n, rfl, e⟩ cx hQ
    exact go_plain (cx.own _ (List.mem_append_right _ (.head _))) rfl rfl (by decide) hQ
  done := by
    rintro A E Q s V N B L hh ⟨x, n, rfl, e⟩ le cx hQ
    cases n with
    | succ n => cases e
    | zero => exact wpAny_pyNext_range_end hh (cx.own _ (List.mem_append_right _ (.head _))) (by simp) fun h' he => hQ _ (cx.drop (t := s.toks) fun b o hb e => he b o (fun z => hb (by simp [z])) e)
  self := by
    rintro A E Q s V N B L ds ⟨x, n, rfl, e⟩ cx hQ
    exact wpAny_pyIter_rangeiter (cx.own _ (List.mem_append_right _ (.head _))) hQ

theorem perm_last {α : Type} (x : α) (l : List α) : (l ++ [x]).Perm (x :: l) := List.perm_append_singleton x l

theorem x_iterL {Q : Value → Shared → Prop} (c : Cx w ad s₀ B₀ env sc V N B s) (hB : B a = some (listObj xs n)) (r : Reps B xs ds) (h : ∀ I M L s', Iter prog w ad s₀ B₀ env sc B I M → M ds L → Cx w ad s₀ B₀ env sc V (N ++ L) B s' → Q (.ref I) s') :
    wpAny (model prog w) A (pyIter (.ref a)) Q E s :=
  wpAny_pyIter_list (isList_of (c.rd.keep _ _ hB)) (h _ (ListM B _ a xs) [(_, _)] _ (Iter.list hB) ⟨_, 0, rfl, rfl, rfl, r⟩ ((c.alloc (t := s.toks) _ rfl).perm (perm_last _ _)))
theorem x_iterT {Q : Value → Shared → Prop} (c : Cx w ad s₀ B₀ env sc V N B s) (hB : B a = some (tupObj xs n)) (r : Reps B xs ds) (h : ∀ I M L s', Iter prog w ad s₀ B₀ env sc B I M → M ds L → Cx w ad s₀ B₀ env sc V (N ++ L) B s' → Q (.ref I) s') :
    wpAny (model prog w) A (pyIter (.ref a)) Q E s :=
  wpAny_pyIter_tuple (isTup_of (c.rd.keep _ _ hB)) (h _ (TupM B _ a xs) [(_, _)] _ (Iter.tup hB) ⟨_, 0, rfl, rfl, rfl, r⟩ ((c.alloc (t := s.toks) _ rfl).perm (perm_last _ _)))

noncomputable def rangeObj (a b c : Int) (t u v : Tok) : Obj := { cls := .type "range", data := .fields #[.int a t, .int b u, .int c v] }
theorem x_iterR {x y c : Int} {t u v : Tok} {m : Nat} {Q : Value → Shared → Prop} (cx : Cx w ad s₀ B₀ env sc V N B s) (hB : B a = some (rangeObj x y c t u v)) (hsm : Builtin.Range.small x y c = true) (hm : Builtin.Range.rangeSize x y c = m)
    (h : ∀ I M L s', Iter prog w ad s₀ B₀ env sc B I M → M ((steps x c m).map .int) L → Cx w ad s₀ B₀ env sc V (N ++ L) B s' → Q (.ref I) s') :
    wpAny (model prog w) A (pyIter (.ref a)) Q E s :=
  wpAny_pyIter_range (cx.rd.keep _ _ hB) hsm (h _ (RangeM _ c) [(_, _)] _ Iter.range ⟨x, m, by rw [hm], rfl⟩ ((cx.alloc (t := s.toks) _ rfl).perm (perm_last _ _)))

theorem x_for {target iter : Expr} {body orelse : List Stmt} {Q : Flow → Shared → Prop} (hs : ∀ x, foldedSetIterable iter env x = pure x)
    (h : ∀ R : Result → Shared → Prop, R = (fun r s' => match r with | .ok f => Q f s' | .error e => cameBackBy (model prog w) A env E e s') →
      wpAny (model prog w) A (eval iter env) (fun x s₁ => wpAny (model prog w) A (pyIter x) (fun it s₂ => codeAny (model prog w) A (.forLoop target it body orelse env) R s₂) E s₁) E s) :
    wpAny (model prog w) A (exec (.For target iter body orelse pos) env) Q E s := wpAny_For (h _ rfl) hs
theorem s_done {R : Result → Shared → Prop} {Q : Flow → Shared → Prop} {f : Flow} (hR : R = (fun r s' => match r with | .ok f => Q f s' | .error e => cameBackBy (model prog w) A env E e s')) (h : Q f s) : R (.ok f) s := by subst hR; exact h
noncomputable def turned (R : Result → Shared → Prop) (P : Shared → Prop) (f : Flow) (s : Shared) : Prop := match f with
  | .next | .cont => P s
  | .brk => R (.ok .next) s
  | .ret v => R (.ok (.ret v)) s
theorem s_turn {R : Result → Shared → Prop} {P : Shared → Prop} {Qb : Flow → Shared → Prop} (hQ : Qb = turned R P) (h : P s) : Qb .next s := by subst hQ; exact h
theorem s_turnR {R : Result → Shared → Prop} {P : Shared → Prop} {Qb : Flow → Shared → Prop} {v : Value} (hQ : Qb = turned R P) (h : R (.ok (.ret v)) s) : Qb (.ret v) s := by subst hQ; exact h

theorem f_loop {target : Expr} {body orelse : List Stmt} {R : Result → Shared → Prop} {M : List D → List (Addr × Obj) → Prop} (Inv : List D → List (Option Value) → List (Addr × Obj) → Ph → Prop)
    (hgo : (∃ x p, target = .Name x p) ∨ (∃ elts k p, target = .Tuple elts k p))
    (It : Iter prog w ad s₀ B₀ env sc Bm I M) (h0 : M ds L) (hA : A.handled = none) (hInv : Inv ds V N B) (le : Bm.le B) (c : Cx w ad s₀ B₀ env sc V (N ++ L) B s)
    (turn : ∀ d ds V N B s L v, Inv (d :: ds) V N B → Bm.le B → Rep B v d → Cx w ad s₀ B₀ env sc V (N ++ L) B s → ∀ (Qb : Flow → Shared → Prop) (Eb : Value → Shared → Prop), Qb = turned R (fun s₃ => ∃ V' N' B', Inv ds V' N' B' ∧ B.le B' ∧ Cx w ad s₀ B₀ env sc V' (N' ++ L) B' s₃) →
      wpAny (model prog w) A (assign target env v) (fun z_ s₂ => wpAny (model prog w) A (execs body env) Qb Eb s₂) Eb s)
    (fin : ∀ V N B s, Inv [] V N B → Bm.le B → Cx w ad s₀ B₀ env sc V N B s → wpAny (model prog w) A (execs orelse env) (fun f s₃ => R (.ok f) s₃) (notedBy (model prog w) A env fun e s' => R (.error e) s') s) :
    codeAny (model prog w) A (.forLoop target (.ref I) body orelse env) R s := by
  refine codeAny_forLoop_any (fun k s => ∃ ds V N B L, k = ds.length ∧ M ds L ∧ Inv ds V N B ∧ Bm.le B ∧ Cx w ad s₀ B₀ env sc V (N ++ L) B s) ?_ ds.length ⟨ds, V, N, B, L, rfl, h0, hInv, le, c⟩
  rintro k s ⟨ds, V, N, B, L, rfl, h0, hInv, le, c⟩
  cases ds with
  | nil => exact It.done hA h0 le c fun s' c' => fin V N B s' hInv le c'
  | cons d ds =>
    refine It.item hA h0 le c fun v L' s' h1 hr c' => ?_
    have step := turn d ds V N B s' L' v hInv le hr c' _ (notedBy (model prog w) A env fun e s' => R (.error e) s') rfl
    have step' := wpAny_mono step (Q' := fun z_ s₂ => wpAny (model prog w) A (execs body env) (fun f s₃ => match f with
            | .next | .cont => ∃ m, m < (d :: ds).length ∧ ∃ ds V N B L, m = ds.length ∧ M ds L ∧ Inv ds V N B ∧ Bm.le B ∧ Cx w ad s₀ B₀ env sc V (N ++ L) B s₃
            | .brk => R (.ok .next) s₃
            | .ret v => R (.ok (.ret v)) s₃) (notedBy (model prog w) A env fun e s' => R (.error e) s') s₂)
      (fun z_ s₂ h₂ => wpAny_mono h₂ (fun f s₃ h₃ => by
        cases f with
        | next => obtain ⟨V', N', B', i1, i2, i3⟩ := h₃; exact ⟨ds.length, by simp, ds, V', N', B', L', rfl, h1, i1, Ph.le_trans le i2, i3⟩
        | cont => obtain ⟨V', N', B', i1, i2, i3⟩ := h₃; exact ⟨ds.length, by simp, ds, V', N', B', L', rfl, h1, i1, Ph.le_trans le i2, i3⟩
        | brk => exact h₃
        | ret v => exact h₃) fun z_ z_1 x => x) fun z_ z_1 x => x
    rcases hgo with ⟨x, p, rfl⟩ | ⟨elts, k, p, rfl⟩
    · exact wpAny_pure step'
    · exact It.goT h1 c' step'

theorem x_while {test : Expr} {body orelse : List Stmt} {Q : Flow → Shared → Prop}
    (h : ∀ R : Result → Shared → Prop, R = (fun r s' => match r with | .ok f => Q f s' | .error e => cameBackBy (model prog w) A env E e s') → codeAny (model prog w) A (.whileLoop test body orelse env) R s) :
    wpAny (model prog w) A (exec (.While test body orelse pos) env) Q E s := wpAny_While (h _ rfl)
theorem w_loop {test : Expr} {body : List Stmt} {R : Result → Shared → Prop} (Inv : Nat → List (Option Value) → List (Addr × Obj) → Ph → Prop)
    (turn : ∀ n V N B s, Inv n V N B → Cx w ad s₀ B₀ env sc V N B s → ∀ (Qb : Flow → Shared → Prop) (Eb : Value → Shared → Prop), Qb = turned R (fun s₃ => ∃ m V' N' B', m < n ∧ Inv m V' N' B' ∧ Cx w ad s₀ B₀ env sc V' N' B' s₃) →
      wpAny (model prog w) A (isTrue test env (eval test env)) (fun b s₂ => Br b (wpAny (model prog w) A (execs body env) Qb Eb s₂) (R (.ok .next) s₂)) Eb s)
    (hInv : Inv n V N B) (c : Cx w ad s₀ B₀ env sc V N B s) : codeAny (model prog w) A (.whileLoop test body [] env) R s := by
  refine codeAny_whileLoop (fun k s => ∃ V N B, Inv k V N B ∧ Cx w ad s₀ B₀ env sc V N B s) ?_ n ⟨V, N, B, hInv, c⟩
  rintro k s ⟨V, N, B, hInv, c⟩
  refine wpAny_mono (turn k V N B s hInv c _ (notedBy (model prog w) A env fun e s' => R (.error e) s') rfl) (fun b s₂ h₂ => ?_) fun z_ z_1 x => x
  cases b with
  | false => rw [if_neg Bool.false_ne_true]; exact wpAny_execs_nil (h₂.2 rfl)
  | true =>
    rw [if_pos rfl]
    refine wpAny_mono (h₂.1 rfl) (fun f s₃ h₃ => ?_) fun z_ z_1 x => x
    cases f with
    | next => obtain ⟨m, V', N', B', h1, h2, h3⟩ := h₃; exact ⟨m, h1, V', N', B', h2, h3⟩
    | cont => obtain ⟨m, V', N', B', h1, h2, h3⟩ := h₃; exact ⟨m, h1, V', N', B', h2, h3⟩
    | brk => exact h₃
    | ret v => exact h₃
end

noncomputable def GoT (target : Expr) : Prop := (∃ x p, target = .Name x p) ∨ (∃ elts k p, target = .Tuple elts k p)
structure IterT (prog : Program) (w : World) (ad : Ad) (s₀ : Shared) (B₀ : Ph) (env : Env) (sc : Sc) (Bm : Ph) (target : Expr) (I : Addr) (M : List D → List (Addr × Obj) → Prop) : Prop where
  item : ∀ {A : Around} {E : Value → Shared → Prop} {Q : Value → Shared → Prop} {s V N B L d ds}, A.handled = none → M (d :: ds) L → Bm.le B → Cx w ad s₀ B₀ env sc V (N ++ L) B s →
    (∀ v B' L' s', B.le B' → M ds L' → Rep B' v d → Cx w ad s₀ B₀ env sc V (N ++ L') B' s' → Q v s') →
    wpAny (model prog w) A (pyNext (.ref I)) (fun r s₁ => ∃ v, r = some v ∧ wpAny (model prog w) A (letOwnedTupleGo target (.ref I) v) (fun z_ => Q v) E s₁) E s
  done : ∀ {A : Around} {E : Value → Shared → Prop} {Q : Option Value → Shared → Prop} {s V N B L}, A.handled = none → M [] L → Bm.le B → Cx w ad s₀ B₀ env sc V (N ++ L) B s →
    (∀ s', Cx w ad s₀ B₀ env sc V N B s' → Q none s') → wpAny (model prog w) A (pyNext (.ref I)) Q E s
  self : ∀ {A : Around} {E : Value → Shared → Prop} {Q : Value → Shared → Prop} {s V N B L ds}, M ds L → Cx w ad s₀ B₀ env sc V (N ++ L) B s → Q (.ref I) s → wpAny (model prog w) A (pyIter (.ref I)) Q E s

section
variable {prog : Program} {w : World} {ad : Ad} {A : Around} {E : Value → Shared → Prop} {s : Shared} {B Bm : Ph} {env : Env} {sc : Sc} {V : List (Option Value)} {s₀ : Shared} {B₀ : Ph} {N L : List (Addr × Obj)} {pos p' : Pos} {a I : Addr} {xs : List Value} {n : Nat} {ds : List D} {target : Expr}

theorem Iter.toT {M : List D → List (Addr × Obj) → Prop} (It : Iter prog w ad s₀ B₀ env sc Bm I M) (hgo : GoT target) : IterT prog w ad s₀ B₀ env sc Bm target I M where
  item := by
    intro A E Q s V N B L d ds hA hM le c hQ
    refine It.item hA hM le c fun v L' s' hM' hr c' => ⟨v, rfl, ?_⟩
    rcases hgo with ⟨x, p, rfl⟩ | ⟨elts, k, p, rfl⟩
    · exact wpAny_pure (hQ v B L' s' (Ph.le_refl B) hM' hr c')
    · exact It.goT hM' c' (hQ v B L' s' (Ph.le_refl B) hM' hr c')
  done := It.done
  self := It.self

noncomputable def enumObj (it : Addr) (i : Int) (old : Value) : Obj := { cls := .type "enumerate", dict := none, data := .fields #[.none, .bool false, .ref it, rawInt i, .none, old], slots := #[] }
noncomputable def enumD : Nat → List D → List D
  | _, [] => []
  | i, d :: ds => .tuple [.int i, d] :: enumD (i + 1) ds
inductive EnumM (Bm : Ph) (e l : Addr) (xs : List Value) (ds : List D) (L : List (Addr × Obj)) : Prop
  | mk (it : Addr) (oi : Obj) (i : Nat) (old : Value) (rest : List D) (h : L = [(e, enumObj it (i : Nat) old), (it, oi)]) (hc : oi.cls = .type "list_iterator") (hd : oi.data = .fields #[.ref l, .int (i : Nat) 0]) (r : Reps Bm (xs.drop i) rest) (e1 : ds = enumD i rest) : EnumM Bm e l xs ds L

theorem Cx.nePair {p q : Addr × Obj} (c : Cx w ad s₀ B₀ env sc V (N ++ [p, q]) B s) : p.1 ≠ q.1 := by
  have := c.sepN
  rw [List.map_append] at this
  have := (List.nodup_append.mp this).2.1
  simp only [List.map_cons, List.map_nil, List.nodup_cons, List.mem_singleton, List.not_mem_nil, not_false_eq_true, List.nodup_nil, and_true] at this
  exact this

theorem IterT.enum {e : Addr} {elts : List Expr} {k : Nat} {p : Pos} (hB : Bm a = some (listObj xs n)) : IterT prog w ad s₀ B₀ env sc Bm (.Tuple elts k p) e (EnumM Bm e a xs) where
  item := by
    rintro A E Q s V N B L d ds hh ⟨it, oi, i, old, rest, rfl, hc, hd, r, e1⟩ le c hQ
    cases hx : xs.drop i with
    | nil => rw [hx] at r; cases r; cases e1
    | cons x r' =>
      have hi : xs[i]? = some x := by rw [← List.head?_drop, hx]; rfl
      have hr : xs.drop (i + 1) = r' := by rw [← List.drop_drop, hx]; rfl
      rw [hx] at r
      cases r with
      | @cons _ _ dx rest' hrep r =>
        simp only [enumD, List.cons.injEq] at e1
        obtain ⟨rfl, rfl⟩ := e1
        have hne := c.nePair
        have he : IsEnum s.heap e it i old := c.own _ (List.mem_append_right _ (.head _))
        have hit : s.heap.IsListIter it a i := ⟨oi, c.own _ (List.mem_append_right _ (.tail _ (.head _))), hc, hd⟩
        have hl : s.heap.IsList a xs.toArray := isList_of (c.rd.keep _ _ (le _ _ hB))
        refine wpAny_pyNext_enum_item he hit hl (x := x) (by simpa using hi) hne fun h' ho hit' ht hsz hk => ⟨_, rfl, ?_⟩
        refine wpAny_letOwnedTupleGo_enum ho fun h2 he2 hs2 => ?_
        obtain ⟨oi', hi1, hi2, hi3⟩ := hit'
        have heT : e ≠ s.heap.objs.size := Nat.ne_of_lt (Heap.lt_size he)
        have hiT : it ≠ s.heap.objs.size := by obtain ⟨o, ho, _⟩ := hit; exact Nat.ne_of_lt (Heap.lt_size ho)
        have c1 : Cx w ad s₀ B₀ env sc V (N ++ [(e, enumObj it ((i + 1 : Nat) : Int) x), (it, oi')]) B { s with heap := h2, toks := s.toks + 1 } := by
          refine c.turn (L' := [(e, enumObj it ((i + 1 : Nat) : Int) x), (it, oi')]) rfl (fun b o hb q => ?_) fun p hp => ?_
          · have h1 : b ≠ e := fun z => hb (by simp [z])
            have h3 : b ≠ it := fun z => hb (by simp [z])
            exact (hs2.2 b h1).trans (hk b o h1 h3 q)
          · rcases List.mem_cons.mp hp with rfl | hp
            · have : IsEnum h2 e it ((i : Int) + 1) x := he2
              unfold IsEnum at this
              show h2.get? e = some (enumObj it ((i + 1 : Nat) : Int) x)
              rw [this]; push_cast; rfl
            · cases List.mem_singleton.mp hp
              exact (hs2.2 it (Ne.symm hne)).trans hi1
        have hT : h2.get? s.heap.objs.size = some (tupObj [.int i s.toks, x]) := (hs2.2 _ (Ne.symm heT)).trans ht
        have hBn : B s.heap.objs.size = none := by
          cases q : B s.heap.objs.size with
          | none => rfl
          | some o' => have := c.rd.keep _ o' q; rw [size_none] at this; cases this
        have h0n : s₀.heap.get? s.heap.objs.size = none := by
          cases q : s₀.heap.get? s.heap.objs.size with
          | none => rfl
          | some o' => have := c.ret.ext _ o' q; rw [size_none] at this; cases this
        have hpr : s.heap.objs.size ∉ priv env (N ++ [(e, enumObj it ((i + 1 : Nat) : Int) x), (it, oi')]) := fun z => by
          have e2 : priv env (N ++ [(e, enumObj it ((i + 1 : Nat) : Int) x), (it, oi')]) = priv env (N ++ [(e, enumObj it (i : Nat) old), (it, oi)]) := by unfold priv; simp
          rw [e2] at z
          obtain ⟨o, ho⟩ := c.alive z
          rw [size_none] at ho; cases ho
        have c2 := c1.adopt hT hpr hBn h0n
        refine hQ _ _ [(e, enumObj it ((i + 1 : Nat) : Int) x), (it, oi')] _ (Ph.le_put hBn) ⟨it, oi', i + 1, x, rest', rfl, hi2, hi3, hr ▸ r, rfl⟩ (.tuple _ 0 _ _ Ph.put_self (.cons (.int _ _) (.cons ((hrep.mono le).mono (Ph.le_put hBn)) .nil))) c2
  done := by
    rintro A E Q s V N B L hh ⟨it, oi, i, old, rest, rfl, hc, hd, r, e1⟩ le c hQ
    have he : IsEnum s.heap e it i old := c.own _ (List.mem_append_right _ (.head _))
    have hit : s.heap.IsListIter it a i := ⟨oi, c.own _ (List.mem_append_right _ (.tail _ (.head _))), hc, hd⟩
    have hl : s.heap.IsList a xs.toArray := isList_of (c.rd.keep _ _ (le _ _ hB))
    have hx : xs.toArray[i]? = none := by
      cases rest with
      | nil =>
        generalize hz : xs.drop i = z at r
        cases r
        simpa using hz
      | cons _ _ => cases e1
    exact wpAny_pyNext_enum_end hh he hit hl hx fun h' he' => hQ _ (c.drop (t := s.toks) fun b o hb q => he' b o (fun z => hb (by simp [z])) q)
  self := by
    rintro A E Q s V N B L ds ⟨it, oi, i, old, rest, rfl, hc, hd, r, e1⟩ c hQ
    exact wpAny_pyIter_enum (it := it) (i := i) (old := old) (c.own _ (List.mem_append_right _ (.head _))) hQ

theorem f_loopT {body orelse : List Stmt} {R : Result → Shared → Prop} {M : List D → List (Addr × Obj) → Prop} (Inv : List D → List (Option Value) → List (Addr × Obj) → Ph → Prop)
    (It : IterT prog w ad s₀ B₀ env sc Bm target I M) (h0 : M ds L) (hA : A.handled = none) (hInv : Inv ds V N B) (le : Bm.le B) (c : Cx w ad s₀ B₀ env sc V (N ++ L) B s)
    (turn : ∀ d ds V N B₁ B s L v, Inv (d :: ds) V N B₁ → B₁.le B → Bm.le B → Rep B v d → Cx w ad s₀ B₀ env sc V (N ++ L) B s → ∀ (Qb : Flow → Shared → Prop) (Eb : Value → Shared → Prop), Qb = turned R (fun s₃ => ∃ V' N' B', Inv ds V' N' B' ∧ B.le B' ∧ Cx w ad s₀ B₀ env sc V' (N' ++ L) B' s₃) →
      wpAny (model prog w) A (assign target env v) (fun z_ s₂ => wpAny (model prog w) A (execs body env) Qb Eb s₂) Eb s)
    (fin : ∀ V N B s, Inv [] V N B → Bm.le B → Cx w ad s₀ B₀ env sc V N B s → wpAny (model prog w) A (execs orelse env) (fun f s₃ => R (.ok f) s₃) (notedBy (model prog w) A env fun e s' => R (.error e) s') s) :
    codeAny (model prog w) A (.forLoop target (.ref I) body orelse env) R s := by
  refine codeAny_forLoop_any (fun k s => ∃ ds V N B L, k = ds.length ∧ M ds L ∧ Inv ds V N B ∧ Bm.le B ∧ Cx w ad s₀ B₀ env sc V (N ++ L) B s) ?_ ds.length ⟨ds, V, N, B, L, rfl, h0, hInv, le, c⟩
  rintro k s ⟨ds, V, N, B, L, rfl, h0, hInv, le, c⟩
  cases ds with
  | nil => exact It.done hA h0 le c fun s' c' => fin V N B s' hInv le c'
  | cons d ds =>
    refine wpAny_mono (It.item (Q := fun v s₁ => wpAny (model prog w) A (assign target env v) (fun z_ s₂ => wpAny (model prog w) A (execs body env) (fun f s₃ => match f with
            | .next | .cont => ∃ m, m < (d :: ds).length ∧ ∃ ds V N B L, m = ds.length ∧ M ds L ∧ Inv ds V N B ∧ Bm.le B ∧ Cx w ad s₀ B₀ env sc V (N ++ L) B s₃
            | .brk => R (.ok .next) s₃
            | .ret v => R (.ok (.ret v)) s₃) (notedBy (model prog w) A env fun e s' => R (.error e) s') s₂) (notedBy (model prog w) A env fun e s' => R (.error e) s') s₁) hA h0 le c fun v B' L' s' le1 h1 hr c' => ?_) (fun r s₁ h₁ => ?_) fun z_ z_1 x => x
    · have step := turn d ds V N B B' s' L' v hInv le1 (Ph.le_trans le le1) hr c' _ (notedBy (model prog w) A env fun e s' => R (.error e) s') rfl
      exact wpAny_mono step (fun z_ s₂ h₂ => wpAny_mono h₂ (fun f s₃ h₃ => by
        cases f with
        | next => obtain ⟨V', N', B'', i1, i2, i3⟩ := h₃; exact ⟨ds.length, by simp, ds, V', N', B'', L', rfl, h1, i1, Ph.le_trans (Ph.le_trans le le1) i2, i3⟩
        | cont => obtain ⟨V', N', B'', i1, i2, i3⟩ := h₃; exact ⟨ds.length, by simp, ds, V', N', B'', L', rfl, h1, i1, Ph.le_trans (Ph.le_trans le le1) i2, i3⟩
        | brk => exact h₃
        | ret v => exact h₃) fun z_ z_1 x => x) fun z_ z_1 x => x
    · obtain ⟨v, rfl, h₂⟩ := h₁
      exact h₂
theorem push_old {h : Heap} {o o' : Obj} {b : Addr} (e : (h.push o).get? b = some o') (hb : b ≠ h.objs.size) : h.get? b = some o' := by
  have hlt := Heap.lt_size e
  rw [Heap.size_push] at hlt
  have hb' : b < h.objs.size := Nat.lt_of_le_of_ne (Nat.le_of_lt_succ hlt) hb
  rw [Heap.get?_some_iff] at e ⊢
  obtain ⟨e1, e2⟩ := e
  refine ⟨?_, e2⟩
  rw [← e1]
  show h.objs[b]? = (h.objs.push o)[b]?
  rw [Array.getElem?_push_lt hb', Array.getElem?_eq_getElem hb']

theorem b_enum {Q : Value → Shared → Prop} (c : Cx w ad s₀ B₀ env sc V N B s) (hB : B a = some (listObj xs n)) (r : Reps B xs ds) (h : ∀ e L s', EnumM B e a xs (enumD 0 ds) L → Cx w ad s₀ B₀ env sc V (N ++ L) B s' → Q (.ref e) s') :
    wpAny (model prog w) A (call (.type "enumerate") [.ref a]) Q E s := by
  refine call_enumerate_1 (c.rd.keep _ _ hB) fun h' he hit hsz hk => ?_
  obtain ⟨oi, h1, h2, h3⟩ := hit
  have c1 := c.alloc (t := s.toks) (listObj []) rfl
  have c2 := c1.alloc (t := s.toks) (listObj []) rfl
  simp only [Heap.size_push] at c2
  have c3 := c2.perm (N' := N ++ [(s.heap.objs.size + 1, listObj []), (s.heap.objs.size, listObj [])]) List.perm_append_comm
  have c4 := c3.turn (L' := [(s.heap.objs.size + 1, enumObj s.heap.objs.size ((0 : Nat) : Int) .none), (s.heap.objs.size, oi)]) (t := s.toks) (h := h') rfl (fun b o hb q => ?_) fun p hp => ?_
  · exact h _ _ _ ⟨_, oi, 0, .none, ds, rfl, h2, h3, r, rfl⟩ c4
  · have b1 : b ≠ s.heap.objs.size + 1 := fun z => hb (by simp [z])
    have b2 : b ≠ s.heap.objs.size := fun z => hb (by simp [z])
    exact hk b o (push_old (push_old q (by rw [Heap.size_push]; exact b1)) b2)
  · rcases List.mem_cons.mp hp with rfl | hp
    · exact he
    · cases List.mem_singleton.mp hp
      exact h1
end
end
section
open PySem PySem.Calls PyProof.Rows

noncomputable def clOf (names : List (Str × NameKind)) (env : Env) : List (Str × Addr) := ((names.filter (·.2 == .free)).map fun p => (p.1, (env.cells.lookup p.1).getD 0)).reverse

theorem closure_eq {scope : Scope} {env : Env} (h : ∀ p ∈ scope.names, p.2 = .free → ∃ c, env.cells.lookup p.1 = some c) : closureFor scope env = pure (clOf scope.names env) := by
  have key : ∀ (l : List (Str × NameKind)) (acc : List (Str × Addr)), (∀ p ∈ l, p.2 = .free → ∃ c, env.cells.lookup p.1 = some c) →
      (forIn l acc fun x r => (if (x.2 == NameKind.free) = true then cellOf env x.1 >>= fun a => pure (ForInStep.yield ((x.1, a) :: r)) else pure (ForInStep.yield r) : Sem (ForInStep (List (Str × Addr))))) = pure (clOf l env ++ acc) := by
    intro l
    induction l with
    | nil => intro acc _; rfl
    | cons p l ih =>
      intro acc hl
      obtain ⟨x, k⟩ := p
      rw [List.forIn_cons]
      by_cases hk : k = .free
      · subst hk
        obtain ⟨c, hc⟩ := hl _ (.head _) rfl
        have e : cellOf env x = pure c := by unfold cellOf; rw [hc]
        rw [if_pos (by rfl), e, pure_bind, pure_bind]
        show forIn l ((x, c) :: acc) _ = _
        rw [ih _ fun q hq => hl q (.tail _ hq)]
        congr 1
        simp [clOf, hc]
      · have hb : (k == NameKind.free) = false := by simpa using hk
        rw [if_neg (by rw [hb]; exact Bool.false_ne_true), pure_bind]
        show forIn l acc _ = _
        rw [ih _ fun q hq => hl q (.tail _ hq)]
        congr 1
        simp [clOf, hb]
  unfold closureFor
  have := key scope.names [] h
  rw [List.append_nil] at this
  rw [← bind_pure (pure (clOf scope.names env)), ← this]

theorem lookup_of_mem {α β : Type} [BEq α] [LawfulBEq α] : ∀ {l : List (α × β)}, (l.map (·.1)).Nodup → ∀ {x : α} {y : β}, (x, y) ∈ l → l.lookup x = some y
  | [], _, _, _, h => nomatch h
  | (a, b) :: r, nd, x, y, h => by
    obtain ⟨n1, n2⟩ := List.nodup_cons.mp (by simpa only [List.map_cons] using nd)
    rw [List.lookup_cons]
    rcases List.mem_cons.mp h with e | h
    · cases e; simp
    · have : (x == a) = false := beq_eq_false_iff_ne.mpr fun z => n1 (z ▸ List.mem_map_of_mem (f := (·.1)) h)
      rw [this]; exact lookup_of_mem n2 h

noncomputable def okC (names outer : List (Str × NameKind)) (sxs tg fr gs : List Str) : Bool :=
  decide (names.map (·.1)).Nodup && names.all (fun p => p.2 != .cell && (p.2 != .free || (outer.lookup p.1 == some .cell && sxs.contains p.1))) && tg.all (names.lookup · == some .local) && fr.all (fun x => names.lookup x == some .free) &&
    gs.all (names.lookup · == some .globalImplicit) && decide (tg ++ fr).Nodup && (tg ++ fr ++ gs).all (fun x => !(x == ("__debug__" : Str)))

theorem lookup_relabel {env : Env} : ∀ {names : List (Str × NameKind)} {x : Str},
    (names.map fun (n, k) => if (k == NameKind.free && env.scope.kind == .function && env.kindOf n == some .cell) then (n, NameKind.cell) else (n, k)).lookup x =
      (names.lookup x).map fun k => if (k == NameKind.free && env.scope.kind == .function && env.kindOf x == some .cell) then NameKind.cell else k
  | [], _ => rfl
  | (n, k) :: r, x => by
    have ih := @lookup_relabel env r x
    show List.lookup x ((if (k == NameKind.free && env.scope.kind == .function && env.kindOf n == some .cell) = true then (n, NameKind.cell) else (n, k)) :: _) = _
    have e : (if (k == NameKind.free && env.scope.kind == .function && env.kindOf n == some .cell) = true then (n, NameKind.cell) else (n, k)) = (n, if (k == NameKind.free && env.scope.kind == .function && env.kindOf n == some .cell) = true then NameKind.cell else k) := by split <;> rfl
    rw [e, List.lookup_cons, List.lookup_cons]
    cases hx : x == n with
    | true => have := eq_of_beq hx; subst this; rfl
    | false => exact ih

structure OkC (scope : Scope) (env : Env) (sxs tg fr gs : List Str) : Prop where
  clos : closureFor scope env = pure (clOf scope.names env)
  cell : ∀ y ∈ scope.names, y.2 ≠ .cell
  names : ∀ y ∈ scope.names, y.2 = .local → scope.names.lookup y.1 = some .local
  tgs : ∀ x ∈ tg, scope.names.lookup x = some .local
  frs : ∀ x ∈ fr, env.kindOf x = some .cell ∧ scope.names.lookup x = some .free ∧ x ∈ sxs ∧ ∃ c, (clOf scope.names env).lookup x = some c ∧ env.cells.lookup x = some c
  gss : ∀ x ∈ gs, scope.names.lookup x = some .globalImplicit
  nodup : (tg ++ fr).Nodup
  dbg : ∀ x ∈ tg ++ fr ++ gs, (x == ("__debug__" : Str)) = false
  sub : ∀ n c, (n, c) ∈ clOf scope.names env → (n, c) ∈ env.cells
  cells : ((clOf scope.names env).map (·.1)).Nodup

theorem okC_ok {scope : Scope} {env : Env} {sc : Sc} {tg fr gs : List Str} (ok : ScOk env sc) (h : okC scope.names env.scope.names sc.xs tg fr gs = true) : OkC scope env sc.xs tg fr gs := by
  unfold okC at h
  simp only [Bool.and_eq_true, List.all_eq_true, decide_eq_true_eq, Bool.or_eq_true, beq_iff_eq, Bool.not_eq_true', bne_iff_ne, ne_eq, List.contains_iff_mem] at h
  obtain ⟨⟨⟨⟨⟨⟨h1, h2⟩, h3⟩, h4⟩, h5⟩, h6⟩, h7⟩ := h
  have fr1 : ∀ p ∈ scope.names, p.2 = .free → env.kindOf p.1 = some .cell ∧ p.1 ∈ sc.xs ∧ ∃ c, env.cells.lookup p.1 = some c := fun p hp hf => by
    rcases (h2 p hp).2 with q | ⟨q1, q2⟩
    · exact absurd hf q
    · refine ⟨q1, q2, ?_⟩
      rcases ok.loc _ q2 with z | ⟨_, z⟩
      · have : env.kindOf p.1 = some .cell := q1
        rw [this] at z; cases z
      · exact z
  have nd : ((clOf scope.names env).map (·.1)).Nodup := by
    unfold clOf
    rw [List.map_reverse, List.map_map]
    refine (List.reverse_perm _).nodup_iff.mpr ?_
    have e : (((scope.names.filter (·.2 == .free)).map ((·.1) ∘ fun p => (p.1, (env.cells.lookup p.1).getD 0)))) = (scope.names.filter (·.2 == .free)).map (·.1) := List.map_congr_left fun z_ z_1 => rfl
    rw [e]
    exact h1.sublist ((List.filter_sublist).map _)
  have inCl : ∀ n c, (n, c) ∈ clOf scope.names env → env.cells.lookup n = some c := fun n c hm => by
    unfold clOf at hm
    obtain ⟨p, hp, e⟩ := List.mem_map.mp (List.mem_reverse.mp hm)
    obtain ⟨hp1, hp2⟩ := List.mem_filter.mp hp
    obtain ⟨_, _, c', hc'⟩ := fr1 p hp1 (eq_of_beq hp2)
    rw [hc'] at e
    cases e
    exact hc'
  refine ⟨closure_eq fun p hp hf => (fr1 p hp hf).2.2, fun y hy => (h2 y hy).1, fun y hy hl => ?_, fun x hx => h3 x hx, fun x hx => ?_, fun x hx => h5 x hx, h6, fun x hx => h7 x hx, fun n c hm => mem_of_lookup (inCl n c hm), nd⟩
  · have := lookup_of_mem h1 (x := y.1) (y := y.2) hy
    rw [this, hl]
  · have hm : (x, NameKind.free) ∈ scope.names := mem_of_lookup (h4 x hx)
    obtain ⟨a1, a2, c, a3⟩ := fr1 _ hm rfl
    refine ⟨a1, h4 x hx, a2, c, lookup_of_mem nd ?_, a3⟩
    unfold clOf
    refine List.mem_reverse.mpr (List.mem_map.mpr ⟨(x, .free), List.mem_filter.mpr ⟨hm, rfl⟩, ?_⟩)
    show (x, (env.cells.lookup x).getD 0) = (x, c)
    rw [a3]; rfl

inductive Sub (xs : List Str) (V : List (Option Value)) : List Str → List (Option Value) → Prop
  | nil : Sub xs V [] []
  | cons {x : Str} {v : Option Value} {ys : List Str} {W : List (Option Value)} (h : At xs V x v) (r : Sub xs V ys W) : Sub xs V (x :: ys) (v :: W)
theorem Sub.at {xs : List Str} {V : List (Option Value)} {ys : List Str} {W : List (Option Value)} (h : Sub xs V ys W) : ∀ {x : Str} {v : Option Value}, At ys W x v → At xs V x v := by
  induction h with
  | nil => intro _ _ h; cases h
  | cons h r ih => exact fun q => q.inv (fun e1 e2 => e1 ▸ e2 ▸ h) ih
theorem Sub.len {xs : List Str} {V : List (Option Value)} {ys : List Str} {W : List (Option Value)} (h : Sub xs V ys W) : W.length = ys.length := by
  induction h with
  | nil => rfl
  | cons _ _ ih => exact congrArg Nat.succ ih
theorem At.split {ys : List Str} {W : List (Option Value)} {x : Str} {v : Option Value} : ∀ {xs : List Str} {V : List (Option Value)}, V.length = xs.length → At (xs ++ ys) (V ++ W) x v → At xs V x v ∨ At ys W x v := fun {xs} => by
  induction xs with
  | nil =>
    intro V hl h
    obtain rfl := List.length_eq_zero_iff.mp hl
    exact .inr h
  | cons y xs ih =>
    intro V hl h
    cases V with
    | nil => cases hl
    | cons u V => exact At.inv h (fun e1 e2 => .inl (e1 ▸ e2 ▸ .head)) fun h => (ih (Nat.succ.inj hl) h).imp .tail id

section
variable {prog : Program} {w : World} {ad : Ad} {A : Around} {E : Value → Shared → Prop} {s : Shared} {B Bm : Ph} {env cenv : Env} {sc : Sc} {V VF VT : List (Option Value)} {s₀ : Shared} {B₀ : Ph} {N L : List (Addr × Obj)} {pos p' : Pos} {a I : Addr} {n : Nat} {ds : List D}
variable {scope : Scope} {tg fr gs : List Str}

inductive CC (w : World) (ad : Ad) (s₀ : Shared) (B₀ : Ph) (env : Env) (sc : Sc) (V : List (Option Value)) (N : List (Addr × Obj)) (C : Addr) (tg : List Str) (VT : List (Option Value)) (B : Ph) (s : Shared) : Prop
  | mk (oC : Obj) (es : Array DictEntry) (ep : Nat) (m : Str → Option Value) (c : Cx w ad s₀ B₀ env sc V (N ++ [(C, oC)]) B s) (h1 : oC.data = .dict es ep) (h2 : StrKeys es) (h3 : ∀ name, nsFind es name = m name) (h4 : ∀ x v, At tg VT x v → m x = v) : CC w ad s₀ B₀ env sc V N C tg VT B s

theorem CC.stab {C : Addr} (ok : ScOk env sc) (k : OkC scope env sc.xs tg fr gs) (hk : scope.kind = .function) (hf : Sub sc.xs V fr VF) (hT : VT.length = tg.length) :
    Stab w ad (compEnvC scope (clOf scope.names env) C env) ⟨tg ++ fr, gs⟩ (VT ++ VF) (CC w ad s₀ B₀ env sc V N C tg VT) where
  ret := by
    rintro B s s' B' ⟨oC, es, ep, m, c, r1, r2, r3, r4⟩ x
    exact ⟨oC, es, ep, m, c.go x, r1, r2, r3, r4⟩
  rd := by
    rintro B s ⟨oC, es, ep, m, c, h1, h2, h3, h4⟩
    have kk : ∀ x, (compEnvC scope (clOf scope.names env) C env).kindOf x = (scope.names.lookup x).map fun k => if (k == NameKind.free && env.scope.kind == .function && env.kindOf x == some .cell) then NameKind.cell else k := fun x => lookup_relabel
    have kT : ∀ x ∈ tg, (compEnvC scope (clOf scope.names env) C env).kindOf x = some .local := fun x hx => by rw [kk, k.tgs x hx]; rfl
    have kF : ∀ x ∈ fr, (compEnvC scope (clOf scope.names env) C env).kindOf x = some .cell := fun x hx => by
      obtain ⟨a1, a2, _⟩ := k.frs x hx
      rw [kk, a2, a1, ok.kind]; rfl
    refine ⟨⟨hk, fun x hx => ?_, fun x hx => by rw [kk, k.gss x hx]; rfl, k.nodup, ok.globals, ok.builtins, k.cells, k.dbg⟩, c.rd.wd, c.rd.keep, ?_⟩
    · rcases List.mem_append.mp hx with q | q
      · exact .inl (kT x q)
      · obtain ⟨_, _, _, c', h, _⟩ := k.frs x q
        exact .inr ⟨kF x q, c', h⟩
    · obtain ⟨m0, cm, g1, g2, g3⟩ := c.rd.store
      refine ⟨m, cm, ⟨oC, es, ep, c.own _ (List.mem_append_right _ (.head _)), h1, h2, h3⟩, fun n a hm => g2 n a (k.sub n a hm), fun x v hx => ?_⟩
      rcases At.split hT hx with q | q
      · unfold valOf
        rw [if_pos (kT x q.mem)]
        exact h4 x v q
      · unfold valOf
        rw [if_neg (by rw [kF x q.mem]; decide)]
        have := g3 x v (hf.at q)
        unfold valOf at this
        rw [if_neg (by rw [(k.frs x q.mem).1]; decide)] at this
        exact this
end
end
section
open PySem PySem.Calls PyProof.Rows

section
variable {prog : Program} {w : World} {ad : Ad} {A : Around} {E : Value → Shared → Prop} {s : Shared} {B Bm : Ph} {env cenv : Env} {sc : Sc} {V VF VT : List (Option Value)} {s₀ : Shared} {B₀ : Ph} {N L : List (Addr × Obj)} {pos p' : Pos} {a I : Addr} {n : Nat} {ds : List D}
variable {scope : Scope} {tg fr gs : List Str} {R : Result → Shared → Prop}

noncomputable abbrev tests (ifs : List Expr) (env : Env) : Sem Bool := forIn ifs true fun c r => if r = true then do let ok ← isTrue c env (eval c env); pure (ForInStep.yield ok) else pure (ForInStep.yield r)
theorem tests0 {Q : Bool → Shared → Prop} (h : Q true s) : wpAny (model prog w) A (tests [] env) Q E s := wpAny_pure h
theorem tests1 {c : Expr} {Q : Bool → Shared → Prop} (h : wpAny (model prog w) A (isTrue c env (eval c env)) Q E s) : wpAny (model prog w) A (tests [c] env) Q E s := wpAny_tests_one h

theorem codeAny_compLoop_own {elt target iter : Expr} {ifs : List Expr} {scope : Scope} {pos : Pos} {it acc : Value} {env : Env} (I : Nat → Shared → Prop)
    (turn : ∀ n s, I n s → ∀ (Qb : Option Value → Shared → Prop) (Eb : Value → Shared → Prop) (Qc : Unit → Shared → Prop), (∀ s, R (.ok .next) s → Qb none s) → (∀ s', (∃ m, m < n ∧ I m s') → Qc () s') →
      (∀ v s, wpAny (model prog w) A (letOwnedTupleGo target it v) (fun z_ s₁' => wpAny (model prog w) A (assign target env v) (fun z_ s₂ =>
          wpAny (model prog w) A (tests ifs env) (fun ok s₃ => Br ok (wpAny (model prog w) A (eval elt env) (fun x s₄ => wpAny (model prog w) A (call (.builtin "list.append") [acc, x]) (fun z_ => Qc ()) Eb s₄) Eb s₃) (Qc () s₃)) Eb s₂) Eb s₁') Eb s → Qb (some v) s) →
      wpAny (model prog w) A (pyNext it) Qb Eb s)
    (n : Nat) (h : I n s) :
    codeAny (model prog w) A (.compLoop (.ListComp elt [⟨target, iter, ifs, 0⟩] scope pos) 0 it acc env) R s := by
  refine codeAny_loop rfl I (fun n s hI => ?_) n h
  show wpAny _ A ((compTurn (.ListComp elt [⟨target, iter, ifs, 0⟩] scope pos) 0 it acc env).onRaise (fun x => do noteFrame x env; theTreesLotGoes x)) _ _ s
  refine wpAny_noted ?_
  rw [compTurn_list]
  refine wpAny_bind (wpAny_standAt (wpAny_bind (turn n s hI _ _ (fun z_ s' => ∃ m, m < n ∧ I m s') (fun s₁ h₁ => wpAny_pure h₁) (fun s' h => h) fun v s₁ h₁ => ?_)))
  refine wpAny_bind (wpAny_mono h₁ (fun z_ s₁' h₁' => ?_) fun z_ z_1 h' => h')
  refine wpAny_bind (wpAny_mono h₁' (fun z_ s₂ h₂ => wpAny_bind (wpAny_mono h₂ (fun ok s₃ h₃ => ?_) fun z_ z_1 h' => h')) fun z_ z_1 h' => h')
  cases ok with
  | false => exact wpAny_pure ⟨rfl, h₃.2 rfl⟩
  | true =>
    exact wpAny_bind (wpAny_bind (wpAny_mono (h₃.1 rfl) (fun x s₄ h₄ => wpAny_bind (wpAny_mono h₄ (fun z_ s₅ h₅ => wpAny_pure (wpAny_pure ⟨rfl, h₅⟩)) fun z_ z_1 h' => h')) fun z_ z_1 h' => h'))

inductive Tgt (pd : D → List D) : Expr → List Str → (D → Prop) → Prop
  | name (x : Str) (p : Pos) (h : ∀ d, pd d = [d]) : Tgt pd (.Name x p) [x] (fun z_ => True)
  | pair (x y : Str) (p q r : Pos) (k : Nat) : Tgt pd (.Tuple [.Name x p, .Name y q] k r) [x, y] (fun d => ∃ d1 d2, d = .tuple [d1, d2] ∧ pd d = [d1, d2])

theorem At.one {x y : Str} {v u : Option Value} (h : At [x] [v] y u) : y = x ∧ u = v := by
  exact h.inv (fun a b => ⟨a, b⟩) fun h => nomatch h
theorem At.two {x y z : Str} {v u t : Option Value} (h : At [x, y] [v, u] z t) : (z = x ∧ t = v) ∨ (z = y ∧ t = u) := by
  exact h.inv (fun a b => .inl ⟨a, b⟩) fun h => .inr h.one

theorem CC.assign {C : Addr} {pd : D → List D} {target : Expr} {P : D → Prop} {v : Value} {d : D} {VT0 : List (Option Value)} {Q : Unit → Shared → Prop} (T : Tgt pd target tg P) (hA : A.handled = none) (ok : ScOk env sc) (k : OkC scope env sc.xs tg fr gs) (hk : scope.kind = .function) (hd : P d) (hr : Rep B v d)
    (c : CC w ad s₀ B₀ env sc V N C [] VT0 B s) (h : ∀ vs s', Reps B vs (pd d) → CC w ad s₀ B₀ env sc V N C tg (vs.map some) B s' → Q () s') :
    wpAny (model prog w) A (assign target (compEnvC scope (clOf scope.names env) C env) v) Q E s := by
  have kk : ∀ x, (compEnvC scope (clOf scope.names env) C env).kindOf x = (scope.names.lookup x).map fun k => if (k == NameKind.free && env.scope.kind == .function && env.kindOf x == some .cell) then NameKind.cell else k := fun x => lookup_relabel
  have kT : ∀ x ∈ tg, (compEnvC scope (clOf scope.names env) C env).kindOf x = some .local := fun x hx => by rw [kk, k.tgs x hx]; rfl
  have hp : ((compEnvC scope (clOf scope.names env) C env).scope.kind == .class || ((compEnvC scope (clOf scope.names env) C env).scope.kind == .module && (compEnvC scope (clOf scope.names env) C env).locals != (compEnvC scope (clOf scope.names env) C env).globals)) = false := by
    have : (compEnvC scope (clOf scope.names env) C env).scope.kind = .function := hk
    rw [this]; rfl
  have store : ∀ {x : Str} {v : Value} {m : Str → Option Value} {oC : Obj} {es ep} {s : Shared} {Q : Unit → Shared → Prop}, x ∈ tg → Cx w ad s₀ B₀ env sc V (N ++ [(C, oC)]) B s → oC.data = .dict es ep → StrKeys es → (∀ name, nsFind es name = m name) →
      (∀ oC' es' ep' s', Cx w ad s₀ B₀ env sc V (N ++ [(C, oC')]) B s' → oC'.data = .dict es' ep' → StrKeys es' → (∀ name, nsFind es' name = if name = x then some v else m name) → Q () s') →
      wpAny (model prog w) A (storeName (compEnvC scope (clOf scope.names env) C env) x v) Q E s := by
    intro x v m oC es ep s Q hx c h1 h2 h3 hQ
    refine wpAny_storeName_local (kT x hx) (m := m) ⟨oC, es, ep, c.own _ (List.mem_append_right _ (.head _)), h1, h2, h3⟩ (fun h' hn hs => ?_) hp
    obtain ⟨oC', es', ep', a1, a2, a3, a4⟩ := hn
    refine hQ oC' es' ep' _ (c.turn (L' := [(C, oC')]) rfl (fun b o hb e => (hs.2 b (fun z => hb (by simp [z]; rfl))).trans e) fun p hp => ?_) a2 a3 a4
    cases List.mem_singleton.mp hp; exact a1
  obtain ⟨oC, es, ep, m, c, h1, h2, h3, h4⟩ := c
  cases T with
  | name x p hpd =>
    refine wpAny_assign_Name (store (.head _) c h1 h2 h3 fun oC' es' ep' s' c' b1 b2 b3 => h [v] s' (by rw [hpd]; exact .cons hr .nil) ⟨oC', es', ep', _, c', b1, b2, b3, fun y u hy => ?_⟩)
    obtain ⟨rfl, rfl⟩ := hy.one
    exact if_pos rfl
  | pair x y p q r k' =>
    obtain ⟨d1, d2, rfl, hpd⟩ := hd
    obtain ⟨a, n, xs, rfl, hB, rr⟩ := Rep.isTup hr
    obtain ⟨v1, xs1, rfl, r1, rr1⟩ := rr.isCons
    obtain ⟨v2, xs2, rfl, r2, rr2⟩ := rr1.isCons
    obtain rfl := rr2.isNil
    have hxy : x ≠ y := by
      have := k.nodup
      simp only [List.cons_append, List.nil_append, List.nodup_cons, List.mem_cons, not_or] at this
      exact this.1.1
    refine wpAny_assign_Tuple hA (isTup_of (c.rd.keep _ _ hB)) rfl (by rfl) fun h' he => ?_
    have c1 : Cx w ad s₀ B₀ env sc V (N ++ [(C, oC)]) B { s with heap := h', toks := s.toks } := c.go (Ret.heap c.rd.keep fun b o e => he b o (fun z => by subst z; rw [size_none] at e; cases e) e)
    refine wpAny_assignInOrder_more (wpAny_assign_Name (store (.head _) c1 h1 h2 h3 fun oC' es' ep' s' c' b1 b2 b3 => ?_))
    refine wpAny_assignInOrder_more (wpAny_assign_Name (store (.tail _ (.head _)) c' b1 b2 b3 fun oC'' es'' ep'' s'' c'' d1 d2 d3 => ?_))
    refine wpAny_assignInOrder_none (h [v1, v2] s'' (by rw [hpd]; exact .cons r1 (.cons r2 .nil)) ⟨oC'', es'', ep'', _, c'', d1, d2, d3, fun z u hz => ?_⟩)
    rcases hz.two with ⟨rfl, rfl⟩ | ⟨rfl, rfl⟩
    · exact (if_neg hxy).trans (if_pos rfl)
    · exact if_pos rfl

theorem CC.out {C : Addr} {VT : List (Option Value)} (c : CC w ad s₀ B₀ env sc V N C tg VT B s) {h : Heap} {t : Nat} (hs : Heap.SameBut C s.heap h) : Cx w ad s₀ B₀ env sc V N B { s with heap := h, toks := t } := by
  obtain ⟨oC, es, ep, m, c, _, _, _, _⟩ := c
  exact c.drop fun b o hb e => (hs.2 b (fun z => hb (by simp [z]))).trans e
theorem CC.ns {C : Addr} {VT : List (Option Value)} (c : CC w ad s₀ B₀ env sc V N C tg VT B s) : ∃ m, s.heap.Ns C m := by
  obtain ⟨oC, es, ep, m, c, h1, h2, h3, _⟩ := c
  exact ⟨m, oC, es, ep, c.own _ (List.mem_append_right _ (.head _)), h1, h2, h3⟩
theorem CC.weak {C : Addr} {VT : List (Option Value)} (c : CC w ad s₀ B₀ env sc V N C tg VT B s) : CC w ad s₀ B₀ env sc V N C [] [] B s := by
  obtain ⟨oC, es, ep, m, c, h1, h2, h3, _⟩ := c
  exact ⟨oC, es, ep, m, c, h1, h2, h3, fun z_ z_1 h => nomatch h⟩
theorem CC.inner {C : Addr} {VT : List (Option Value)} {N' L : List (Addr × Obj)} (P : N'.Perm (N ++ L)) (c : CC w ad s₀ B₀ env sc V N' C tg VT B s) : ∃ (oC : Obj) (es : Array DictEntry) (ep : Nat) (m : Str → Option Value), Cx w ad s₀ B₀ env sc V ((N ++ [(C, oC)]) ++ L) B s ∧ oC.data = .dict es ep ∧ StrKeys es ∧ (∀ name, nsFind es name = m name) ∧ ∀ x v, At tg VT x v → m x = v := by
  obtain ⟨oC, es, ep, m, c, r1, r2, r3, r4⟩ := c
  refine ⟨oC, es, ep, m, c.perm ?_, r1, r2, r3, r4⟩
  refine List.Perm.trans ?_ (List.Perm.append_right [(C, oC)] P.symm)
  rw [List.append_assoc, List.append_assoc]
  exact List.Perm.append_left N List.perm_append_comm

inductive CpInv (w : World) (ad : Ad) (s₀ : Shared) (B₀ : Ph) (env : Env) (sc : Sc) (V : List (Option Value)) (N : List (Addr × Obj)) (tg : List Str) (Bm B : Ph) (C Da : Addr) (M : List D → List (Addr × Obj) → Prop) (p : D → Bool) (f : D → D) (ds : List D) (k : Nat) (s' : Shared) : Prop
  | mk (dd rest : List D) (xs : List Value) (n : Nat) (B' : Ph) (L' : List (Addr × Obj)) (VT : List (Option Value)) (h1 : ds = dd ++ rest) (h2 : k = rest.length) (h3 : M rest L') (h4 : Bm.le B') (h5 : B.le B') (h6 : Reps B' xs ((dd.filter p).map f)) (h7 : xs.length ≤ dd.length)
      (h8 : CC w ad s₀ B₀ env sc V (((Da, listObj xs n) :: N) ++ L') C tg VT B' s') : CpInv w ad s₀ B₀ env sc V N tg Bm B C Da M p f ds k s'

theorem comp_core {elt target iter : Expr} {ifs : List Expr} {pos : Pos} {M : List D → List (Addr × Obj) → Prop} {pd : D → List D} {P : D → Prop} {RR : Value → Addr → Result → Shared → Prop} (p : D → Bool) (f : D → D)
    (hA : A.handled = none) (ok : ScOk env sc) (k : OkC scope env sc.xs tg fr gs) (hk : scope.kind = .function) (hf : Sub sc.xs V fr VF) (T : Tgt pd target tg P) (hP : ∀ d ∈ ds, P d) (hpl : ∀ d vs B, Reps B vs (pd d) → vs.length = tg.length)
    (It : IterT prog w ad s₀ B₀ env sc Bm target I M) (h0 : M ds L) (le : Bm.le B) (c : Cx w ad s₀ B₀ env sc V (N ++ L) B s) (hsz : ds.length ≤ sizeLine)
    (body : ∀ (cenv : Env) (K : Ph → Shared → Prop) (d : D) (vs : List Value) (B : Ph) (s : Shared) (E : Value → Shared → Prop), Stab w ad cenv ⟨tg ++ fr, gs⟩ (vs.map some ++ VF) K → (∀ B s, K B s → ∀ q ∈ N, s.heap.get? q.1 = some q.2) → d ∈ ds → Bm.le B → Reps B vs (pd d) → K B s →
      wpAny (model prog w) A (tests ifs cenv) (fun ok s₃ => ok = p d ∧ ∃ B', B.le B' ∧ K B' s₃ ∧ (p d = true → wpAny (model prog w) A (eval elt cenv) (fun y s₄ => ∃ B'', B'.le B'' ∧ Rep B'' y (f d) ∧ K B'' s₄) E s₃)) E s)
    (hRR : ∀ D C n xs VT B' s', Bm.le B' → B.le B' → Reps B' xs ((ds.filter p).map f) → CC w ad s₀ B₀ env sc V ((D, listObj xs n) :: N) C tg VT B' s' → RR (.ref D) C (.ok .next) s') :
    wpAny (model prog w) A (newList []) (fun acc s₃ => wpAny (model prog w) A (newFunctionEnv scope env.globals (clOf scope.names env) [] env.qual none .none (some env)) (fun cenv s₄ =>
      codeAny (model prog w) A (.compStart (.ListComp elt [⟨target, iter, ifs, 0⟩] scope pos) 0 (.ref I) acc { cenv with scope := relabel scope env }) (RR acc cenv.locals) s₄) E s₃) E s := by
  refine wpAny_newObj_type (wpAny_newFunctionEnv k.cell (by intro y hy; simp at hy) (fun h₁ hns₁ hsb₁ => ?_) hk)
  dsimp only at hns₁ hsb₁ ⊢
  generalize hD : s.heap.objs.size = D at *
  have c1 : Cx w ad s₀ B₀ env sc V ((D, listObj []) :: (N ++ L)) B { s with heap := s.heap.push (listObj []), toks := s.toks } := hD ▸ c.alloc (t := s.toks) (listObj []) rfl
  generalize hH2 : s.heap.push { cls := .type "list", dict := none, data := .seq ([] : List Value).toArray } = H2 at hns₁ hsb₁ ⊢
  have hH2' : s.heap.push (listObj []) = H2 := hH2
  rw [hH2'] at c1
  generalize hC : H2.objs.size = C at *
  obtain ⟨oC, es, ep, g1, g2, g3, g4⟩ := hns₁
  have c2 : Cx w ad s₀ B₀ env sc V ((C, { cls := .type "dict", data := .dict #[] }) :: (D, listObj []) :: (N ++ L)) B { s with heap := H2.push { cls := .type "dict", data := .dict #[] }, toks := s.toks } := by
    have := c1.alloc (t := s.toks) { cls := .type "dict", data := .dict #[] } rfl
    rw [show ({ s with heap := H2, toks := s.toks } : Shared).heap.objs.size = C from hC] at this
    exact this
  have c3 : Cx w ad s₀ B₀ env sc V (((D, listObj []) :: N ++ L) ++ [(C, oC)]) B { s with heap := h₁, toks := s.toks + 0 } := by
    have := c2.perm (N' := ((D, listObj []) :: N ++ L) ++ [(C, { cls := .type "dict", data := .dict #[] })]) (List.perm_append_comm.trans (List.Perm.refl _))
    refine Cx.turn this (L' := [(C, oC)]) rfl (fun b o hb e => (hsb₁.2 b (fun z => hb (by simp [z]))).trans e) fun p hp => ?_
    cases List.mem_singleton.mp hp; exact g1
  have start : CC w ad s₀ B₀ env sc V (((D, listObj []) :: N) ++ L) C [] [] B { s with heap := h₁, toks := s.toks + 0 } := ⟨oC, es, ep, _, c3, g2, g3, g4, fun z_ z_1 h => nomatch h⟩
  have loop : ∀ s₃ : Shared, s₃ = { s with heap := h₁, toks := s.toks + ([] : List (Str × Value)).length } →
      codeAny (model prog w) A (.compLoop (.ListComp elt [⟨target, iter, ifs, 0⟩] scope pos) 0 (.ref I) (.ref D) (compEnvC scope (clOf scope.names env) C env)) (RR (.ref D) C) s₃ := by
    rintro s₃ rfl
    refine codeAny_compLoop_own (fun k s' => CpInv w ad s₀ B₀ env sc V N tg Bm B C D M p f ds k s') ?_ ds.length ?_
    · rintro k' s' ⟨dd, rest, xs, n, B', L', VT, hds, rfl, hM, le1, le2, hr, hlen, cc⟩ Qb Eb Qc q0 qc q1
      obtain ⟨oC, es, ep, m, c, r1, r2, r3, r4⟩ := cc.inner (N := (D, listObj xs n) :: N) (L := L') (.refl _)
      cases rest with
      | nil =>
        refine It.done hA hM le1 c fun s' c' => q0 _ ?_
        rw [List.append_nil] at hds
        subst hds
        exact hRR D C n xs VT B' s' le1 le2 hr ⟨oC, es, ep, m, c', r1, r2, r3, r4⟩
      | cons d rest =>
        have hd : d ∈ ds := by rw [hds]; simp
        refine wpAny_mono (It.item (Q := fun v s₁' => _) hA hM le1 c fun v B₀' L'' s' le0 hM' hv c' => ?_) (fun r s₁ h₁ => by obtain ⟨v, rfl, h₂⟩ := h₁; exact q1 _ _ h₂) fun z_ z_1 x => x
        clear q0 q1
        have cc' : CC w ad s₀ B₀ env sc V (((D, listObj xs n) :: N) ++ L'') C [] [] B₀' s' :=
          ⟨oC, es, ep, m, c'.perm (by rw [List.append_assoc, List.append_assoc]; exact List.Perm.append_left _ List.perm_append_comm), r1, r2, r3, fun z_ z_1 h => nomatch h⟩
        have hr := hr.mono le0
        have le1 := Ph.le_trans le1 le0
        have le2 := Ph.le_trans le2 le0
        refine CC.assign T hA ok k hk (hP d hd) hv cc' fun vs s' hvs cc' => ?_
        refine wpAny_mono (body _ _ d vs B₀' s' _ (CC.stab ok k hk hf (by rw [List.length_map]; exact hpl d vs B₀' hvs)) (fun B s ⟨oC, es, ep, m, c, _, _, _, _⟩ q hq => c.own q (List.mem_append_left _ (List.mem_append_left _ (.tail _ hq)))) hd le1 hvs cc') (fun okv s₃ h₃ => ?_) fun z_ z_1 x => x
        obtain ⟨rfl, B₁, le3, c3, h₃⟩ := h₃
        cases hpd : p d with
        | false =>
          refine x_itf (qc _ ?_)
          refine ⟨rest.length, by simp, dd ++ [d], rest, xs, n, B₁, L'', _, by rw [hds]; simp, rfl, hM', Ph.le_trans le1 le3, Ph.le_trans le2 le3, ?_, by rw [List.length_append]; lia, c3⟩
          rw [List.filter_append, List.filter_cons, hpd]
          simpa using hr.mono le3
        | true =>
          refine x_itt (wpAny_mono (h₃ hpd) (fun y s₄ h₄ => ?_) fun z_ z_1 x => x)
          obtain ⟨B₂, le4, hy, c4⟩ := h₄
          obtain ⟨oC, es, ep, m, c4, r1, r2, r3, r4⟩ := c4
          have hxs : xs.length ≤ sizeLine := by
            have : dd.length ≤ ds.length := by rw [hds, List.length_append]; lia
            lia
          refine x_append c4 (a := D) (xs := xs) (n := n) Sel.head hxs fun s₅ c5 => qc _ ?_
          refine ⟨rest.length, by simp, dd ++ [d], rest, xs ++ [y], n + 1, B₂, L'', _, by rw [hds]; simp, rfl, hM', Ph.le_trans (Ph.le_trans le1 le3) le4, Ph.le_trans (Ph.le_trans le2 le3) le4, ?_, by simp; lia, ⟨oC, es, ep, m, c5, r1, r2, r3, r4⟩⟩
          rw [List.filter_append, List.filter_cons, hpd, if_pos rfl, List.filter_nil, List.map_append]
          exact (hr.mono (Ph.le_trans le3 le4)).snoc hy
    · exact ⟨[], ds, [], 0, B, L, [], rfl, rfl, h0, le, Ph.le_refl B, .nil, Nat.le_refl _, by
        obtain ⟨oC, es, ep, m, c, r1, r2, r3, _⟩ := start
        exact ⟨oC, es, ep, m, c, r1, r2, r3, fun x v h => by cases h⟩⟩
  refine codeAny_compStart_list (loop _ rfl) ?_
  obtain ⟨oC', es', ep', m', c', _, _, _, _⟩ := start.inner (N := (D, listObj []) :: N) (L := L) (.refl _)
  exact It.self h0 c' (loop _ rfl)

inductive CompOk (prog : Program) (w : World) (ad : Ad) (A : Around) (s₀ : Shared) (B₀ : Ph) (env : Env) (sc : Sc) (elt target : Expr) (ifs : List Expr) (tg fr gs : List Str) (p : D → Bool) (f : D → D) (V : List (Option Value)) (N : List (Addr × Obj)) (B : Ph) (ds : List D) (K : Addr → Nat → List Value → Ph → List (Option Value) → List (Addr × Obj) → Prop) : Prop
  | mk (VF : List (Option Value)) (pd : D → List D) (P : D → Prop) (hf : Sub sc.xs V fr VF) (T : Tgt pd target tg P) (hP : (∀ d ∈ ds, P d)) (hpl : (∀ d vs B, Reps B vs (pd d) → vs.length = tg.length)) (hsz : ds.length ≤ sizeLine) (body : ∀ (cenv : Env) (K : Ph → Shared → Prop) (d : D) (vs : List Value) (B' : Ph) (s : Shared) (E : Value → Shared → Prop), Stab w ad cenv ⟨tg ++ fr, gs⟩ (vs.map some ++ VF) K → (∀ B s, K B s → ∀ q ∈ N, s.heap.get? q.1 = some q.2) → d ∈ ds → B.le B' → Reps B' vs (pd d) → K B' s →
      wpAny (model prog w) A (tests ifs cenv) (fun ok s₃ => ok = p d ∧ ∃ B₁, B'.le B₁ ∧ K B₁ s₃ ∧ (p d = true → wpAny (model prog w) A (eval elt cenv) (fun y s₄ => ∃ B₂, B₁.le B₂ ∧ Rep B₂ y (f d) ∧ K B₂ s₄) E s₃)) E s) (out : ∀ D n xs B', B.le B' → Reps B' xs ((ds.filter p).map f) → K D n xs B' V N) : CompOk prog w ad A s₀ B₀ env sc elt target ifs tg fr gs p f V N B ds K

inductive CompGo (prog : Program) (w : World) (ad : Ad) (A : Around) (s₀ : Shared) (B₀ : Ph) (env : Env) (sc : Sc) (elt target : Expr) (ifs : List Expr) (tg fr gs : List Str) (p : D → Bool) (f : D → D) (K : Addr → Nat → List Value → Ph → List (Option Value) → List (Addr × Obj) → Prop) (it : Value) (s : Shared) : Prop
  | mk (I : Addr) (M : List D → List (Addr × Obj) → Prop) (L : List (Addr × Obj)) (ds : List D) (V : List (Option Value)) (N : List (Addr × Obj)) (B : Ph) (e : it = .ref I) (It : IterT prog w ad s₀ B₀ env sc B target I M) (h0 : M ds L) (c : Cx w ad s₀ B₀ env sc V (N ++ L) B s) (h : CompOk prog w ad A s₀ B₀ env sc elt target ifs tg fr gs p f V N B ds K) : CompGo prog w ad A s₀ B₀ env sc elt target ifs tg fr gs p f K it s

theorem Tgt.goT {pd : D → List D} {target : Expr} {tg : List Str} {P : D → Prop} (T : Tgt pd target tg P) : GoT target := by
  cases T with
  | name x p h => exact .inl ⟨x, p, rfl⟩
  | pair x y p q r k => exact .inr ⟨_, _, _, rfl⟩
theorem CompOk.got {elt target : Expr} {ifs : List Expr} {p : D → Bool} {f : D → D} {K : Addr → Nat → List Value → Ph → List (Option Value) → List (Addr × Obj) → Prop} (h : CompOk prog w ad A s₀ B₀ env sc elt target ifs tg fr gs p f V N B ds K) : GoT target :=
  by cases h with | mk _ _ _ _ T => exact T.goT
theorem goL {elt target : Expr} {ifs : List Expr} {p : D → Bool} {f : D → D} {K : Addr → Nat → List Value → Ph → List (Option Value) → List (Addr × Obj) → Prop} {xs : List Value} (c : Cx w ad s₀ B₀ env sc V N B s) (hB : B a = some (listObj xs n)) (r : Reps B xs ds) (h : CompOk prog w ad A s₀ B₀ env sc elt target ifs tg fr gs p f V N B ds K) :
    wpAny (model prog w) A (pyIter (.ref a)) (CompGo prog w ad A s₀ B₀ env sc elt target ifs tg fr gs p f K) E s :=
  x_iterL c hB r fun I M L s' It h0 c' => ⟨I, M, L, ds, V, N, B, rfl, It.toT h.got, h0, c', h⟩
theorem goT {elt target : Expr} {ifs : List Expr} {p : D → Bool} {f : D → D} {K : Addr → Nat → List Value → Ph → List (Option Value) → List (Addr × Obj) → Prop} {xs : List Value} (c : Cx w ad s₀ B₀ env sc V N B s) (hB : B a = some (tupObj xs n)) (r : Reps B xs ds) (h : CompOk prog w ad A s₀ B₀ env sc elt target ifs tg fr gs p f V N B ds K) :
    wpAny (model prog w) A (pyIter (.ref a)) (CompGo prog w ad A s₀ B₀ env sc elt target ifs tg fr gs p f K) E s :=
  x_iterT c hB r fun I M L s' It h0 c' => ⟨I, M, L, ds, V, N, B, rfl, It.toT h.got, h0, c', h⟩
theorem goR {elt target : Expr} {ifs : List Expr} {p : D → Bool} {f : D → D} {K : Addr → Nat → List Value → Ph → List (Option Value) → List (Addr × Obj) → Prop} {x y st : Int} {t u v : Tok} {m : Nat} (c : Cx w ad s₀ B₀ env sc V N B s) (hB : B a = some (rangeObj x y st t u v)) (hsm : Builtin.Range.small x y st = true) (hm : Builtin.Range.rangeSize x y st = m)
    (h : CompOk prog w ad A s₀ B₀ env sc elt target ifs tg fr gs p f V N B ((steps x st m).map .int) K) :
    wpAny (model prog w) A (pyIter (.ref a)) (CompGo prog w ad A s₀ B₀ env sc elt target ifs tg fr gs p f K) E s :=
  x_iterR c hB hsm hm fun I M L s' It h0 c' => ⟨I, M, L, _, V, N, B, rfl, It.toT h.got, h0, c', h⟩

theorem goE {e : Addr} {elt : Expr} {elts : List Expr} {kt : Nat} {pt : Pos} {ifs : List Expr} {p : D → Bool} {f : D → D} {K : Addr → Nat → List Value → Ph → List (Option Value) → List (Addr × Obj) → Prop} {xs : List Value} (c : Cx w ad s₀ B₀ env sc V (N ++ L) B s) (hB : B a = some (listObj xs n)) (hM : EnumM B e a xs (enumD 0 ds) L) (h : CompOk prog w ad A s₀ B₀ env sc elt (.Tuple elts kt pt) ifs tg fr gs p f V N B (enumD 0 ds) K) :
    wpAny (model prog w) A (pyIter (.ref e)) (CompGo prog w ad A s₀ B₀ env sc elt (.Tuple elts kt pt) ifs tg fr gs p f K) E s :=
  (IterT.enum (elts := elts) (k := kt) (p := pt) hB).self hM c ⟨e, _, L, _, V, N, B, rfl, IterT.enum hB, hM, c, h⟩
theorem CompOk.name {elt : Expr} {x : Str} {q : Pos} {f : D → D} {K : Addr → Nat → List Value → Ph → List (Option Value) → List (Addr × Obj) → Prop} (hf : Sub sc.xs V fr VF) (hsz : ds.length ≤ sizeLine)
    (body : ∀ (cenv : Env) (K : Ph → Shared → Prop) (d : D) (v : Value) (B' : Ph) (s : Shared) (E : Value → Shared → Prop), Stab w ad cenv ⟨x :: fr, gs⟩ (some v :: VF) K → d ∈ ds → B.le B' → Rep B' v d → K B' s →
      wpAny (model prog w) A (eval elt cenv) (fun y s₄ => ∃ B₂, B'.le B₂ ∧ Rep B₂ y (f d) ∧ K B₂ s₄) E s)
    (out : ∀ D n xs B', B.le B' → Reps B' xs (ds.map f) → K D n xs B' V N) :
    CompOk prog w ad A s₀ B₀ env sc elt (.Name x q) [] [x] fr gs (fun z_ => true) f V N B ds K := by
  refine ⟨VF, fun d => [d], _, hf, .name x q fun z_ => rfl, fun z_ z_1 => trivial, fun d vs B r => r.length, hsz, fun cenv K d vs B' s E S ho hd le r k => ?_, fun D n xs B' le r => out D n xs B' le (by rw [List.filter_eq_self.mpr fun z_ z_1 => rfl] at r; exact r)⟩
  obtain ⟨x0, xs0, rfl, r1, r2⟩ := r.isCons
  obtain rfl := r2.isNil
  exact tests0 ⟨rfl, B', Ph.le_refl _, k, fun z_ => body cenv K d _ B' s E S hd le r1 k⟩
theorem CompOk.nameIf {elt ife : Expr} {x : Str} {q : Pos} {p : D → Bool} {f : D → D} {K : Addr → Nat → List Value → Ph → List (Option Value) → List (Addr × Obj) → Prop} (hf : Sub sc.xs V fr VF) (hsz : ds.length ≤ sizeLine)
    (body : ∀ (cenv : Env) (K : Ph → Shared → Prop) (d : D) (v : Value) (B' : Ph) (s : Shared) (E : Value → Shared → Prop), Stab w ad cenv ⟨x :: fr, gs⟩ (some v :: VF) K → d ∈ ds → B.le B' → Rep B' v d → K B' s →
      wpAny (model prog w) A (isTrue ife cenv (eval ife cenv)) (fun ok s₃ => ok = p d ∧ ∃ B₁, B'.le B₁ ∧ K B₁ s₃ ∧ (p d = true → wpAny (model prog w) A (eval elt cenv) (fun y s₄ => ∃ B₂, B₁.le B₂ ∧ Rep B₂ y (f d) ∧ K B₂ s₄) E s₃)) E s)
    (out : ∀ D n xs B', B.le B' → Reps B' xs ((ds.filter p).map f) → K D n xs B' V N) :
    CompOk prog w ad A s₀ B₀ env sc elt (.Name x q) [ife] [x] fr gs p f V N B ds K := by
  refine ⟨VF, fun d => [d], _, hf, .name x q fun z_ => rfl, fun z_ z_1 => trivial, fun d vs B r => r.length, hsz, fun cenv K d vs B' s E S ho hd le r k => ?_, out⟩
  obtain ⟨x0, xs0, rfl, r1, r2⟩ := r.isCons
  obtain rfl := r2.isNil
  exact tests1 (body cenv K d _ B' s E S hd le r1 k)
theorem CompOk.nameIfO {elt ife : Expr} {x : Str} {q : Pos} {p : D → Bool} {f : D → D} {K : Addr → Nat → List Value → Ph → List (Option Value) → List (Addr × Obj) → Prop} (hf : Sub sc.xs V fr VF) (hsz : ds.length ≤ sizeLine)
    (body : ∀ (cenv : Env) (K : Ph → Shared → Prop) (d : D) (v : Value) (B' : Ph) (s : Shared) (E : Value → Shared → Prop), Stab w ad cenv ⟨x :: fr, gs⟩ (some v :: VF) K → (∀ B s, K B s → ∀ q ∈ N, s.heap.get? q.1 = some q.2) → d ∈ ds → B.le B' → Rep B' v d → K B' s →
      wpAny (model prog w) A (isTrue ife cenv (eval ife cenv)) (fun ok s₃ => ok = p d ∧ ∃ B₁, B'.le B₁ ∧ K B₁ s₃ ∧ (p d = true → wpAny (model prog w) A (eval elt cenv) (fun y s₄ => ∃ B₂, B₁.le B₂ ∧ Rep B₂ y (f d) ∧ K B₂ s₄) E s₃)) E s)
    (out : ∀ D n xs B', B.le B' → Reps B' xs ((ds.filter p).map f) → K D n xs B' V N) :
    CompOk prog w ad A s₀ B₀ env sc elt (.Name x q) [ife] [x] fr gs p f V N B ds K := by
  refine ⟨VF, fun d => [d], _, hf, .name x q fun z_ => rfl, fun z_ z_1 => trivial, fun d vs B r => r.length, hsz, fun cenv K d vs B' s E S ho hd le r k => ?_, out⟩
  obtain ⟨x0, xs0, rfl, r1, r2⟩ := r.isCons
  obtain rfl := r2.isNil
  exact tests1 (body cenv K d _ B' s E S ho hd le r1 k)
noncomputable def pairOf : D → List D
  | .tuple ds => [ds.getD 0 .none, ds.getD 1 .none]
  | _ => [.none, .none]
theorem pairOf_length (d : D) : (pairOf d).length = 2 := by cases d <;> rfl
theorem CompOk.pair {elt : Expr} {x y : Str} {q q' q'' : Pos} {kk : Nat} {f : D → D} {K : Addr → Nat → List Value → Ph → List (Option Value) → List (Addr × Obj) → Prop} (hf : Sub sc.xs V fr VF) (hsz : ds.length ≤ sizeLine) (hds : ∀ d ∈ ds, ∃ d1 d2, d = .tuple [d1, d2])
    (body : ∀ (cenv : Env) (K : Ph → Shared → Prop) (d1 d2 : D) (v1 v2 : Value) (B' : Ph) (s : Shared) (E : Value → Shared → Prop), Stab w ad cenv ⟨x :: y :: fr, gs⟩ (some v1 :: some v2 :: VF) K → D.tuple [d1, d2] ∈ ds → B.le B' → Rep B' v1 d1 → Rep B' v2 d2 → K B' s →
      wpAny (model prog w) A (eval elt cenv) (fun y s₄ => ∃ B₂, B'.le B₂ ∧ Rep B₂ y (f (.tuple [d1, d2])) ∧ K B₂ s₄) E s)
    (out : ∀ D n xs B', B.le B' → Reps B' xs (ds.map f) → K D n xs B' V N) :
    CompOk prog w ad A s₀ B₀ env sc elt (.Tuple [.Name x q, .Name y q'] kk q'') [] [x, y] fr gs (fun z_ => true) f V N B ds K := by
  refine ⟨VF, pairOf, _, hf, .pair x y q q' q'' kk, fun d hd => ?_, fun d vs B r => by rw [r.length, pairOf_length]; rfl, hsz, fun cenv K d vs B' s E S ho hd le r k => ?_, fun D n xs B' le r => out D n xs B' le (by rw [List.filter_eq_self.mpr fun z_ z_1 => rfl] at r; exact r)⟩
  · obtain ⟨d1, d2, rfl⟩ := hds d hd
    exact ⟨d1, d2, rfl, rfl⟩
  · obtain ⟨d1, d2, rfl⟩ := hds d hd
    obtain ⟨x0, xs0, rfl, r1, r4⟩ := r.isCons
    obtain ⟨x1, xs1, rfl, r2, r3⟩ := r4.isCons
    obtain rfl := r3.isNil
    exact tests0 ⟨rfl, B', Ph.le_refl _, k, fun z_ => body cenv K d1 d2 _ _ B' s E S hd le r1 r2 k⟩

theorem x_comp {elt target iter : Expr} {ifs : List Expr} {p : D → Bool} {f : D → D} {Q : Value → Shared → Prop} (hA : A.handled = none) (c0 : Cx w ad s₀ B₀ env sc V N B s) (k : okC scope.names env.scope.names sc.xs tg fr gs = true) (hk : scope.kind = .function) (hs : ∀ x, foldedSetIterable iter env x = pure x)
    (h : wpAny (model prog w) A (eval iter env) (fun xv s₁ => wpAny (model prog w) A (pyIter xv) (CompGo prog w ad A s₀ B₀ env sc elt target ifs tg fr gs p f (fun D n xs B' V N => ∀ s', Cx w ad s₀ B₀ env sc V ((D, listObj xs n) :: N) B' s' → Q (.ref D) s')) E s₁) E s) :
    wpAny (model prog w) A (eval (.ListComp elt [⟨target, iter, ifs, 0⟩] scope pos) env) Q E s := by
  have ok := c0.rd.ok
  have k := okC_ok ok k
  clear c0
  rw [eval_ListComp]
  refine wpAny_comprehension_free (use := none) rfl hs k.clos hk k.names (wpAny_mono h (fun xv s₁ h₁ => wpAny_mono h₁ (fun it s₂ h₂ => ?_) fun z_ z_1 e => e) fun z_ z_1 e => e)
  obtain ⟨I, M, L, ds, V, N, B, rfl, It, h0, c, VF, pd, P, hf, T, hP, hpl, hsz, body, out⟩ := h₂
  refine comp_core (RR := fun acc C => compPost (model prog w) A E none Q acc C) p f hA ok k hk hf T hP hpl It h0 (Ph.le_refl B) c hsz body ?_
  intro D C n xs VT B' s' le1 le2 hr cc
  obtain ⟨m, hn⟩ := cc.ns
  exact ⟨m, hn, fun h' hs' => out D n xs B' le2 hr _ (cc.out (t := s'.toks) hs')⟩

theorem s_comp {elt target iter : Expr} {y : Str} {py : Pos} {ifs : List Expr} {spos : Pos} {p : D → Bool} {f : D → D} {Q : Flow → Shared → Prop} (hA : A.handled = none) (c0 : Cx w ad s₀ B₀ env sc V N B s) (k : okC scope.names env.scope.names sc.xs tg fr gs = true) (hk : scope.kind = .function) (hs : ∀ x, foldedSetIterable iter env x = pure x)
    (hsw : swapsWith (.ListComp elt [⟨target, iter, ifs, 0⟩] scope pos) (some (.Name y py)) spos.line env = pure true)
    (h : wpAny (model prog w) A (eval iter env) (fun xv s₁ => wpAny (model prog w) A (pyIter xv) (CompGo prog w ad A s₀ B₀ env sc elt target ifs tg fr gs p f (fun D n xs B' V N => ∃ V', Put y (.ref D) sc.xs V V' ∧ ∀ s', Cx w ad s₀ B₀ env sc V' ((D, listObj xs n) :: N) B' s' → Q .next s')) E s₁) E s) :
    wpAny (model prog w) A (exec (.Assign [.Name y py] (.ListComp elt [⟨target, iter, ifs, 0⟩] scope pos) spos) env) Q E s := by
  have ok := c0.rd.ok
  have k := okC_ok ok k
  clear c0
  rw [exec_Assign_Name_used _ _ _ _ hsw]
  refine wpAny_bind (wpAny_standAt (wpAny_bind ?_))
  show wpAny _ A (do let _ ← comprehension (.ListComp elt [⟨target, iter, ifs, 0⟩] scope pos) scope env _ (newList []) false (eval iter env) (some (assign (.Name y py) env))) _ _ s
  refine wpAny_bind (wpAny_mono (wpAny_comprehension_free (use := some (assign (.Name y py) env)) (Q := fun z_ s' => Q .next s') rfl hs k.clos hk k.names
    (wpAny_mono h (fun xv s₁ h₁ => wpAny_mono h₁ (fun it s₂ h₂ => ?_) fun z_ z_1 e => e) fun z_ z_1 e => e)) (fun z_ s' hq => wpAny_pure (wpAny_pure hq)) fun z_ z_1 e => e)
  obtain ⟨I, M, L, ds, V, N, B, rfl, It, h0, c, VF, pd, P, hf, T, hP, hpl, hsz, body, out⟩ := h₂
  refine comp_core (RR := fun acc C => compPost (model prog w) A E (some (assign (.Name y py) env)) (fun z_ s' => Q .next s') acc C) p f hA ok k hk hf T hP hpl It h0 (Ph.le_refl B) c hsz body ?_
  intro D C n xs VT B' s' le1 le2 hr cc
  show wpAny _ A (assign (.Name y py) env (.ref D)) _ _ _
  obtain ⟨oC, es, ep, m, c, r1, r2, r3, r4⟩ := cc
  obtain ⟨V', hput, hq⟩ := out D n xs B' le2 hr
  refine wpAny_assign_Name (c.storeName hput fun s'' c' => ?_)
  have cc' : CC w ad s₀ B₀ env sc V' ((D, listObj xs n) :: N) C [] [] B' s'' := ⟨oC, es, ep, m, c', r1, r2, r3, fun z_ z_1 h => nomatch h⟩
  obtain ⟨m', hn⟩ := cc'.ns
  exact ⟨m', hn, fun h' hs' => hq _ (cc'.out (t := s''.toks) hs')⟩
end
end
section
open PySem PySem.Calls PyProof.Rows
theorem abs_eq (k : Int) : (if k < 0 then -k else k) = (k.natAbs : Int) := by
  split
  · exact (Int.ofNat_natAbs_of_nonpos (Int.le_of_lt ‹_›)).symm
  · exact (Int.natAbs_of_nonneg (Int.not_lt.mp ‹_›)).symm
theorem lt9 {P : Nat → Prop} (h0 : P 0) (h1 : P 1) (h2 : P 2) (h3 : P 3) (h4 : P 4) (h5 : P 5) (h6 : P 6) (h7 : P 7) (h8 : P 8) {j : Nat} (h : j < 9) : P j := by
  rcases Nat.lt_succ_iff_lt_or_eq.mp h with h | rfl
  all_goals first | assumption | skip
  rcases Nat.lt_succ_iff_lt_or_eq.mp h with h | rfl
  all_goals first | assumption | skip
  rcases Nat.lt_succ_iff_lt_or_eq.mp h with h | rfl
  all_goals first | assumption | skip
  rcases Nat.lt_succ_iff_lt_or_eq.mp h with h | rfl
  all_goals first | assumption | skip
  rcases Nat.lt_succ_iff_lt_or_eq.mp h with h | rfl
  all_goals first | assumption | skip
  rcases Nat.lt_succ_iff_lt_or_eq.mp h with h | rfl
  all_goals first | assumption | skip
  rcases Nat.lt_succ_iff_lt_or_eq.mp h with h | rfl
  all_goals first | assumption | skip
  rcases Nat.lt_succ_iff_lt_or_eq.mp h with h | rfl
  all_goals first | assumption | skip
  exact Nat.lt_one_iff.mp h ▸ h0
theorem lenS {α : Type} {P : List α → Prop} {l : List α} {n : Nat} (h : l.length = n + 1) (f : ∀ a t, t.length = n → P (a :: t)) : P l := by
  cases l with
  | nil => cases h
  | cons a t => exact f a t (Nat.succ.inj h)
theorem three3 {α : Type} {P : List α → Prop} {l : List α} (h : l.length = 3) (f : ∀ a b c, P [a, b, c]) : P l :=
  lenS h fun a t h => lenS (P := fun t => P (a :: t)) h fun b t h => lenS (P := fun t => P (a :: b :: t)) h fun c t h => List.length_eq_zero_iff.mp h ▸ f a b c
theorem nine {α : Type} {P : List α → Prop} {l : List α} (h : l.length = 9) (f : ∀ a b c d e f g h i, P [a, b, c, d, e, f, g, h, i]) : P l :=
  lenS h fun a t h => lenS (P := fun t => P (a :: t)) h fun b t h => lenS (P := fun t => P (a :: b :: t)) h fun c t h => lenS (P := fun t => P (a :: b :: c :: t)) h fun d t h => lenS (P := fun t => P (a :: b :: c :: d :: t)) h fun e t h => lenS (P := fun t => P (a :: b :: c :: d :: e :: t)) h fun x t h =>
    three3 (P := fun t => P (a :: b :: c :: d :: e :: x :: t)) h fun g h i => f a b c d e x g h i

section
variable {prog : Program} {w : World} {ad : Ad} {A : Around} {E : Value → Shared → Prop} {s : Shared} {B : Ph} {env : Env} {sc : Sc} {V : List (Option Value)} {C : Ph → Shared → Prop}
variable {s₀ : Shared} {B₀ : Ph} {N : List (Addr × Obj)} {pos p' : Pos} {a b : Addr} {xs ys : List Value} {n m : Nat} {k j l : Int} {t u v : Tok} {ds es : List D}

theorem b_abs {Q : Value → Shared → Prop} (S : Stab w ad env sc V C) (c : C B s) (h : ∀ t s', C B s' → Q (.int (k.natAbs : Int) t) s') : wpAny (model prog w) A (call (.builtin "abs") [.int k t]) Q E s :=
  call_abs_int fun u tk => abs_eq k ▸ h _ _ (S.tok c tk)
theorem b_int {Q : Value → Shared → Prop} (h : Q (.int k t) s) : wpAny (model prog w) A (call (.type "int") [.int k t]) Q E s := call_int_int h
theorem b_divmod {Q : Value → Shared → Prop} (S : Stab w ad env sc V C) (c : C B s) (hj : 0 < j) (hz : j.natAbs.log2 < 9000) (h : ∀ a t u s' B', B.le B' → B' a = some (tupObj [.int (k / j) t, .int (k % j) u]) → C B' s' → Q (.ref a) s') : wpAny (model prog w) A (call (.builtin "divmod") [.int k t, .int j u]) Q E s := by
  refine divmod_int (by lia) ?_ (.inl (PyProof.noPylong_of_log2 hz))
  rw [Int.fdiv_eq_ediv_of_nonneg k (by lia), Int.fmod_eq_emod_of_nonneg k (by lia)]
  exact h _ _ _ _ _ (S.newle c _) Ph.put_self (S.new c (tupObj [.int (k / j) s.toks, .int (k % j) (s.toks + 1)]) rfl (t := s.toks + 1 + 1))
theorem b_chr {Q : Value → Shared → Prop} (S : Stab w ad env sc V C) (c : C B s) (h0 : 0 ≤ k) (h1 : k ≤ 1114111) (h : ∀ t s', C B s' → Q (.str ⟨#[k.toNat]⟩ t) s') : wpAny (model prog w) A (call (.builtin "chr") [.int k t]) Q E s := chr_of_range h0 h1 (h _ _ (S.tok c _))
theorem b_ord {x : Nat} {Q : Value → Shared → Prop} (S : Stab w ad env sc V C) (c : C B s) (h : ∀ t s', C B s' → Q (.int x t) s') : wpAny (model prog w) A (call (.builtin "ord") [.str ⟨#[x]⟩ t]) Q E s := ord_of_one rfl (h _ _ (S.tok c _))
theorem b_bytes {Q : Value → Shared → Prop} {ns : List Int} (S : Stab w ad env sc V C) (c : C B s) (hA : A.handled = none) (hB : B a = some (listObj xs n)) (r : Reps B xs (ns.map .int)) (hr : ∀ n ∈ ns, 0 ≤ n ∧ n < 256) (hz : xs.length ≤ sizeLine) (h : ∀ t s', C B s' → Q (.bytes (byteArr ns) t) s') : wpAny (model prog w) A (call (.type "bytes") [.ref a]) Q E s :=
  call_bytes_ints (S.isList c hB) r.ints hr hz hA fun h' t k hk => h _ _ (S.grow c hk)
theorem b_isi_bytes {x : Array UInt8} {Q : Value → Shared → Prop} (h : Q (.bool true) s) : wpAny (model prog w) A (call (.builtin "isinstance") [.bytes x t, .type "bytes"]) Q E s :=
  PyProof.Rows.call_isinstance_yes (Tx := "bytes") (T := "bytes") (W.typeIs_bytes s x t) (by rfl) F.sub_bytes_bytes h
theorem b_tuple {Q : Value → Shared → Prop} (S : Stab w ad env sc V C) (c : C B s) (hl : s.heap.IsList a xs.toArray) (hz : xs.length ≤ sizeLine) (h : ∀ a s' B', B.le B' → B' a = some (tupObj xs) → C B' s' → Q (.ref a) s') : wpAny (model prog w) A (call (.type "tuple") [.ref a]) Q E s :=
  call_tuple_list hl (fun h' hk => h _ _ _ (S.newle (s := { s with heap := h' }) (S.grow c (t := s.toks) hk) _) Ph.put_self (S.new (s := { s with heap := h' }) (S.grow c (t := s.toks) hk) (tupObj xs) rfl (t := s.toks))) (by simpa using hz)
theorem b_range1 {Q : Value → Shared → Prop} (S : Stab w ad env sc V C) (c : C B s) (h : ∀ a t u s' B', B.le B' → B' a = some (rangeObj 0 k 1 t v u) → C B' s' → Q (.ref a) s') : wpAny (model prog w) A (call (.type "range") [.int k v]) Q E s :=
  call_range_1 (h _ _ _ _ _ (S.newle c _) Ph.put_self (S.new c (rangeObj 0 k 1 s.toks v (s.toks + 1)) rfl (t := s.toks + 1 + 1)))
theorem b_range2 {Q : Value → Shared → Prop} (S : Stab w ad env sc V C) (c : C B s) (h : ∀ a t s' B', B.le B' → B' a = some (rangeObj k j 1 u v t) → C B' s' → Q (.ref a) s') : wpAny (model prog w) A (call (.type "range") [.int k u, .int j v]) Q E s :=
  call_range_2 (h _ _ _ _ (S.newle c _) Ph.put_self (S.new c (rangeObj k j 1 u v s.toks) rfl (t := s.toks + 1)))
theorem b_range3 {Q : Value → Shared → Prop} (S : Stab w ad env sc V C) (c : C B s) (hl : l ≠ 0) (hz : l.natAbs.log2 < 9000) (h : ∀ a s' B', B.le B' → B' a = some (rangeObj k j l t u v) → C B' s' → Q (.ref a) s') : wpAny (model prog w) A (call (.type "range") [.int k t, .int j u, .int l v]) Q E s :=
  call_range_3 hl (h _ _ _ (S.newle c _) Ph.put_self (S.new c (rangeObj k j l t u v) rfl (t := s.toks))) (.inl (PyProof.noPylong_of_log2 hz))

theorem b_sum {Q : Value → Shared → Prop} {ns : List Int} (S : Stab w ad env sc V C) (c : C B s) (hA : A.handled = none) (hl : s.heap.IsList a xs.toArray) (r : IntsAre xs ns) (h : ∀ t s', C B s' → Q (.int ns.sum t) s') : wpAny (model prog w) A (call (.builtin "sum") [.ref a]) Q E s := by
  have hall := r.allInts
  obtain ⟨zs, hz⟩ := hall.items
  have e : (numsOf xs.toArray.toList) = ns := by rw [show xs.toArray.toList = xs from rfl, r.numsOf]
  rw [hz, nums_intItems] at e
  rw [hz] at hl
  refine sum_intListG hA hl fun h' tk t' hk => ?_
  have := h t' _ (S.grow c (t := tk) hk)
  rw [preSum_eq, List.take_of_length_le (by simp), e]
  exact this
end
end
section
set_option maxRecDepth 4000
open PySem PySem.Sre
theorem min_gap {n p : Nat} (h1 : p ≤ n) (h2 : n ≤ 4294967295) : min 4294967295 ((n : Int) - (p : Int)).toNat = n - p := by
  rw [← Int.ofNat_sub h1, Int.toNat_natCast]
  exact Nat.min_eq_right (Nat.le_trans (Nat.sub_le _ _) h2)

noncomputable def codeN : Array Nat := #[14, 4, 0, 8, 4294967295, 24, 5, 0, 4294967295, 2, 1, 16, 70, 16, 76, 16, 65, 16, 71, 16, 83, 16, 32, 16, 40, 17, 0, 24, 6, 0, 4294967295, 20, 41, 1, 17, 1, 16, 41, 1]

noncomputable def st (t : Array Nat) (pc pos hd : Nat) (mk : Array (Option Nat)) (lm li : Int) (fs : List Sre.Frame) (wt : Nat) (ans : Option Bool) (seen : Seen) : M :=
  { code := codeN, text := t, lim := t.size, start := 0, pc := pc, pos := pos, handed := hd, marks := mk, lastmark := lm, lastindex := li, frames := fs, weight := wt, answer := ans, seen := seen }

noncomputable def Run (n : Nat) (m m' : M) : Prop := ∀ k, M.runFor (n + k) m = M.runFor k m'
theorem Run.refl (m : M) : Run 0 m m := fun k => by rw [Nat.zero_add]
theorem Run.trans {a b : Nat} {m m' m'' : M} (x : Run a m m') (y : Run b m' m'') : Run (a + b) m m'' := fun k => by rw [Nat.add_assoc, x, y]
theorem Run.step {m m' : M} (h : m.outcome = none) (e : m.step = m') : Run 1 m m' := fun k => by
  rw [Nat.add_comm]
  show (if m.outcome.isSome then m else M.runFor k m.step) = _
  rw [h, e]; rfl

section
variable {t : Array Nat} {pc pos hd : Nat} {mk : Array (Option Nat)} {lm li : Int} {fs : List Sre.Frame} {wt : Nat} {seen : Seen} {ch : Nat}

theorem run_exec (hpc : pc < 39) {m' : M} (e : (st t pc pos hd mk lm li fs wt none seen).exec = m') : Run 1 (st t pc pos hd mk lm li fs wt none seen) m' := by
  refine Run.step rfl ?_
  show (if pc < codeN.size then (st t pc pos hd mk lm li fs wt none seen).exec else _) = m'
  rw [if_pos (show pc < codeN.size from hpc)]
  exact e

theorem run_lit (hpc : pc < 39) (h1 : codeN.getD (pc + 0) 0 = 16) (h2 : codeN.getD (pc + 1) 0 = ch) (hne : ch ≠ 0) :
    ∃ seen', Run 1 (st t pc pos hd mk lm li fs wt none seen) (if t.getD pos 0 = ch then st t (pc + 2) (pos + 1) hd mk lm li fs wt none seen' else st t pc pos hd mk lm li fs wt (some false) seen') := by
  refine ⟨seen.add 16, run_exec hpc ?_⟩
  unfold M.exec
  have w0 : (st t pc pos hd mk lm li fs wt none seen).word 0 = 16 := h1
  rw [w0]
  show (if pos ≥ t.size then _ else match accepts codeN pc (t.getD pos 0) (seen.add 16) with | .error why => _ | .ok (false, seen) => _ | .ok (true, seen) => _) = _
  have ha : accepts codeN pc (t.getD pos 0) (seen.add 16) = .ok (t.getD pos 0 == ch, seen.add 16) := by
    unfold accepts
    have h1' : codeN.getD pc 0 = 16 := h1
    rw [h1', h2]; rfl
  have hw : itemWidth codeN pc = 2 := by
    unfold itemWidth
    have h1' : codeN.getD pc 0 = 16 := h1
    rw [h1']; rfl
  by_cases hp : pos ≥ t.size
  · rw [if_pos hp]
    have : t.getD pos 0 = 0 := by simp [Array.getD, Nat.not_lt.mpr hp]
    rw [if_neg (by rw [this]; exact Ne.symm hne)]
    rfl
  · rw [if_neg hp, ha]
    by_cases hc : t.getD pos 0 = ch
    · rw [if_pos hc]
      have : (t.getD pos 0 == ch) = true := by simp [hc]
      rw [this]
      show ({ st t pc pos hd mk lm li fs wt none seen with seen := seen.add 16, pc := pc + itemWidth codeN pc, pos := pos + 1 } : M) = _
      rw [hw]; rfl
    · rw [if_neg hc]
      have : (t.getD pos 0 == ch) = false := beq_eq_false_iff_ne.mpr hc
      rw [this]; rfl

theorem run_mark0 : ∃ seen', Run 1 (st t 25 pos hd mk (-1) li fs wt none seen) (st t 27 pos hd (mk.setIfInBounds 0 (some pos)) 0 li fs wt none seen') :=
  ⟨seen.add 17, run_exec (by decide) rfl⟩
theorem run_mark1 : ∃ seen', Run 1 (st t 34 pos hd mk 0 li fs wt none seen) (st t 36 pos hd (mk.setIfInBounds 1 (some pos)) 1 1 fs wt none seen') := by
  refine ⟨seen.add 17, run_exec (by decide) ?_⟩
  show M.mark (st t 34 pos hd mk 0 li fs wt none (seen.add 17)) 1 = _
  unfold M.mark
  have e : (if ((1 : Nat) : Int) ≤ (st t 34 pos hd mk 0 li fs wt none (seen.add 17)).lastmark + 1 then (st t 34 pos hd mk 0 li fs wt none (seen.add 17)).marks
    else (List.range 1).foldl (fun (a : Array (Option Nat)) (j : Nat) => if (j : Int) > (st t 34 pos hd mk 0 li fs wt none (seen.add 17)).lastmark then a.setIfInBounds j none else a) (st t 34 pos hd mk 0 li fs wt none (seen.add 17)).marks) = mk := if_pos (show ((1 : Nat) : Int) ≤ 0 + 1 by decide)
  rw [e]; rfl
theorem run_success : ∃ seen', Run 1 (st t 38 pos hd mk lm li fs wt none seen) (st t 38 pos pos mk lm li fs wt (some true) seen') :=
  ⟨seen.add 1, run_exec (by decide) rfl⟩

noncomputable def cnt (ok : Nat → Bool) (t : Array Nat) : (n p : Nat) → Nat
  | 0, _ => 0
  | n + 1, p => if ok (t.getD p 0) then cnt ok t n (p + 1) + 1 else 0
theorem run_cnt {i : Nat} {ok : Nat → Bool} (h : ∀ c seen, accepts codeN i c seen = .ok (ok c, seen)) : ∀ (n p found : Nat) (seen : Seen), Sre.run codeN t i n p found seen = .ok (found + cnt ok t n p, seen)
  | 0, _, _, _ => rfl
  | n + 1, p, found, seen => by
    unfold Sre.run cnt
    rw [h]
    show (if ok (t.getD p 0) = true then _ else _) = _
    split
    · rw [run_cnt h n (p + 1) (found + 1) seen]
      congr 2; lia
    · rfl

noncomputable def gb (pc pos : Nat) (count : Int) (lm li : Int) : Sre.Frame := { wait := .giveBack, pc := pc, pos := pos, outermost := true, count := count, kept := { lastmark := lm, lastindex := li, whole := false, marks := #[] } }

theorem run_rep {skip : Nat} {ok : Nat → Bool} (hi : (pc = 5 ∧ skip = 5) ∨ (pc = 27 ∧ skip = 6)) (h : ∀ c seen, accepts codeN (pc + 4) c seen = .ok (ok c, seen)) (hp : pos ≤ t.size) (hsz : t.size ≤ 4294967295) (hw : wt + 1 ≤ 16777216) :
    ∃ seen', Run 1 (st t pc pos hd mk lm li fs wt none seen) (st t (pc + 1 + skip) (pos + cnt ok t (t.size - pos) pos) (pos + cnt ok t (t.size - pos) pos) mk lm li (gb pc (pos + cnt ok t (t.size - pos) pos) (cnt ok t (t.size - pos) pos) lm li :: fs) (wt + 1) none seen') := by
  have hpc : pc < 39 := by lia
  refine ⟨(seen.add 24).add (codeN.getD (pc + 4) 0), run_exec hpc ?_⟩
  have w0 : (st t pc pos hd mk lm li fs wt none seen).word 0 = 24 := by rcases hi with ⟨rfl, _⟩ | ⟨rfl, _⟩ <;> rfl
  have w1 : codeN.getD (pc + 1) 0 = skip := by rcases hi with ⟨rfl, rfl⟩ | ⟨rfl, rfl⟩ <;> rfl
  have w2 : codeN.getD (pc + 2) 0 = 0 := by rcases hi with ⟨rfl, _⟩ | ⟨rfl, _⟩ <;> rfl
  have w3 : codeN.getD (pc + 3) 0 = 4294967295 := by rcases hi with ⟨rfl, _⟩ | ⟨rfl, _⟩ <;> rfl
  unfold M.exec
  rw [w0]
  show (if (((codeN.getD (pc + 2) 0 : Nat) : Int) > ((t.size : Nat) : Int) - (pos : Int)) then _ else match Sre.run codeN t (pc + 4) (min (codeN.getD (pc + 3) 0) ((((t.size : Nat) : Int) - (pos : Int))).toNat) pos 0 ((seen.add 24).add (codeN.getD (pc + 4) 0)) with | .error why => _ | .ok (n, seen) => _) = _
  rw [w2, w3, if_neg (by lia), run_cnt h]
  have e1 : min 4294967295 (((t.size : Nat) : Int) - (pos : Int)).toNat = t.size - pos := min_gap (by assumption) (by assumption)
  rw [e1, Nat.zero_add]
  generalize cnt ok t (t.size - pos) pos = n
  show (if n < codeN.getD (pc + 2) 0 then _ else _) = _
  rw [w2, if_neg (Nat.not_lt_zero _)]
  show (if wt + 1 + 0 > 16777216 then _ else _) = _
  rw [if_neg (by lia)]
  show ({ st t pc (pos + n) hd mk lm li fs wt none ((seen.add 24).add (codeN.getD (pc + 4) 0)) with frames := gb pc (pos + n) n lm li :: fs, weight := wt + 1 + 0, pc := pc + 1 + codeN.getD (pc + 1) 0, pos := pos + n, handed := pos + n, outermost := true } : M) = _
  rw [w1]; rfl

theorem run_back {pc' pos' skip : Nat} {c : Int} {lm' li' : Int} (hi : (pc = 5 ∧ skip = 5) ∨ (pc = 27 ∧ skip = 6)) (hc : 1 ≤ c) (hw : wt + 1 ≤ 16777216) :
    Run 1 (st t pc' pos' hd mk lm' li' (gb pc pos c lm li :: fs) (wt + 1) (some false) seen) (st t (pc + 1 + skip) (pos - 1) (pos - 1) mk lm li (gb pc (pos - 1) (c - 1) lm li :: fs) (wt + 1) none seen) := by
  refine Run.step rfl ?_
  have w1 : codeN.getD (pc + 1) 0 = skip := by rcases hi with ⟨rfl, rfl⟩ | ⟨rfl, rfl⟩ <;> rfl
  have w2 : codeN.getD (pc + 2) 0 = 0 := by rcases hi with ⟨rfl, _⟩ | ⟨rfl, _⟩ <;> rfl
  show (if c - 1 < ((codeN.getD (pc + 2) 0 : Nat) : Int) then _ else _) = _
  rw [w2, if_neg (by lia)]
  show (if wt + 1 - (1 + 0) + 1 + 0 > 16777216 then _ else _) = _
  rw [if_neg (by lia)]
  show ({ st t pc (pos - 1) hd mk lm li fs (wt + 1 - (1 + 0)) none seen with frames := gb pc (pos - 1) (c - 1) lm li :: fs, weight := wt + 1 - (1 + 0) + 1 + 0, pc := pc + 1 + codeN.getD (pc + 1) 0, pos := pos - 1, handed := pos - 1, outermost := true } : M) = _
  rw [w1]; rfl
theorem run_back0 {pc' pos' : Nat} {c : Int} {lm' li' : Int} (hi : pc = 5 ∨ pc = 27) (hc : c < 1) :
    Run 1 (st t pc' pos' hd mk lm' li' (gb pc pos c lm li :: fs) (wt + 1) (some false) seen) (st t pc pos hd mk lm li fs wt (some false) seen) := by
  refine Run.step rfl ?_
  have w2 : codeN.getD (pc + 2) 0 = 0 := by rcases hi with rfl | rfl <;> rfl
  show (if c - 1 < ((codeN.getD (pc + 2) 0 : Nat) : Int) then _ else _) = _
  rw [w2, if_pos (by lia)]
  rfl
theorem run_yes {pc' pos' : Nat} {c : Int} {lm' li' : Int} : Run 1 (st t pc' pos' hd mk lm' li' (gb pc pos c lm li :: fs) (wt + 1) (some true) seen) (st t pc pos hd mk lm' li' fs wt (some true) seen) :=
  Run.step rfl rfl
end
end
section
set_option maxRecDepth 4000
open PySem PySem.Sre

noncomputable def notNl (c : Nat) : Bool := c != 10
noncomputable def notCl (c : Nat) : Bool := c != 41
theorem acc9 : ∀ c seen, accepts codeN (5 + 4) c seen = .ok (notNl c, seen) := fun z_ z_1 => rfl
theorem acc31 : ∀ c seen, accepts codeN (27 + 4) c seen = .ok (notCl c, seen) := fun z_ z_1 => rfl

theorem cnt_le (ok : Nat → Bool) (t : Array Nat) : ∀ n p, cnt ok t n p ≤ n
  | 0, _ => Nat.le_refl 0
  | n + 1, p => by unfold cnt; split; exact Nat.succ_le_succ (cnt_le ok t n (p + 1)); exact Nat.zero_le _
theorem cnt_ok (ok : Nat → Bool) (t : Array Nat) : ∀ n p k, k < cnt ok t n p → ok (t.getD (p + k) 0) = true
  | 0, _, _, h => absurd h (Nat.not_lt_zero _)
  | n + 1, p, k, h => by
    unfold cnt at h
    split at h
    · rename_i h0
      cases k with
      | zero => exact h0
      | succ k =>
        have := cnt_ok ok t n (p + 1) k (Nat.lt_of_succ_lt_succ h)
        rw [show p + (k + 1) = p + 1 + k by lia]; exact this
    · exact absurd h (Nat.not_lt_zero _)
theorem cnt_stop (ok : Nat → Bool) (t : Array Nat) : ∀ n p, cnt ok t n p < n → ok (t.getD (p + cnt ok t n p) 0) = false
  | 0, _, h => absurd h (Nat.not_lt_zero _)
  | n + 1, p, h => by
    unfold cnt at h ⊢
    split at h
    · rename_i h0
      rw [if_pos h0]
      have := cnt_stop ok t n (p + 1) (by lia)
      rw [show p + (cnt ok t n (p + 1) + 1) = p + 1 + cnt ok t n (p + 1) by lia]; exact this
    · rename_i h0
      rw [if_neg h0]
      simpa using h0

noncomputable def pat : Nat → Nat
  | 0 => 70 | 1 => 76 | 2 => 65 | 3 => 71 | 4 => 83 | 5 => 32 | 6 => 40 | _ => 0
noncomputable abbrev HeadAt (t : Array Nat) (i : Nat) : Prop := ∀ j, j < 7 → t.getD (i + j) 0 = pat j

section
variable {t : Array Nat} {pc pos hd i : Nat} {mk : Array (Option Nat)} {lm li : Int} {fs : List Sre.Frame} {wt : Nat} {seen : Seen}

theorem run_lits : ∀ (n k : Nat), k + n = 7 → ∀ seen, ∃ N seen', N ≤ n ∧ ((∀ j, k ≤ j → j < 7 → t.getD (i + j) 0 = pat j) ∧ Run N (st t (11 + 2 * k) (i + k) hd mk lm li fs wt none seen) (st t 25 (i + 7) hd mk lm li fs wt none seen') ∨
    (¬ (∀ j, k ≤ j → j < 7 → t.getD (i + j) 0 = pat j) ∧ ∃ pc' pos', Run N (st t (11 + 2 * k) (i + k) hd mk lm li fs wt none seen) (st t pc' pos' hd mk lm li fs wt (some false) seen')))
  | 0, k, h, seen => by
    have : k = 7 := by lia
    subst this
    exact ⟨0, seen, Nat.le_refl _, .inl ⟨fun j h1 h2 => by omega, Run.refl _⟩⟩
  | n + 1, k, h, seen => by
    have key : ∀ k, k < 7 → codeN.getD (11 + 2 * k + 0) 0 = 16 ∧ codeN.getD (11 + 2 * k + 1) 0 = pat k ∧ pat k ≠ 0 := by decide
    obtain ⟨k1, k2, k3⟩ := key k (by lia)
    obtain ⟨seen1, r⟩ := run_lit (t := t) (pos := i + k) (hd := hd) (mk := mk) (lm := lm) (li := li) (fs := fs) (wt := wt) (seen := seen) (pc := 11 + 2 * k) (by lia) k1 k2 k3
    by_cases hc : t.getD (i + k) 0 = pat k
    · rw [if_pos hc] at r
      obtain ⟨N, seen', hN, hr⟩ := run_lits n (k + 1) (by lia) seen1
      have e : st t (11 + 2 * k + 2) (i + k + 1) hd mk lm li fs wt none seen1 = st t (11 + 2 * (k + 1)) (i + (k + 1)) hd mk lm li fs wt none seen1 := by congr 1
      rw [e] at r
      rcases hr with ⟨h1, h2⟩ | ⟨h1, pc', pos', h2⟩
      · refine ⟨1 + N, seen', by lia, .inl ⟨fun j hj1 hj2 => ?_, r.trans h2⟩⟩
        by_cases hjk : j = k
        · rw [hjk]; exact hc
        · exact h1 j (by lia) hj2
      · exact ⟨1 + N, seen', by omega, .inr ⟨fun z => h1 fun j hj1 hj2 => z j (by omega) hj2, pc', pos', r.trans h2⟩⟩
    · rw [if_neg hc] at r
      exact ⟨1, seen1, by lia, .inr ⟨fun z => hc (z k (Nat.le_refl _) (by lia)), _, _, r⟩⟩

theorem run_head : ∃ N seen', N ≤ 7 ∧ ((HeadAt t i ∧ Run N (st t 11 i hd mk lm li fs wt none seen) (st t 25 (i + 7) hd mk lm li fs wt none seen')) ∨
    (¬ HeadAt t i ∧ ∃ pc' pos', Run N (st t 11 i hd mk lm li fs wt none seen) (st t pc' pos' hd mk lm li fs wt (some false) seen'))) := by
  obtain ⟨N, seen', hN, hr⟩ := run_lits (t := t) (i := i) (hd := hd) (mk := mk) (lm := lm) (li := li) (fs := fs) (wt := wt) 7 0 rfl seen
  refine ⟨N, seen', hN, ?_⟩
  rcases hr with ⟨h1, h2⟩ | ⟨h1, h2⟩
  · exact .inl ⟨fun j hj => h1 j (Nat.zero_le _) hj, h2⟩
  · exact .inr ⟨fun z => h1 fun j z_ hj => z j hj, h2⟩

theorem run_group_fail {p : Nat} (hw : wt + 1 ≤ 16777216) : ∀ (c : Nat) (hd : Nat) (mk : Array (Option Nat)) (seen : Seen), mk.size = 2 → (∀ k, k ≤ c → t.getD (p + k) 0 ≠ 41) →
    ∃ N hd' mk' pos' seen', N ≤ 3 * (c + 1) ∧ mk'.size = 2 ∧ Run N (st t 34 (p + c) hd mk 0 li (gb 27 (p + c) (c : Nat) 0 li :: fs) (wt + 1) none seen) (st t 27 pos' hd' mk' 0 li fs wt (some false) seen')
  | 0, hd, mk, seen, hmk, h => by
    obtain ⟨s1, r1⟩ := run_mark1 (t := t) (pos := p + 0) (hd := hd) (mk := mk) (li := li) (fs := gb 27 (p + 0) (0 : Nat) 0 li :: fs) (wt := wt + 1) (seen := seen)
    obtain ⟨s2, r2⟩ := run_lit (t := t) (pos := p + 0) (hd := hd) (mk := mk.setIfInBounds 1 (some (p + 0))) (lm := 1) (li := 1) (fs := gb 27 (p + 0) (0 : Nat) 0 li :: fs) (wt := wt + 1) (seen := s1) (pc := 36) (ch := 41) (by decide) rfl rfl (by decide)
    rw [if_neg (h 0 (Nat.le_refl _))] at r2
    have r3 := run_back0 (t := t) (pc' := 36) (pos' := p + 0) (hd := hd) (mk := mk.setIfInBounds 1 (some (p + 0))) (lm' := 1) (li' := 1) (pc := 27) (pos := p + 0) (c := ((0 : Nat) : Int)) (lm := 0) (li := li) (fs := fs) (wt := wt) (seen := s2) (.inr rfl) (by decide)
    exact ⟨1 + 1 + 1, _, _, _, s2, by lia, by simpa using hmk, (r1.trans r2).trans r3⟩
  | c + 1, hd, mk, seen, hmk, h => by
    obtain ⟨s1, r1⟩ := run_mark1 (t := t) (pos := p + (c + 1)) (hd := hd) (mk := mk) (li := li) (fs := gb 27 (p + (c + 1)) (c + 1 : Nat) 0 li :: fs) (wt := wt + 1) (seen := seen)
    obtain ⟨s2, r2⟩ := run_lit (t := t) (pos := p + (c + 1)) (hd := hd) (mk := mk.setIfInBounds 1 (some (p + (c + 1)))) (lm := 1) (li := 1) (fs := gb 27 (p + (c + 1)) (c + 1 : Nat) 0 li :: fs) (wt := wt + 1) (seen := s1) (pc := 36) (ch := 41) (by decide) rfl rfl (by decide)
    rw [if_neg (h (c + 1) (Nat.le_refl _))] at r2
    have r3 := run_back (t := t) (pc' := 36) (pos' := p + (c + 1)) (hd := hd) (mk := mk.setIfInBounds 1 (some (p + (c + 1)))) (lm' := 1) (li' := 1) (pc := 27) (skip := 6) (pos := p + (c + 1)) (c := ((c + 1 : Nat) : Int)) (lm := 0) (li := li) (fs := fs) (wt := wt) (seen := s2) (.inr ⟨rfl, rfl⟩) (by lia) hw
    have e : ((c + 1 : Nat) : Int) - 1 = ((c : Nat) : Int) := by lia
    have e2 : p + (c + 1) - 1 = p + c := by lia
    rw [e, e2] at r3
    obtain ⟨N, hd', mk', pos', s3, hN, hmk', r4⟩ := run_group_fail hw c (p + c) (mk.setIfInBounds 1 (some (p + (c + 1)))) s2 (by simpa using hmk) fun k hk => h k (by lia)
    exact ⟨1 + 1 + 1 + N, hd', mk', pos', s3, by lia, hmk', ((r1.trans r2).trans r3).trans r4⟩

noncomputable def closeOf (t : Array Nat) (p : Nat) : Nat := p + cnt notCl t (t.size - p) p
noncomputable def tryAt (t : Array Nat) (i : Nat) : Option (Nat × Nat) := if HeadAt t i ∧ t.getD (closeOf t (i + 7)) 0 = 41 then some (i + 7, closeOf t (i + 7)) else none
noncomputable def look (t : Array Nat) : Nat → Option (Nat × Nat)
  | 0 => tryAt t 0
  | i + 1 => match tryAt t (i + 1) with
    | some r => some r
    | none => look t i

theorem head_size (h : HeadAt t i) : i + 7 ≤ t.size := by
  have h6 := h 6 (by decide)
  by_cases hh : i + 6 < t.size
  · lia
  · have : t.getD (i + 6) 0 = 0 := by simp [Array.getD, hh]
    rw [this] at h6; cases h6

noncomputable abbrev TryPost (t : Array Nat) (i hd : Nat) (mk : Array (Option Nat)) (seen : Seen) (N : Nat) (seen' : Seen) (hd' : Nat) (mk' : Array (Option Nat)) (pos' : Nat) (o : Option (Nat × Nat)) : Prop := match o with
  | some (p, q) => mk'[0]? = some (some p) ∧ mk'[1]? = some (some q) ∧ hd' = q + 1 ∧ Run N (st t 11 i hd mk (-1) (-1) [gb 5 i (i : Nat) (-1) (-1)] 1 none seen) (st t 5 i hd' mk' 1 1 [] 0 (some true) seen')
  | none => ∃ pc' lm' li', Run N (st t 11 i hd mk (-1) (-1) [gb 5 i (i : Nat) (-1) (-1)] 1 none seen) (st t pc' pos' hd' mk' lm' li' [gb 5 i (i : Nat) (-1) (-1)] 1 (some false) seen')
noncomputable abbrev LookPost (t : Array Nat) (i hd : Nat) (mk : Array (Option Nat)) (seen : Seen) (N : Nat) (seen' : Seen) (hd' : Nat) (mk' : Array (Option Nat)) (pos' : Nat) (o : Option (Nat × Nat)) : Prop := match o with
  | some (p, q) => mk'[0]? = some (some p) ∧ mk'[1]? = some (some q) ∧ hd' = q + 1 ∧ Run N (st t 11 i hd mk (-1) (-1) [gb 5 i (i : Nat) (-1) (-1)] 1 none seen) (st t 5 pos' hd' mk' 1 1 [] 0 (some true) seen')
  | none => Run N (st t 11 i hd mk (-1) (-1) [gb 5 i (i : Nat) (-1) (-1)] 1 none seen) (st t 5 pos' hd' mk' (-1) (-1) [] 0 (some false) seen')
theorem try_steps {N N2 n m : Nat} (h1 : N ≤ 7) (h2 : n ≤ m) (h3 : N2 ≤ 3 * (n + 1)) : N + 1 + 1 + N2 ≤ 4 * m + 20 := by lia
theorem run_try (hsz : t.size ≤ 1000000) (hmk : mk.size = 2) : ∃ N seen' hd' mk' pos', N ≤ 4 * t.size + 20 ∧ mk'.size = 2 ∧
    TryPost t i hd mk seen N seen' hd' mk' pos' (tryAt t i) := by
  obtain ⟨N, s1, hN, hr⟩ := run_head (t := t) (i := i) (hd := hd) (mk := mk) (lm := -1) (li := -1) (fs := [gb 5 i (i : Nat) (-1) (-1)]) (wt := 1) (seen := seen)
  rcases hr with ⟨h1, r1⟩ | ⟨h1, pc', pos', r1⟩
  · have hle := head_size h1
    obtain ⟨s2, r2⟩ := run_mark0 (t := t) (pos := i + 7) (hd := hd) (mk := mk) (li := -1) (fs := [gb 5 i (i : Nat) (-1) (-1)]) (wt := 1) (seen := s1)
    obtain ⟨s3, r3⟩ := run_rep (t := t) (pc := 27) (pos := i + 7) (hd := hd) (mk := mk.setIfInBounds 0 (some (i + 7))) (lm := 0) (li := -1) (fs := [gb 5 i (i : Nat) (-1) (-1)]) (wt := 1) (seen := s2) (skip := 6) (ok := notCl) (.inr ⟨rfl, rfl⟩) acc31 hle (by lia) (by decide)
    have hcl := cnt_le notCl t (t.size - (i + 7)) (i + 7)
    by_cases hc : t.getD (closeOf t (i + 7)) 0 = 41
    · have e : tryAt t i = some (i + 7, closeOf t (i + 7)) := if_pos ⟨h1, hc⟩
      rw [e]
      unfold closeOf at hc ⊢
      generalize hn : cnt notCl t (t.size - (i + 7)) (i + 7) = n at r3 hc ⊢
      obtain ⟨s4, r4⟩ := run_mark1 (t := t) (pos := i + 7 + n) (hd := i + 7 + n) (mk := mk.setIfInBounds 0 (some (i + 7))) (li := -1) (fs := gb 27 (i + 7 + n) (n : Nat) 0 (-1) :: [gb 5 i (i : Nat) (-1) (-1)]) (wt := 1 + 1) (seen := s3)
      obtain ⟨s5, r5⟩ := run_lit (t := t) (pos := i + 7 + n) (hd := i + 7 + n) (mk := (mk.setIfInBounds 0 (some (i + 7))).setIfInBounds 1 (some (i + 7 + n))) (lm := 1) (li := 1) (fs := gb 27 (i + 7 + n) (n : Nat) 0 (-1) :: [gb 5 i (i : Nat) (-1) (-1)]) (wt := 1 + 1) (seen := s4) (pc := 36) (ch := 41) (by decide) rfl rfl (by decide)
      rw [if_pos hc] at r5
      obtain ⟨s6, r6⟩ := run_success (t := t) (pos := i + 7 + n + 1) (hd := i + 7 + n) (mk := (mk.setIfInBounds 0 (some (i + 7))).setIfInBounds 1 (some (i + 7 + n))) (lm := 1) (li := 1) (fs := gb 27 (i + 7 + n) (n : Nat) 0 (-1) :: [gb 5 i (i : Nat) (-1) (-1)]) (wt := 1 + 1) (seen := s5)
      have r7 := run_yes (t := t) (pc := 27) (pos := i + 7 + n) (pc' := 38) (pos' := i + 7 + n + 1) (hd := i + 7 + n + 1) (mk := (mk.setIfInBounds 0 (some (i + 7))).setIfInBounds 1 (some (i + 7 + n))) (c := (n : Nat)) (lm' := 1) (li' := 1) (lm := 0) (li := -1) (fs := [gb 5 i (i : Nat) (-1) (-1)]) (wt := 1) (seen := s6)
      have r8 := run_yes (t := t) (pc := 5) (pos := i) (pc' := 27) (pos' := i + 7 + n) (hd := i + 7 + n + 1) (mk := (mk.setIfInBounds 0 (some (i + 7))).setIfInBounds 1 (some (i + 7 + n))) (c := (i : Nat)) (lm' := 1) (li' := 1) (lm := -1) (li := -1) (fs := []) (wt := 0) (seen := s6)
      exact ⟨N + 1 + 1 + 1 + 1 + 1 + 1 + 1, s6, _, _, 0, by lia, by simpa using hmk, by simp [Array.getElem?_setIfInBounds, hmk], by simp [Array.getElem?_setIfInBounds, hmk], rfl, ((((((r1.trans r2).trans r3).trans r4).trans r5).trans r6).trans r7).trans r8⟩
    · have e : tryAt t i = none := if_neg fun z => hc z.2
      rw [e]
      have hall : ∀ k, k ≤ cnt notCl t (t.size - (i + 7)) (i + 7) → t.getD (i + 7 + k) 0 ≠ 41 := fun k hk => by
        rcases Nat.lt_or_eq_of_le hk with h' | h'
        · have := cnt_ok notCl t _ _ k h'
          simpa [notCl] using this
        · rw [h']; exact hc
      generalize hn : cnt notCl t (t.size - (i + 7)) (i + 7) = n at r3 hall hcl
      obtain ⟨N2, hd', mk', pos', s4, hN2, hmk', r4⟩ := run_group_fail (t := t) (p := i + 7) (li := -1) (fs := [gb 5 i (i : Nat) (-1) (-1)]) (wt := 1) (by decide) n (i + 7 + n) (mk.setIfInBounds 0 (some (i + 7))) s3 (by simpa using hmk) hall
      exact ⟨N + 1 + 1 + N2, s4, hd', mk', pos', try_steps hN (Nat.le_trans hcl (Nat.sub_le _ _)) hN2, hmk', _, _, _, ((r1.trans r2).trans r3).trans r4⟩
  · have e : tryAt t i = none := if_neg fun z => h1 z.1
    rw [e]
    exact ⟨N, s1, hd, mk, pos', by lia, hmk, _, _, _, r1⟩

theorem run_look (hsz : t.size ≤ 1000000) : ∀ (i : Nat) (hd : Nat) (mk : Array (Option Nat)) (seen : Seen), mk.size = 2 → ∃ N seen' hd' mk' pos', N ≤ (i + 1) * (4 * t.size + 30) ∧
    LookPost t i hd mk seen N seen' hd' mk' pos' (look t i)
  | 0, hd, mk, seen, hmk => by
    obtain ⟨N, s1, hd', mk', pos', hN, hmk', hr⟩ := run_try (i := 0) (hd := hd) (seen := seen) hsz hmk
    unfold look
    cases e : tryAt t 0 with
    | some r =>
      rw [e] at hr
      obtain ⟨a1, a2, a3, a4⟩ := hr
      exact ⟨N, s1, hd', mk', 0, by lia, a1, a2, a3, a4⟩
    | none =>
      rw [e] at hr
      obtain ⟨pc', lm', li', r⟩ := hr
      have r2 := run_back0 (t := t) (pc' := pc') (pos' := pos') (hd := hd') (mk := mk') (lm' := lm') (li' := li') (pc := 5) (pos := 0) (c := ((0 : Nat) : Int)) (lm := -1) (li := -1) (fs := []) (wt := 0) (seen := s1) (.inl rfl) (by decide)
      exact ⟨N + 1, s1, hd', mk', 0, by lia, r.trans r2⟩
  | i + 1, hd, mk, seen, hmk => by
    obtain ⟨N, s1, hd', mk', pos', hN, hmk', hr⟩ := run_try (i := i + 1) (hd := hd) (seen := seen) hsz hmk
    unfold look
    cases e : tryAt t (i + 1) with
    | some r =>
      rw [e] at hr
      obtain ⟨a1, a2, a3, a4⟩ := hr
      exact ⟨N, s1, hd', mk', i + 1, by rw [Nat.add_mul]; lia, a1, a2, a3, a4⟩
    | none =>
      rw [e] at hr
      obtain ⟨pc', lm', li', r⟩ := hr
      have r2 := run_back (t := t) (pc' := pc') (pos' := pos') (hd := hd') (mk := mk') (lm' := lm') (li' := li') (pc := 5) (skip := 5) (pos := i + 1) (c := ((i + 1 : Nat) : Int)) (lm := -1) (li := -1) (fs := []) (wt := 0) (seen := s1) (.inl ⟨rfl, rfl⟩) (by lia) (by decide)
      have e1 : ((i + 1 : Nat) : Int) - 1 = ((i : Nat) : Int) := by lia
      rw [e1, Nat.add_sub_cancel] at r2
      obtain ⟨N2, s2, hd2, mk2, pos2, hN2, hr2⟩ := run_look hsz i i mk' s1 hmk'
      have hb : N + 1 + N2 ≤ (i + 1 + 1) * (4 * t.size + 30) := by rw [Nat.add_mul]; lia
      simp only
      cases e2 : look t i with
      | some r3 =>
        rw [e2] at hr2
        obtain ⟨a1, a2, a3, a4⟩ := hr2
        exact ⟨N + 1 + N2, s2, hd2, mk2, pos2, hb, a1, a2, a3, (r.trans r2).trans a4⟩
      | none =>
        rw [e2] at hr2
        exact ⟨N + 1 + N2, s2, hd2, mk2, pos2, hb, (r.trans r2).trans hr2⟩
end
end
section
set_option maxRecDepth 100000
open PySem PySem.Calls PyProof.Rows PySem.W

theorem runFor_out {m : Sre.M} (h : m.outcome.isSome = true) : ∀ k, Sre.M.runFor k m = m
  | 0 => rfl
  | k + 1 => by unfold Sre.M.runFor; rw [if_pos h]
theorem runFor_add : ∀ (a b : Nat) (m : Sre.M), Sre.M.runFor (a + b) m = Sre.M.runFor b (Sre.M.runFor a m)
  | 0, b, m => by rw [Nat.zero_add]; rfl
  | a + 1, b, m => by
    rw [show a + 1 + b = (a + b) + 1 by lia]
    by_cases h : m.outcome.isSome = true
    · rw [runFor_out h, runFor_out h, runFor_out h]
    · show (if m.outcome.isSome then m else Sre.M.runFor (a + b) m.step) = Sre.M.runFor b (if m.outcome.isSome then m else Sre.M.runFor a m.step)
      rw [if_neg h, if_neg h, runFor_add a b]

section
variable {M : Model} {A : Around} {E : Value → Shared → Prop} {s : Shared}
theorem drive {Q : Sre.M → Shared → Prop} : ∀ (turns N : Nat) (m : Sre.M), (Sre.M.runFor N m).outcome.isSome = true → N + 1 ≤ 4 * turns → Q (Sre.M.runFor N m) s → wpAny M A (Builtin.Re.reDrive turns m) Q E s
  | 0, N, m, _, h, _ => absurd h (by lia)
  | turns + 1, N, m, ho, hN, hQ => by
    unfold Builtin.Re.reDrive
    show wpAny M A (if (Sre.M.runFor 4 m).outcome.isSome = true then pure (Sre.M.runFor 4 m) else _) Q E s
    by_cases h4 : (Sre.M.runFor 4 m).outcome.isSome = true
    · rw [if_pos h4]
      have e : Sre.M.runFor 4 m = Sre.M.runFor N m := by
        rcases Nat.le_total 4 N with h | h
        · obtain ⟨d, rfl⟩ := Nat.exists_eq_add_of_le h
          rw [runFor_add, runFor_out h4]
        · obtain ⟨d, hd⟩ := Nat.exists_eq_add_of_le h
          rw [hd, runFor_add, runFor_out ho]
      rw [e]; exact wpAny_pure hQ
    · rw [if_neg h4]
      have hlt : 4 ≤ N := by
        rcases Nat.lt_or_ge N 4 with h | h
        · obtain ⟨d, hd⟩ := Nat.exists_eq_add_of_le (Nat.le_of_lt h)
          rw [hd, runFor_add, runFor_out ho] at h4
          exact absurd ho h4
        · exact h
      obtain ⟨d, rfl⟩ := Nat.exists_eq_add_of_le hlt
      rw [runFor_add] at ho hQ
      exact wpAny_bind (wpAny_rule (drive turns d _ ho (by lia) hQ))

theorem rules_loop {Q : PUnit → Shared → Prop} {c : Nat → Bool} {f : Nat → String} (h : Q ⟨⟩ s) : ∀ l : List Nat, wpAny M A (forIn (m := Sem) l PUnit.unit fun i z_ => if c i = true then (do rule (f i); pure (ForInStep.yield PUnit.unit)) else pure (ForInStep.yield PUnit.unit)) Q E s
  | [] => wpAny_pure h
  | i :: l => by
    rw [List.forIn_cons]
    refine wpAny_bind ?_
    split
    · exact wpAny_bind (wpAny_rule (wpAny_pure (rules_loop h l)))
    · exact wpAny_pure (rules_loop h l)

theorem toEnd {N : Nat} {m : Sre.M} {Q : Option Sre.M → Shared → Prop} (hN : N ≤ 10000000000000) (h : (∃ m', Sre.M.runFor N m = m' ∧ m'.outcome = some .matched ∧ Q (some m') s) ∨ ((Sre.M.runFor N m).outcome = some .failed ∧ Q none s)) :
    wpAny M A (Builtin.Re.reRunToEnd m) Q E s := by
  unfold Builtin.Re.reRunToEnd
  refine wpAny_bind (drive _ N m ?_ (by lia) ?_)
  · rcases h with ⟨m', e, h, _⟩ | ⟨h, _⟩
    · rw [e, h]; rfl
    · rw [h]; rfl
  · refine wpAny_bind (rules_loop ?_ _)
    rcases h with ⟨m', e, h, hq⟩ | ⟨h, hq⟩
    · rw [e, h]; exact wpAny_pure hq
    · rw [h]; exact wpAny_pure hq
end

theorem named3 (a : Value) : Builtin.Re.reNamed "re.Pattern.match" "match" ["string", "pos", "endpos"] 1 [a] [] = pure [some a, none, none] := by rfl
theorem txt_of (b : Array UInt8) (t : Tok) : Builtin.Re.reTextOf (.bytes b t) = pure (b.map (·.toNat), 1) := by
  unfold Builtin.Re.reTextOf
  rw [KBy.quiet_eq]
  rfl

noncomputable def textN (l : List UInt8) : Array Nat := l.toArray.map (·.toNat)
noncomputable def lineEnd (t : Array Nat) : Nat := cnt notNl t t.size 0
noncomputable def matchObj (l : List UInt8) (t : Tok) (fl T : Addr) : Obj := { cls := .type "re.Match", data := .fields #[.bytes l.toArray t, .ref fl, rawInt 0, rawInt ((textN l).size : Nat), rawInt 1, .ref T] }
noncomputable def spanObj (p q : Nat) : Obj := tupObj [rawInt 0, rawInt ((q + 1 : Nat) : Int), rawInt (p : Nat), rawInt (q : Nat)]

noncomputable def outOf (m : Sre.M) (b : Bool) : Sre.M := { m with outcome := some (if b then .matched else .failed) }
theorem whole_run {l : List UInt8} (h8 : 8 ≤ (textN l).size) (hsz : (textN l).size ≤ 1000000) : ∃ N, N ≤ 10000000000000 ∧ match look (textN l) (lineEnd (textN l)) with
    | some (p, q) => ∃ pos mk seen, mk[0]? = some (some p) ∧ mk[1]? = some (some q) ∧ Sre.M.runFor N (Sre.forMatch codeN (textN l) 1 0 (textN l).size false false) = outOf (st (textN l) 5 pos (q + 1) mk 1 1 [] 0 (some true) seen) true
    | none => (Sre.M.runFor N (Sre.forMatch codeN (textN l) 1 0 (textN l).size false false)).outcome = some .failed := by
  generalize textN l = t at *
  have e0 : ∃ seen, Sre.forMatch codeN t 1 0 t.size false false = st t 5 0 0 #[none, none] (-1) (-1) [] 0 none seen := by
    refine ⟨({} : Sre.Seen).add 14, ?_⟩
    show (if ((8 != 0 && decide (0 ≤ t.size) && decide (t.size - 0 < 8)) = true) then _ else _) = _
    rw [if_neg (by simp; lia)]
    rfl
  obtain ⟨seen, e0⟩ := e0
  obtain ⟨s1, r1⟩ := run_rep (t := t) (pc := 5) (pos := 0) (hd := 0) (mk := #[none, none]) (lm := -1) (li := -1) (fs := []) (wt := 0) (seen := seen) (skip := 5) (ok := notNl) (.inl ⟨rfl, rfl⟩) acc9 (Nat.zero_le _) (by lia) (by decide)
  have hn : lineEnd t = cnt notNl t (t.size - 0) 0 := rfl
  have hle := cnt_le notNl t t.size 0
  rw [← hn] at r1
  rw [Nat.zero_add] at r1
  obtain ⟨N, s2, hd', mk', pos', hN, hr⟩ := run_look (t := t) hsz (lineEnd t) (lineEnd t) #[none, none] s1 rfl
  have hb : (lineEnd t + 1) * (4 * t.size + 30) ≤ 1000001 * 4000030 := Nat.mul_le_mul (by unfold lineEnd; lia) (by lia)
  refine ⟨1 + N + 1, by lia, ?_⟩
  rw [e0]
  cases e : look t (lineEnd t) with
  | some r =>
    rw [e] at hr
    obtain ⟨a1, a2, rfl, a4⟩ := hr
    refine ⟨pos', mk', s2, a1, a2, ?_⟩
    rw [r1.trans a4 1]
    rfl
  | none =>
    rw [e] at hr
    show (Sre.M.runFor (1 + N + 1) _).outcome = _
    rw [r1.trans hr 1]
    rfl

theorem entry_match : entryFor table "re.Pattern.match" = some Builtin.«re.Pattern.match» := entryFor_of_tree (by kernel_rfl)
theorem slot_match : Slot "re.Pattern" "match" "re.Pattern.match" :=
  .of (owner := "re.Pattern") (n := "match") (by rw [typeLookup_type, builtinLookup_eq_fast]; kernel_rfl) (by decide +kernel) (by decide +kernel) (by decide +kernel)
    (by first | exact .inl (by decide +kernel) | exact .inr (by decide +kernel)) (by rw [isSubtype_type]; kernel_rfl)
theorem args_match (a b : Value) : argsOk "re.Pattern.match" ⟨[a, b], []⟩ := by unfold argsOk; kernel_rfl
theorem type_match : typeOf (.builtin "re.Pattern.match") = pure (.type "method_descriptor") := by show builtinType _ = _; rw [builtinType_eq_fast]; kernel_rfl
end
section
set_option maxRecDepth 100000
open PySem PySem.Calls PyProof.Rows PySem.W

section
variable {prog : Program} {w : World} {A : Around} {E : Value → Shared → Prop} {s : Shared}
theorem try_le {t : Array Nat} {i p q : Nat} (h : tryAt t i = some (p, q)) : p ≤ q := by
  unfold tryAt at h
  by_cases hc : HeadAt t i ∧ t.getD (closeOf t (i + 7)) 0 = 41
  · rw [if_pos hc] at h
    have h := Option.some.inj h
    have h1 := congrArg Prod.fst h
    have h2 := congrArg Prod.snd h
    simp only [closeOf] at h1 h2
    lia
  · rw [if_neg hc] at h; nomatch h
theorem look_le {p q : Nat} {t : Array Nat} : ∀ {i : Nat}, look t i = some (p, q) → p ≤ q := fun {i} h => by
  induction i with
  | zero => exact try_le h
  | succ i ih =>
    have h : (match tryAt t (i + 1) with | some r => some r | none => look t i) = some (p, q) := h
    cases e : tryAt t (i + 1) with
    | some r => rw [e] at h; exact try_le (e.trans h)
    | none => rw [e] at h; exact ih h
noncomputable def Stop (P : Prop) : Prop := P
theorem stop_in {P : Prop} (h : Stop P) : P := h
theorem at_target {prog : Program} {w : World} {A : Around} {E : Value → Shared → Prop} {s : Shared} {Q : PySem.Fin → Shared → Prop} {T T0 : Builtin.Re.ReTarget} (e : T = T0) (h : Stop (wpAny (model prog w) A (Builtin.Re.reAnswer T0 (Sre.forMatch T0.code T0.text T0.groups T0.pos T0.lim false false)) Q E s)) :
    Stop (wpAny (model prog w) A (Builtin.Re.reAnswer T (Sre.forMatch T.code T.text T.groups T.pos T.lim false false)) Q E s) := e ▸ h
theorem code_nats : ((codeWords.map rawInt).toArray.map Builtin.Re.reRawOf).map (·.toNat) = codeN := by decide +kernel

set_option maxHeartbeats 3200000 in
theorem re_match {ad : Ad} {p : Value} {tf : Tok} {l : List UInt8} {t : Tok} {Q : Value → Shared → Prop} (hp : s.heap.get? ad.flags = some (patObj ad p tf)) (hc : s.heap.get? ad.code = some codeObj) (h8 : 8 ≤ l.length) (hsz : l.length ≤ 1000000)
    (h : match look (textN l) (lineEnd (textN l)) with
      | some (p, q) => Q (.ref (s.heap.objs.size + 1)) { s with heap := (s.heap.push (spanObj p q)).push (matchObj l t ad.flags s.heap.objs.size) }
      | none => Q .none s) :
    wpAny (model prog w) A (call (.builtin "re.Pattern.match") [.ref ad.flags, .bytes l.toArray t]) Q E s := by
  have hT : s.TypeIs (.ref ad.flags) "re.Pattern" := ⟨_, hp, rfl⟩
  refine wpAny_call (codeAny_call_builtin slot_match.plain entry_match (slot_match.check _ _ _ _ _ _ _ _ hT (args_match _ _) ?_))
  unfold Builtin.«re.Pattern.match» Builtin.Re.reTarget
  have s4 : isSubtype (.type "bytes") (.type "bytes") = pure true := by rw [isSubtype_type]; kernel_rfl
  obtain ⟨hp', g, d, tk, os⟩ := s
  refine wpAny_bind (wpAny_bind ?_)
  refine wpAny_of_eq (named3 _) ?_
  dsimp only
  unfold patObj at hp
  repeat (any_goals (first | assumption | ((with_reducible show wpAny _ _ (Builtin.Re.reTextOf _ >>= _) _ _ _); refine wpAny_bind (wpAny_of_eq (txt_of _ _) ?_)) | ((with_reducible show wpAny _ _ (Builtin.Re.reTextOf _) _ _ _); refine wpAny_of_eq (txt_of _ _) ?_) | ((with_reducible show wpAny _ _ (Builtin.Re.reAnswer _ _) _ _ _); refine stop_in ?_) | wp_step))
  refine at_target (T0 := ⟨.ref ad.flags, .bytes l.toArray t, codeN, textN l, 1, 1, 0, (textN l).size⟩) ?_ ?_
  · have hz : (textN l).size = l.length := by simp [textN]
    simp only [Builtin.Re.ReTarget.mk.injEq]
    refine ⟨trivial, trivial, code_nats, rfl, trivial, rfl, ?_, ?_⟩
    · exact Nat.zero_min _
    · exact Nat.min_eq_right (by show (textN l).size ≤ 9223372036854775807; lia)
  · have hz : (textN l).size = l.length := by simp [textN]
    obtain ⟨N, hN, hr⟩ := whole_run (l := l) (by lia) (by lia)
    unfold Stop Builtin.Re.reAnswer
    refine wpAny_bind (toEnd hN ?_)
    cases e : look (textN l) (lineEnd (textN l)) with
    | none =>
      rw [e] at hr h
      exact .inr ⟨hr, wpAny_pure h⟩
    | some r =>
      rw [e] at hr h
      obtain ⟨pos, mk, seen, h0, h1, hr⟩ := hr
      refine .inl ⟨_, hr, rfl, ?_⟩
      have h0' : mk.getD 0 none = some r.1 := by rw [Array.getD_eq_getD_getElem?, h0]; rfl
      have h1' : mk.getD 1 none = some r.2 := by rw [Array.getD_eq_getD_getElem?, h1]; rfl
      have hle := look_le e
      show wpAny _ _ (Builtin.Re.reNewMatch (.ref ad.flags) (.bytes l.toArray t) 1 0 (textN l).size (outOf (st (textN l) 5 pos (r.snd + 1) mk 1 1 [] 0 (some true) seen) true) >>= fun v => ret v) _ _ _
      unfold Builtin.Re.reNewMatch
      have e1 : List.range 1 = [0] := rfl
      have e2 : ((2 * 0 + 1 : Nat) : Int) ≤ 1 := by decide
      simp only [outOf, st, e1, List.flatMap_cons, List.flatMap_nil, List.any_cons, List.any_nil, Nat.mul_zero, Nat.zero_add, h0', h1', e2, if_true, decide_true, Bool.true_and, Bool.or_false, decide_eq_true_eq, List.append_nil, if_neg (Nat.not_lt.mpr hle)]
      repeat (any_goals (first | assumption | wp_step))
      show Q (.ref (hp'.push _).objs.size) _
      rw [Heap.size_push]
      exact h

theorem entry_group : entryFor table "re.Match.group" = some Builtin.«re.Match.group» := entryFor_of_tree (by kernel_rfl)
theorem slot_group : Slot "re.Match" "group" "re.Match.group" :=
  .of (owner := "re.Match") (n := "group") (by rw [typeLookup_type, builtinLookup_eq_fast]; kernel_rfl) (by decide +kernel) (by decide +kernel) (by decide +kernel)
    (by first | exact .inl (by decide +kernel) | exact .inr (by decide +kernel)) (by rw [isSubtype_type]; kernel_rfl)
theorem args_group (a b : Value) : argsOk "re.Match.group" ⟨[a, b], []⟩ := by unfold argsOk; kernel_rfl
theorem type_group : typeOf (.builtin "re.Match.group") = pure (.type "method_descriptor") := by show builtinType _ = _; rw [builtinType_eq_fast]; kernel_rfl
theorem str_no_index : typeLookup (.type "str") "__index__" = pure none := by rw [typeLookup_type, builtinLookup_eq_fast]; kernel_rfl
noncomputable def groupB (l : List UInt8) (p q : Nat) : List UInt8 := (l.drop p).take (q - p)

theorem slice_bytes (l : List UInt8) (p q : Nat) : ((textN l).extract p q).map (·.toUInt8) = (groupB l p q).toArray := by
  apply Array.ext'
  simp [textN, groupB, List.extract_eq_take_drop, Function.comp_def]
set_option maxHeartbeats 3200000 in
theorem re_group {ad : Ad} {pp : Value} {tf : Tok} {l : List UInt8} {t tg tu ts : Tok} {mo T gi : Addr} {p q gn : Nat} {Q : Value → Shared → Prop} (hp : s.heap.get? ad.flags = some (patObj ad pp tf)) (hm : s.heap.get? mo = some (matchObj l t ad.flags T)) (hT : s.heap.get? T = some (spanObj p q))
    (hgi : s.heap.get? ad.gi = some (giObj (PyData.keyHash w.params "flags") tg tu gn)) (hpq : p ≤ q) (hq : q ≤ l.length) (hsz : l.length ≤ 1000000)
    (h : ∀ k t, Q (.bytes (groupB l p q).toArray t) { s with toks := k }) :
    wpAny (model prog w) A (call (.builtin "re.Match.group") [.ref mo, .str "flags" ts]) Q E s := by
  have hTy : s.TypeIs (.ref mo) "re.Match" := ⟨_, hm, rfl⟩
  refine wpAny_call (codeAny_call_builtin slot_group.plain entry_group (slot_group.check _ _ _ _ _ _ _ _ hTy (args_group _ _) ?_))
  unfold Builtin.«re.Match.group»
  have s4 : isSubtype (.type "bytes") (.type "bytes") = pure true := by rw [isSubtype_type]; kernel_rfl
  have s5 := str_no_index
  obtain ⟨hp', g, d, tk, os⟩ := s
  unfold patObj at hp
  unfold matchObj at hm
  unfold spanObj tupObj at hT
  have hmap : Heap.MapOf (strKind prog w) hp' ad.gi (fun k => findBy (strKind prog w).is #[⟨PyData.keyHash w.params "flags", .str "flags" tg, .int 1 tu⟩] k) := by
    refine ⟨_, _, _, hgi, ⟨rfl, rfl, rfl⟩, rfl, fun e he => ?_, fun z_ => rfl⟩
    have : e = ⟨PyData.keyHash w.params "flags", .str "flags" tg, .int 1 tu⟩ := by simpa using he
    subst this
    exact ⟨"flags", strKind_is _ _ _ _, rfl⟩
  have hfind : findBy (strKind prog w).is #[⟨PyData.keyHash w.params "flags", .str "flags" tg, .int 1 tu⟩] "flags" = some (.int 1 tu) := by
    simp [findBy, strKind_is]
  repeat (any_goals (first | assumption | ((with_reducible show wpAny _ _ (dictGet _ _ >>= _) _ _ _); refine wpAny_bind (wpAny_dictGet_of (knd := strKind prog w) (k := "flags") (strKind_is ..) hmap ?_); rw [hfind]) | ((with_reducible show wpAny _ _ (dictGet _ _) _ _ _); refine wpAny_dictGet_of (knd := strKind prog w) (k := "flags") (strKind_is ..) hmap ?_; rw [hfind]) | ((with_reducible show wpAny _ _ (Builtin.Re.reTextOf _ >>= _) _ _ _); refine wpAny_bind (wpAny_of_eq (txt_of _ _) ?_)) | ((with_reducible show wpAny _ _ (Builtin.Re.reTextOf _) _ _ _); refine wpAny_of_eq (txt_of _ _) ?_) | wp_step))
  have e : Array.map Builtin.Re.reRawOf ((some #[rawInt 0, rawInt ((q + 1 : Nat) : Int), rawInt (p : Nat), rawInt (q : Nat)]).getD #[]) = #[0, ((q + 1 : Nat) : Int), (p : Int), (q : Int)] := by simp [Builtin.Re.reRawOf, rawInt]
  rw [e]
  refine wpAny_ite_split (fun hx => ?_) fun z_ => ?_
  · exfalso
    have : (decide ((p : Int) < 0) || decide ((q : Int) < 0)) = true := hx
    simp at this
    lia
  refine wpAny_bind (wpAny_of_eq (txt_of _ _) ?_)
  show wpAny _ _ (mkBytes (((textN l).extract p q).map (·.toUInt8))) _ _ _
  rw [slice_bytes]
  have hz : ¬ ((groupB l p q).toArray.size > sizeLine) := by
    have h1 : (groupB l p q).length ≤ l.length := by unfold groupB; rw [List.length_take, List.length_drop]; lia
    have h2 : 1000000 ≤ sizeLine := Nat.le_of_ble_eq_true rfl
    simp only [List.size_toArray]
    lia
  unfold mkBytes
  rw [if_neg hz]
  repeat (any_goals (first | assumption | wp_step))
  exact h _ _
end
end
section

structure G where
  line : List Nat
  held : List (Option Nat)
  passed : List Nat
noncomputable def better (ranks : List Nat) (row col : Nat) : Option Nat → Bool
  | none => true
  | some o => decide (ranks.getD (3 * row + col) 0 < ranks.getD (3 * o + col) 0)
noncomputable def gStep (wishes : List (List Nat)) (ranks : List Nat) (turn : Nat) (g : G) : G :=
  let k := turn % g.line.length
  let row := g.line.getD k 0
  let line := g.line.eraseIdx k
  let pw := g.passed.getD row 0
  let wl := wishes.getD row []
  if pw < wl.length then
    let col := wl.getD pw 0
    let passed := g.passed.set row (pw + 1)
    let other := g.held.getD col none
    if better ranks row col other then ⟨line ++ other.toList, g.held.set col (some row), passed⟩
    else ⟨line ++ [row], g.held, passed⟩
  else ⟨line, g.held, g.passed⟩
noncomputable def gRun (wishes : List (List Nat)) (ranks : List Nat) (turn : Nat) : Nat → G → G
  | 0, g => g
  | n + 1, g => match g.line with
    | [] => g
    | _ :: _ => gRun wishes ranks turn n (gStep wishes ranks turn g)
noncomputable def remOf (wishes : List (List Nat)) (g : G) (r : Nat) : Nat := (wishes.getD r []).length - g.passed.getD r 0
noncomputable def mu (wishes : List (List Nat)) (g : G) : Nat := remOf wishes g 0 + remOf wishes g 1 + remOf wishes g 2 + g.line.length
structure Good (wishes : List (List Nat)) (g : G) : Prop where
  l : ∀ r ∈ g.line, r < 3
  ll : g.line.length ≤ 3
  h : g.held.length = 3
  hr : ∀ r, some r ∈ g.held → r < 3
  p : g.passed.length = 3
  w : ∀ r, r < 3 → ∀ c ∈ wishes.getD r [], c < 3
  pw : ∀ r, r < 3 → (wishes.getD r []).length ≤ 9 ∧ g.passed.getD r 0 ≤ 9

theorem getD_set {α : Type} (l : List α) (i j : Nat) (v d : α) (h : i < l.length) : (l.set i v).getD j d = if j = i then v else l.getD j d := by
  rw [List.getD_eq_getElem?_getD, List.getD_eq_getElem?_getD, List.getElem?_set]
  by_cases e : i = j
  · subst e; simp [h]
  · simp [e, Ne.symm e]
theorem getD_mem {α : Type} {l : List α} {i : Nat} {d : α} (h : i < l.length) : l.getD i d ∈ l := by
  rw [List.getD_eq_getElem?_getD, List.getElem?_eq_getElem h]; exact List.getElem_mem h

theorem good_step {wishes : List (List Nat)} {ranks : List Nat} {turn : Nat} {g : G} (hg : Good wishes g) (hl : g.line ≠ []) : Good wishes (gStep wishes ranks turn g) ∧ mu wishes (gStep wishes ranks turn g) < mu wishes g := by
  have hlen : 0 < g.line.length := List.length_pos_iff.mpr hl
  have hk : turn % g.line.length < g.line.length := Nat.mod_lt _ hlen
  have hrow : g.line.getD (turn % g.line.length) 0 < 3 := hg.l _ (getD_mem hk)
  have hel : (g.line.eraseIdx (turn % g.line.length)).length + 1 = g.line.length := by rw [List.length_eraseIdx_of_lt hk]; lia
  have hes : ∀ r ∈ g.line.eraseIdx (turn % g.line.length), r < 3 := fun r hr => hg.l r (List.mem_of_mem_eraseIdx hr)
  have hll := hg.ll
  unfold gStep
  dsimp only
  generalize turn % g.line.length = k at *
  generalize g.line.getD k 0 = row at *
  generalize g.line.eraseIdx k = line at *
  split
  · rename_i hp
    have hcol : (wishes.getD row []).getD (g.passed.getD row 0) 0 < 3 := hg.w row hrow _ (getD_mem hp)
    generalize (wishes.getD row []).getD (g.passed.getD row 0) 0 = col at *
    have hpw := hg.pw row hrow
    have hset : ∀ j, (g.passed.set row (g.passed.getD row 0 + 1)).getD j 0 = if j = row then g.passed.getD row 0 + 1 else g.passed.getD j 0 := fun j => getD_set _ _ _ _ _ (by rw [hg.p]; exact hrow)
    have hrem : ∀ (line' : List Nat) (held' : List (Option Nat)), remOf wishes ⟨line', held', g.passed.set row (g.passed.getD row 0 + 1)⟩ 0 + remOf wishes ⟨line', held', g.passed.set row (g.passed.getD row 0 + 1)⟩ 1 + remOf wishes ⟨line', held', g.passed.set row (g.passed.getD row 0 + 1)⟩ 2 + 1 = remOf wishes g 0 + remOf wishes g 1 + remOf wishes g 2 := by
      intro line' held'
      unfold remOf
      simp only [hset]
      have : row = 0 ∨ row = 1 ∨ row = 2 := by lia
      rcases this with rfl | rfl | rfl <;> simp only [if_true, if_neg (show ¬ (0 = 1) by decide), if_neg (show ¬ (0 = 2) by decide), if_neg (show ¬ (1 = 0) by decide), if_neg (show ¬ (1 = 2) by decide), if_neg (show ¬ (2 = 0) by decide), if_neg (show ¬ (2 = 1) by decide)] <;> lia
    split
    · have ho : (g.held.getD col none).toList.length ≤ 1 := by cases g.held.getD col none <;> simp
      refine ⟨⟨fun r hr => ?_, ?_, by simpa using hg.h, fun r hr => ?_, by simpa using hg.p, hg.w, fun r hr => ⟨(hg.pw r hr).1, ?_⟩⟩, ?_⟩
      · rcases List.mem_append.mp hr with h | h
        · exact hes r h
        · have hm : some r = g.held.getD col none := by
            cases e : g.held.getD col none with
            | none => rw [e] at h; cases h
            | some o => rw [e] at h; simp at h; rw [h]
          exact hg.hr r (hm ▸ getD_mem (by rw [hg.h]; exact hcol))
      · simp only [List.length_append]; lia
      · rcases List.mem_or_eq_of_mem_set hr with h | h
        · exact hg.hr r h
        · cases h; exact hrow
      · show (g.passed.set row (g.passed.getD row 0 + 1)).getD r 0 ≤ 9
        rw [hset]; split
        · lia
        · exact (hg.pw r hr).2
      · have := hrem (line ++ (g.held.getD col none).toList) (g.held.set col (some row))
        unfold mu
        simp only [List.length_append]
        lia
    · refine ⟨⟨fun r hr => ?_, ?_, hg.h, hg.hr, by simpa using hg.p, hg.w, fun r hr => ⟨(hg.pw r hr).1, ?_⟩⟩, ?_⟩
      · rcases List.mem_append.mp hr with h | h
        · exact hes r h
        · cases List.mem_singleton.mp h; exact hrow
      · simp only [List.length_append, List.length_singleton]; lia
      · show (g.passed.set row (g.passed.getD row 0 + 1)).getD r 0 ≤ 9
        rw [hset]; split
        · lia
        · exact (hg.pw r hr).2
      · have := hrem (line ++ [row]) g.held
        unfold mu
        simp only [List.length_append, List.length_singleton]
        lia
  · refine ⟨⟨hes, by simp only; lia, hg.h, hg.hr, hg.p, hg.w, hg.pw⟩, ?_⟩
    unfold mu remOf
    simp only
    lia

theorem gRun_stable {wishes : List (List Nat)} {ranks : List Nat} {turn : Nat} : ∀ (n : Nat) (g : G), Good wishes g → mu wishes g ≤ n → gRun wishes ranks turn n g = gRun wishes ranks turn (mu wishes g) g := by
  intro n
  induction n using Nat.strongRecOn with
  | ind n ih =>
    intro g hg hn
    cases hl : g.line with
    | nil =>
      have e : ∀ m, gRun wishes ranks turn m g = g := fun m => by
        cases m with
        | zero => rfl
        | succ m => unfold gRun; rw [hl]
      rw [e, e]
    | cons r rest =>
      have hne : g.line ≠ [] := by rw [hl]; exact List.cons_ne_nil _ _
      obtain ⟨hg', hmu⟩ := good_step (ranks := ranks) (turn := turn) hg hne
      obtain ⟨m, rfl⟩ : ∃ m, n = m + 1 := ⟨n - 1, by lia⟩
      obtain ⟨k, hk⟩ : ∃ k, mu wishes g = k + 1 := ⟨mu wishes g - 1, by lia⟩
      rw [hk]
      have e : ∀ j, gRun wishes ranks turn (j + 1) g = gRun wishes ranks turn j (gStep wishes ranks turn g) := fun j => by
        conv => lhs; unfold gRun
        rw [hl]
      rw [e, e, ih m (by lia) _ hg' (by lia), ih k (by lia) _ hg' (by lia)]

theorem gRun_next {wishes : List (List Nat)} {ranks : List Nat} {turn : Nat} {g : G} (hg : Good wishes g) (hl : g.line ≠ []) : gRun wishes ranks turn (mu wishes (gStep wishes ranks turn g)) (gStep wishes ranks turn g) = gRun wishes ranks turn (mu wishes g) g := by
  obtain ⟨hg', hmu⟩ := good_step (ranks := ranks) (turn := turn) hg hl
  obtain ⟨k, hk⟩ : ∃ k, mu wishes g = k + 1 := ⟨mu wishes g - 1, by lia⟩
  have e : ∀ j, gRun wishes ranks turn (j + 1) g = gRun wishes ranks turn j (gStep wishes ranks turn g) := fun j => by
    conv => lhs; unfold gRun
    cases h : g.line with
    | nil => exact absurd h hl
    | cons a r => rfl
  rw [hk, e, gRun_stable k _ hg' (by lia)]
section
variable {wishes : List (List Nat)} {ranks : List Nat} {turn k row col : Nat} {g : G} {oth : Option Nat}
theorem gStep_no (hk : turn % g.line.length = k) (hr : g.line.getD k 0 = row) (h : ¬ g.passed.getD row 0 < (wishes.getD row []).length) : gStep wishes ranks turn g = ⟨g.line.eraseIdx k, g.held, g.passed⟩ := by
  unfold gStep
  simp only [hk, hr]
  rw [if_neg h]
theorem gStep_yes (hk : turn % g.line.length = k) (hr : g.line.getD k 0 = row) (h : g.passed.getD row 0 < (wishes.getD row []).length) (hc : (wishes.getD row []).getD (g.passed.getD row 0) 0 = col) (ho : g.held.getD col none = oth) (hb : better ranks row col oth = true) :
    gStep wishes ranks turn g = ⟨g.line.eraseIdx k ++ oth.toList, g.held.set col (some row), g.passed.set row (g.passed.getD row 0 + 1)⟩ := by
  unfold gStep
  simp only [hk, hr]
  rw [if_pos h, hc, ho, if_pos hb]
theorem gStep_rej (hk : turn % g.line.length = k) (hr : g.line.getD k 0 = row) (h : g.passed.getD row 0 < (wishes.getD row []).length) (hc : (wishes.getD row []).getD (g.passed.getD row 0) 0 = col) (ho : g.held.getD col none = oth) (hb : ¬ better ranks row col oth = true) :
    gStep wishes ranks turn g = ⟨g.line.eraseIdx k ++ [row], g.held, g.passed.set row (g.passed.getD row 0 + 1)⟩ := by
  unfold gStep
  simp only [hk, hr]
  rw [if_pos h, hc, ho, if_neg hb]
end

noncomputable def g0 : G := ⟨[0, 1, 2], [none, none, none], [0, 0, 0]⟩
noncomputable def ableP (lists : List (List Int)) (dealt : List (Option Int)) (colour : Int) (cell : Nat) : Bool := (dealt.getD cell none).isNone && (lists.getD cell []).any (· == colour)
noncomputable def ableOf (lists : List (List Int)) (dealt : List (Option Int)) (colour : Int) (row : Nat) : List Nat := [3 * row, 3 * row + 1, 3 * row + 2].filter (ableP lists dealt colour)
noncomputable def wishOf (ranks : List Nat) (able : List Nat) : List Nat := [2, 1, 0].flatMap fun rank => (able.filter fun cell => ranks.getD cell 0 == rank).map (· % 3)
noncomputable def wishesOf (lists : List (List Int)) (ranks : List Nat) (dealt : List (Option Int)) (colour : Int) : List (List Nat) := [0, 1, 2].map fun row => wishOf ranks (ableOf lists dealt colour row)
noncomputable def heldOf (lists : List (List Int)) (ranks : List Nat) (turn : Nat) (dealt : List (Option Int)) (colour : Int) : List (Option Nat) := (gRun (wishesOf lists ranks dealt colour) ranks turn 30 g0).held
noncomputable def putCol (held : List (Option Nat)) (colour : Int) (d : List (Option Int)) (col : Nat) : List (Option Int) := match held.getD col none with
  | none => d
  | some r => d.set (3 * r + col) (some colour)
noncomputable def dealStep (lists : List (List Int)) (ranks : List Nat) (turn : Nat) (dealt : List (Option Int)) (colour : Int) : List (Option Int) :=
  [0, 1, 2].foldl (putCol (heldOf lists ranks turn dealt colour) colour) dealt
noncomputable def dealtOf (lists : List (List Int)) (colours : List Int) (ranks : List Nat) (turn : Nat) : List (Option Int) := colours.foldl (dealStep lists ranks turn) (List.replicate 9 none)

theorem wish_mem {ranks able : List Nat} : ∀ c ∈ wishOf ranks able, c < 3 := by
  intro c hc
  unfold wishOf at hc
  obtain ⟨rk, _, hc⟩ := List.mem_flatMap.mp hc
  obtain ⟨x, _, rfl⟩ := List.mem_map.mp hc
  exact Nat.mod_lt _ (by decide)
theorem wish_len {ranks able : List Nat} (h : able.length ≤ 3) : (wishOf ranks able).length ≤ 9 := by
  unfold wishOf
  simp only [List.flatMap_cons, List.flatMap_nil, List.length_append, List.length_map, List.length_nil]
  have h2 := List.length_filter_le (fun cell => ranks.getD cell 0 == 2) able
  have h1 := List.length_filter_le (fun cell => ranks.getD cell 0 == 1) able
  have h0 := List.length_filter_le (fun cell => ranks.getD cell 0 == 0) able
  lia
theorem able_len {lists : List (List Int)} {dealt : List (Option Int)} {colour : Int} {row : Nat} : (ableOf lists dealt colour row).length ≤ 3 := by unfold ableOf; exact List.length_filter_le _ _
theorem good0 {lists : List (List Int)} {ranks : List Nat} {dealt : List (Option Int)} {colour : Int} : Good (wishesOf lists ranks dealt colour) g0 := by
  have key : ∀ r, r < 3 → (wishesOf lists ranks dealt colour).getD r [] = wishOf ranks (ableOf lists dealt colour r) := fun r hr => by
    have : r = 0 ∨ r = 1 ∨ r = 2 := by lia
    rcases this with rfl | rfl | rfl <;> rfl
  refine ⟨by decide, by decide, rfl, fun r hr => ?_, rfl, fun r hr c hc => ?_, fun r hr => ⟨?_, ?_⟩⟩
  · simp [g0] at hr
  · rw [key r hr] at hc; exact wish_mem c hc
  · rw [key r hr]; exact wish_len able_len
  · have : r = 0 ∨ r = 1 ∨ r = 2 := by lia
    rcases this with rfl | rfl | rfl <;> exact Nat.zero_le _
theorem mu0 {lists : List (List Int)} {ranks : List Nat} {dealt : List (Option Int)} {colour : Int} : mu (wishesOf lists ranks dealt colour) g0 ≤ 30 := by
  have h := @good0 lists ranks dealt colour
  have h0 := (h.pw 0 (by decide)).1
  have h1 := (h.pw 1 (by decide)).1
  have h2 := (h.pw 2 (by decide)).1
  unfold mu remOf
  show _ + 3 ≤ 30
  exact Nat.le_trans (Nat.add_le_add_right (Nat.add_le_add (Nat.add_le_add (Nat.le_trans (Nat.sub_le _ _) h0) (Nat.le_trans (Nat.sub_le _ _) h1)) (Nat.le_trans (Nat.sub_le _ _) h2)) 3) (by decide)
theorem gRun_good {wishes : List (List Nat)} {ranks : List Nat} {turn : Nat} : ∀ (n : Nat) (g : G), Good wishes g → Good wishes (gRun wishes ranks turn n g)
  | 0, g, h => h
  | n + 1, g, h => by
    unfold gRun
    cases e : g.line with
    | nil => exact h
    | cons a r => exact gRun_good n _ (good_step h (by rw [e]; exact List.cons_ne_nil _ _)).1
end
section

noncomputable def askG (W : List (List Nat)) (g : G) (r c : Nat) : Prop := c ∈ (W.getD r []).take (g.passed.getD r 0)
noncomputable def rk (ranks : List Nat) (r c : Nat) : Nat := ranks.getD (3 * r + c) 0

theorem ask_step {W : List (List Nat)} {g : G} {row col r c : Nat} {line : List Nat} {held : List (Option Nat)} (hrow : row < g.passed.length) (hp : g.passed.getD row 0 < (W.getD row []).length) (hc : (W.getD row []).getD (g.passed.getD row 0) 0 = col) :
    askG W ⟨line, held, g.passed.set row (g.passed.getD row 0 + 1)⟩ r c ↔ askG W g r c ∨ (r = row ∧ c = col) := by
  unfold askG
  show c ∈ (W.getD r []).take ((g.passed.set row (g.passed.getD row 0 + 1)).getD r 0) ↔ _
  rw [getD_set _ _ _ _ _ hrow]
  by_cases h : r = row
  · subst h
    rw [if_pos rfl, List.take_add_one]
    have e : (W.getD r [])[g.passed.getD r 0]? = some col := by
      rw [List.getD_eq_getElem?_getD, List.getElem?_eq_getElem hp] at hc
      rw [List.getElem?_eq_getElem hp, ← hc]; rfl
    rw [e]
    simp
  · rw [if_neg h]
    simp [h]

structure Inv (W : List (List Nat)) (ranks : List Nat) (g : G) : Prop where
  good : Good W g
  le : ∀ r, r < 3 → g.passed.getD r 0 ≤ (W.getD r []).length
  b : ∀ r, r < 3 → ∀ c, c < 3 → askG W g r c → ∃ o, g.held.getD c none = some o ∧ rk ranks o c ≤ rk ranks r c
  h : ∀ c, c < 3 → ∀ o, g.held.getD c none = some o → o < 3 ∧ askG W g o c
  inj : ∀ c, c < 3 → ∀ c', c' < 3 → ∀ o, g.held.getD c none = some o → g.held.getD c' none = some o → c = c'
  free : ∀ r, r < 3 → r ∈ g.line ∨ (∃ c, c < 3 ∧ g.held.getD c none = some r) ∨ g.passed.getD r 0 = (W.getD r []).length
  off : ∀ r ∈ g.line, ∀ c, c < 3 → g.held.getD c none ≠ some r
  nd : g.line.Nodup

structure Fair (W : List (List Nat)) (ranks : List Nat) : Prop where
  ranks : ∀ r, r < 3 → ∀ r', r' < 3 → ∀ c, c < 3 → r ≠ r' → rk ranks r c ≠ rk ranks r' c
  nodup : ∀ r, r < 3 → (W.getD r []).Nodup

theorem inv0 {W : List (List Nat)} {ranks : List Nat} (h : Good W g0) : Inv W ranks g0 := by
  have hz : ∀ r c, ¬ askG W g0 r c := fun r c hh => by
    unfold askG at hh
    have : g0.passed.getD r 0 = 0 := by
      match r with
      | 0 => rfl
      | 1 => rfl
      | 2 => rfl
      | r + 3 => rfl
    rw [this] at hh
    simp at hh
  have hn : ∀ c, g0.held.getD c none = none := fun c => by
    match c with
    | 0 => rfl
    | 1 => rfl
    | 2 => rfl
    | c + 3 => rfl
  refine ⟨h, fun r hr => ?_, fun r z_ c z_1 hh => absurd hh (hz r c), fun c z_ o ho => ?_, fun c z_ c' z_1 o ho => ?_, fun r hr => .inl ?_, fun r z_ c z_1 ho => ?_, by decide⟩
  · have : r = 0 ∨ r = 1 ∨ r = 2 := by lia
    rcases this with rfl | rfl | rfl <;> exact Nat.zero_le _
  · rw [hn] at ho; cases ho
  · rw [hn] at ho; cases ho
  · have : r = 0 ∨ r = 1 ∨ r = 2 := by lia
    rcases this with rfl | rfl | rfl <;> decide
  · rw [hn] at ho; cases ho

theorem mem_erase_ne {l : List Nat} {k x : Nat} (h : x ∈ l) (hne : x ≠ l.getD k 0) : x ∈ l.eraseIdx k := by
  obtain ⟨i, hi, rfl⟩ := List.mem_iff_getElem.mp h
  by_cases e : i = k
  · subst e
    exact absurd (by simp [hi]) hne
  · rw [List.mem_eraseIdx_iff_getElem]
    exact ⟨i, hi, e, rfl⟩
theorem not_mem_erase {l : List Nat} {k : Nat} (nd : l.Nodup) (hk : k < l.length) : l.getD k 0 ∉ l.eraseIdx k := by
  intro h
  rw [List.mem_eraseIdx_iff_getElem] at h
  obtain ⟨i, hi, hne, e⟩ := h
  have e2 : l[i] = l[k] := by rw [e]; simp [hk]
  have hp := List.pairwise_iff_getElem.mp nd
  rcases Nat.lt_trichotomy i k with h | h | h
  · exact hp i k hi hk h e2
  · exact hne h
  · exact hp k i hk hi h e2.symm

theorem inv_step {W : List (List Nat)} {ranks : List Nat} {turn : Nat} {g : G} (I : Inv W ranks g) (hl : g.line ≠ []) : Inv W ranks (gStep W ranks turn g) := by
  have hgood := (good_step (ranks := ranks) (turn := turn) I.good hl).1
  have hlen : 0 < g.line.length := List.length_pos_iff.mpr hl
  have hk : turn % g.line.length < g.line.length := Nat.mod_lt _ hlen
  generalize hkd : turn % g.line.length = k at hk
  have hrm : g.line.getD k 0 ∈ g.line := getD_mem hk
  have hnr := not_mem_erase I.nd hk
  have hke : ∀ x, x ∈ g.line → x ≠ g.line.getD k 0 → x ∈ g.line.eraseIdx k := fun x h1 h2 => mem_erase_ne h1 h2
  have hes : ∀ x, x ∈ g.line.eraseIdx k → x ∈ g.line := fun x h => List.mem_of_mem_eraseIdx h
  have hnd : (g.line.eraseIdx k).Nodup := I.nd.sublist (List.eraseIdx_sublist _ _)
  generalize hrd : g.line.getD k 0 = row at *
  have hrow : row < 3 := I.good.l row hrm
  have hoff := I.off row hrm
  have hpl := I.good.p
  have hhl := I.good.h
  by_cases hp : g.passed.getD row 0 < (W.getD row []).length
  · generalize hcd : (W.getD row []).getD (g.passed.getD row 0) 0 = col
    have hcol : col < 3 := hcd ▸ I.good.w row hrow _ (getD_mem hp)
    generalize hod : g.held.getD col none = oth
    have hps : ∀ j, (g.passed.set row (g.passed.getD row 0 + 1)).getD j 0 = if j = row then g.passed.getD row 0 + 1 else g.passed.getD j 0 := fun j => getD_set _ _ _ _ _ (by lia)
    have ha : ∀ (line : List Nat) (held : List (Option Nat)) (r c : Nat), askG W ⟨line, held, g.passed.set row (g.passed.getD row 0 + 1)⟩ r c ↔ askG W g r c ∨ (r = row ∧ c = col) := fun line held r c => ask_step (by lia) hp hcd
    have hle : ∀ r, r < 3 → (g.passed.set row (g.passed.getD row 0 + 1)).getD r 0 ≤ (W.getD r []).length := fun r hr => by
      rw [hps]
      split
      · rename_i h; subst h; lia
      · exact I.le r hr
    have hfr : ∀ r, r < 3 → r ≠ row → g.passed.getD r 0 = (W.getD r []).length → (g.passed.set row (g.passed.getD row 0 + 1)).getD r 0 = (W.getD r []).length := fun r hr hne h => by rw [hps, if_neg hne]; exact h
    by_cases hb : better ranks row col oth = true
    · have e := gStep_yes (wishes := W) (ranks := ranks) hkd hrd hp hcd hod hb
      rw [e] at hgood ⊢
      have hh : ∀ c, (g.held.set col (some row)).getD c none = if c = col then some row else g.held.getD c none := fun c => getD_set _ _ _ _ _ (by lia)
      have hbet : ∀ o, oth = some o → rk ranks row col < rk ranks o col := fun o ho => by
        rw [ho] at hb
        exact of_decide_eq_true hb
      have hot : ∀ o, oth = some o → o ∉ g.line := fun o ho hm => I.off o hm col hcol (hod.trans ho)
      refine ⟨hgood, hle, fun r hr c hc hask => ?_, fun c hc o ho => ?_, fun c hc c' hc' o ho ho' => ?_, fun r hr => ?_, fun r hr c hc ho => ?_, ?_⟩
      · show ∃ o, (g.held.set col (some row)).getD c none = some o ∧ _
        rw [hh]
        rcases (ha _ _ r c).mp hask with h | ⟨h1, h2⟩
        · obtain ⟨o, ho1, ho2⟩ := I.b r hr c hc h
          split
          · rename_i hcc
            rw [hcc] at ho1 ho2 ⊢
            exact ⟨row, rfl, Nat.le_trans (Nat.le_of_lt (hbet o (hod.symm.trans ho1))) ho2⟩
          · exact ⟨o, ho1, ho2⟩
        · exact ⟨row, if_pos h2, by rw [h1]; exact Nat.le_refl _⟩
      · have ho : (g.held.set col (some row)).getD c none = some o := ho
        rw [hh] at ho
        split at ho
        · rename_i hcc
          have e1 := Option.some.inj ho
          exact ⟨e1 ▸ hrow, (ha _ _ _ _).mpr (.inr ⟨e1.symm, hcc⟩)⟩
        · obtain ⟨h1, h2⟩ := I.h c hc o ho
          exact ⟨h1, (ha _ _ _ _).mpr (.inl h2)⟩
      · have ho : (g.held.set col (some row)).getD c none = some o := ho
        have ho' : (g.held.set col (some row)).getD c' none = some o := ho'
        rw [hh] at ho ho'
        split at ho
        · rename_i hcc
          split at ho'
          · rename_i hcc'; rw [hcc, hcc']
          · exact absurd (ho'.trans ho.symm) (hoff c' hc')
        · split at ho'
          · exact absurd (ho.trans ho'.symm) (hoff c hc)
          · exact I.inj c hc c' hc' o ho ho'
      · by_cases hrr : r = row
        · exact .inr (.inl ⟨col, hcol, (hh col).trans ((if_pos rfl).trans (congrArg some hrr.symm))⟩)
        · rcases I.free r hr with h | ⟨c, hc, h⟩ | h
          · exact .inl (List.mem_append_left _ (hke r h hrr))
          · by_cases hcc : c = col
            · rw [hcc, hod] at h
              refine .inl (List.mem_append_right _ ?_)
              rw [h]; simp
            · exact .inr (.inl ⟨c, hc, (hh c).trans ((if_neg hcc).trans h)⟩)
          · exact .inr (.inr (hfr r hr hrr h))
      · have ho : (g.held.set col (some row)).getD c none = some r := ho
        rw [hh] at ho
        rcases List.mem_append.mp hr with h | h
        · split at ho
          · exact hnr ((Option.some.inj ho).symm ▸ h)
          · exact I.off r (hes r h) c hc ho
        · have hor : oth = some r := by
            cases oth with
            | none => cases h
            | some o => simp at h; rw [h]
          split at ho
          · exact hot _ hor (Option.some.inj ho ▸ hrm)
          · rename_i hcc
            exact hcc (I.inj c hc col hcol r ho (hod.trans hor))
      · show (g.line.eraseIdx k ++ oth.toList).Nodup
        cases oth with
        | none => simpa using hnd
        | some o =>
          refine List.nodup_append.mpr ⟨hnd, by simp, fun a h1 b h2 => ?_⟩
          simp at h2
          exact fun e => hot o rfl (hes o (h2 ▸ e ▸ h1))
    · have e := gStep_rej (wishes := W) (ranks := ranks) hkd hrd hp hcd hod hb
      rw [e] at hgood ⊢
      refine ⟨hgood, hle, fun r hr c hc hask => ?_, fun c hc o ho => ?_, fun c hc c' hc' o ho ho' => I.inj c hc c' hc' o ho ho', fun r hr => ?_, fun r hr c hc ho => ?_, ?_⟩
      · rcases (ha _ _ r c).mp hask with h | ⟨h1, h2⟩
        · exact I.b r hr c hc h
        · rw [h1, h2]
          cases oth with
          | none => exact absurd rfl hb
          | some o =>
            refine ⟨o, hod, ?_⟩
            have : ¬ (rk ranks row col < rk ranks o col) := fun h => hb (decide_eq_true h)
            lia
      · obtain ⟨h1, h2⟩ := I.h c hc o ho
        exact ⟨h1, (ha _ _ _ _).mpr (.inl h2)⟩
      · by_cases hrr : r = row
        · exact .inl (List.mem_append_right _ (by rw [hrr]; exact .head _))
        · rcases I.free r hr with h | h | h
          · exact .inl (List.mem_append_left _ (hke r h hrr))
          · exact .inr (.inl h)
          · exact .inr (.inr (hfr r hr hrr h))
      · rcases List.mem_append.mp hr with h | h
        · exact I.off r (hes r h) c hc ho
        · exact hoff c hc (List.mem_singleton.mp h ▸ ho)
      · refine List.nodup_append.mpr ⟨hnd, by simp, fun a h1 b h2 => ?_⟩
        simp at h2
        exact fun e => hnr (h2 ▸ e ▸ h1)
  · have e := gStep_no (wishes := W) (ranks := ranks) hkd hrd hp
    rw [e] at hgood ⊢
    refine ⟨hgood, I.le, I.b, I.h, I.inj, fun r hr => ?_, fun r hr => I.off r (hes r hr), hnd⟩
    by_cases hrr : r = row
    · subst hrr
      exact .inr (.inr (Nat.le_antisymm (I.le r hr) (Nat.le_of_not_lt hp)))
    · rcases I.free r hr with h | h | h
      · exact .inl (hke r h hrr)
      · exact .inr (.inl h)
      · exact .inr (.inr h)
end
section

theorem ask_mono {W : List (List Nat)} {g g' : G} {r c : Nat} (h : g.passed.getD r 0 ≤ g'.passed.getD r 0) (a : askG W g r c) : askG W g' r c := by
  unfold askG at *
  obtain ⟨i, hi, e⟩ := List.mem_take_iff_getElem.mp a
  exact List.mem_take_iff_getElem.mpr ⟨i, by omega, e⟩

section
variable {W : List (List Nat)} {ranks : List Nat} {turn : Nat} {g F : G}

theorem pass_le (fair : Fair W ranks) (I : Inv W ranks g) (J : Inv W ranks F) (hF : F.line = []) (hle : ∀ r, r < 3 → g.passed.getD r 0 ≤ F.passed.getD r 0) (hl : g.line ≠ []) : ∀ r, r < 3 → (gStep W ranks turn g).passed.getD r 0 ≤ F.passed.getD r 0 := by
  have hlen : 0 < g.line.length := List.length_pos_iff.mpr hl
  have hk : turn % g.line.length < g.line.length := Nat.mod_lt _ hlen
  generalize hkd : turn % g.line.length = k at hk
  have hrm : g.line.getD k 0 ∈ g.line := getD_mem hk
  generalize hrd : g.line.getD k 0 = row at *
  have hrow : row < 3 := I.good.l row hrm
  by_cases hp : g.passed.getD row 0 < (W.getD row []).length
  · have key : g.passed.getD row 0 + 1 ≤ F.passed.getD row 0 := by
      have h1 := hle row hrow
      rcases Nat.lt_or_eq_of_le h1 with h | h
      · exact h
      · exfalso
        rcases J.free row hrow with h2 | ⟨c, hc, h2⟩ | h2
        · rw [hF] at h2; cases h2
        · have a := (J.h c hc row h2).2
          have a' : askG W g row c := ask_mono (Nat.le_of_eq h.symm) a
          obtain ⟨o, ho1, ho2⟩ := I.b row hrow c hc a'
          have hne : o ≠ row := fun z => I.off row hrm c hc (z ▸ ho1)
          obtain ⟨ho3, ho4⟩ := I.h c hc o ho1
          have a2 : askG W F o c := ask_mono (hle o ho3) ho4
          obtain ⟨o', ho5, ho6⟩ := J.b o ho3 c hc a2
          rw [h2] at ho5
          cases ho5
          exact fair.ranks o ho3 row hrow c hc hne (Nat.le_antisymm ho2 ho6)
        · lia
    have hps : ∀ j, (g.passed.set row (g.passed.getD row 0 + 1)).getD j 0 = if j = row then g.passed.getD row 0 + 1 else g.passed.getD j 0 := fun j => getD_set _ _ _ _ _ (by rw [I.good.p]; exact hrow)
    have e : (gStep W ranks turn g).passed = g.passed.set row (g.passed.getD row 0 + 1) := by
      by_cases hb : better ranks row ((W.getD row []).getD (g.passed.getD row 0) 0) (g.held.getD ((W.getD row []).getD (g.passed.getD row 0) 0) none) = true
      · rw [gStep_yes (wishes := W) (ranks := ranks) hkd hrd hp rfl rfl hb]
      · rw [gStep_rej (wishes := W) (ranks := ranks) hkd hrd hp rfl rfl hb]
    intro r hr
    rw [e, hps]
    split
    · rename_i h; subst h; exact key
    · exact hle r hr
  · rw [gStep_no (wishes := W) (ranks := ranks) hkd hrd hp]
    exact hle

theorem run_le (fair : Fair W ranks) (J : Inv W ranks F) (hF : F.line = []) : ∀ (n : Nat) (g : G), Inv W ranks g → (∀ r, r < 3 → g.passed.getD r 0 ≤ F.passed.getD r 0) → ∀ r, r < 3 → (gRun W ranks turn n g).passed.getD r 0 ≤ F.passed.getD r 0
  | 0, _, _, h => h
  | n + 1, g, I, h => by
    unfold gRun
    cases e : g.line with
    | nil => exact h
    | cons a l =>
      have hl : g.line ≠ [] := by rw [e]; exact List.cons_ne_nil _ _
      exact run_le fair J hF n _ (inv_step I hl) (pass_le fair I J hF h hl)
theorem run_inv : ∀ (n : Nat) (g : G), Inv W ranks g → Inv W ranks (gRun W ranks turn n g)
  | 0, _, I => I
  | n + 1, g, I => by
    unfold gRun
    cases e : g.line with
    | nil => exact I
    | cons a l => exact run_inv n _ (inv_step I (by rw [e]; exact List.cons_ne_nil _ _))
theorem run_end : ∀ (n : Nat) (g : G), Good W g → mu W g ≤ n → (gRun W ranks turn n g).line = []
  | 0, g, h, hm => by
    have : g.line.length = 0 := by unfold mu at hm; lia
    exact List.length_eq_zero_iff.mp this
  | n + 1, g, h, hm => by
    unfold gRun
    cases e : g.line with
    | nil => exact e
    | cons a l =>
      have hl : g.line ≠ [] := by rw [e]; exact List.cons_ne_nil _ _
      obtain ⟨h1, h2⟩ := good_step (ranks := ranks) (turn := turn) h hl
      exact run_end n _ h1 (by lia)

theorem held_eq (fair : Fair W ranks) {F1 F2 : G} (I : Inv W ranks F1) (J : Inv W ranks F2) (h : ∀ r, r < 3 → F1.passed.getD r 0 = F2.passed.getD r 0) : F1.held = F2.held := by
  have hc : ∀ c, c < 3 → F1.held.getD c none = F2.held.getD c none := fun c hc => by
    cases e1 : F1.held.getD c none with
    | some o =>
      obtain ⟨ho, a⟩ := I.h c hc o e1
      obtain ⟨o2, e2, h2⟩ := J.b o ho c hc (ask_mono (Nat.le_of_eq (h o ho)) a)
      obtain ⟨ho2, a2⟩ := J.h c hc o2 e2
      obtain ⟨o3, e3, h3⟩ := I.b o2 ho2 c hc (ask_mono (Nat.le_of_eq (h o2 ho2).symm) a2)
      rw [e1] at e3
      cases e3
      rw [e2]
      by_cases e : o = o2
      · rw [e]
      · exact absurd (Nat.le_antisymm h3 h2) (fair.ranks o ho o2 ho2 c hc e)
    | none =>
      cases e2 : F2.held.getD c none with
      | none => rfl
      | some o2 =>
        obtain ⟨ho2, a2⟩ := J.h c hc o2 e2
        obtain ⟨o3, e3, _⟩ := I.b o2 ho2 c hc (ask_mono (Nat.le_of_eq (h o2 ho2).symm) a2)
        rw [e1] at e3; cases e3
  refine List.ext_getElem (by rw [I.good.h, J.good.h]) fun i h1 h2 => ?_
  have := hc i (by rw [I.good.h] at h1; exact h1)
  simpa [h1, h2] using this

theorem held_turn (fair : Fair W ranks) (hg : Good W g0) (hm : mu W g0 ≤ 30) (t1 t2 : Nat) : (gRun W ranks t1 30 g0).held = (gRun W ranks t2 30 g0).held := by
  have I0 : Inv W ranks g0 := inv0 hg
  have hz : ∀ F : G, ∀ r, r < 3 → g0.passed.getD r 0 ≤ F.passed.getD r 0 := fun F r hr => by
    have : r = 0 ∨ r = 1 ∨ r = 2 := by lia
    rcases this with rfl | rfl | rfl <;> exact Nat.zero_le _
  have I1 := run_inv (turn := t1) 30 g0 I0
  have I2 := run_inv (turn := t2) 30 g0 I0
  have e1 := run_end (ranks := ranks) (turn := t1) 30 g0 hg hm
  have e2 := run_end (ranks := ranks) (turn := t2) 30 g0 hg hm
  refine held_eq fair I1 I2 fun r hr => Nat.le_antisymm ?_ ?_
  · exact run_le fair I2 e2 30 g0 I0 (hz _) r hr
  · exact run_le fair I1 e1 30 g0 I0 (hz _) r hr
end
end
section

noncomputable def ranksOf (down on sh : Nat) : List Nat := [0, 1, 2, 3, 4, 5, 6, 7, 8].map fun c => (down * (c / 3) + on * (c % 3) + sh) % 3
noncomputable def pickB (r : Nat) (b0 b1 b2 : Bool) : List Nat := (if b0 then [3 * r] else []) ++ (if b1 then [3 * r + 1] else []) ++ (if b2 then [3 * r + 2] else [])
theorem able_pick (lists : List (List Int)) (dealt : List (Option Int)) (k : Int) (r : Nat) : ableOf lists dealt k r = pickB r (ableP lists dealt k (3 * r)) (ableP lists dealt k (3 * r + 1)) (ableP lists dealt k (3 * r + 2)) := by
  unfold ableOf pickB
  simp only [List.filter_cons, List.filter_nil]
  cases ableP lists dealt k (3 * r) <;> cases ableP lists dealt k (3 * r + 1) <;> cases ableP lists dealt k (3 * r + 2) <;> rfl

noncomputable def bit (b0 b1 b2 : Bool) : Nat → Bool
  | 0 => b0
  | 1 => b1
  | _ => b2
noncomputable def all3 (p : Nat → Bool) : Bool := p 0 && p 1 && p 2
theorem all3_of {p : Nat → Bool} (h : all3 p = true) : ∀ i, i < 3 → p i = true := fun i hi => by
  unfold all3 at h
  simp only [Bool.and_eq_true] at h
  have : i = 0 ∨ i = 1 ∨ i = 2 := by lia
  rcases this with rfl | rfl | rfl
  · exact h.1.1
  · exact h.1.2
  · exact h.2
noncomputable def wishOk (ranks : List Nat) (r : Nat) (b0 b1 b2 : Bool) : Bool :=
  decide (wishOf ranks (pickB r b0 b1 b2)).Nodup && all3 (fun c => (wishOf ranks (pickB r b0 b1 b2)).contains c == bit b0 b1 b2 c) && decide ((wishOf ranks (pickB r b0 b1 b2)).Pairwise fun a b => rk ranks r b < rk ranks r a)
noncomputable def dom (ranks : List Nat) (cell : Nat) : List Nat :=
  (([0, 1, 2].filter fun c' => decide (rk ranks (cell / 3) (cell % 3) < rk ranks (cell / 3) c')).map fun c' => 3 * (cell / 3) + c') ++ (([0, 1, 2].filter fun r' => decide (rk ranks r' (cell % 3) < rk ranks (cell / 3) (cell % 3))).map fun r' => 3 * r' + cell % 3)
noncomputable def bools (p : Bool → Bool) : Bool := p false && p true
theorem bools_of {p : Bool → Bool} (h : bools p = true) : ∀ b, p b = true := fun b => by
  unfold bools at h
  simp only [Bool.and_eq_true] at h
  cases b
  · exact h.1
  · exact h.2
noncomputable def rankOk (ranks : List Nat) : Bool := all3 (fun r => all3 fun r' => all3 fun c => r == r' || rk ranks r c != rk ranks r' c) && all3 (fun r => bools fun b0 => bools fun b1 => bools fun b2 => wishOk ranks r b0 b1 b2) &&
  all3 (fun r => all3 fun c => Nat.ble (dom ranks (3 * r + c)).length 2)
theorem ranks_ok : ∀ down, down < 2 → ∀ on, on < 2 → ∀ sh, sh < 3 → rankOk (ranksOf (down + 1) (on + 1) sh) = true := by decide +kernel

section
variable {lists : List (List Int)} {ranks : List Nat} {dealt : List (Option Int)} {k : Int} {turn : Nat}
theorem wishes_get {r : Nat} (hr : r < 3) : (wishesOf lists ranks dealt k).getD r [] = wishOf ranks (ableOf lists dealt k r) := by
  have : r = 0 ∨ r = 1 ∨ r = 2 := by lia
  rcases this with rfl | rfl | rfl <;> rfl
theorem ok_parts (h : rankOk ranks = true) : (∀ r, r < 3 → ∀ r', r' < 3 → ∀ c, c < 3 → r ≠ r' → rk ranks r c ≠ rk ranks r' c) ∧ (∀ r, r < 3 → ∀ b0 b1 b2 : Bool, wishOk ranks r b0 b1 b2 = true) ∧ ∀ r, r < 3 → ∀ c, c < 3 → (dom ranks (3 * r + c)).length ≤ 2 := by
  unfold rankOk at h
  simp only [Bool.and_eq_true] at h
  refine ⟨fun r hr r' hr' c hc hne => ?_, fun r hr b0 b1 b2 => ?_, fun r hr c hc => ?_⟩
  · have := all3_of (all3_of (all3_of h.1.1 r hr) r' hr') c hc
    rw [Bool.or_eq_true] at this
    rcases this with h | h
    · exact absurd (eq_of_beq h) hne
    · exact bne_iff_ne.mp h
  · exact bools_of (bools_of (bools_of (all3_of h.1.2 r hr) b0) b1) b2
  · exact Nat.le_of_ble_eq_true (all3_of (all3_of h.2 r hr) c hc)
theorem wish_facts (h : rankOk ranks = true) {r : Nat} (hr : r < 3) : ((wishesOf lists ranks dealt k).getD r []).Nodup ∧ (∀ c, c < 3 → (c ∈ (wishesOf lists ranks dealt k).getD r [] ↔ ableP lists dealt k (3 * r + c) = true)) ∧
    ((wishesOf lists ranks dealt k).getD r []).Pairwise fun a b => rk ranks r b < rk ranks r a := by
  have hw := (ok_parts h).2.1 r hr (ableP lists dealt k (3 * r)) (ableP lists dealt k (3 * r + 1)) (ableP lists dealt k (3 * r + 2))
  rw [wishes_get hr, able_pick]
  unfold wishOk at hw
  simp only [Bool.and_eq_true, decide_eq_true_eq] at hw
  refine ⟨hw.1.1, fun c hc => ?_, hw.2⟩
  have h2 := eq_of_beq (all3_of hw.1.2 c hc)
  have e : bit (ableP lists dealt k (3 * r)) (ableP lists dealt k (3 * r + 1)) (ableP lists dealt k (3 * r + 2)) c = ableP lists dealt k (3 * r + c) := by
    have : c = 0 ∨ c = 1 ∨ c = 2 := by lia
    rcases this with rfl | rfl | rfl <;> rfl
  rw [e] at h2
  rw [← h2, List.contains_iff_mem]
theorem fair_of (h : rankOk ranks = true) : Fair (wishesOf lists ranks dealt k) ranks := ⟨(ok_parts h).1, fun z_ hr => (wish_facts h hr).1⟩

theorem held_any (h : rankOk ranks = true) (t1 t2 : Nat) : heldOf lists ranks t1 dealt k = heldOf lists ranks t2 dealt k := held_turn (fair_of h) good0 mu0 t1 t2
theorem dealt_any (h : rankOk ranks = true) (colours : List Int) (t1 t2 : Nat) : dealtOf lists colours ranks t1 = dealtOf lists colours ranks t2 := by
  unfold dealtOf
  generalize List.replicate 9 (none : Option Int) = d
  induction colours generalizing d with
  | nil => rfl
  | cons k cs ih =>
    simp only [List.foldl_cons]
    have e : dealStep lists ranks t1 d k = dealStep lists ranks t2 d k := by unfold dealStep; rw [held_any h t1 t2]
    rw [e]; exact ih _

structure Stable (lists : List (List Int)) (ranks : List Nat) (dealt : List (Option Int)) (k : Int) (hl : List (Option Nat)) : Prop where
  able : ∀ c, c < 3 → ∀ r, hl.getD c none = some r → r < 3 ∧ ableP lists dealt k (3 * r + c) = true
  inj : ∀ c, c < 3 → ∀ c', c' < 3 → ∀ r, hl.getD c none = some r → hl.getD c' none = some r → c = c'
  dom : ∀ r, r < 3 → ∀ c, c < 3 → ableP lists dealt k (3 * r + c) = true → hl.getD c none = some r ∨ (∃ o, o < 3 ∧ hl.getD c none = some o ∧ rk ranks o c < rk ranks r c) ∨ (∃ c', c' < 3 ∧ hl.getD c' none = some r ∧ rk ranks r c < rk ranks r c')
theorem held_stable (h : rankOk ranks = true) : Stable lists ranks dealt k (heldOf lists ranks turn dealt k) := by
  have I : Inv (wishesOf lists ranks dealt k) ranks (gRun (wishesOf lists ranks dealt k) ranks turn 30 g0) := run_inv 30 g0 (inv0 good0)
  have e := run_end (ranks := ranks) (turn := turn) 30 g0 (good0 (lists := lists) (ranks := ranks) (dealt := dealt) (colour := k)) mu0
  unfold heldOf
  generalize gRun (wishesOf lists ranks dealt k) ranks turn 30 g0 = F at *
  refine ⟨fun c hc r hr => ?_, fun c hc c' hc' r => I.inj c hc c' hc' r, fun r hr c hc ha => ?_⟩
  · obtain ⟨h1, h2⟩ := I.h c hc r hr
    exact ⟨h1, ((wish_facts h h1).2.1 c hc).mp (List.mem_of_mem_take h2)⟩
  · have hm := ((wish_facts h hr).2.1 c hc).mpr ha
    by_cases hask : askG (wishesOf lists ranks dealt k) F r c
    · obtain ⟨o, ho1, ho2⟩ := I.b r hr c hc hask
      obtain ⟨ho3, _⟩ := I.h c hc o ho1
      by_cases hor : o = r
      · exact .inl (hor ▸ ho1)
      · exact .inr (.inl ⟨o, ho3, ho1, Nat.lt_of_le_of_ne ho2 ((ok_parts h).1 o ho3 r hr c hc hor)⟩)
    · refine .inr (.inr ?_)
      rcases I.free r hr with h1 | ⟨c', hc', h1⟩ | h1
      · rw [e] at h1; cases h1
      · refine ⟨c', hc', h1, ?_⟩
        have hask' := (I.h c' hc' r h1).2
        have hp := (wish_facts h hr (lists := lists) (dealt := dealt) (k := k)).2.2
        unfold askG at hask hask'
        generalize (wishesOf lists ranks dealt k).getD r [] = l at *
        generalize F.passed.getD r 0 = q at *
        obtain ⟨i, hi, ei⟩ := List.mem_take_iff_getElem.mp hask'
        obtain ⟨j, hj, ej⟩ := List.mem_iff_getElem.mp hm
        have hij : i < j := by
          rcases Nat.lt_or_ge i j with h | h
          · exact h
          · exact absurd (List.mem_take_iff_getElem.mpr ⟨j, by lia, ej⟩) hask
        have := List.pairwise_iff_getElem.mp hp i j (by lia) hj hij
        rw [ei, ej] at this
        exact this
      · exfalso
        unfold askG at hask
        rw [h1, List.take_length] at hask
        exact hask hm
end
end
section

section
variable {lists : List (List Int)} {ranks : List Nat} {d : List (Option Int)} {k : Int} {turn : Nat} {hl : List (Option Nat)}

theorem putCol_len (q : Nat) : (putCol hl k d q).length = d.length := by
  unfold putCol
  split
  · rfl
  · rw [List.length_set]
theorem putCol_get (h9 : d.length = 9) {q i : Nat} (hq : q < 3) (hr : ∀ r, hl.getD q none = some r → r < 3) : (putCol hl k d q).getD i none = if hl.getD q none = some (i / 3) ∧ i % 3 = q then some k else d.getD i none := by
  unfold putCol
  cases e : hl.getD q none with
  | none => simp
  | some r =>
    have h3 := hr r e
    simp only
    rw [getD_set _ _ _ _ _ (by lia)]
    by_cases hi : i = 3 * r + q
    · rw [if_pos hi, if_pos ⟨by rw [hi]; congr 1; lia, by lia⟩]
    · rw [if_neg hi, if_neg]
      rintro ⟨h1, h2⟩
      cases h1
      exact hi (by lia)
theorem step_get (h9 : d.length = 9) {i : Nat} (hi : i < 9) (hr : ∀ q, q < 3 → ∀ r, hl.getD q none = some r → r < 3) :
    ([0, 1, 2].foldl (putCol hl k) d).getD i none = if hl.getD (i % 3) none = some (i / 3) then some k else d.getD i none := by
  simp only [List.foldl_cons, List.foldl_nil]
  rw [putCol_get (by rw [putCol_len, putCol_len]; exact h9) (by decide) (hr 2 (by decide)), putCol_get (by rw [putCol_len]; exact h9) (by decide) (hr 1 (by decide)), putCol_get h9 (by decide) (hr 0 (by decide))]
  have hm : i % 3 = 0 ∨ i % 3 = 1 ∨ i % 3 = 2 := by lia
  rcases hm with h | h | h <;> rw [h] <;> simp

structure DI (lists : List (List Int)) (ranks : List Nat) (done : List Int) (d : List (Option Int)) : Prop where
  len : d.length = 9
  own : ∀ i, i < 9 → ∀ k, d.getD i none = some k → k ∈ done ∧ k ∈ lists.getD i []
  row : ∀ r, r < 3 → ∀ c, c < 3 → ∀ c', c' < 3 → c ≠ c' → ∀ k, d.getD (3 * r + c) none = some k → d.getD (3 * r + c') none ≠ some k
  col : ∀ c, c < 3 → ∀ r, r < 3 → ∀ r', r' < 3 → r ≠ r' → ∀ k, d.getD (3 * r + c) none = some k → d.getD (3 * r' + c) none ≠ some k
  dom : ∀ r, r < 3 → ∀ c, c < 3 → d.getD (3 * r + c) none = none → ∀ k, k ∈ done → k ∈ lists.getD (3 * r + c) [] → ∃ j, j ∈ dom ranks (3 * r + c) ∧ d.getD j none = some k

theorem di_step (h : rankOk ranks = true) {done : List Int} (I : DI lists ranks done d) (hk : k ∉ done) : DI lists ranks (done ++ [k]) (dealStep lists ranks turn d k) := by
  have S : Stable lists ranks d k (heldOf lists ranks turn d k) := held_stable h
  unfold dealStep
  generalize heldOf lists ranks turn d k = hl at *
  have hr : ∀ q, q < 3 → ∀ r, hl.getD q none = some r → r < 3 := fun q hq r e => (S.able q hq r e).1
  have hg : ∀ i, i < 9 → ([0, 1, 2].foldl (putCol hl k) d).getD i none = if hl.getD (i % 3) none = some (i / 3) then some k else d.getD i none := fun i hi => step_get I.len hi hr
  have hgc : ∀ r, r < 3 → ∀ c, c < 3 → ([0, 1, 2].foldl (putCol hl k) d).getD (3 * r + c) none = if hl.getD c none = some r then some k else d.getD (3 * r + c) none := fun r hr c hc => by
    rw [hg _ (by lia)]
    rw [show (3 * r + c) % 3 = c by lia, show (3 * r + c) / 3 = r by lia]
  have hnew : ∀ i, i < 9 → d.getD i none ≠ some k := fun i hi e => hk (I.own i hi k e).1
  have hfree : ∀ r, r < 3 → ∀ c, c < 3 → hl.getD c none = some r → d.getD (3 * r + c) none = none ∧ k ∈ lists.getD (3 * r + c) [] := fun r hr c hc e => by
    have := (S.able c hc r e).2
    unfold ableP at this
    simp only [Bool.and_eq_true, Option.isNone_iff_eq_none, List.any_eq_true, beq_iff_eq] at this
    obtain ⟨h1, x, h2, rfl⟩ := this
    exact ⟨h1, h2⟩
  refine ⟨?_, fun i hi κ e => ?_, fun r hr c hc c' hc' hne κ e e' => ?_, fun c hc r hr r' hr' hne κ e e' => ?_, fun r hr c hc e κ hκ hm => ?_⟩
  · simp only [List.foldl_cons, List.foldl_nil]
    rw [putCol_len, putCol_len, putCol_len]; exact I.len
  · rw [hg i hi] at e
    split at e
    · rename_i hh
      cases e
      have := (hfree (i / 3) (by lia) (i % 3) (by lia) hh).2
      rw [show 3 * (i / 3) + i % 3 = i by lia] at this
      exact ⟨List.mem_append_right _ (.head _), this⟩
    · obtain ⟨h1, h2⟩ := I.own i hi κ e
      exact ⟨List.mem_append_left _ h1, h2⟩
  · rw [hgc r hr c hc] at e
    rw [hgc r hr c' hc'] at e'
    split at e
    · rename_i h1
      cases e
      split at e'
      · rename_i h2
        exact hne (S.inj c hc c' hc' r h1 h2)
      · exact hnew _ (by lia) e'
    · split at e'
      · cases e'
        exact hnew _ (by lia) e
      · exact I.row r hr c hc c' hc' hne κ e e'
  · rw [hgc r hr c hc] at e
    rw [hgc r' hr' c hc] at e'
    split at e
    · rename_i h1
      cases e
      split at e'
      · rename_i h2
        rw [h1] at h2
        cases h2
        exact hne rfl
      · exact hnew _ (by lia) e'
    · split at e'
      · cases e'
        exact hnew _ (by lia) e
      · exact I.col c hc r hr r' hr' hne κ e e'
  · rw [hgc r hr c hc] at e
    split at e
    · cases e
    · rename_i hnc
      rcases List.mem_append.mp hκ with h1 | h1
      · obtain ⟨j, hj, ej⟩ := I.dom r hr c hc e κ h1 hm
        refine ⟨j, hj, ?_⟩
        have hj9 : j < 9 := by
          by_cases hj9 : j < 9
          · exact hj9
          · rw [List.getD_eq_getElem?_getD, List.getElem?_eq_none (by rw [I.len]; lia)] at ej
            cases ej
        rw [hg j hj9]
        split
        · rename_i hh
          have := (hfree (j / 3) (by lia) (j % 3) (by lia) hh).1
          rw [show 3 * (j / 3) + j % 3 = j by lia] at this
          rw [this] at ej; cases ej
        · exact ej
      · have hkk := List.mem_singleton.mp h1
        rw [hkk] at hm ⊢
        have hab : ableP lists d k (3 * r + c) = true := by
          unfold ableP
          rw [e]
          simp only [Option.isNone_none, Bool.true_and, List.any_eq_true, beq_iff_eq]
          exact ⟨k, hm, rfl⟩
        rcases S.dom r hr c hc hab with h2 | ⟨o, ho, h2, h3⟩ | ⟨c', hc', h2, h3⟩
        · exact absurd h2 hnc
        · refine ⟨3 * o + c, ?_, (hgc o ho c hc).trans (if_pos h2)⟩
          unfold dom
          rw [show (3 * r + c) % 3 = c by lia, show (3 * r + c) / 3 = r by lia]
          refine List.mem_append_right _ (List.mem_map.mpr ⟨o, List.mem_filter.mpr ⟨?_, decide_eq_true h3⟩, rfl⟩)
          have : o = 0 ∨ o = 1 ∨ o = 2 := by lia
          rcases this with rfl | rfl | rfl <;> simp
        · refine ⟨3 * r + c', ?_, (hgc r hr c' hc').trans (if_pos h2)⟩
          unfold dom
          rw [show (3 * r + c) % 3 = c by lia, show (3 * r + c) / 3 = r by lia]
          refine List.mem_append_left _ (List.mem_map.mpr ⟨c', List.mem_filter.mpr ⟨?_, decide_eq_true h3⟩, rfl⟩)
          have : c' = 0 ∨ c' = 1 ∨ c' = 2 := by lia
          rcases this with rfl | rfl | rfl <;> simp

theorem di_run (h : rankOk ranks = true) : ∀ (cs done : List Int) (d : List (Option Int)), DI lists ranks done d → (done ++ cs).Nodup → DI lists ranks (done ++ cs) (cs.foldl (dealStep lists ranks turn) d)
  | [], done, d, I, _ => by rw [List.append_nil]; exact I
  | k :: cs, done, d, I, nd => by
    have hk : k ∉ done := fun hm => (List.nodup_append.mp nd).2.2 k hm k (.head _) rfl
    have := di_run h cs (done ++ [k]) _ (di_step (turn := turn) h I hk) (by rw [List.append_assoc]; exact nd)
    rw [List.append_assoc] at this
    exact this

theorem galvin (h : rankOk ranks = true) {colours : List Int} (nd : colours.Nodup) (hl : ∀ i, i < 9 → ∃ a b c, lists.getD i [] = [a, b, c] ∧ a ≠ b ∧ a ≠ c ∧ b ≠ c ∧ a ∈ colours ∧ b ∈ colours ∧ c ∈ colours) :
    (dealtOf lists colours ranks turn).length = 9 ∧ (∀ i, i < 9 → ∃ k, (dealtOf lists colours ranks turn).getD i none = some k ∧ k ∈ lists.getD i []) ∧
    (∀ r, r < 3 → ∀ c, c < 3 → ∀ c', c' < 3 → c ≠ c' → (dealtOf lists colours ranks turn).getD (3 * r + c) none ≠ (dealtOf lists colours ranks turn).getD (3 * r + c') none) ∧
    (∀ c, c < 3 → ∀ r, r < 3 → ∀ r', r' < 3 → r ≠ r' → (dealtOf lists colours ranks turn).getD (3 * r + c) none ≠ (dealtOf lists colours ranks turn).getD (3 * r' + c) none) := by
  have hn : ∀ i, (List.replicate 9 (none : Option Int)).getD i none = none := fun i => by
    rw [List.getD_eq_getElem?_getD, List.getElem?_replicate]
    split <;> rfl
  have I0 : DI lists ranks [] (List.replicate 9 none) := ⟨rfl, (fun i z_ k e => by rw [hn] at e; cases e), (fun r z_ c z_1 c' z_2 z_3 k e => by rw [hn] at e; cases e), (fun c z_ r z_1 r' z_2 z_3 k e => by rw [hn] at e; cases e), (fun r z_ c z_1 z_2 k hk => nomatch hk)⟩
  have I := di_run (turn := turn) h colours [] _ I0 (by simpa using nd)
  rw [List.nil_append] at I
  change DI lists ranks colours (dealtOf lists colours ranks turn) at I
  generalize dealtOf lists colours ranks turn = d at *
  have all : ∀ i, i < 9 → ∃ k, d.getD i none = some k ∧ k ∈ lists.getD i [] := fun i hi => by
    cases e : d.getD i none with
    | some k => exact ⟨k, rfl, (I.own i hi k e).2⟩
    | none =>
      exfalso
      obtain ⟨a, b, c, el, h1, h2, h3, ha, hb, hc⟩ := hl i hi
      have ei : 3 * (i / 3) + i % 3 = i := by lia
      have D := I.dom (i / 3) (by lia) (i % 3) (by lia)
      rw [ei] at D
      obtain ⟨ja, hja, ea⟩ := D e a ha (by rw [el]; simp)
      obtain ⟨jb, hjb, eb⟩ := D e b hb (by rw [el]; simp)
      obtain ⟨jc, hjc, ec⟩ := D e c hc (by rw [el]; simp)
      have hlen := (ok_parts h).2.2 (i / 3) (by lia) (i % 3) (by lia)
      rw [ei] at hlen
      have nab : ja ≠ jb := fun z => h1 (by rw [z, eb] at ea; exact (Option.some.inj ea).symm)
      have nac : ja ≠ jc := fun z => h2 (by rw [z, ec] at ea; exact (Option.some.inj ea).symm)
      have nbc : jb ≠ jc := fun z => h3 (by rw [z, ec] at eb; exact (Option.some.inj eb).symm)
      match hd : dom ranks i, hlen with
      | [], _ => rw [hd] at hja; cases hja
      | [x], _ =>
        rw [hd] at hja hjb
        exact nab ((List.mem_singleton.mp hja).trans (List.mem_singleton.mp hjb).symm)
      | [x, y], _ =>
        rw [hd] at hja hjb hjc
        simp only [List.mem_cons, List.not_mem_nil, or_false] at hja hjb hjc
        lia
      | x :: y :: z :: r, hlen => simp at hlen
  refine ⟨I.len, all, fun r hr c hc c' hc' hne e => ?_, fun c hc r hr r' hr' hne e => ?_⟩
  · obtain ⟨k, hk, _⟩ := all (3 * r + c) (by lia)
    exact I.row r hr c hc c' hc' hne k hk (e ▸ hk)
  · obtain ⟨k, hk, _⟩ := all (3 * r + c) (by lia)
    exact I.col c hc r hr r' hr' hne k hk (e ▸ hk)
end
end
section
open PySem PySem.Calls PyProof.Rows PySem.W

noncomputable abbrev pw : Program := PySem.Challenge.pw_kl0203_01

noncomputable def look0 (s : Shared) :=
  (s.heap.bltView, s.heap.isNs mainGlobals && s.heap.isNs builtinsNs && s.heap.isNs cStatics && s.heap.isNs 11 && s.gens.size == 0 && s.heap.accountedOkI (importedModules pw.main.body) && namesBound pw s.heap &&
    s.heap.nsMap mainGlobals "__builtins__" == some (.ref 4) && s.heap.nsMap mainGlobals "_sre" == some (.ref 12) && s.heap.nsMap 11 "compile" == some (.builtin "_sre.compile") && s.heap.nsMap mainGlobals "__annotations__" == some (.ref 6) &&
    (s.heap.nsMap cStatics "sys.recursionlimit").isNone && (s.heap.nsKeys mainGlobals).all (fun k => (["__name__", "__doc__", "__package__", "__loader__", "__spec__", "__annotations__", "__builtins__", "__file__", "__cached__", "_sre"] : List Str).contains k),
    s.heap.get? 4, s.heap.get? 12)
noncomputable def lookGood := (bltViewBooted, true, (some { cls := .type "module", dict := some builtinsNs, data := .plain } : Option Obj), (some { cls := .type "module", dict := some 11, data := .plain } : Option Obj))

set_option maxRecDepth 100000 in
set_option maxHeartbeats 4000000 in
theorem opened (w : World) : (fencedOpening treeTable pw w 800).map look0 = some lookGood := by kernel_rfl
end
section
open PySem PySem.Calls PyProof.Rows PySem.W

structure TS (base : Shared) (mg0 : Str → Option Value) (c Pl : Addr) (G : List (Str × Value)) (ps : List (Pos × Addr)) (K : List (Addr × Obj)) (s : Shared) : Prop where
  same : ∃ h tk, s = { base with heap := h, toks := tk }
  main : s.heap.Main (fun x => (G.lookup x).or (mg0 x)) c Pl (triples ps).toArray
  old : ∀ b o, b ≠ mainGlobals → base.heap.get? b = some o → s.heap.get? b = some o
  keep : ∀ p ∈ K, s.heap.get? p.1 = some p.2 ∧ p.1 ≠ mainGlobals ∧ p.1 ≠ Pl
  fresh : base.heap.get? Pl = none

section
variable {base : Shared} {mg0 : Str → Option Value} {c Pl F : Addr} {G : List (Str × Value)} {ps : List (Pos × Addr)} {K : List (Addr × Obj)} {s : Shared}
variable {prog : Program} {w : World} {A : Around} {E : Value → Shared → Prop}

theorem TS.grow (T : TS base mg0 c Pl G ps K s) {h : Heap} {tk : Nat} (e : ∀ b o, s.heap.get? b = some o → h.get? b = some o) : TS base mg0 c Pl G ps K { s with heap := h, toks := tk } := by
  obtain ⟨bm, o, hbm, hne0, hneG, hneP, hbo, hrest⟩ := T.main.bmod
  obtain ⟨h0, t0, e0⟩ := T.same
  exact ⟨⟨h, tk, by rw [e0]⟩, ⟨T.main.g.keeps e, T.main.code.keeps e, T.main.low, ⟨bm, o, hbm, hne0, hneG, hneP, e _ _ hbo, hrest⟩⟩, fun b o hb q => e _ _ (T.old b o hb q), fun p hp => ⟨e _ _ (T.keep p hp).1, (T.keep p hp).2⟩, T.fresh⟩
theorem TS.tok (T : TS base mg0 c Pl G ps K s) (tk : Nat) : TS base mg0 c Pl G ps K { s with toks := tk } := T.grow fun z_ z_1 h => h
theorem TS.add (T : TS base mg0 c Pl G ps K s) {h : Heap} {tk : Nat} {a : Addr} {o : Obj} (e : ∀ b o, s.heap.get? b = some o → h.get? b = some o) (hn : s.heap.get? a = none) (ha : h.get? a = some o) :
    TS base mg0 c Pl G ps ((a, o) :: K) { s with heap := h, toks := tk } := by
  have T' := T.grow (tk := tk) e
  refine ⟨T'.same, T'.main, T'.old, fun p hp => ?_, T'.fresh⟩
  rcases List.mem_cons.mp hp with rfl | hp
  · refine ⟨ha, ?_, ?_⟩
    · rintro rfl
      obtain ⟨o', _, _, q, _⟩ := T.main.g
      rw [q] at hn; cases hn
    · rintro rfl
      obtain ⟨_, _, _, _, _, _, _, _, _, op, _, _, _, _, _, _, _, hop, _⟩ := T.main.code
      rw [hop] at hn; cases hn
  · exact T'.keep p hp
theorem TS.sub (T : TS base mg0 c Pl G ps K s) {K' : List (Addr × Obj)} (h : ∀ p ∈ K', p ∈ K) : TS base mg0 c Pl G ps K' s := ⟨T.same, T.main, T.old, fun p hp => T.keep p (h p hp), T.fresh⟩

theorem lookup_or (G : List (Str × Value)) (mg0 : Str → Option Value) (x : Str) (v : Value) : (fun y => if y = x then some v else (G.lookup y).or (mg0 y)) = fun y => (((x, v) :: G).lookup y).or (mg0 y) := by
  funext y
  rw [List.lookup_cons]
  by_cases h : y = x
  · subst h; simp
  · have : (y == x) = false := beq_eq_false_iff_ne.mpr h
    rw [if_neg h, this]

theorem new_none {h : Heap} {a : Addr} (ha : h.objs.size ≤ a) : h.get? a = none := by
  cases e : h.get? a with
  | none => rfl
  | some o => exact absurd (Heap.lt_size e) (Nat.not_lt.mpr ha)

theorem t_def {d : DefRec} {Q : Flow → Shared → Prop} (T : TS base mg0 c Pl G ps K s) (hd : d.Plain prog) (hmod : prog.main.scope.kind = .module) (hnf : codeAmong d.pos (triples ps) = none)
    (h : ∀ a c' oc vs t pm doc s', TS base mg0 c Pl ((d.name, .ref a) :: G) (ps ++ [(d.pos, c')]) ((a, fnObj d pm c' doc) :: (c', oc) :: K) s' → oc.data = .fields vs → vs[1]? = some (.str d.name t) → Q .next s') :
    wpAny (model prog w) A (exec d.stmt (mainEnv prog c F)) Q E s := by
  refine wpAny_def hd hmod T.main (by rw [List.toList_toArray]; exact hnf) fun a c' doc h' tk ha hm hf hc keep => ?_
  obtain ⟨c₂, oc, vs, t, e, g1, g2, g3⟩ := hc.2
  cases e
  obtain ⟨h0, t0, e0⟩ := T.same
  have hA := new_none ha
  have hC := new_none hc.1
  have nG : ∀ b, s.heap.get? b = none → b ≠ mainGlobals := fun b hb e => by
    subst e; obtain ⟨o', _, _, q, _⟩ := T.main.g; rw [q] at hb; cases hb
  have nP : ∀ b, s.heap.get? b = none → b ≠ Pl := fun b hb e => by
    subst e; obtain ⟨_, _, _, _, _, _, _, _, _, op, _, _, _, _, _, _, _, hop, _⟩ := T.main.code; rw [hop] at hb; cases hb
  refine h a c' oc vs t (((G.lookup ("__name__" : Str)).or (mg0 ("__name__" : Str))).getD .none) doc _ ⟨⟨h', tk, by rw [e0]⟩, ?_, fun b o hb q => keep b o (fun e => by subst e; rw [T.fresh] at q; cases q) hb (T.old b o hb q), fun p hp => ?_, T.fresh⟩ g2 g3
  · rw [triples_append]
    rw [lookup_or] at hm
    simpa using hm
  · rcases List.mem_cons.mp hp with rfl | hp
    · exact ⟨hf, nG _ hA, nP _ hA⟩
    · rcases List.mem_cons.mp hp with rfl | hp
      · exact ⟨g1, nG _ hC, nP _ hC⟩
      · obtain ⟨q1, q2, q3⟩ := T.keep p hp
        exact ⟨keep _ _ q3 q2 q1, q2, q3⟩

theorem t_store {x : Str} {v : Value} {Q : Unit → Shared → Prop} (T : TS base mg0 c Pl G ps K s) (hloc : prog.main.scope.names.lookup x = some .local) (hmod : prog.main.scope.kind = .module) (hnb : x ≠ "__builtins__")
    (h : ∀ s', TS base mg0 c Pl ((x, v) :: G) ps K s' → Q () s') : wpAny (model prog w) A (storeName (mainEnv prog c F) x v) Q E s := by
  refine wpAny_storeName_local (env := mainEnv prog c F) hloc T.main.g (fun h' hg' hs' => ?_)
    (by show (prog.main.scope.kind == .class || (prog.main.scope.kind == .module && mainGlobals != mainGlobals)) = false; rw [hmod]; rfl)
  obtain ⟨bm, o, hbm, hne0, hneG, hneP, hbo, hrest⟩ := T.main.bmod
  obtain ⟨h0, t0, e0⟩ := T.same
  refine h _ ⟨⟨h', _, by rw [e0]⟩, ?_, fun b o hb q => (hs'.2 _ hb).trans (T.old b o hb q), fun p hp => ⟨(hs'.2 _ (T.keep p hp).2.1).trans (T.keep p hp).1, (T.keep p hp).2⟩, T.fresh⟩
  rw [lookup_or] at hg'
  refine ⟨hg', T.main.code.sameBut hs' (Nat.ne_of_gt T.main.low.1) (Nat.ne_of_gt T.main.low.2), T.main.low, ⟨bm, o, ?_, hne0, hneG, hneP, (hs'.2 _ hneG).trans hbo, hrest⟩⟩
  rw [← lookup_or]
  simp only [Ne.symm hnb, if_false]
  exact hbm

theorem t_assign {x : Str} {value : Expr} {p' pos : Pos} {Q : Flow → Shared → Prop} (hloc : prog.main.scope.names.lookup x = some .local) (hmod : prog.main.scope.kind = .module) (hnb : x ≠ "__builtins__")
    (hs : swapsWith value (some (.Name x p')) pos.line (mainEnv prog c F) = pure false)
    (h : wpAny (model prog w) A (eval value (mainEnv prog c F)) (fun v s₁ => ∃ K', TS base mg0 c Pl G ps K' s₁ ∧ ∀ s', TS base mg0 c Pl ((x, v) :: G) ps K' s' → Q .next s') E s) :
    wpAny (model prog w) A (exec (.Assign [.Name x p'] value pos) (mainEnv prog c F)) Q E s :=
  wpAny_Assign_Name (wpAny_mono h (fun _ _ ⟨_, T, hq⟩ => t_store T hloc hmod hnb hq) fun z_ z_1 x => x) hs

theorem t_glob {x : Str} {pos : Pos} {v : Value} {Q : Value → Shared → Prop} (T : TS base mg0 c Pl G ps K s) (hmod : prog.main.scope.kind = .module) (hv : (G.lookup x).or (mg0 x) = some v) (h : Q v s) (hd : (x == ("__debug__" : Str)) = false := by decide) :
    wpAny (model prog w) A (eval (.Name x pos) (mainEnv prog c F)) Q E s := Name_module hmod rfl (loadGlobal_global T.main.g hv h) hd
theorem t_blt {x : Str} {pos : Pos} {v : Value} {mb : Str → Option Value} {Q : Value → Shared → Prop} (T : TS base mg0 c Pl G ps K s) (hmod : prog.main.scope.kind = .module) (hv : (G.lookup x).or (mg0 x) = none)
    (hb : base.heap.Ns builtinsNs mb) (hx : mb x = some v) (h : Q v s) (hd : (x == ("__debug__" : Str)) = false := by decide) :
    wpAny (model prog w) A (eval (.Name x pos) (mainEnv prog c F)) Q E s :=
  Name_module hmod rfl (loadGlobal_builtin T.main.g hv (hb.at fun o => T.old _ o (by decide)) hx h) hd
end
end
section
open PySem PySem.Calls PyProof.Rows PySem.W

section
variable {prog : Program} {w : World} {A : Around} {E : Value → Shared → Prop} {s : Shared}

set_option maxRecDepth 100000 in
set_option maxHeartbeats 3200000 in
theorem set_of_range {r : Addr} {a b c : Int} {t u v : Tok} {n : Nat} {Q : Value → Shared → Prop} (hh : A.handled = none) (hr : IsRange s.heap r a b c t u v) (hsm : Builtin.Range.small a b c = true) (hn : Builtin.Range.rangeSize a b c = n) (hb : n + 1 < scanBound)
    (h : ∀ (h' : Heap) (tk : Nat), h'.SetOf (intKind prog w) s.heap.objs.size (fun k => (firstMet (fun i => a + (i : Nat) * c) n).any (· == k)) (firstMet (fun i => a + (i : Nat) * c) n).length →
      (∀ b o, s.heap.get? b = some o → h'.get? b = some o) → Q (.ref s.heap.objs.size) { s with heap := h', toks := tk }) :
    wpAny (model prog w) A (call (.type "set") [.ref r]) Q E s := by
  obtain ⟨c0, tl, hmro⟩ := F.called_set.mro
  have hmade := F.called_set.made
  have hsub := F.called_set.sub
  refine wpAny_call (codeAny_of_tree ?_)
  show wpAny _ _ (callAny (.type "set") _) _ _ _
  refine wpAny_pure ⟨Code.quiet_builtin _ (by decide +kernel), codeAny_builtin F.entry_type_call ?_⟩
  rw [Around.under_plain (weight_type_call_type "set" [.ref r] []) rfl]
  have h1 := F.called_set.notType
  have h2 := F.called_set.canCreate
  have hct := F.typeCall_set_1 (.ref r)
  repeat (any_goals (first | assumption | wp_step))
  refine codeAny_mono (code_set_new_1 (.ref r) (E := E) (Q₁ := fun obj s₁ => ∃ led : Bool, obj = .ref s.heap.objs.size ∧ s₁ = { s with heap := s.heap.push { cls := .type "set", dict := none, data := .set #[] 0 (.fresh 0 0 led) } }) fun led => ⟨led, rfl, rfl⟩) fun res s₁ hr₁ => ?_
  cases res with
  | error e => exact hr₁
  | ok fl =>
    cases fl with
    | ret obj =>
      obtain ⟨led, rfl, rfl⟩ := hr₁
      have hS := Heap.get?_push_size s.heap (o := { cls := .type "set", dict := none, data := .set #[] 0 (.fresh 0 0 led) }) rfl
      have hT : Shared.TypeIs { s with heap := s.heap.push { cls := .type "set", dict := none, data := .set #[] 0 (.fresh 0 0 led) } } (.ref s.heap.objs.size) "set" := ⟨_, hS, rfl⟩
      have hli := F.called_set.init.lookup
      have hbi := F.called_set.init.bind (.ref s.heap.objs.size)
      repeat (any_goals (first | assumption | wp_step))
      refine codeAny_mono (codeAny_call_builtin (R := wants (fun x s₂ => x = .none ∧ ∃ h' tk, s₂ = { s with heap := h', toks := tk } ∧
          h'.SetOf (intKind prog w) s.heap.objs.size (fun k => (firstMet (fun i => a + (i : Nat) * c) n).any (· == k)) (firstMet (fun i => a + (i : Nat) * c) n).length ∧
          (∀ b o, s.heap.get? b = some o → h'.get? b = some o)) E) F.called_set.init.plain F.entry_set_init (check_set_init_1 hT ?_)) fun r₂ s₂ hr₂ => ?_
      · have hr' := Heap.get?_push_of_some { cls := .type "set", dict := none, data := .set #[] 0 (.fresh 0 0 led) } hr
        have hsls := F.sub_range_set
        have hslf := F.sub_range_frozenset
        have hne : (Value.type "range" == Value.type "dict") = false := by decide
        unfold Builtin.«set.__init__» noKeywords Builtin.Frozenset.updateFrom
        generalize hPI : pyIter = PI
        wp_walk
        subst hPI
        refine wpAny_pyIter_range hr' hsm ?_
        refine wpAny_bind (wpAny_runValue ?_)
        have hh3 : A.in1.in1.in1.handled = none := by simp [hh]
        refine codeAny_set_update_loopS ((Walks.range hh3 (s.heap.push { cls := .type "set", dict := none, data := .set #[] 0 (.fresh 0 0 led) }).objs.size a c n).toS) s.heap.objs.size
          (by rw [Heap.size_push]; simp) (fun i => a + (i : Nat) * c) (fun z_ z_1 q => q) hb (n - 0) 0 _ (by lia) (Nat.zero_le _) ?hI ?hS0 ?hR
        case hI =>
          have q := Heap.get?_push_size (s.heap.push { cls := .type "set", dict := none, data := .set #[] 0 (.fresh 0 0 led) }) (o := { cls := .type "range_iterator", data := .fields #[rawInt a, rawInt n, rawInt c] }) rfl
          show IsRangeIter _ _ _ _ _
          rw [hn]
          simpa using q
        case hS0 => exact SetOf_congr ((setObjOf_fresh (knd := intKind prog w) led).setOf (Heap.get?_push_of_some _ hS) (by unfold scanBound; lia)) (fun z_ => rfl) rfl
        case hR =>
          intro s' hm hS'
          refine wpAny_pure ?_
          show wpAny _ _ (ret Value.none) _ _ _
          refine wpAny_pure ⟨rfl, s'.heap, s'.toks, hm.eq_with, hS', fun b o e => ?_⟩
          have hlt := Heap.lt_size e
          refine hm.heap b o ?_ (Heap.get?_push_of_some _ (Heap.get?_push_of_some _ e))
          rw [Heap.size_push]
          simp only [List.mem_cons, List.not_mem_nil, or_false, not_or]
          exact ⟨Nat.ne_of_lt hlt, Nat.ne_of_lt (Nat.lt_succ_of_lt hlt)⟩
      · cases r₂ with
        | error e => exact hr₂
        | ok fl₂ =>
          cases fl₂ with
          | ret r =>
            obtain ⟨rfl, h', tk, rfl, hS', hk'⟩ := hr₂
            repeat (any_goals (first | assumption | wp_step))
            exact h _ _ hS' hk'
          | _ => exact hr₂.elim
    | _ => exact hr₁.elim
end
end
section
open PySem PySem.Calls PyProof.Rows PySem.W

theorem any_steps (a : Int) : ∀ (n : Nat) (k : Int), (steps a 1 n).any (· == k) = (decide (a ≤ k) && decide (k < a + n))
  | 0, k => by
    rw [steps, List.any_nil]
    by_cases h : a ≤ k
    · rw [decide_eq_true h, decide_eq_false (by lia)]; rfl
    · rw [decide_eq_false h]; rfl
  | n + 1, k => by
    rw [steps, List.any_cons, any_steps (a + 1) n k]
    by_cases h : a = k
    · subst h
      rw [beq_self_eq_true, Bool.true_or, decide_eq_true (Int.le_refl a), decide_eq_true (by push_cast; lia)]; rfl
    · have : (a == k) = false := beq_eq_false_iff_ne.mpr h
      rw [this, Bool.false_or]
      congr 1
      · exact decide_eq_decide.mpr (by lia)
      · exact decide_eq_decide.mpr (by push_cast; lia)
theorem steps_size (x c : Int) : ∀ n, (steps x c n).length = n
  | 0 => rfl
  | n + 1 => by rw [steps, List.length_cons, steps_size]
theorem steps_map (a : Int) : ∀ n : Nat, (List.range n).map (fun i : Nat => a + (i : Int) * 1) = steps a 1 n
  | 0 => rfl
  | n + 1 => by
    rw [List.range_succ_eq_map, List.map_cons, List.map_map, steps, ← steps_map (a + 1) n]
    congr 1
    · simp
    · refine List.map_congr_left fun i z_ => ?_
      show a + ((i + 1 : Nat) : Int) * 1 = a + 1 + (i : Int) * 1
      push_cast; lia
theorem getD_map (ns : List Int) : (List.range ns.length).map (fun i => ns.getD i 0) = ns := by
  refine List.ext_getElem (by simp) fun i h1 h2 => ?_
  simp [List.getD, List.getElem?_eq_getElem h2]

theorem ints_app {xs ys : List Value} {ns ms : List Int} (h : IntsAre xs ns) (g : IntsAre ys ms) : IntsAre (xs ++ ys) (ns ++ ms) := by
  induction h with
  | nil => exact g
  | cons n t _ ih => exact .cons n t ih
theorem ints_of {xs : List Value} {ns : List Int} (hl : xs.length = ns.length) (h : ∀ (i : Nat) (v : Value), xs[i]? = some v → ∃ t, v = Value.int (ns.getD i 0) t) : IntsAre xs ns := by
  induction xs generalizing ns with
  | nil => cases ns with
    | nil => exact .nil
    | cons _ _ => cases hl
  | cons x xs ih => cases ns with
    | nil => cases hl
    | cons n ns =>
      obtain ⟨t, rfl⟩ := h 0 x rfl
      exact .cons n t (ih (Nat.succ.inj hl) fun i v hv => h (i + 1) v hv)

section
variable {base : Shared} {mg0 mb : Str → Option Value} {c Pl F : Addr} {G : List (Str × Value)} {ps : List (Pos × Addr)} {K : List (Addr × Obj)} {s : Shared}
variable {prog : Program} {w : World} {A : Around} {E : Value → Shared → Prop}

noncomputable def EL (prog : Program) (w : World) (base : Shared) (mg0 : Str → Option Value) (c Pl F : Addr) (G : List (Str × Value)) (ps : List (Pos × Addr)) (e : Expr) (ns : List Int) : Prop :=
  ∀ (A : Around) (E : Value → Shared → Prop) (K : List (Addr × Obj)) (s : Shared), A.handled = none → TS base mg0 c Pl G ps K s →
    wpAny (model prog w) A (eval e (mainEnv prog c F)) (fun v s₁ => ∃ l n xs, v = .ref l ∧ TS base mg0 c Pl G ps ((l, listObj xs n) :: K) s₁ ∧ IntsAre xs ns) E s

inductive Ints : List Expr → List Int → Prop
  | nil : Ints [] []
  | cons (i : Int) (k : Nat) (p : Pos) {es : List Expr} {ns : List Int} (r : Ints es ns) : Ints (.Constant (.int i) k p :: es) (i :: ns)

theorem Ints.args {pos : Pos} {es : List Expr} {ns : List Int} (h : Ints es ns) : ∀ (s : Shared) (Q : List Value → Shared → Prop), (∀ vs tk, IntsAre vs ns → Q vs { s with toks := tk }) → wpAny (model prog w) A (spliced (backTo pos (starEach es (mainEnv prog c F)))) Q E s := by
  induction h with
  | nil => exact fun s Q h => x_args0 (h [] s.toks .nil)
  | cons i k p r ih => exact fun s Q h => x_args rfl (wpAny_Constant_int (ih _ _ fun vs tk hv => h _ tk (.cons i s.toks hv)))

theorem TS.newL (T : TS base mg0 c Pl G ps K s) (o : Obj) (hf : o.isFreed = false) (tk : Nat) : TS base mg0 c Pl G ps ((s.heap.objs.size, o) :: K) { s with heap := s.heap.push o, toks := tk } :=
  T.add (fun z_ z_1 e => Heap.get?_push_of_some o e) (size_none _) (Heap.get?_push_size _ hf)

theorem EL.list {es : List Expr} {ns : List Int} {pos : Pos} (h : Ints es ns) (hz : ns.length ≤ sizeLine) : EL prog w base mg0 c Pl F G ps (.List es pos) ns := fun A E K s z_ T =>
  wpAny_List (h.args _ _ fun vs tk hv => ⟨by rw [hv.length]; exact hz, _, 0, vs, rfl, (T.tok tk).newL (listObj vs) rfl tk, hv⟩)

theorem EL.add {e1 e2 : Expr} {ns ms : List Int} {pos : Pos} (h1 : EL prog w base mg0 c Pl F G ps e1 ns) (h2 : EL prog w base mg0 c Pl F G ps e2 ms) (hz : ns.length + ms.length ≤ sizeLine) : EL prog w base mg0 c Pl F G ps (.BinOp e1 .Add e2 pos) (ns ++ ms) := by
  intro A E K s hA T
  refine x_bin (wpAny_mono (h1 A E K s hA T) (fun v s₁ ⟨a, n, xs, e, T1, r1⟩ => wpAny_mono (h2 A E _ s₁ hA T1) (fun u s₂ ⟨b, m, ys, e', T2, r2⟩ => ?_) fun z_ z_1 x => x) fun z_ z_1 x => x)
  subst e e'
  refine concat_meets ⟨_, (T2.keep _ (.tail _ (.head _))).1, rfl⟩ ⟨_, (T2.keep _ (.head _)).1, rfl⟩ noFill_list_add seq_list_add PySem.F.slot_list_add PySem.F.entry_list_add (PySem.F.args_list_add_2 _ _)
    (list_addW a b xs.toArray ys.toArray n m none none #[] #[] (by simpa [r1.length, r2.length] using hz)) ⟨(T2.keep _ (.tail _ (.head _))).1, (T2.keep _ (.head _)).1, ?_⟩
  refine ⟨_, 0, xs ++ ys, rfl, ?_, ?_⟩
  · rw [show xs.toArray ++ ys.toArray = (xs ++ ys).toArray by simp]
    exact (T2.newL (listObj (xs ++ ys)) rfl s₂.toks).sub fun p hp => by
      rcases List.mem_cons.mp hp with rfl | hp
      · exact .head _
      · exact .tail _ (.tail _ (.tail _ hp))
  · exact ints_app r1 r2

structure Reads0 (base : Shared) (mg0 mb : Str → Option Value) : Prop where
  ns : base.heap.Ns builtinsNs mb
  set : mg0 "set" = none ∧ mb "set" = some (.type "set")
  list : mg0 "list" = none ∧ mb "list" = some (.type "list")
  range : mg0 "range" = none ∧ mb "range" = some (.type "range")

theorem e_range {a b : Int} {k1 k2 : Nat} {p0 p1 p2 pos : Pos} {Q : Value → Shared → Prop} (T : TS base mg0 c Pl G ps K s) (hmod : prog.main.scope.kind = .module) (R : Reads0 base mg0 mb) (hG : G.lookup ("range" : Str) = none)
    (h : ∀ r t u v s', TS base mg0 c Pl G ps ((r, rangeObj a b 1 t u v) :: K) s' → Q (.ref r) s') :
    wpAny (model prog w) A (eval (.Call (.Name "range" p0) [.Constant (.int a) k1 p1, .Constant (.int b) k2 p2] [] pos) (mainEnv prog c F)) Q E s := by
  refine x_call rfl (t_blt T hmod (by rw [hG]; exact R.range.1) R.ns R.range.2 ?_)
  refine x_ctype rfl rfl (x_args rfl (wpAny_Constant_int (x_args rfl (wpAny_Constant_int (x_args0 ?_)))))
  exact call_range_2 (h _ _ _ _ _ ((T.tok _).newL (rangeObj a b 1 _ _ _) rfl _))

theorem EL.listRange {a b : Int} {m : Nat} {k1 k2 : Nat} {p0 p1 p2 pos q0 qpos : Pos} (hmod : prog.main.scope.kind = .module) (R : Reads0 base mg0 mb) (hG : G.lookup ("range" : Str) = none) (hG' : G.lookup ("list" : Str) = none)
    (hsm : Builtin.Range.small a b 1 = true) (hm : Builtin.Range.rangeSize a b 1 = m) (hlen : m ≤ 2 ^ 24) :
    EL prog w base mg0 c Pl F G ps (.Call (.Name "list" q0) [.Call (.Name "range" p0) [.Constant (.int a) k1 p1, .Constant (.int b) k2 p2] [] pos] [] qpos) (steps a 1 m) := by
  intro A E K s hA T
  refine x_call rfl (t_blt T hmod (by rw [hG']; exact R.list.1) R.ns R.list.2 ?_)
  refine x_ctype rfl rfl (x_args rfl (e_range T hmod R hG fun r t u v s' T' => x_args0 ?_))
  refine call_list_range hA (T'.keep _ (.head _)).1 hsm hm hlen fun h' tk acc' c' hk hS' hacc => ?_
  refine ⟨_, c', acc'.toList, rfl, ?_, ?_⟩
  · refine (T'.add (tk := tk) hk (size_none _) (o := listObj acc'.toList c') ?_).sub fun p hp => ?_
    · rw [hS']; simp [listObj]
    · rcases List.mem_cons.mp hp with rfl | hp
      · exact .head _
      · exact .tail _ (.tail _ hp)
  · refine ints_of (by rw [Array.length_toList, hacc.1, steps_size]) fun i v hv => ?_
    obtain ⟨t, e⟩ := hacc.2 i v (by rw [← Array.getElem?_toList]; exact hv)
    refine ⟨t, ?_⟩
    have hi : i < m := by
      have := (List.getElem?_eq_some_iff.mp hv).1
      rw [Array.length_toList, hacc.1] at this
      exact this
    rw [e, ← steps_map]
    simp [List.getD, hi]

theorem t_set {x : Str} {e : Expr} {ns : List Int} {S : Int → Bool} {p' q0 qpos pos : Pos} {Q : Flow → Shared → Prop} (hA : A.handled = none) (T : TS base mg0 c Pl G ps K s) (hmod : prog.main.scope.kind = .module) (R : Reads0 base mg0 mb) (hG : G.lookup ("set" : Str) = none)
    (hloc : prog.main.scope.names.lookup x = some .local) (hnb : x ≠ "__builtins__") (hs : swapsWith (.Call (.Name "set" q0) [e] [] qpos) (some (.Name x p')) pos.line (mainEnv prog c F) = pure false)
    (hst : starEach [e] (mainEnv prog c F) = (false, eval e (mainEnv prog c F)) :: starEach [] (mainEnv prog c F))
    (he : EL prog w base mg0 c Pl F G ps e ns) (hb : ns.length + 1 < scanBound) (hS : ∀ k, ns.any (· == k) = S k)
    (h : ∀ a o n s', TS base mg0 c Pl ((x, .ref a) :: G) ps ((a, o) :: K) s' → o.IntSetOf S n → n < scanBound → Q .next s') :
    wpAny (model prog w) A (exec (.Assign [.Name x p'] (.Call (.Name "set" q0) [e] [] qpos) pos) (mainEnv prog c F)) Q E s := by
  refine t_assign (base := base) (mg0 := mg0) (Pl := Pl) (G := G) (ps := ps) hloc hmod hnb hs ?_
  refine x_call rfl (t_blt T hmod (by rw [hG]; exact R.set.1) R.ns R.set.2 ?_)
  refine x_ctype hst rfl (x_args hst (wpAny_mono (he A E K s hA T) (fun v s₁ ⟨l, n, xs, e', T1, r1⟩ => x_args0 ?_) fun z_ z_1 x => x))
  subst e'
  have hsz : xs.toArray.size = ns.length := by rw [List.size_toArray, r1.length]
  refine PySem.call_set_list (items := xs.toArray) (ns := ns) hA (isList_of (T1.keep _ (.head _)).1) (by simpa using r1) (by rw [hsz]; exact hb) fun h' tk hS' hk => ?_
  rw [hsz] at hS'
  obtain ⟨o, ho, hso⟩ := hS'.objOf
  have hk' : ∀ b o, s₁.heap.get? b = some o → h'.get? b = some o := fun b o e => hk b o (Heap.lt_size e) e
  refine ⟨_, (T1.add (tk := tk) hk' (size_none _) ho).sub (K' := (_, o) :: K) (fun p hp => ?_), fun s' T2 => h _ o (firstMet (fun i => ns.getD i 0) ns.length).length s' T2 ?_ (Nat.lt_of_le_of_lt (firstMet_length_le _ _) (Nat.lt_of_succ_lt hb))⟩
  · rcases List.mem_cons.mp hp with rfl | hp
    · exact .head _
    · exact .tail _ (.tail _ hp)
  · have : (fun k' => (firstMet (fun i => ns.getD i 0) ns.length).any (· == k')) = S := funext fun k => by rw [firstMet_any, getD_map, hS]
    rw [this] at hso
    exact hso.intSetOf

theorem t_setR {x : Str} {a b : Int} {m : Nat} {S : Int → Bool} {k1 k2 : Nat} {p0 p1 p2 rpos p' q0 qpos pos : Pos} {Q : Flow → Shared → Prop} (hA : A.handled = none) (T : TS base mg0 c Pl G ps K s) (hmod : prog.main.scope.kind = .module) (R : Reads0 base mg0 mb) (hG : G.lookup ("set" : Str) = none) (hG' : G.lookup ("range" : Str) = none)
    (hloc : prog.main.scope.names.lookup x = some .local) (hnb : x ≠ "__builtins__") (hs : swapsWith (.Call (.Name "set" q0) [.Call (.Name "range" p0) [.Constant (.int a) k1 p1, .Constant (.int b) k2 p2] [] rpos] [] qpos) (some (.Name x p')) pos.line (mainEnv prog c F) = pure false)
    (hsm : Builtin.Range.small a b 1 = true) (hm : Builtin.Range.rangeSize a b 1 = m) (hb : m + 1 < scanBound) (hS : ∀ k, (steps a 1 m).any (· == k) = S k)
    (h : ∀ a o n s', TS base mg0 c Pl ((x, .ref a) :: G) ps ((a, o) :: K) s' → o.IntSetOf S n → n < scanBound → Q .next s') :
    wpAny (model prog w) A (exec (.Assign [.Name x p'] (.Call (.Name "set" q0) [.Call (.Name "range" p0) [.Constant (.int a) k1 p1, .Constant (.int b) k2 p2] [] rpos] [] qpos) pos) (mainEnv prog c F)) Q E s := by
  refine t_assign (base := base) (mg0 := mg0) (Pl := Pl) (G := G) (ps := ps) hloc hmod hnb hs ?_
  refine x_call rfl (t_blt T hmod (by rw [hG]; exact R.set.1) R.ns R.set.2 ?_)
  refine x_ctype rfl rfl (x_args rfl (e_range T hmod R hG' fun r t u v s₁ T1 => x_args0 ?_))
  refine set_of_range hA (T1.keep _ (.head _)).1 hsm hm hb fun h' tk hS' hk => ?_
  obtain ⟨o, ho, hso⟩ := hS'.objOf
  refine ⟨_, (T1.add (tk := tk) hk (size_none _) ho).sub (K' := (_, o) :: K) (fun p hp => ?_), fun s' T2 => h _ o (firstMet (fun i : Nat => a + (i : Int) * 1) m).length s' T2 ?_ (Nat.lt_of_le_of_lt (firstMet_length_le _ _) (Nat.lt_of_succ_lt hb))⟩
  · rcases List.mem_cons.mp hp with rfl | hp
    · exact .head _
    · exact .tail _ (.tail _ hp)
  · have : (fun k' => (firstMet (fun i : Nat => a + (i : Int) * 1) m).any (· == k')) = S := funext fun k => by rw [firstMet_any, steps_map, hS]
    rw [this] at hso
    exact hso.intSetOf
end
end
section
open PySem PySem.Calls PyProof.Rows PySem.W

theorem named6 (a b c d e f : Value) : Builtin.Re.reNamed "_sre.compile" "compile" ["pattern", "flags", "code", "groups", "groupindex", "indexgroup"] 6 [a, b, c, d, e, f] [] = pure [some a, some b, some c, some d, some e, some f] := by
  rfl
theorem entry_sre_compile : entryFor table "_sre.compile" = some Builtin.«_sre.compile» := entryFor_of_tree (by kernel_rfl)
theorem kind_sre_compile : builtinKind "_sre.compile" = none := by decide +kernel
theorem plain_sre_compile : plainId "_sre.compile" = true := by decide +kernel
theorem args_sre_compile (a b c d e f : Value) : argsOk "_sre.compile" ⟨[a, b, c, d, e, f], []⟩ := by unfold argsOk; kernel_rfl
theorem well : Sre.wellFormed (codeWords.map Int.toNat).toArray 1 = true := by decide +kernel

section
variable {prog : Program} {w : World} {A : Around} {E : Value → Shared → Prop} {s : Shared}

theorem text_of (b : Array UInt8) (t : Tok) : Builtin.Re.reTextOf (.bytes b t) = pure (b.map (·.toNat), 1) := by
  unfold Builtin.Re.reTextOf
  rw [KBy.quiet_eq]
  rfl
theorem for_words {vs : List Value} {ns : List Int} (hv : IntsAre vs ns) (hn : ∀ n ∈ ns, 0 ≤ n ∧ n < 2 ^ 32) : ∀ (acc : Array Nat) (f : Value → Array Nat → Sem (ForInStep (Array Nat))),
    (∀ n t acc, 0 ≤ n → n < 2 ^ 32 → f (Value.int n t) acc = (pure (.yield (acc.push n.toNat)) : Sem (ForInStep (Array Nat)))) → @forIn Sem (List Value) Value _ (Array Nat) vs acc f = (pure (acc ++ (ns.map Int.toNat).toArray) : Sem (Array Nat)) := by
  induction hv with
  | nil => intro acc f _; simp
  | cons n t r ih =>
    intro acc f hf
    rw [List.forIn_cons, hf n t acc (hn n (.head _)).1 (hn n (.head _)).2]
    rw [pure_bind]
    refine (ih (fun m hm => hn m (.tail _ hm)) (acc.push n.toNat) f hf).trans ?_
    simp

set_option maxRecDepth 100000 in
set_option maxHeartbeats 3200000 in
theorem sre_compile {p : List UInt8} {tp tf tg : Tok} {cl gi ig : Addr} {cs : List Value} {es : Array DictEntry} {is : Array Value} {n m k : Nat} {Q : Value → Shared → Prop}
    (h1 : s.heap.get? cl = some (listObj cs n)) (hc : IntsAre cs codeWords) (h2 : s.heap.get? gi = some { cls := .type "dict", data := .dict es m }) (hes : es.isEmpty = false) (hgi : (gi == sysModules) = false) (h3 : s.heap.get? ig = some { cls := .type "tuple", data := .seq is k })
    (h : ∀ tk, Q (.ref (s.heap.objs.size + 1)) { s with heap := (s.heap.push codeObj).push { cls := .type "re.Pattern", data := .fields #[.bytes p.toArray tp, .int 0 tk, rawInt 1, .ref gi, .ref ig, .ref s.heap.objs.size, rawInt 1] }, toks := tk + 1 }) :
    wpAny (model prog w) A (call (.builtin "_sre.compile") [.bytes p.toArray tp, .int 0 tf, .ref cl, .int 1 tg, .ref gi, .ref ig]) Q E s := by
  refine call_function_entry kind_sre_compile plain_sre_compile entry_sre_compile (args_sre_compile ..) ?_
  unfold Builtin.«_sre.compile»
  refine wpAny_bind (wpAny_of_eq (named6 ..) ?_)
  dsimp only
  obtain ⟨hp, g, d, tk, os⟩ := s
  unfold listObj at h1
  have s1 : isSubtype (.type "list") (.type "list") = pure true := by rw [isSubtype_type]; kernel_rfl
  have s2 : isSubtype (.type "dict") (.type "dict") = pure true := by rw [isSubtype_type]; kernel_rfl
  have s3 : isSubtype (.type "tuple") (.type "tuple") = pure true := by rw [isSubtype_type]; kernel_rfl
  have s4 : isSubtype (.type "bytes") (.type "bytes") = pure true := by rw [isSubtype_type]; kernel_rfl
  wp_walk
  show wpAny _ _ (forIn (m := Sem) cs.toArray #[] _) _ _ _
  rw [List.forIn_toArray, for_words hc (by decide +kernel) _ _ fun n t acc h0 h1 => by
    show (if n < 0 then _ else _) = _
    rw [if_neg (by lia), if_neg (by lia), if_neg (by lia)]]
  refine wpAny_pure ?_
  have hw := well
  have ht := text_of p.toArray tp
  have e0 : (#[] ++ (codeWords.map Int.toNat).toArray : Array Nat) = (codeWords.map Int.toNat).toArray := by simp
  rw [e0]
  show wpAny _ _ (if (Value.bytes p.toArray tp == Value.none) = true then _ else _) _ _ _
  rw [if_neg (show ¬ ((Value.bytes p.toArray tp == Value.none) = true) from Bool.false_ne_true)]
  refine wpAny_bind (wpAny_of_eq ht ?_)
  refine wpAny_bind (wpAny_pure ?_)
  refine wpAny_ite_split (fun hx => ?_) fun z_ => ?_
  · rw [show (Int.toNat 1) = 1 from rfl, hw] at hx
    exact absurd hx (by decide)
  wp_walk
  refine ⟨_, rfl, ?_⟩
  have e1 : ({ cls := .type "tuple", data := .seq (List.map (fun w : Nat => rawInt w) (List.map Int.toNat codeWords).toArray.toList).toArray } : Obj) = codeObj := rfl
  rw [e1, hes, Heap.size_push]
  exact h tk
end
end
section
open PySem PySem.Calls PyProof.Rows PySem.W

theorem TS.heapEq {base : Shared} {mg0 : Str → Option Value} {c Pl : Addr} {G : List (Str × Value)} {ps : List (Pos × Addr)} {K : List (Addr × Obj)} {s : Shared} (T : TS base mg0 c Pl G ps K s) : { s with heap := s.heap, toks := s.toks } = s := rfl

section
variable {base : Shared} {mg0 mb : Str → Option Value} {c Pl F : Addr} {G : List (Str × Value)} {ps : List (Pos × Addr)} {K : List (Addr × Obj)} {s : Shared}
variable {prog : Program} {w : World} {A : Around} {E : Value → Shared → Prop}


theorem module_compile : typeLookup (.type "module") "compile" = pure none := by rw [typeLookup_type, builtinLookup_eq_fast]; kernel_rfl
theorem handed_compile : handedOut (.builtin "_sre.compile") = pure (.builtin "_sre.compile") := handedOut_of (by decide +kernel)

theorem x_modcall {md : Str → Option Value} {p0 apos pos : Pos} {as : List Expr} {Q : Value → Shared → Prop} (T : TS base mg0 c Pl G ps K s) (hmod : prog.main.scope.kind = .module)
    (hG : (G.lookup ("_sre" : Str)).or (mg0 "_sre") = some (.ref 12)) (hM : base.heap.get? 12 = some { cls := .type "module", dict := some 11, data := .plain }) (hD : base.heap.Ns 11 md) (hd : md "compile" = some (.builtin "_sre.compile"))
    (hform : methodCallForm (as.length + ([] : List Keyword).length) (backTo pos (starEach as (mainEnv prog c F))) (backToKw pos (keywordEach [] (mainEnv prog c F))) = true) (hline : (apos.endLine == pos.line) = true)
    (h : ∀ s', TS base mg0 c Pl G ps K s' → wpAny (model prog w) A (callWith pos (.builtin "_sre.compile") [] (backTo pos (starEach as (mainEnv prog c F))) []) Q E s') :
    wpAny (model prog w) A (eval (.Call (.Attribute (.Name "_sre" p0) "compile" apos) as [] pos) (mainEnv prog c F)) Q E s := by
  rw [arm_eval_Call]
  have hbase : attributeBase (.Name "_sre" p0) "compile" (mainEnv prog c F) (eval (.Name "_sre" p0) (mainEnv prog c F)) = eval (.Name "_sre" p0) (mainEnv prog c F) := rfl
  rw [hbase]
  refine wpAny_bind (t_glob T hmod hG ?_ (by decide +kernel))
  refine wpAny_bind (wpAny_standAt ?_)
  have hpos : methodCallPos true (.Name "_sre" p0) (mainEnv prog c F) apos pos = pure pos := by unfold methodCallPos; simp [hline]
  unfold methodCall
  rw [hform]
  obtain ⟨hp, g, d, tk, os⟩ := s
  have hm : Flt.IsCMod hp 12 11 md := ⟨T.old _ _ (by decide) hM, hD.at fun o => T.old _ o (by decide)⟩
  refine wpAny_bind (wpAny_holding (Flt.getMethod_module hm module_compile hd handed_compile ?_))
  exact wpAny_bind (wpAny_of_eq hpos (h _ (T.tok _)))

theorem t_none {env : Env} {k : Nat} {pos : Pos} {Q : Value → Shared → Prop} (h : Q .none s) : wpAny (model prog w) A (eval (.Constant .none k pos) env) Q E s := fun z_ z_1 z_2 => h

theorem gi_dict {h' : Heap} {a : Addr} {tk : Tok} (hd' : Heap.DictOf (PySem.strKind prog w) h' a (merged [] [("flags", .int 1 tk)])) : ∃ t1 dep, h'.get? a = some (giObj (PyData.keyHash w.params "flags") t1 tk dep) := by
  obtain ⟨od, des, dep, ho, ⟨ec, edd, esl⟩, hdat, hkey, hpairs, _⟩ := hd'
  have hpairs' : Pairs (PySem.strKind prog w) des.toList [("flags", .int 1 tk)] := hpairs
  obtain ⟨e1, he1, hk1, hv1⟩ : ∃ e1, des.toList = [e1] ∧ (PySem.strKind prog w).is "flags" e1.key = true ∧ e1.val = .int 1 tk := by
    cases hq : des.toList with
    | nil => rw [hq] at hpairs'; cases hpairs'
    | cons a b =>
      rw [hq] at hpairs'
      cases hpairs' with
      | cons h1 h2 h3 => cases h3; exact ⟨_, rfl, h1, h2⟩
  obtain ⟨kk, hk2, hk3⟩ := hkey e1 (by rw [← Array.mem_toList_iff, he1]; exact .head _)
  have := (PySem.strKind prog w).inj _ _ _ hk1 hk2
  subst this
  obtain ⟨t1, ht1⟩ : ∃ t1, e1.key = .str "flags" t1 := Value.isStrOf_shape hk1
  have hod : od = giObj (PyData.keyHash w.params "flags") t1 tk dep := by
    obtain ⟨oc, odd, odat, osl⟩ := od
    obtain ⟨l⟩ := des
    obtain ⟨eh, ek, ev⟩ := e1
    simp only at ec edd esl hdat he1 hv1 ht1 hk3
    subst ec edd esl hdat he1 hv1 ht1 hk3
    rfl
  subst hod
  exact ⟨t1, dep, ho⟩

set_option maxRecDepth 100000 in
set_option maxHeartbeats 2000000 in
theorem t_flags {pb : List UInt8} {es : List Expr} {md : Str → Option Value} {p0 p1 apos q1 q2 q3 q4 q5 q6 q7 q8 q9 pos pos' spos : Pos} {k1 k2 k3 k4 k5 k6 k7 k8 : Nat} {Q : Flow → Shared → Prop} (hA : A.handled = none) (T : TS base mg0 c Pl G ps K s) (hmod : prog.main.scope.kind = .module)
    (hG : (G.lookup ("_sre" : Str)).or (mg0 "_sre") = some (.ref 12)) (hM : base.heap.get? 12 = some { cls := .type "module", dict := some 11, data := .plain }) (hD : base.heap.Ns 11 md) (hd : md "compile" = some (.builtin "_sre.compile"))
    (hloc : prog.main.scope.names.lookup ("Flags" : Str) = some .local) (hes : Ints es codeWords) (hline : (apos.endLine == pos.line) = true)
    (hst : starEach [Expr.Constant (.bytes pb) k1 q1, .Constant (.int 0) k2 q2, .List es q3, .Constant (.int 1) k3 q4, .Dict [some (.Constant (.str "flags") k4 q5)] [.Constant (.int 1) k5 q6] q7, .Tuple [.Constant .none k6 q8, .Constant (.str "flags") k7 q9] k8 pos'] (mainEnv prog c F) =
      [Expr.Constant (.bytes pb) k1 q1, .Constant (.int 0) k2 q2, .List es q3, .Constant (.int 1) k3 q4, .Dict [some (.Constant (.str "flags") k4 q5)] [.Constant (.int 1) k5 q6] q7, .Tuple [.Constant .none k6 q8, .Constant (.str "flags") k7 q9] k8 pos'].map fun e => (false, eval e (mainEnv prog c F)))
    (hs : swapsWith (.Call (.Attribute (.Name "_sre" p0) "compile" apos) [.Constant (.bytes pb) k1 q1, .Constant (.int 0) k2 q2, .List es q3, .Constant (.int 1) k3 q4, .Dict [some (.Constant (.str "flags") k4 q5)] [.Constant (.int 1) k5 q6] q7, .Tuple [.Constant .none k6 q8, .Constant (.str "flags") k7 q9] k8 pos'] [] pos) (some (.Name "Flags" p1)) spos.line (mainEnv prog c F) = pure false)
    (h : ∀ fl gi ig cd pv tf hh t u n s', TS base mg0 c Pl (("Flags", .ref fl) :: G) ps ((fl, { cls := .type "re.Pattern", data := .fields #[pv, .int 0 tf, rawInt 1, .ref gi, .ref ig, .ref cd, rawInt 1] }) :: (cd, codeObj) :: (gi, giObj hh t u n) :: K) s' → hh = PyData.keyHash w.params "flags" → Q .next s') :
    wpAny (model prog w) A (exec (.Assign [.Name "Flags" p1] (.Call (.Attribute (.Name "_sre" p0) "compile" apos) [.Constant (.bytes pb) k1 q1, .Constant (.int 0) k2 q2, .List es q3, .Constant (.int 1) k3 q4, .Dict [some (.Constant (.str "flags") k4 q5)] [.Constant (.int 1) k5 q6] q7, .Tuple [.Constant .none k6 q8, .Constant (.str "flags") k7 q9] k8 pos'] [] pos) spos) (mainEnv prog c F)) Q E s := by
  refine t_assign (base := base) (mg0 := mg0) (Pl := Pl) (G := G) (ps := ps) hloc hmod (by decide +kernel) hs ?_
  refine x_modcall T hmod hG hM hD hd (by rw [hst]; rfl) hline fun s1 T => ?_
  rw [hst]
  show wpAny _ _ (callWith pos (.builtin "_sre.compile") [] [(false, eval (Expr.Constant (.bytes pb) k1 q1) (mainEnv prog c F)), (false, eval (.Constant (.int 0) k2 q2) (mainEnv prog c F)), (false, eval (.List es q3) (mainEnv prog c F)), (false, eval (.Constant (.int 1) k3 q4) (mainEnv prog c F)), (false, eval (.Dict [some (.Constant (.str "flags") k4 q5)] [.Constant (.int 1) k5 q6] q7) (mainEnv prog c F)), (false, eval (.Tuple [.Constant .none k6 q8, .Constant (.str "flags") k7 q9] k8 pos') (mainEnv prog c F))] []) _ _ _
  refine @Calls.callWith_builtin _ _ _ _ _ _ _ _ _ rfl ?_
  refine @Calls.evalArgs_plain _ _ _ _ _ _ _ _ ?_
  refine @Calls.spliced_cons _ _ _ _ _ _ _ ?_
  refine @W.Constant_bytes _ _ _ _ _ _ _ _ _ ?_
  refine @Calls.spliced_cons _ _ _ _ _ _ _ ?_
  refine @wpAny_Constant_int _ _ _ _ _ _ _ _ _ ?_
  refine @Calls.spliced_cons _ _ _ _ _ _ _ ?_
  refine wpAny_mono (EL.list (w := w) hes (by rw [sizeLine_eq]; decide) A E K _ hA (T.tok _)) (fun v s2 ⟨l, n, xs, e, T, r⟩ => ?_) fun z_ z_1 x => x
  subst e
  refine @Calls.spliced_cons _ _ _ _ _ _ _ ?_
  refine @wpAny_Constant_int _ _ _ _ _ _ _ _ _ ?_
  refine @Calls.spliced_cons _ _ _ _ _ _ _ ?_
  refine wpAny_Dict_pairs (knd := strKind prog w) (pairs := [(eval (.Constant (.str "flags") k4 q5) (mainEnv prog c F), do let x ← eval (.Constant (.int 1) k5 q6) (mainEnv prog c F); standAt q7; pure x)]) (by exact rfl) (List.cons_ne_nil _ _) (Nat.le_of_ble_eq_true rfl) ?_
  refine evalPairs_cons ?_
  refine wpAny_Constant_str ?_
  refine wpAny_bind ?_
  refine wpAny_Constant_int ?_
  refine wpAny_bind (wpAny_standAt (wpAny_pure ?_))
  refine evalPairs_nil ?_
  refine ⟨[("flags", .int 1 _)], ⟨strKind_is prog w _ _, rfl, trivial⟩, Heap.DictOf.new _, fun h' hd' hs' => ?_⟩
  have k1 : ∀ b o, s2.heap.get? b = some o → h'.get? b = some o := fun b o e => (hs'.2 b (Nat.ne_of_lt (Heap.lt_size e))).trans (Heap.get?_push_of_some _ e)
  obtain ⟨t1, dep, ho⟩ := gi_dict (w := w) hd'
  clear hd' hs'
  have T2 := T.add (tk := s2.toks + 3) (s := s2) k1 (size_none _) ho
  refine @Calls.spliced_cons _ _ _ _ _ _ _ ?_
  refine wpAny_Tuple ?_
  refine x_args rfl ?_
  refine t_none ?_
  refine x_args rfl ?_
  refine wpAny_Constant_str ?_
  refine x_args0 ⟨by rw [sizeLine_eq]; exact Nat.le_of_ble_eq_true rfl, ?_⟩
  refine Calls.spliced_nil ?_
  have T3 := T2.newL { cls := .type "tuple", data := .seq #[.none, .str "flags" (s2.toks + 4)] } rfl (s2.toks + 5)
  have hgi : (s2.heap.objs.size == sysModules) = false := by
    obtain ⟨o', _, _, q, _⟩ := T.main.g
    have := Heap.lt_size q
    refine beq_eq_false_iff_ne.mpr fun e => ?_
    rw [e] at this
    exact absurd this (by decide)
  refine sre_compile (T3.keep _ (.tail _ (.tail _ (.head _)))).1 r (T3.keep _ (.tail _ (.head _))).1 rfl hgi (T3.keep _ (.head _)).1 fun tk => ?_
  have T4 := T3.newL codeObj rfl tk
  have T5 := T4.newL { cls := .type "re.Pattern", data := .fields #[.bytes pb.toArray s1.toks, .int 0 tk, rawInt 1, .ref s2.heap.objs.size, .ref h'.objs.size, .ref (h'.push { cls := .type "tuple", data := .seq #[.none, .str "flags" (s2.toks + 4)] }).objs.size, rawInt 1] } rfl (tk + 1)
  simp only [Heap.size_push] at T5 ⊢
  refine ⟨_, T5.sub (K' := (h'.objs.size + 1 + 1, { cls := .type "re.Pattern", data := .fields #[.bytes pb.toArray s1.toks, .int 0 tk, rawInt 1, .ref s2.heap.objs.size, .ref h'.objs.size, .ref (h'.objs.size + 1), rawInt 1] }) :: (h'.objs.size + 1, codeObj) :: (s2.heap.objs.size, giObj (PyData.keyHash w.params "flags") t1 (s2.toks + 2) dep) :: K) (fun p hp => ?_), fun s' T6 => h _ s2.heap.objs.size h'.objs.size (h'.objs.size + 1) (.bytes pb.toArray s1.toks) tk _ t1 _ dep s' T6 rfl⟩
  rcases List.mem_cons.mp hp with rfl | hp
  · exact .head _
  · rcases List.mem_cons.mp hp with rfl | hp
    · exact .tail _ (.head _)
    · rcases List.mem_cons.mp hp with rfl | hp
      · exact .tail _ (.tail _ (.tail _ (.head _)))
      · exact .tail _ (.tail _ (.tail _ (.tail _ (.tail _ hp))))
end
end
section
open PySem PySem.Calls PyProof.Rows PySem.W

noncomputable def topSt (k : Nat) : Stmt := (pw.main.body[k]?).getD (.Pass ⟨0, 0, 0, 0⟩)
set_option maxRecDepth 100000 in
theorem body_eq : behindTheImports pw = [topSt 1, topSt 2, (dn 0).stmt, (dn 1).stmt, topSt 5, (dn 2).stmt, (dn 3).stmt, (dn 4).stmt, (dn 5).stmt, (dn 6).stmt, (dn 7).stmt, (dn 8).stmt, topSt 13, topSt 14, (dn 9).stmt, (dn 10).stmt, (dn 11).stmt, topSt 18, (dn 12).stmt, topSt 20, (dn 13).stmt, topSt 22, (dn 14).stmt, topSt 24, (dn 15).stmt, topSt 26, (dn 16).stmt, (dn 17).stmt, (dn 18).stmt, (dn 19).stmt, (dn 20).stmt, (dn 21).stmt, (dn 22).stmt, (dn 23).stmt, (dn 24).stmt] := by kernel_rfl
set_option maxRecDepth 100000 in
theorem pl0 : (dn 0).Plain pw := ⟨fun z_ => rfl, by decide +kernel, by decide +kernel, rfl, by decide +kernel⟩
set_option maxRecDepth 100000 in
theorem pl1 : (dn 1).Plain pw := ⟨fun z_ => rfl, by decide +kernel, by decide +kernel, rfl, by decide +kernel⟩
set_option maxRecDepth 100000 in
theorem pl2 : (dn 2).Plain pw := ⟨fun z_ => rfl, by decide +kernel, by decide +kernel, rfl, by decide +kernel⟩
set_option maxRecDepth 100000 in
theorem pl3 : (dn 3).Plain pw := ⟨fun z_ => rfl, by decide +kernel, by decide +kernel, rfl, by decide +kernel⟩
set_option maxRecDepth 100000 in
theorem pl4 : (dn 4).Plain pw := ⟨fun z_ => rfl, by decide +kernel, by decide +kernel, rfl, by decide +kernel⟩
set_option maxRecDepth 100000 in
theorem pl5 : (dn 5).Plain pw := ⟨fun z_ => rfl, by decide +kernel, by decide +kernel, rfl, by decide +kernel⟩
set_option maxRecDepth 100000 in
theorem pl6 : (dn 6).Plain pw := ⟨fun z_ => rfl, by decide +kernel, by decide +kernel, rfl, by decide +kernel⟩
set_option maxRecDepth 100000 in
theorem pl7 : (dn 7).Plain pw := ⟨fun z_ => rfl, by decide +kernel, by decide +kernel, rfl, by decide +kernel⟩
set_option maxRecDepth 100000 in
theorem pl8 : (dn 8).Plain pw := ⟨fun z_ => rfl, by decide +kernel, by decide +kernel, rfl, by decide +kernel⟩
set_option maxRecDepth 100000 in
theorem pl9 : (dn 9).Plain pw := ⟨fun z_ => rfl, by decide +kernel, by decide +kernel, rfl, by decide +kernel⟩
set_option maxRecDepth 100000 in
theorem pl10 : (dn 10).Plain pw := ⟨fun z_ => rfl, by decide +kernel, by decide +kernel, rfl, by decide +kernel⟩
set_option maxRecDepth 100000 in
theorem pl11 : (dn 11).Plain pw := ⟨fun z_ => rfl, by decide +kernel, by decide +kernel, rfl, by decide +kernel⟩
set_option maxRecDepth 100000 in
theorem pl12 : (dn 12).Plain pw := ⟨fun z_ => rfl, by decide +kernel, by decide +kernel, rfl, by decide +kernel⟩
set_option maxRecDepth 100000 in
theorem pl13 : (dn 13).Plain pw := ⟨fun z_ => rfl, by decide +kernel, by decide +kernel, rfl, by decide +kernel⟩
set_option maxRecDepth 100000 in
theorem pl14 : (dn 14).Plain pw := ⟨fun z_ => rfl, by decide +kernel, by decide +kernel, rfl, by decide +kernel⟩
set_option maxRecDepth 100000 in
theorem pl15 : (dn 15).Plain pw := ⟨fun z_ => rfl, by decide +kernel, by decide +kernel, rfl, by decide +kernel⟩
set_option maxRecDepth 100000 in
theorem pl16 : (dn 16).Plain pw := ⟨fun z_ => rfl, by decide +kernel, by decide +kernel, rfl, by decide +kernel⟩
set_option maxRecDepth 100000 in
theorem pl17 : (dn 17).Plain pw := ⟨fun z_ => rfl, by decide +kernel, by decide +kernel, rfl, by decide +kernel⟩
set_option maxRecDepth 100000 in
theorem pl18 : (dn 18).Plain pw := ⟨fun z_ => rfl, by decide +kernel, by decide +kernel, rfl, by decide +kernel⟩
set_option maxRecDepth 100000 in
theorem pl19 : (dn 19).Plain pw := ⟨fun z_ => rfl, by decide +kernel, by decide +kernel, rfl, by decide +kernel⟩
set_option maxRecDepth 100000 in
theorem pl20 : (dn 20).Plain pw := ⟨fun z_ => rfl, by decide +kernel, by decide +kernel, rfl, by decide +kernel⟩
set_option maxRecDepth 100000 in
theorem pl21 : (dn 21).Plain pw := ⟨fun z_ => rfl, by decide +kernel, by decide +kernel, rfl, by decide +kernel⟩
set_option maxRecDepth 100000 in
theorem pl22 : (dn 22).Plain pw := ⟨fun z_ => rfl, by decide +kernel, by decide +kernel, rfl, by decide +kernel⟩
set_option maxRecDepth 100000 in
theorem pl23 : (dn 23).Plain pw := ⟨fun z_ => rfl, by decide +kernel, by decide +kernel, rfl, by decide +kernel⟩
set_option maxRecDepth 100000 in
theorem pl24 : (dn 24).Plain pw := ⟨fun z_ => rfl, by decide +kernel, by decide +kernel, rfl, by decide +kernel⟩
end
section
open PySem PySem.Calls PyProof.Rows PySem.W

theorem pw_module : pw.main.scope.kind = .module := by kernel_rfl

section
variable {base : Shared} {mg0 mb : Str → Option Value} {c Pl F : Addr} {G : List (Str × Value)} {ps : List (Pos × Addr)} {K : List (Addr × Obj)} {s : Shared}
variable {w : World} {A : Around} {E : Value → Shared → Prop}

structure Fd where
  a : Addr
  pm : Value
  cd : Addr
  oc : Obj
  doc : Value

theorem t_defn {d : DefRec} {x : Str} {q : Pos} {Q : Flow → Shared → Prop} (hd : d.Plain pw) (hx : d.name = x) (hq : d.pos = q) (T : TS base mg0 c Pl G ps K s) (hnf : codeAmong q (triples ps) = none)
    (h : ∀ (f : Fd) (vs : Array Value) (t : Tok) s', TS base mg0 c Pl ((x, .ref f.a) :: G) (ps ++ [(q, f.cd)]) ((f.a, fnObj d f.pm f.cd f.doc) :: (f.cd, f.oc) :: K) s' → f.oc.data = .fields vs ∧ vs[1]? = some (.str d.name t) → Q .next s') :
    wpAny (model pw w) A (exec d.stmt (mainEnv pw c F)) Q E s := by
  subst hx hq
  exact t_def T hd pw_module hnf fun a c' oc vs t pm doc s' T' h1 h2 => h ⟨a, pm, c', oc, doc⟩ vs t s' T' ⟨h1, h2⟩

theorem t_namest {x : Str} {y : Str} {k : Nat} {p1 p2 p3 : Pos} {Q : Flow → Shared → Prop} (T : TS base mg0 c Pl G ps K s) (hloc : pw.main.scope.names.lookup x = some .local) (hnb : x ≠ "__builtins__")
    (h : ∀ v s', TS base mg0 c Pl ((x, v) :: G) ps K s' → Q .next s') : wpAny (model pw w) A (exec (.Assign [.Name x p1] (.Constant (.str y) k p2) p3) (mainEnv pw c F)) Q E s :=
  t_assign (base := base) (mg0 := mg0) (Pl := Pl) (G := G) (ps := ps) hloc pw_module hnb rfl (wpAny_Constant_str ⟨K, T.tok _, fun s' T' => h _ s' T'⟩)

theorem st_name (k : Nat) (hk : k = 1 ∨ k = 5 ∨ k = 13 ∨ k = 26) {P : Stmt → Prop} (h : ∀ y p1 p2 p3, P (.Assign [.Name "__name__" p1] (.Constant (.str y) 0 p2) p3)) : P (topSt k) := by
  rcases hk with rfl | rfl | rfl | rfl <;> exact h _ _ _ _

theorem st_flags {P : Stmt → Prop} (h : ∀ (pb : List UInt8) (es : List Expr) (p0 p1 apos q1 q2 q3 q4 q5 q6 q7 q8 q9 pos pos' spos : Pos) (k1 k2 k3 k4 k5 k6 k7 k8 : Nat), Ints es codeWords → (apos.endLine == pos.line) = true → (starEach [Expr.Constant (.bytes pb) k1 q1, .Constant (.int 0) k2 q2, .List es q3, .Constant (.int 1) k3 q4, .Dict [some (.Constant (.str "flags") k4 q5)] [.Constant (.int 1) k5 q6] q7, .Tuple [.Constant .none k6 q8, .Constant (.str "flags") k7 q9] k8 pos'] (mainEnv pw c F) =
      [Expr.Constant (.bytes pb) k1 q1, .Constant (.int 0) k2 q2, .List es q3, .Constant (.int 1) k3 q4, .Dict [some (.Constant (.str "flags") k4 q5)] [.Constant (.int 1) k5 q6] q7, .Tuple [.Constant .none k6 q8, .Constant (.str "flags") k7 q9] k8 pos'].map fun e => (false, eval e (mainEnv pw c F))) → P (.Assign [.Name "Flags" p1] (.Call (.Attribute (.Name "_sre" p0) "compile" apos) [.Constant (.bytes pb) k1 q1, .Constant (.int 0) k2 q2, .List es q3, .Constant (.int 1) k3 q4, .Dict [some (.Constant (.str "flags") k4 q5)] [.Constant (.int 1) k5 q6] q7, .Tuple [.Constant .none k6 q8, .Constant (.str "flags") k7 q9] k8 pos'] [] pos) spos)) : P (topSt 2) := by
  refine h _ _ _ _ _ _ _ _ _ _ _ _ _ _ _ _ _ _ _ _ _ _ _ _ _ ?_ ?_ ?_
  (repeat (first | exact Ints.nil | refine Ints.cons _ _ _ ?_)); rfl; rfl
theorem st_b1 {P : Stmt → Prop} (h : ∀ (es : List Expr) (p' q0 qpos pos p p0 p1 p2 rpos q2 lpos bpos : Pos) (k1 k2 : Nat), Ints es [173, 847, 6150, 6155, 6156, 6157, 8203, 8204, 8205, 8288, 65279] → P (.Assign [.Name "b1_set" p'] (.Call (.Name "set" q0) [.BinOp (.List es p) .Add (.Call (.Name "list" q2) [.Call (.Name "range" p0) [.Constant (.int 65024) k1 p1, .Constant (.int 65040) k2 p2] [] rpos] [] lpos) bpos] [] qpos) pos)) : P (topSt 14) := by
  refine h _ _ _ _ _ _ _ _ _ _ _ _ _ _ _ ?_
  repeat (first | exact Ints.nil | refine Ints.cons _ _ _ ?_)
theorem st_c9 {P : Stmt → Prop} (h : ∀ (es : List Expr) (p' q0 qpos pos p p0 p1 p2 rpos q2 lpos bpos : Pos) (k1 k2 : Nat), Ints es [917505] → P (.Assign [.Name "c9_set" p'] (.Call (.Name "set" q0) [.BinOp (.List es p) .Add (.Call (.Name "list" q2) [.Call (.Name "range" p0) [.Constant (.int 917536) k1 p1, .Constant (.int 917632) k2 p2] [] rpos] [] lpos) bpos] [] qpos) pos)) : P (topSt 24) := by
  refine h _ _ _ _ _ _ _ _ _ _ _ _ _ _ _ ?_
  repeat (first | exact Ints.nil | refine Ints.cons _ _ _ ?_)
theorem st_c8 {P : Stmt → Prop} (h : ∀ (es : List Expr) (p' q0 qpos pos p p0 p1 p2 rpos q2 lpos bpos r0 r1 r2 spos r3 mpos cpos : Pos) (k1 k2 k3 k4 : Nat), Ints es [832, 833, 8206, 8207] → P (.Assign [.Name "c8_set" p'] (.Call (.Name "set" q0) [.BinOp (.BinOp (.List es p) .Add (.Call (.Name "list" q2) [.Call (.Name "range" p0) [.Constant (.int 8234) k1 p1, .Constant (.int 8239) k2 p2] [] rpos] [] lpos) bpos) .Add (.Call (.Name "list" r3) [.Call (.Name "range" r0) [.Constant (.int 8298) k3 r1, .Constant (.int 8304) k4 r2] [] spos] [] mpos) cpos] [] qpos) pos)) : P (topSt 22) := by
  refine h _ _ _ _ _ _ _ _ _ _ _ _ _ _ _ _ _ _ _ _ _ _ _ _ ?_
  repeat (first | exact Ints.nil | refine Ints.cons _ _ _ ?_)
theorem st_c6 {P : Stmt → Prop} (h : ∀ (p' q0 qpos pos p0 p1 p2 rpos : Pos) (k1 k2 : Nat), P (.Assign [.Name "c6_set" p'] (.Call (.Name "set" q0) [.Call (.Name "range" p0) [.Constant (.int 65529) k1 p1, .Constant (.int 65534) k2 p2] [] rpos] [] qpos) pos)) : P (topSt 18) := by
  refine h _ _ _ _ _ _ _ _ _ _
theorem st_c7 {P : Stmt → Prop} (h : ∀ (p' q0 qpos pos p0 p1 p2 rpos : Pos) (k1 k2 : Nat), P (.Assign [.Name "c7_set" p'] (.Call (.Name "set" q0) [.Call (.Name "range" p0) [.Constant (.int 12272) k1 p1, .Constant (.int 12284) k2 p2] [] rpos] [] qpos) pos)) : P (topSt 20) := by
  refine h _ _ _ _ _ _ _ _ _ _
end
end
section
open PySem PySem.Calls PyProof.Rows PySem.W

noncomputable def topNames : List Str := (["law", "_law_dealt", "_law_refused", "_law_nothing", "_law_reply", "_law_three", "_law_word", "_law_within", "_law_runs", "__name__", "in_table_c9", "c9_set"] : List Str) ++ (["in_table_c8", "c8_set", "in_table_c7", "c7_set", "in_table_c6", "c6_set", "in_table_c4", "in_table_c11", "in_table_b1", "b1_set", "__name__", "iconcat"] : List Str) ++ (["setitem", "indexOf", "getitem", "delitem", "contains", "is_not", "__name__", "ParseFlags", "Int2AP", "Flags", "__name__"] : List Str)
structure TopEnd (w : World) (ad : Ad) (base : Shared) (mg0 : Str → Option Value) (c Pl : Addr) (s : Shared) : Prop where
  T : ∃ G ps K, TS base mg0 c Pl G ps K s ∧ G.map (·.1) = topNames ∧ (∀ (i : Nat) (x : Str), defNames[i]? = some x → G.lookup x = some (.ref (ad.fn i))) ∧ (∀ (i : Nat) (x : Str), setNames[i]? = some x → G.lookup x = some (.ref (ad.set i))) ∧ G.lookup ("Flags" : Str) = some (.ref ad.flags)
  fn : ∀ i, i < 25 → FnAt s.heap.get? (ad.fn i) (dn i) (ad.pm i) (ad.cd i) (ad.doc i)
  pat : ∃ p tf, s.heap.get? ad.flags = some (patObj ad p tf)
  gi : ∃ t u n, s.heap.get? ad.gi = some (giObj (PyData.keyHash w.params "flags") t u n)
  code : s.heap.get? ad.code = some codeObj
  set : ∀ i, i < 5 → ∃ o n, s.heap.get? (ad.set i) = some o ∧ o.IntSetOf (setHas i) n ∧ n < scanBound

noncomputable def okNew (k j : Nat) (x : Str) : Bool := !(("set" : Str) == x) && !(("range" : Str) == x) && !(("list" : Str) == x) && !(("Flags" : Str) == x) && ((List.range k).all fun i => !((dn i).name == x)) && ((List.range j).all fun i => !(setNames.getD i "" == x))
inductive FdIn (K : List (Addr × Obj)) (f : Fd) (d : DefRec) : Prop
  | mk (vs : Array Value) (t : Tok) (h1 : (f.a, fnObj d f.pm f.cd f.doc) ∈ K) (h2 : (f.cd, f.oc) ∈ K) (h3 : f.oc.data = .fields vs) (h4 : vs[1]? = some (.str d.name t))
inductive StIn (K : List (Addr × Obj)) (a : Addr) (i : Nat) : Prop
  | mk (o : Obj) (n : Nat) (h1 : (a, o) ∈ K) (h2 : o.IntSetOf (setHas i) n) (h3 : n < scanBound)
inductive AxIn (w : World) (K : List (Addr × Obj)) (ad : Ad) : Prop
  | mk (p : Value) (tf t u : Tok) (n : Nat) (h1 : (ad.flags, patObj ad p tf) ∈ K) (h2 : (ad.gi, giObj (PyData.keyHash w.params "flags") t u n) ∈ K) (h3 : (ad.code, codeObj) ∈ K)
structure TTd (w : World) (base : Shared) (mg0 : Str → Option Value) (c Pl : Addr) (k j : Nat) (nms : List Str) (n : Nat) (fs : List Fd) (ss : List Addr) (ad : Ad) (G : List (Str × Value)) (ps : List (Pos × Addr)) (K : List (Addr × Obj)) (s : Shared) : Prop where
  T : TS base mg0 c Pl G ps K s
  lf : fs.length = k
  ls : ss.length = j
  nm : G.map (·.1) = nms
  ln : ∀ p ∈ ps, p.1.line < n
  g1 : G.lookup ("set" : Str) = none
  g2 : G.lookup ("range" : Str) = none
  g3 : G.lookup ("list" : Str) = none
  fl : G.lookup ("Flags" : Str) = some (.ref ad.flags)
  af : AxIn w K ad
  fn : ∀ i f, fs[i]? = some f → FdIn K f (dn i) ∧ G.lookup (dn i).name = some (.ref f.a)
  st : ∀ i a, ss[i]? = some a → StIn K a i ∧ G.lookup (setNames.getD i "") = some (.ref a)
inductive TT (w : World) (base : Shared) (mg0 : Str → Option Value) (c Pl : Addr) (k j : Nat) (nms : List Str) (n : Nat) (s : Shared) : Prop
  | mk (fs : List Fd) (ss : List Addr) (ad : Ad) (G : List (Str × Value)) (ps : List (Pos × Addr)) (K : List (Addr × Obj)) (D : TTd w base mg0 c Pl k j nms n fs ss ad G ps K s)

section
variable {base : Shared} {mg0 mb md : Str → Option Value} {c Pl F : Addr} {s : Shared} {w : World} {A : Around} {E : Value → Shared → Prop}
variable {k j n : Nat} {nms : List Str} {fs : List Fd} {ss : List Addr} {ad : Ad} {G : List (Str × Value)} {ps : List (Pos × Addr)} {K : List (Addr × Obj)}
theorem lookup_old {y x : Str} {v : Value} {o : Option Value} (h : (!(y == x)) = true) (g : G.lookup y = o) : ((x, v) :: G).lookup y = o := by
  have e : (y == x) = false := by simpa using h
  rw [List.lookup_cons, e]; exact g
theorem TTd.grow (D : TTd w base mg0 c Pl k j nms n fs ss ad G ps K s) {x : Str} {v : Value} {ps' : List (Pos × Addr)} {K' : List (Addr × Obj)} {n' : Nat} {s' : Shared} (T' : TS base mg0 c Pl ((x, v) :: G) ps' K' s') (hK : ∀ p ∈ K, p ∈ K') (hp : ∀ p ∈ ps', p.1.line < n')
    (hx : okNew k j x = true) : TTd w base mg0 c Pl k j (x :: nms) n' fs ss ad ((x, v) :: G) ps' K' s' := by
  unfold okNew at hx
  simp only [Bool.and_eq_true, List.all_eq_true, List.mem_range] at hx
  obtain ⟨⟨⟨⟨⟨h1, h2⟩, h3⟩, h4⟩, h5⟩, h6⟩ := hx
  obtain ⟨p, tf, t, u, m, a1, a2, a3⟩ := D.af
  refine ⟨T', D.lf, D.ls, congrArg (x :: ·) D.nm, hp, lookup_old h1 D.g1, lookup_old h2 D.g2, lookup_old h3 D.g3, lookup_old h4 D.fl, ⟨p, tf, t, u, m, hK _ a1, hK _ a2, hK _ a3⟩, fun i f hf => ?_, fun i a ha => ?_⟩
  · obtain ⟨⟨vs, t, b1, b2, b3, b5⟩, b4⟩ := D.fn i f hf
    exact ⟨⟨vs, t, hK _ b1, hK _ b2, b3, b5⟩, lookup_old (h5 i (D.lf ▸ (List.getElem?_eq_some_iff.mp hf).1)) b4⟩
  · obtain ⟨⟨o, m, b1, b2, b3⟩, b4⟩ := D.st i a ha
    exact ⟨⟨o, m, hK _ b1, b2, b3⟩, lookup_old (h6 i (D.ls ▸ (List.getElem?_eq_some_iff.mp ha).1)) b4⟩
theorem snoc_get {α : Type} {l : List α} {a b : α} {i : Nat} (h : (l ++ [a])[i]? = some b) : l[i]? = some b ∨ (i = l.length ∧ a = b) := by
  rcases Nat.lt_or_ge i l.length with q | q
  · exact .inl (by rwa [List.getElem?_append_left q] at h)
  · rw [List.getElem?_append_right q] at h
    match hi : i - l.length, h with
    | 0, h => exact .inr ⟨Nat.le_antisymm (Nat.le_of_sub_eq_zero hi) q, Option.some.inj h⟩
theorem t_defT {x : Str} {q : Pos} {Q : Flow → Shared → Prop} (hd : (dn k).Plain pw) (hx : (dn k).name = x) (hq : (dn k).pos = q) (hn : Nat.ble n q.line = true) (ho : okNew k j x = true) {k1 : Nat} (hk : k + 1 = k1) (T : TT w base mg0 c Pl k j nms n s)
    (h : ∀ s', TT w base mg0 c Pl k1 j (x :: nms) (q.line + 1) s' → Q .next s') : wpAny (model pw w) A (exec (dn k).stmt (mainEnv pw c F)) Q E s := by
  obtain ⟨fs, ss, ad, G, ps, K, D⟩ := T
  subst hk
  have hl := Nat.le_of_ble_eq_true hn
  refine t_defn hd hx hq D.T (codeAmong_triples _ _ fun p hp e => absurd (D.ln p hp) (by omega)) fun f vs t s' T' hv => h s' ?_
  have D' := D.grow (n' := q.line + 1) T' (fun p hp => .tail _ (.tail _ hp)) (fun p hp => by
    rcases List.mem_append.mp hp with hp | hp
    · exact Nat.lt_succ_of_le (Nat.le_trans (Nat.le_of_lt (D.ln p hp)) hl)
    · cases List.mem_singleton.mp hp; exact Nat.lt_succ_self _) ho
  refine ⟨fs ++ [f], ss, ad, _, _, _, { D' with lf := by rw [List.length_append, D.lf]; rfl, fn := fun i g hg => ?_ }⟩
  rcases snoc_get hg with hg | ⟨rfl, rfl⟩
  · exact D'.fn i g hg
  · rw [D.lf]
    exact ⟨⟨vs, t, .head _, .tail _ (.head _), hv.1, hv.2⟩, by rw [hx, List.lookup_cons, beq_self_eq_true]⟩
theorem t_nameT {x y : Str} {i : Nat} {p1 p2 p3 : Pos} {Q : Flow → Shared → Prop} (hloc : pw.main.scope.names.lookup x = some .local) (hnb : x ≠ "__builtins__") (ho : okNew k j x = true) (T : TT w base mg0 c Pl k j nms n s)
    (h : ∀ s', TT w base mg0 c Pl k j (x :: nms) n s' → Q .next s') : wpAny (model pw w) A (exec (.Assign [.Name x p1] (.Constant (.str y) i p2) p3) (mainEnv pw c F)) Q E s := by
  obtain ⟨fs, ss, ad, G, ps, K, D⟩ := T
  exact t_namest D.T hloc hnb fun v s' T' => h s' ⟨fs, ss, ad, _, _, _, D.grow T' (fun z_ h => h) D.ln ho⟩
theorem TTd.set (D : TTd w base mg0 c Pl k j nms n fs ss ad G ps K s) {x : Str} {a : Addr} {o : Obj} {m : Nat} {s' : Shared} (T' : TS base mg0 c Pl ((x, .ref a) :: G) ps ((a, o) :: K) s') (hS : o.IntSetOf (setHas j) m) (hm : m < scanBound) (ho : okNew k j x = true) (hx : setNames.getD j "" = x) :
    TT w base mg0 c Pl k (j + 1) (x :: nms) n s' := by
  have D' := D.grow T' (fun z_ h => .tail _ h) D.ln ho
  refine ⟨fs, ss ++ [a], ad, _, _, _, { D' with ls := by rw [List.length_append, D.ls]; rfl, st := fun i b hb => ?_ }⟩
  rcases snoc_get hb with hb | ⟨rfl, rfl⟩
  · exact D'.st i b hb
  · rw [D.ls]
    exact ⟨⟨o, m, .head _, hS, hm⟩, by rw [hx, List.lookup_cons, beq_self_eq_true]⟩
theorem t_setT {x : Str} {e : Expr} {ns : List Int} {p' q0 qpos pos : Pos} {Q : Flow → Shared → Prop} {j1 : Nat} (hA : A.handled = none) (R : Reads0 base mg0 mb) (T : TT w base mg0 c Pl k j nms n s) (hx : setNames.getD j "" = x) (ho : okNew k j x = true) (hj : j + 1 = j1)
    (hloc : pw.main.scope.names.lookup x = some .local) (hnb : x ≠ "__builtins__") (hs : swapsWith (.Call (.Name "set" q0) [e] [] qpos) (some (.Name x p')) pos.line (mainEnv pw c F) = pure false)
    (hst : starEach [e] (mainEnv pw c F) = (false, eval e (mainEnv pw c F)) :: starEach [] (mainEnv pw c F))
    (he : ∀ G ps, G.lookup ("range" : Str) = none → G.lookup ("list" : Str) = none → EL pw w base mg0 c Pl F G ps e ns) (hb : ns.length + 1 < scanBound) (hS : ∀ i, ns.any (· == i) = setHas j i)
    (h : ∀ s', TT w base mg0 c Pl k j1 (x :: nms) n s' → Q .next s') : wpAny (model pw w) A (exec (.Assign [.Name x p'] (.Call (.Name "set" q0) [e] [] qpos) pos) (mainEnv pw c F)) Q E s := by
  obtain ⟨fs, ss, ad, G, ps, K, D⟩ := T
  subst hj
  exact t_set hA D.T pw_module R D.g1 hloc hnb hs hst (he _ _ D.g2 D.g3) hb hS fun a o m s' T' y z => h s' (D.set T' y z ho hx)
theorem t_setRT {x : Str} {a b : Int} {m : Nat} {k1 k2 : Nat} {p0 p1 p2 rpos p' q0 qpos pos : Pos} {Q : Flow → Shared → Prop} {j1 : Nat} (hA : A.handled = none) (R : Reads0 base mg0 mb) (T : TT w base mg0 c Pl k j nms n s) (hx : setNames.getD j "" = x) (ho : okNew k j x = true) (hj : j + 1 = j1)
    (hloc : pw.main.scope.names.lookup x = some .local) (hnb : x ≠ "__builtins__") (hs : swapsWith (.Call (.Name "set" q0) [.Call (.Name "range" p0) [.Constant (.int a) k1 p1, .Constant (.int b) k2 p2] [] rpos] [] qpos) (some (.Name x p')) pos.line (mainEnv pw c F) = pure false)
    (hsm : Builtin.Range.small a b 1 = true) (hm : Builtin.Range.rangeSize a b 1 = m) (hb : m + 1 < scanBound) (hS : ∀ i, (steps a 1 m).any (· == i) = setHas j i)
    (h : ∀ s', TT w base mg0 c Pl k j1 (x :: nms) n s' → Q .next s') :
    wpAny (model pw w) A (exec (.Assign [.Name x p'] (.Call (.Name "set" q0) [.Call (.Name "range" p0) [.Constant (.int a) k1 p1, .Constant (.int b) k2 p2] [] rpos] [] qpos) pos) (mainEnv pw c F)) Q E s := by
  obtain ⟨fs, ss, ad, G, ps, K, D⟩ := T
  subst hj
  exact t_setR hA D.T pw_module R D.g1 D.g2 hloc hnb hs hsm hm hb hS fun a o m s' T' y z => h s' (D.set T' y z ho hx)
theorem TT.done (T : TT w base mg0 c Pl 25 5 topNames n s) : ∃ ad, TopEnd w ad base mg0 c Pl s := by
  obtain ⟨fs, ss, ad, G, ps, K, D⟩ := T
  have hf : ∀ i, i < 25 → fs[i]? = some (fs.getD i ⟨0, .none, 0, default, .none⟩) := fun i hi => by
    rw [List.getD_eq_getElem?_getD, List.getElem?_eq_getElem (D.lf ▸ hi)]; rfl
  have hs : ∀ i, i < 5 → ss[i]? = some (ss.getD i 0) := fun i hi => by
    rw [List.getD_eq_getElem?_getD, List.getElem?_eq_getElem (D.ls ▸ hi)]; rfl
  obtain ⟨p, tf, t, u, m, a1, a2, a3⟩ := D.af
  refine ⟨⟨fun i => (fs.getD i ⟨0, .none, 0, default, .none⟩).a, fun i => (fs.getD i ⟨0, .none, 0, default, .none⟩).pm, fun i => (fs.getD i ⟨0, .none, 0, default, .none⟩).cd, fun i => (fs.getD i ⟨0, .none, 0, default, .none⟩).doc, ad.flags, ad.gi, ad.ig, ad.code, fun i => ss.getD i 0⟩,
    ⟨G, ps, K, D.T, D.nm, fun i x hx => ?_, fun i x hx => ?_, D.fl⟩, fun i hi => ?_, ⟨p, tf, (D.T.keep _ a1).1⟩, ⟨t, u, m, (D.T.keep _ a2).1⟩, (D.T.keep _ a3).1, fun i hi => ?_⟩
  · have hi : i < 25 := (List.getElem?_eq_some_iff.mp hx).1
    have e : ∀ i, i < 25 → defNames[i]? = some (dn i).name := by decide +kernel
    rw [e i hi] at hx
    exact Option.some.inj hx ▸ (D.fn i _ (hf i hi)).2
  · have hi : i < 5 := (List.getElem?_eq_some_iff.mp hx).1
    have e := (D.st i _ (hs i hi)).2
    rw [List.getD_eq_getElem?_getD, hx] at e
    exact e
  · obtain ⟨⟨vs, t, b1, b2, b3, b5⟩, _⟩ := D.fn i _ (hf i hi)
    exact ⟨_, vs, t, (D.T.keep _ b1).1, (D.T.keep _ b2).1, b3, b5⟩
  · obtain ⟨⟨o, m, b1, b2, b3⟩, _⟩ := D.st i _ (hs i hi)
    exact ⟨o, m, (D.T.keep _ b1).1, b2, b3⟩
theorem mi {α : Type} {l : List α} {a : α} (i : Nat) (h : l[i]? = some a) : a ∈ l := List.mem_of_getElem? h
set_option maxRecDepth 100000 in
set_option maxHeartbeats 4000000 in
theorem top_walk {Q : Flow → Shared → Prop} (hA : A.handled = none) (T : TS base mg0 c Pl [] [] [] s) (R : Reads0 base mg0 mb) (hsre : (([] : List (Str × Value)).lookup ("_sre" : Str)).or (mg0 "_sre") = some (.ref 12))
    (hM : base.heap.get? 12 = some { cls := .type "module", dict := some 11, data := .plain }) (hD : base.heap.Ns 11 md) (hd : md "compile" = some (.builtin "_sre.compile"))
    (h : ∀ (ad : Ad) (s' : Shared), TopEnd w ad base mg0 c Pl s' → Q .next s') : wpAny (model pw w) A (execs (behindTheImports pw) (mainEnv pw c F)) Q E s := by
  rw [body_eq]
  refine @s_cons _ _ _ _ _ _ _ _ _ (fun Q' hQ' => ?_)
  refine st_name  1 (by decide) (P := fun st => wpAny _ _ (exec st _) _ _ _) (fun z_ z_1 z_2 z_3 => ?_)
  refine t_namest T (by kernel_rfl) (by decide +kernel) fun z_ s T => ?_
  refine @s_next _ _ _ _ _ _ _ _ _ (by assumption) ?_
  refine @s_cons _ _ _ _ _ _ _ _ _ (fun Q' hQ' => ?_)
  refine st_flags (c := c) (F := F) (P := fun st => wpAny _ _ (exec st _) _ _ _) (fun z_ z_1 z_2 z_3 z_4 z_5 z_6 z_7 z_8 z_9 z_10 z_11 z_12 z_13 z_14 z_15 z_16 z_17 z_18 z_19 z_20 z_21 z_22 z_23 z_24 e1 e2 e3 => ?_)
  refine t_flags hA T pw_module hsre hM hD hd (by kernel_rfl) e1 e2 e3 rfl fun fl gi ig code pv tf hh tg ug ng s T ehh => ?_
  have T : TT w base mg0 c Pl 0 0 ["Flags", "__name__"] 0 s := ⟨[], [], ⟨fun z_ => 0, fun z_ => .none, fun z_ => 0, fun z_ => .none, fl, gi, ig, code, fun z_ => 0⟩, _, _, _, ⟨T, rfl, rfl, rfl, (fun z_ h => nomatch h), (by kernel_rfl), (by kernel_rfl), (by kernel_rfl), (by kernel_rfl), ⟨pv, tf, tg, ug, ng, .head _, ehh ▸ .tail _ (.tail _ (.head _)), .tail _ (.head _)⟩, (fun z_ z_1 h => nomatch h), fun z_ z_1 h => nomatch h⟩⟩
  refine @s_next _ _ _ _ _ _ _ _ _ (by assumption) ?_
  refine @s_cons _ _ _ _ _ _ _ _ _ (fun Q' hQ' => ?_)
  refine t_defT pl0 rfl rfl (q := ⟨4, 0, 11, 14⟩) (x := "Int2AP") (by kernel_rfl) (by decide +kernel) (k1 := 1) rfl T fun s T => ?_
  refine @s_next _ _ _ _ _ _ _ _ _ (by assumption) ?_
  refine @s_cons _ _ _ _ _ _ _ _ _ (fun Q' hQ' => ?_)
  refine t_defT pl1 rfl rfl (q := ⟨12, 0, 16, 43⟩) (x := "ParseFlags") (by kernel_rfl) (by decide +kernel) (k1 := 2) rfl T fun s T => ?_
  refine @s_next _ _ _ _ _ _ _ _ _ (by assumption) ?_
  refine @s_cons _ _ _ _ _ _ _ _ _ (fun Q' hQ' => ?_)
  refine st_name  5 (by decide) (P := fun st => wpAny _ _ (exec st _) _ _ _) (fun z_ z_1 z_2 z_3 => ?_)
  refine t_nameT (by kernel_rfl) (by decide +kernel) (by decide +kernel) T fun s T => ?_
  refine @s_next _ _ _ _ _ _ _ _ _ (by assumption) ?_
  refine @s_cons _ _ _ _ _ _ _ _ _ (fun Q' hQ' => ?_)
  refine t_defT pl2 rfl rfl (q := ⟨18, 0, 19, 21⟩) (x := "is_not") (by kernel_rfl) (by decide +kernel) (k1 := 3) rfl T fun s T => ?_
  refine @s_next _ _ _ _ _ _ _ _ _ (by assumption) ?_
  refine @s_cons _ _ _ _ _ _ _ _ _ (fun Q' hQ' => ?_)
  refine t_defT pl3 rfl rfl (q := ⟨20, 0, 21, 17⟩) (x := "contains") (by kernel_rfl) (by decide +kernel) (k1 := 4) rfl T fun s T => ?_
  refine @s_next _ _ _ _ _ _ _ _ _ (by assumption) ?_
  refine @s_cons _ _ _ _ _ _ _ _ _ (fun Q' hQ' => ?_)
  refine t_defT pl4 rfl rfl (q := ⟨22, 0, 23, 12⟩) (x := "delitem") (by kernel_rfl) (by decide +kernel) (k1 := 5) rfl T fun s T => ?_
  refine @s_next _ _ _ _ _ _ _ _ _ (by assumption) ?_
  refine @s_cons _ _ _ _ _ _ _ _ _ (fun Q' hQ' => ?_)
  refine t_defT pl5 rfl rfl (q := ⟨24, 0, 25, 15⟩) (x := "getitem") (by kernel_rfl) (by decide +kernel) (k1 := 6) rfl T fun s T => ?_
  refine @s_next _ _ _ _ _ _ _ _ _ (by assumption) ?_
  refine @s_cons _ _ _ _ _ _ _ _ _ (fun Q' hQ' => ?_)
  refine t_defT pl6 rfl rfl (q := ⟨26, 0, 31, 64⟩) (x := "indexOf") (by kernel_rfl) (by decide +kernel) (k1 := 7) rfl T fun s T => ?_
  refine @s_next _ _ _ _ _ _ _ _ _ (by assumption) ?_
  refine @s_cons _ _ _ _ _ _ _ _ _ (fun Q' hQ' => ?_)
  refine t_defT pl7 rfl rfl (q := ⟨32, 0, 33, 12⟩) (x := "setitem") (by kernel_rfl) (by decide +kernel) (k1 := 8) rfl T fun s T => ?_
  refine @s_next _ _ _ _ _ _ _ _ _ (by assumption) ?_
  refine @s_cons _ _ _ _ _ _ _ _ _ (fun Q' hQ' => ?_)
  refine t_defT pl8 rfl rfl (q := ⟨34, 0, 39, 12⟩) (x := "iconcat") (by kernel_rfl) (by decide +kernel) (k1 := 9) rfl T fun s T => ?_
  refine @s_next _ _ _ _ _ _ _ _ _ (by assumption) ?_
  refine @s_cons _ _ _ _ _ _ _ _ _ (fun Q' hQ' => ?_)
  refine st_name  13 (by decide) (P := fun st => wpAny _ _ (exec st _) _ _ _) (fun z_ z_1 z_2 z_3 => ?_)
  refine t_nameT (by kernel_rfl) (by decide +kernel) (by decide +kernel) T fun s T => ?_
  refine @s_next _ _ _ _ _ _ _ _ _ (by assumption) ?_
  refine @s_cons _ _ _ _ _ _ _ _ _ (fun Q' hQ' => ?_)
  refine st_b1 (P := fun st => wpAny _ _ (exec st _) _ _ _) (fun z_ z_1 z_2 z_3 z_4 z_5 z_6 z_7 z_8 z_9 z_10 z_11 z_12 z_13 z_14 e1 => ?_)
  refine t_setT hA R T (x := "b1_set") (by kernel_rfl) (by decide +kernel) (j1 := 1) rfl (by kernel_rfl) (by decide +kernel) rfl rfl (fun G ps g2 g3 => EL.add (EL.list e1 (by rw [sizeLine_eq]; decide)) (EL.listRange (m := 16) pw_module R g2 g3 (by decide +kernel) (by decide +kernel) (by decide)) (by rw [sizeLine_eq, steps_size]; decide)) (by rw [List.length_append, steps_size]; decide +kernel) (fun k => ?_) fun s T => ?_
  · rw [List.any_append, any_steps]; rfl
  refine @s_next _ _ _ _ _ _ _ _ _ (by assumption) ?_
  refine @s_cons _ _ _ _ _ _ _ _ _ (fun Q' hQ' => ?_)
  refine t_defT pl9 rfl rfl (q := ⟨42, 0, 43, 30⟩) (x := "in_table_b1") (by kernel_rfl) (by decide +kernel) (k1 := 10) rfl T fun s T => ?_
  refine @s_next _ _ _ _ _ _ _ _ _ (by assumption) ?_
  refine @s_cons _ _ _ _ _ _ _ _ _ (fun Q' hQ' => ?_)
  refine t_defT pl10 rfl rfl (q := ⟨44, 0, 45, 22⟩) (x := "in_table_c11") (by kernel_rfl) (by decide +kernel) (k1 := 11) rfl T fun s T => ?_
  refine @s_next _ _ _ _ _ _ _ _ _ (by assumption) ?_
  refine @s_cons _ _ _ _ _ _ _ _ _ (fun Q' hQ' => ?_)
  refine t_defT pl11 rfl rfl (q := ⟨46, 0, 52, 46⟩) (x := "in_table_c4") (by kernel_rfl) (by decide +kernel) (k1 := 12) rfl T fun s T => ?_
  refine @s_next _ _ _ _ _ _ _ _ _ (by assumption) ?_
  refine @s_cons _ _ _ _ _ _ _ _ _ (fun Q' hQ' => ?_)
  refine st_c6 (P := fun st => wpAny _ _ (exec st _) _ _ _) (fun z_ z_1 z_2 z_3 z_4 z_5 z_6 z_7 z_8 z_9 => ?_)
  refine t_setRT (m := 5) hA R T (x := "c6_set") (by kernel_rfl) (by decide +kernel) (j1 := 2) rfl (by kernel_rfl) (by decide +kernel) rfl (by decide +kernel) (by decide +kernel) (by decide +kernel) (fun k => ?_) fun s T => ?_
  · rw [any_steps]; rfl
  refine @s_next _ _ _ _ _ _ _ _ _ (by assumption) ?_
  refine @s_cons _ _ _ _ _ _ _ _ _ (fun Q' hQ' => ?_)
  refine t_defT pl12 rfl rfl (q := ⟨54, 0, 55, 30⟩) (x := "in_table_c6") (by kernel_rfl) (by decide +kernel) (k1 := 13) rfl T fun s T => ?_
  refine @s_next _ _ _ _ _ _ _ _ _ (by assumption) ?_
  refine @s_cons _ _ _ _ _ _ _ _ _ (fun Q' hQ' => ?_)
  refine st_c7 (P := fun st => wpAny _ _ (exec st _) _ _ _) (fun z_ z_1 z_2 z_3 z_4 z_5 z_6 z_7 z_8 z_9 => ?_)
  refine t_setRT (m := 12) hA R T (x := "c7_set") (by kernel_rfl) (by decide +kernel) (j1 := 3) rfl (by kernel_rfl) (by decide +kernel) rfl (by decide +kernel) (by decide +kernel) (by decide +kernel) (fun k => ?_) fun s T => ?_
  · rw [any_steps]; rfl
  refine @s_next _ _ _ _ _ _ _ _ _ (by assumption) ?_
  refine @s_cons _ _ _ _ _ _ _ _ _ (fun Q' hQ' => ?_)
  refine t_defT pl13 rfl rfl (q := ⟨57, 0, 58, 30⟩) (x := "in_table_c7") (by kernel_rfl) (by decide +kernel) (k1 := 14) rfl T fun s T => ?_
  refine @s_next _ _ _ _ _ _ _ _ _ (by assumption) ?_
  refine @s_cons _ _ _ _ _ _ _ _ _ (fun Q' hQ' => ?_)
  refine st_c8 (P := fun st => wpAny _ _ (exec st _) _ _ _) (fun z_ z_1 z_2 z_3 z_4 z_5 z_6 z_7 z_8 z_9 z_10 z_11 z_12 z_13 z_14 z_15 z_16 z_17 z_18 z_19 z_20 z_21 z_22 z_23 e1 => ?_)
  refine t_setT hA R T (x := "c8_set") (by kernel_rfl) (by decide +kernel) (j1 := 4) rfl (by kernel_rfl) (by decide +kernel) rfl rfl (fun G ps g2 g3 => EL.add (EL.add (EL.list e1 (by rw [sizeLine_eq]; decide)) (EL.listRange (m := 5) pw_module R g2 g3 (by decide +kernel) (by decide +kernel) (by decide)) (by rw [sizeLine_eq, steps_size]; decide)) (EL.listRange (m := 6) pw_module R g2 g3 (by decide +kernel) (by decide +kernel) (by decide)) (by rw [sizeLine_eq, List.length_append, steps_size, steps_size]; decide)) (by rw [List.length_append, List.length_append, steps_size, steps_size]; decide +kernel) (fun k => ?_) fun s T => ?_
  · rw [List.any_append, List.any_append, any_steps, any_steps]; rfl
  refine @s_next _ _ _ _ _ _ _ _ _ (by assumption) ?_
  refine @s_cons _ _ _ _ _ _ _ _ _ (fun Q' hQ' => ?_)
  refine t_defT pl14 rfl rfl (q := ⟨60, 0, 61, 30⟩) (x := "in_table_c8") (by kernel_rfl) (by decide +kernel) (k1 := 15) rfl T fun s T => ?_
  refine @s_next _ _ _ _ _ _ _ _ _ (by assumption) ?_
  refine @s_cons _ _ _ _ _ _ _ _ _ (fun Q' hQ' => ?_)
  refine st_c9 (P := fun st => wpAny _ _ (exec st _) _ _ _) (fun z_ z_1 z_2 z_3 z_4 z_5 z_6 z_7 z_8 z_9 z_10 z_11 z_12 z_13 z_14 e1 => ?_)
  refine t_setT hA R T (x := "c9_set") (by kernel_rfl) (by decide +kernel) (j1 := 5) rfl (by kernel_rfl) (by decide +kernel) rfl rfl (fun G ps g2 g3 => EL.add (EL.list e1 (by rw [sizeLine_eq]; decide)) (EL.listRange (m := 96) pw_module R g2 g3 (by decide +kernel) (by decide +kernel) (by decide)) (by rw [sizeLine_eq, steps_size]; decide)) (by rw [List.length_append, steps_size]; decide +kernel) (fun k => ?_) fun s T => ?_
  · rw [List.any_append, any_steps, List.any_cons, List.any_nil, Bool.or_false, Bool.beq_comm]; rfl
  refine @s_next _ _ _ _ _ _ _ _ _ (by assumption) ?_
  refine @s_cons _ _ _ _ _ _ _ _ _ (fun Q' hQ' => ?_)
  refine t_defT pl15 rfl rfl (q := ⟨63, 0, 64, 30⟩) (x := "in_table_c9") (by kernel_rfl) (by decide +kernel) (k1 := 16) rfl T fun s T => ?_
  refine @s_next _ _ _ _ _ _ _ _ _ (by assumption) ?_
  refine @s_cons _ _ _ _ _ _ _ _ _ (fun Q' hQ' => ?_)
  refine st_name  26 (by decide) (P := fun st => wpAny _ _ (exec st _) _ _ _) (fun z_ z_1 z_2 z_3 => ?_)
  refine t_nameT (by kernel_rfl) (by decide +kernel) (by decide +kernel) T fun s T => ?_
  refine @s_next _ _ _ _ _ _ _ _ _ (by assumption) ?_
  refine @s_cons _ _ _ _ _ _ _ _ _ (fun Q' hQ' => ?_)
  refine t_defT pl16 rfl rfl (q := ⟨66, 0, 71, 107⟩) (x := "_law_runs") (by kernel_rfl) (by decide +kernel) (k1 := 17) rfl T fun s T => ?_
  refine @s_next _ _ _ _ _ _ _ _ _ (by assumption) ?_
  refine @s_cons _ _ _ _ _ _ _ _ _ (fun Q' hQ' => ?_)
  refine t_defT pl17 rfl rfl (q := ⟨72, 0, 77, 40⟩) (x := "_law_within") (by kernel_rfl) (by decide +kernel) (k1 := 18) rfl T fun s T => ?_
  refine @s_next _ _ _ _ _ _ _ _ _ (by assumption) ?_
  refine @s_cons _ _ _ _ _ _ _ _ _ (fun Q' hQ' => ?_)
  refine t_defT pl18 rfl rfl (q := ⟨78, 0, 84, 15⟩) (x := "_law_word") (by kernel_rfl) (by decide +kernel) (k1 := 19) rfl T fun s T => ?_
  refine @s_next _ _ _ _ _ _ _ _ _ (by assumption) ?_
  refine @s_cons _ _ _ _ _ _ _ _ _ (fun Q' hQ' => ?_)
  refine t_defT pl19 rfl rfl (q := ⟨85, 0, 93, 16⟩) (x := "_law_three") (by kernel_rfl) (by decide +kernel) (k1 := 20) rfl T fun s T => ?_
  refine @s_next _ _ _ _ _ _ _ _ _ (by assumption) ?_
  refine @s_cons _ _ _ _ _ _ _ _ _ (fun Q' hQ' => ?_)
  refine t_defT pl20 rfl rfl (q := ⟨94, 0, 102, 66⟩) (x := "_law_reply") (by kernel_rfl) (by decide +kernel) (k1 := 21) rfl T fun s T => ?_
  refine @s_next _ _ _ _ _ _ _ _ _ (by assumption) ?_
  refine @s_cons _ _ _ _ _ _ _ _ _ (fun Q' hQ' => ?_)
  refine t_defT pl21 rfl rfl (q := ⟨103, 0, 107, 26⟩) (x := "_law_nothing") (by kernel_rfl) (by decide +kernel) (k1 := 22) rfl T fun s T => ?_
  refine @s_next _ _ _ _ _ _ _ _ _ (by assumption) ?_
  refine @s_cons _ _ _ _ _ _ _ _ _ (fun Q' hQ' => ?_)
  refine t_defT pl22 rfl rfl (q := ⟨108, 0, 122, 18⟩) (x := "_law_refused") (by kernel_rfl) (by decide +kernel) (k1 := 23) rfl T fun s T => ?_
  refine @s_next _ _ _ _ _ _ _ _ _ (by assumption) ?_
  refine @s_cons _ _ _ _ _ _ _ _ _ (fun Q' hQ' => ?_)
  refine t_defT pl23 rfl rfl (q := ⟨123, 0, 151, 16⟩) (x := "_law_dealt") (by kernel_rfl) (by decide +kernel) (k1 := 24) rfl T fun s T => ?_
  refine @s_next _ _ _ _ _ _ _ _ _ (by assumption) ?_
  refine @s_cons _ _ _ _ _ _ _ _ _ (fun Q' hQ' => ?_)
  refine t_defT pl24 rfl rfl (q := ⟨152, 0, 208, 15⟩) (x := "law") (by kernel_rfl) (by decide +kernel) (k1 := 25) rfl T fun s T => ?_
  refine @s_next _ _ _ _ _ _ _ _ _ (by assumption) ?_
  refine @s_nil _ _ _ _ _ _ _ ?_
  obtain ⟨ad, t⟩ := T.done
  exact h ad _ t
end
end
section
open PySem PySem.Calls PyProof.Rows PySem.W

theorem go_ne {s s' : Shared} {t : Thread} {o : Outcome} (h : Step.go s t = .halt o s') : False := by cases h
theorem halt_out {s s' : Shared} {o o' : Outcome} (h : Step.halt o s = .halt o' s') : o = o' := by cases h; rfl
theorem halt_st {s s' : Shared} {o o' : Outcome} (h : Step.halt o s = .halt o' s') : s = s' := by cases h; rfl
theorem step_done {den : Code → Sem Fin} {p : Program} {w : World} {s s' : Shared} {t : Thread} {f : Flow} (h : step den p w s t = .halt (.done f) s') : through t = true ∧ s' = s := by
  obtain ⟨heap, gens, drawn, toks, os⟩ := s
  obtain ⟨cur, code, pos, stack⟩ := t
  cases cur with
  | pure fin =>
    cases fin with
    | again c => exact (go_ne h).elim
    | done f' =>
      cases stack with
      | nil =>
        have h : (if leftWithCleanup gens then Step.halt (.unsupported "lifetime:generator-with-cleanup-left-suspended") ⟨heap, gens, drawn, toks, os⟩ else Step.halt (.done f') ⟨heap, gens, drawn, toks, os⟩) = .halt (.done f) s' := h
        by_cases hc : leftWithCleanup gens = true
        · rw [if_pos hc] at h; cases halt_out h
        · rw [if_neg hc] at h; exact ⟨rfl, (halt_st h).symm⟩
      | cons fr rest => cases fr <;> exact (go_ne h).elim
  | raise e =>
    cases stack with
    | nil =>
      have h : (if leftWithCleanup gens then Step.halt (.unsupported "lifetime:generator-with-cleanup-left-suspended") ⟨heap, gens, drawn, toks, os⟩ else Step.halt (.uncaught e) ⟨heap, gens, drawn, toks, os⟩) = .halt (.done f) s' := h
      by_cases hc : leftWithCleanup gens = true
      · rw [if_pos hc] at h; cases halt_out h
      · rw [if_neg hc] at h; cases halt_out h
    | cons fr rest => cases fr <;> exact (go_ne h).elim
  | finish e =>
    have h : (if leftWithCleanup gens then Step.halt (.unsupported "lifetime:generator-with-cleanup-left-suspended") ⟨heap, gens, drawn, toks, os⟩ else Step.halt (.ended e) ⟨heap, gens, drawn, toks, os⟩) = .halt (.done f) s' := h
    by_cases hc : leftWithCleanup gens = true
    · rw [if_pos hc] at h; cases halt_out h
    · rw [if_neg hc] at h; cases halt_out h
  | load a x k =>
    simp only [step] at h
    generalize heap.get? a = o at h
    cases o with
    | some o => exact (go_ne h).elim
    | none => cases halt_out h
  | update a x g k =>
    simp only [step] at h
    by_cases hc : (heap.get? a).isSome = true
    · rw [if_pos hc] at h; exact (go_ne h).elim
    · rw [if_neg hc] at h; cases halt_out h
  | choose src n k =>
    simp only [step] at h
    by_cases hc : n = 0
    · rw [if_pos hc] at h; cases halt_out h
    · rw [if_neg hc] at h; exact (go_ne h).elim
  | os q x k =>
    simp only [step] at h
    exact (go_ne h).elim
  | genState g k =>
    simp only [step] at h
    generalize gens[g]? = o at h
    cases o with
    | some o => exact (go_ne h).elim
    | none => cases halt_out h
  | resume g r l k =>
    simp only [step] at h
    generalize gens[g]? = o at h
    cases o with
    | none => cases halt_out h
    | some o =>
      cases o with
      | fresh c =>
        cases r with
        | send v => cases v <;> exact (go_ne h).elim
        | throw e => exact (go_ne h).elim
      | suspended => exact (go_ne h).elim
      | running => exact (go_ne h).elim
      | finished => exact (go_ne h).elim
  | yield v g0 l kk =>
    simp only [step] at h
    generalize splitAtGen stack = o at h
    cases o with
    | none => cases halt_out h
    | some o => exact (go_ne h).elim
  | unsupported what => cases halt_out h
  | register a b => cases halt_out h
  | fork a b => cases halt_out h
  | await => cases halt_out h
  | _ => exact (go_ne h).elim

section
variable {den : Code → Sem Fin} {p : Program} {w : World}
theorem sched_through : ∀ {n : Nat} {s s' : Shared} {t : Thread} {f : Flow}, runN den p w n s t = .halted (.done f) s' → (∀ k s₁ t₁, runN den p w k s t = .running s₁ t₁ → t₁.calm = true) → s.asleep →
    ∃ m t₁, schedN den p w m (.single s t) = .running (.single s' t₁) ∧ through t₁ = true
  | 0, _, _, _, _, h, _, _ => by cases h
  | n + 1, s, s', t, f, h, hc, hz => by
    simp only [runN] at h
    cases hs : step den p w s t with
    | halt o s₂ =>
      rw [hs] at h
      cases h
      obtain ⟨h1, h2⟩ := step_done hs
      exact ⟨0, t, by rw [h2]; rfl, h1⟩
    | go s₂ t₂ =>
      rw [hs] at h
      obtain ⟨m, t₁, h1, h2⟩ := sched_through h (fun k s₁ t₁ q => hc (k + 1) s₁ t₁ (by simp only [runN, hs]; exact q)) (Shared.asleep_of_life (step_life den p w s s₂ t t₂ hs) hz)
      have e := sstep_single den p w s t (hc 0 s t rfl) hz
      rw [hs] at e
      rcases e with e | e
      · exact ⟨m + 1, t₁, by simp only [schedN, e, Step.lift]; exact h1, h2⟩
      · cases e
end

theorem thread_through {prog : Program} {w : World} {t : Sem Fin} {s : Shared} {R : Shared → Prop} (hz : s.asleep) (h : wpAny (model prog w) callerA t (fun fin s' => ∃ f, fin = .done f ∧ R s' ∧ s'.gens = #[]) (fun z_ z_1 => False) s) :
    ∃ s', (∃ n t₁, schedN (denote table) prog w n (.single s ⟨t, .builtin "claim.caller" {}, default, []⟩) = .running (.single s' t₁) ∧ through t₁ = true) ∧ s'.heap.life = s.heap.life ∧ R s' ∧ s'.gens = #[] := by
  have h' := wp_of_wpAny_done (R := fun r s' => ((∃ f, r = .ok f) ∧ R s' ∧ s'.gens = #[]) ∧ leftWithCleanup s'.gens = false) caller_in
    (wpAny_mono h (fun _ _ ⟨f, e, a, b⟩ => ⟨f, e, ⟨⟨f, rfl⟩, a, b⟩, by rw [b]; simp [leftWithCleanup]⟩) fun z_ z_1 x => x.elim) default
  obtain ⟨n, r, s₁, hn, ⟨f, rfl⟩, hR, hg⟩ := (wp_iff_halts (M := model prog w) (R := fun r s' => (∃ f, r = .ok f) ∧ R s' ∧ s'.gens = #[]) ..).mp h'
  obtain ⟨s₂, hr, hf, hc⟩ := runNI_real _ _ _ hn (outcomeOf_ends _)
  obtain rfl : s₂ = s₁ := Shared.eq_of_forget_eq hf hg
  exact ⟨s₂, sched_through hr hc hz, runN_life _ _ _ hr, hR, hg⟩

theorem mono_ns {h : Heap} {a : Addr} {m : Str → Option Value} (x : h.Ns a m) : BNs h.get? a m := x
theorem globalOf_same {h h' : Heap} {o : Obj} (e : h.get? cStatics = some o) (e' : h'.get? cStatics = some o) (k : Str) : staticOf h' k = staticOf h k := by unfold staticOf; rw [e, e']
theorem builtinOf_same {h h' : Heap} {o : Obj} (e : h.get? builtinsNs = some o) (e' : h'.get? builtinsNs = some o) (k : Str) : builtinOf h' k = builtinOf h k := by unfold builtinOf; rw [e, e']

structure S0 (w : World) (s : Shared) : Prop where
  gens : s.gens = #[]
  main : s.heap.isNs mainGlobals = true
  blt : s.heap.isNs builtinsNs = true
  st : s.heap.isNs cStatics = true
  d11 : s.heap.isNs 11 = true
  view : s.heap.bltView = bltViewBooted
  acc : s.heap.accountedOkI (importedModules pw.main.body) = true
  names : namesBound pw s.heap = true
  bb : s.heap.nsMap mainGlobals "__builtins__" = some (.ref 4)
  sre : s.heap.nsMap mainGlobals "_sre" = some (.ref 12)
  comp : s.heap.nsMap 11 "compile" = some (.builtin "_sre.compile")
  ann : s.heap.nsMap mainGlobals "__annotations__" = some (.ref 6)
  lim : s.heap.nsMap cStatics "sys.recursionlimit" = none
  keys : ∀ k ∈ s.heap.nsKeys mainGlobals, k ∈ (["__name__", "__doc__", "__package__", "__loader__", "__spec__", "__annotations__", "__builtins__", "__file__", "__cached__", "_sre"] : List Str)
  o4 : s.heap.get? 4 = some { cls := .type "module", dict := some builtinsNs, data := .plain }
  o12 : s.heap.get? 12 = some { cls := .type "module", dict := some 11, data := .plain }

theorem s0_of {w : World} {s : Shared} (h : look0 s = lookGood) : S0 w s := by
  unfold look0 lookGood at h
  simp only [Prod.mk.injEq, Bool.and_eq_true, List.all_eq_true, List.contains_iff_mem, beq_iff_eq, Option.isNone_iff_eq_none] at h
  obtain ⟨h1, ⟨⟨⟨⟨⟨⟨⟨⟨⟨⟨⟨⟨a1, a2⟩, a3⟩, a4⟩, a5⟩, a6⟩, a7⟩, a8⟩, a9⟩, a10⟩, a11⟩, a12⟩, a13⟩, h3, h4⟩ := h
  exact ⟨Array.eq_empty_of_size_eq_zero a5, a1, a2, a3, a4, h1, a6, a7, a8, a9, a10, a11, a12, a13, h3, h4⟩

theorem opened0 (w : World) : (∃ s, AfterRun (opening pw) w s) ∧ ∀ s, AfterRun (opening pw) w s → ∃ s₀, fenceModules? pw s = some s₀ ∧ S0 w s₀ ∧ s₀.asleep := by
  have h := opened w
  rw [← table_eq_tree] at h
  obtain ⟨s₀, h1, e⟩ := Option.map_eq_some_iff.mp h
  obtain ⟨s, h4, h5⟩ := Option.bind_eq_some_iff.mp h1
  have A := AfterImport.of_importEnds h4
  refine ⟨⟨s, A⟩, fun s' hs' => ?_⟩
  obtain rfl : s' = s := AfterImport.unique hs' A
  exact ⟨s₀, h5, s0_of e, Shared.asleep_of_life (fence_lifeW h5) A.life⟩
end
section
open PySem PySem.Calls PyProof.Rows PySem.W

theorem pw_hann : hasAnns (behindTheImports pw) = false := by kernel_rfl
theorem pw_hdoc : docOf (behindTheImports pw) = none := by kernel_rfl
theorem bound_ok : ∀ x ∈ topNames, x ∈ startupNames ∨ x ∈ pw.boundNames := by decide +kernel
theorem laid_ok : ∀ x ∈ laidNames, x ∉ topNames := by decide +kernel
theorem top_split : ∀ x ∈ topNames, x ∈ defNames ∨ x ∈ setNames ∨ x = "Flags" ∨ x = "__name__" := by decide +kernel
theorem law_def : pw.theDef "law" = some ((dn 24).params, (dn 24).body, (dn 24).scope) := by kernel_rfl

theorem law_name : (dn 24).name = "law" := by kernel_rfl
theorem law_dflt : (dn 24).params.defaults = [] := by kernel_rfl
theorem law_kw : kwWritten? (dn 24).params.kwonlyargs (dn 24).params.kw_defaults = some [] := by kernel_rfl
theorem lookup_none {G : List (Str × Value)} {x : Str} (h : x ∉ G.map (·.1)) : G.lookup x = none := by
  cases e : G.lookup x with
  | none => rfl
  | some v => exact absurd (List.mem_map_of_mem (f := (·.1)) (mem_of_lookup e)) h
theorem lookup_some {G : List (Str × Value)} {x : Str} {v : Value} (h : G.lookup x = some v) : x ∈ G.map (·.1) := List.mem_map_of_mem (f := (·.1)) (mem_of_lookup h)

structure Behind0 (w : World) (ad : Ad) (s : Shared) : Prop where
  wd : Wd w ad s.heap.get?
  gens : s.gens = #[]
  law : ∃ mg, s.heap.Ns mainGlobals mg ∧ mg "law" = some (.ref (ad.fn 24))
  pin : isTheDefsW pw s.heap "law"

theorem head_run {w : World} {s : Shared} (S : S0 w s) (hz : s.asleep) : ∃ s₁ ad, TopRan pw w s s₁ ∧ s₁.asleep ∧ Behind0 w ad s₁ := by
  have hM := Heap.Ns.of_isNs S.main
  have hB := Heap.Ns.of_isNs S.blt
  have hC := Heap.Ns.of_isNs S.st
  have hD := Heap.Ns.of_isNs S.d11
  have hmg : ∀ x, x ∉ (["__name__", "__doc__", "__package__", "__loader__", "__spec__", "__annotations__", "__builtins__", "__file__", "__cached__", "_sre"] : List Str) → s.heap.nsMap mainGlobals x = none := fun x hx => Heap.nsMap_none fun hk => hx (S.keys x hk)
  have hmb : ∀ x : Str, x ≠ "__name__" → s.heap.nsMap builtinsNs x = bootBuiltins x := fun x hx => Heap.of_bltView S.blt S.view x hx
  have R : Reads0 s (s.heap.nsMap mainGlobals) (s.heap.nsMap builtinsNs) := ⟨hB, ⟨hmg _ (by decide +kernel), (hmb _ (by decide +kernel)).trans (by decide +kernel)⟩, ⟨hmg _ (by decide +kernel), (hmb _ (by decide +kernel)).trans (by decide +kernel)⟩, ⟨hmg _ (by decide +kernel), (hmb _ (by decide +kernel)).trans (by decide +kernel)⟩⟩
  have run : wpAny (model pw w) callerA (topStub pw).cur (fun fin s' => ∃ f, fin = .done f ∧ (∃ ad c Pl, TopEnd w ad s (s.heap.nsMap mainGlobals) c Pl s') ∧ s'.gens = #[]) (fun z_ z_1 => False) s := by
    unfold topStub
    refine wpAny_bind (wpAny_moduleCode fun c Pl h' tk hk hc hPl hcode => ?_)
    unfold newBodyFrame
    refine wpAny_bind (wpAny_bind (wpAny_nsGet (hM.keeps hk) (wpAny_alloc ?_)))
    have hglt := hM.lt
    have hp : ∀ (o : Obj) b o', s.heap.get? b = some o' → (h'.push o).get? b = some o' := fun o b o' e => Heap.get?_push_of_some o (hk b o' e)
    have T0 : ∀ o : Obj, TS s (s.heap.nsMap mainGlobals) c Pl [] [] [] { s with heap := h'.push o, toks := tk } := fun o =>
      ⟨⟨_, _, rfl⟩, ⟨hM.keeps (hp o), hcode.push _, ⟨Nat.lt_of_lt_of_le hglt hc, Nat.lt_of_lt_of_le hglt hPl⟩, ⟨4, _, S.bb, by decide, by decide, Nat.ne_of_lt (Nat.lt_of_lt_of_le (Heap.lt_size S.o4) hPl), hp o _ _ S.o4, rfl, rfl, rfl⟩⟩,
        fun b o' z_ e => hp o b o' e, (fun z_ h => nomatch h), new_none hPl⟩
    refine wpAny_bind (wpAny_run (codeAny_body pw_hann pw_hdoc (wpAny_mono (E := fun z_ z_1 => False) (top_walk (c := c) (Pl := Pl) rfl (T0 _) R S.sre S.o12 hD S.comp (Q := fun f s' => f = .next ∧ ∃ ad, TopEnd w ad s (s.heap.nsMap mainGlobals) c Pl s') fun ad s' t => ⟨rfl, ad, t⟩) (fun f s' h => ?_) fun z_ z_1 x => x.elim)))
    obtain ⟨rfl, ad, t⟩ := h
    refine wpAny_pure ⟨_, rfl, ⟨ad, c, Pl, t⟩, ?_⟩
    obtain ⟨G, ps, K, T, _⟩ := t.T
    obtain ⟨hh, kk, e⟩ := T.same
    rw [e]; exact S.gens
  obtain ⟨s₁, hrun, hlife, ⟨ad, c, Pl, t⟩, hg⟩ := thread_through hz run
  obtain ⟨G, ps, K, T, hnames, hfn, hset, hfl⟩ := t.T
  have hold : ∀ b o, b ≠ mainGlobals → s.heap.get? b = some o → s₁.heap.get? b = some o := T.old
  obtain ⟨oB, _, _, eB, _⟩ := id hB
  obtain ⟨oC, _, _, eC, _⟩ := id hC
  have eB' := hold _ _ (by decide) eB
  have eC' := hold _ _ (by decide) eC
  have hG := T.main.g
  have glob : ∀ x, globalOf s₁.heap x = (G.lookup x).or (s.heap.nsMap mainGlobals x) := fun x => Claim2Try.globalOf_of_ns hG x
  have hstat : ∀ k, staticOf s₁.heap k = staticOf s.heap k := globalOf_same eC eC'
  have hlaw : G.lookup ("law" : Str) = some (.ref (ad.fn 24)) := hfn 24 "law" (by decide +kernel)
  refine ⟨s₁, ad, ⟨hrun, hlife, ?_, fun b o e hn => hold b o (fun q => hn (.inl q)) e, ?_, fun k => .inl (hstat k), ?_, ?_, ?_, ?_, ?_, ?_⟩, Shared.asleep_of_life hlife hz, ⟨⟨?_, ?_, t.fn, t.pat, t.gi, t.code, t.set⟩, hg, ⟨_, hG, by rw [hlaw]; rfl⟩, ?_⟩⟩
  · obtain ⟨hh, kk, e⟩ := T.same
    rw [e]; exact Shared.rest_eq rfl
  · have := Heap.accountedI_of_ok S.acc
    unfold staticsAccountedI at this ⊢
    simp only [hstat]
    exact this
  · obtain ⟨o, es, ep, e1, e2, e3, _⟩ := hG
    exact ⟨o, es, ep, e1, e2, e3⟩
  · intro x hx
    rw [builtinOf_same eB eB', Pin.builtinOf_eq S.blt]
    exact Heap.of_bltView S.blt S.view x hx
  · obtain ⟨bm, o, b1, _, _, _, b2, b3, b4, _⟩ := T.main.bmod
    exact ⟨bm, o, (glob _).trans b1, b2, b3, b4⟩
  · intro g hg'; rw [hg] at hg'; simp at hg'
  · intro x v hv
    rw [glob] at hv
    cases e : G.lookup x with
    | some v' => exact bound_ok x (hnames ▸ lookup_some e)
    | none =>
      rw [e, Option.none_or, ← Pin.globalOf_eq S.main] at hv
      exact names_of_bound S.names x v hv
  · intro x hx
    rw [glob, lookup_none (by rw [hnames]; exact laid_ok x hx), Option.none_or, Pin.globalOf_eq S.main]
  · refine ⟨_, _, mono_ns hG, mono_ns (hB.at fun o => hold _ o (by decide)), fun x v hx => ?_⟩
    cases hx with
    | fn i x h => exact .inl (by rw [hfn i x h]; rfl)
    | set i x h => exact .inl (by rw [hset i x h]; rfl)
    | flags => exact .inl (by rw [hfl]; rfl)
    | blt x v h hn hs hf h0 hb =>
      have hx : Str.ofString x ≠ "__name__" := fun e => hb (by rw [e]; decide +kernel)
      refine .inr ⟨?_, (hmb _ hx).trans h⟩
      rw [lookup_none, Option.none_or]
      · refine hmg _ fun q => ?_
        have : ∀ y ∈ (["__name__", "__doc__", "__package__", "__loader__", "__spec__", "__annotations__", "__builtins__", "__file__", "__cached__", "_sre"] : List Str), y ∈ bootMainNames ∨ y ∈ (["_sre", "__name__"] : List Str) := by decide +kernel
        rcases this _ q with z | z
        · exact hb z
        · exact h0 z
      · rw [hnames]
        intro q
        rcases top_split _ q with z | z | z | z
        · exact hn z
        · exact hs z
        · exact hf z
        · exact hx z
  · exact ⟨_, mono_ns (hC.at fun o => hold _ o (by decide)), S.lim⟩
  · obtain ⟨oc, vs, tt, h1, h2, h3, h4⟩ := t.fn 24 (by decide)
    exact ⟨ad.fn 24, _, _, (dn 24).params, (dn 24).body, (dn 24).scope, by rw [glob, hlaw]; rfl, h1, rfl, law_def, law_name, law_name, rfl, rfl, rfl, rfl, rfl, rfl, .inl ⟨law_dflt, rfl⟩, [], law_kw, .inl ⟨rfl, rfl⟩⟩
end
section
open PySem PySem.Calls PyProof.Rows PySem.W

noncomputable abbrev rw0 : OpenLaw := PySem.Challenge.rw_kl0203_01

theorem has_int {x : WData} (h : WShape.has [] x .int = true) : ∃ i, x = .int i := by
  cases x with
  | int i => exact ⟨i, rfl⟩
  | _ => exact (Bool.false_ne_true h).elim
theorem has_ints : ∀ {xs : List WData}, WShape.hasItems [] xs .int = true → ∃ ns : List Int, xs = ns.map .int
  | [], _ => ⟨[], rfl⟩
  | x :: xs, h => by
    have h : (WShape.has [] x .int && WShape.hasItems [] xs .int) = true := h
    obtain ⟨h1, h2⟩ := Bool.and_eq_true_iff.mp h
    obtain ⟨i, rfl⟩ := has_int h1
    obtain ⟨ns, rfl⟩ := has_ints h2
    exact ⟨i :: ns, rfl⟩
noncomputable def isYes : Option WData → Bool := fun o => match o with
  | some (.bool true) => true
  | _ => false
theorem holds_eq {R : WRecords} {t : WTm} {e : WCtx} : WTm.holds R t e = isYes (t.value R e) := rfl
theorem pre_ints {args : List WData} (h : rw0.row.claim.pre args = true) : ∃ ns : List Int, args = [.list (ns.map .int)] ∧ ns.length ≤ 63 := by
  obtain ⟨h1, h2⟩ := Bool.and_eq_true_iff.mp h
  match args, h1 with
  | [], h1 => cases h1
  | [x], h1 =>
    have h1 : (WShape.has [] x (.list .int) && WShape.hasAll [] [] []) = true := h1
    obtain ⟨h3, _⟩ := Bool.and_eq_true_iff.mp h1
    cases x with
    | list xs =>
      have h4 : (WShape.hasItems [] xs .int || false) = true := h3
      rw [Bool.or_false] at h4
      obtain ⟨ns, rfl⟩ := has_ints h4
      refine ⟨ns, rfl, ?_⟩
      have e : rw0.row.pre.value [] { args := [WData.list (ns.map .int)] } = some (.bool (!(decide ((63 : Int) < ((ns.map WData.int).length : Int))) && true)) :=
        w_and (w_not (w_lt w_lit (w_len_list (w_arg rfl)))) w_lit
      have h2 : rw0.row.pre.holds [] { args := [WData.list (ns.map .int)] } = true := h2
      rw [holds_eq, e] at h2
      cases hd : decide ((63 : Int) < ((ns.map WData.int).length : Int)) with
      | true => rw [hd] at h2; cases h2
      | false =>
        have := of_decide_eq_false hd
        rw [List.length_map] at this
        lia
    | _ => exact (Bool.false_ne_true h3).elim
  | x :: y :: r, h1 =>
    have h1 : (WShape.has [] x (.list .int) && WShape.hasAll [] (y :: r) []) = true := h1
    obtain ⟨_, h3⟩ := Bool.and_eq_true_iff.mp h1
    cases h3
theorem lay_ints {R : WRecords} {cl : Str → Option Addr} {P : Params} {ord : List DictEntry → List DictEntry} : ∀ (ns : List Int) (s : Shared), ∃ vs tk, IntsAre vs ns ∧ layAllW R cl P ord (ns.map .int) s = some (vs, { s with toks := tk })
  | [], s => ⟨[], s.toks, .nil, by simp [layAllW]⟩
  | i :: ns, s => by
    obtain ⟨vs, tk, h1, h2⟩ := lay_ints (R := R) (cl := cl) (P := P) (ord := ord) ns { s with toks := s.toks + 1 }
    refine ⟨.int i s.toks :: vs, tk, .cons i _ h1, ?_⟩
    rw [List.map_cons, layAllW]
    simp only [layW, h2]

theorem weight_mem : ∀ (xs : List WData) (x : WData), x ∈ xs → x.weight ≤ WData.weightAll xs
  | y :: r, x, h => by
    unfold WData.weightAll
    rcases List.mem_cons.mp h with rfl | h
    · lia
    · have := weight_mem r x h; lia
theorem bits_of_lay {ns : List Int} (h : WData.layableAll [.list (ns.map .int)] = true) : ∀ i ∈ ns, Builtin.Int.intBits i ≤ 2 ^ 20 := fun i hi => by
  unfold WData.layableAll at h
  rw [List.all_eq_true] at h
  have h1 := h _ (.head _)
  unfold WData.layable at h1
  simp only [Bool.and_eq_true] at h1
  have h2 := of_decide_eq_true h1.2
  unfold WData.weight at h2
  have h3 := weight_mem (ns.map .int) (.int i) (List.mem_map_of_mem hi)
  have h4 : (WData.int i).weight = Builtin.Int.intBits i := by unfold WData.weight Builtin.Int.intBits; rfl
  rw [h4] at h3
  exact Nat.le_trans h3 h2

noncomputable def LawOk : Prop := ∀ (w : World) (ad : Ad) (s : Shared) (B : Ph) (a : Addr) (xs : List Value) (ns : List Int) (n : Nat) (E : Value → Shared → Prop) (Q : Value → Shared → Prop),
  Wd w ad B → (∀ a o, B a = some o → s.heap.get? a = some o) → B a = some (listObj xs n) → IntsAre xs ns → ns.length ≤ 63 → (∀ i ∈ ns, Builtin.Int.intBits i ≤ 2 ^ 20) → (∀ s' B', Ret B s s' B' → Q (.bool true) s') →
  wpAny (model pw w) callerA (call (.ref (ad.fn 24)) [.ref a]) Q E s

theorem post_ok (args ds : List WData) : rw0.row.claim.post args (.bool true) ds = true := by
  have e : rw0.row.post.value [] { args := args, res := some (.bool true), after := ds } = some (.bool (true == true)) := w_eq_bool (w_res rfl) w_lit
  show (WShape.has [] (.bool true) .bool && WTm.holds [] rw0.row.post { args := args, res := some (.bool true), after := ds }) = true
  rw [holds_eq, e]
  rfl
theorem reads_ints {R : WRecords} {cl : Str → Option Addr} {h : Heap} {vs : List Value} {ns : List Int} (x : IntsAre vs ns) : ReadsAllW R cl h vs (ns.map .int) [] := by
  induction x with
  | nil => exact .nil
  | cons n t _ ih => exact .cons (.int n t) ih
theorem ident_ok (as bs : List (Whence)) : rw0.row.claim.ident as bs = true := by
  obtain ⟨_, hu, ha, hap, _⟩ := frees_parts (r := rw0.row.toRowW) (by decide +kernel)
  exact ident_freeW hu ha hap as bs
theorem bare0 : rw0.row.claim.prog.bare := ⟨rfl, rfl, rfl, rfl, rfl, by decide +kernel⟩

theorem holds0 (law : LawOk) : rw0.row.toRowW.claim.HoldsOpenBy (callStub rw0.row.name) [rw0.row.name] rw0.row.keeps rw0.row.writes := by
  refine ⟨⟨bare0, by kernel_rfl, rfl⟩, ⟨[.list []], by decide +kernel, by decide +kernel⟩, fun w => ⟨(opened0 w).1, fun s' hs' => ?_⟩⟩
  obtain ⟨s₀, hf, S, hz⟩ := (opened0 w).2 s' hs'
  obtain ⟨s, ad, hT, hz', H⟩ := head_run S hz
  refine ⟨s₀, hf, S.gens, s, hT, ?_, (fun x hx => nomatch hx), (fun x hx => nomatch hx), ?_⟩
  · intro n hn
    cases List.mem_singleton.mp hn
    exact H.pin
  refine ClaimW.callFrom_of_specN (c := rw0.row.toRowW.claim) hz' (by rw [H.gens]; simp [leftWithCleanup]) fun args hpre hlay ord hord => ?_
  obtain ⟨ns, rfl, hlen⟩ := pre_ints hpre
  obtain ⟨vs, tk, hv, hl⟩ := lay_ints (R := []) (cl := classAt s.heap) (P := w.params) (ord := ord) ns s
  refine ⟨[.ref s.heap.objs.size], { s with heap := s.heap.push (listObj vs), toks := tk }, ?_, ?_⟩
  · show layAllW [] _ _ _ [WData.list (ns.map .int)] s = _
    simp only [layAllW, layW, hl]
    rfl
  obtain ⟨mg, hmg, hlaw⟩ := H.law
  have hk : ∀ a o, s.heap.get? a = some o → (s.heap.push (listObj vs)).get? a = some o := fun a o e => Heap.get?_push_of_some _ e
  have hkp : ∀ a o, Ph.put s.heap.get? s.heap.objs.size (listObj vs) a = some o → (s.heap.push (listObj vs)).get? a = some o := fun a o e => by
    unfold Ph.put at e
    split at e
    · rename_i q; subst q; cases e; exact Heap.get?_push_size _ rfl
    · exact hk a o e
  have le : Ph.le s.heap.get? (Ph.put s.heap.get? s.heap.objs.size (listObj vs)) := Ph.le_put (size_none _)
  refine wpAny_bind (wpAny_nsGet (hmg.keeps hk) ?_)
  have hname : mg rw0.row.name = some (.ref (ad.fn 24)) := hlaw
  rw [hname]
  refine wpAny_bind (law w ad { s with heap := s.heap.push (listObj vs), gens := #[], toks := tk } _ s.heap.objs.size vs ns 0 _ _ (H.wd.mono le) hkp Ph.put_self hv hlen (bits_of_lay hlay) fun s' B' r => wpAny_pure ⟨_, rfl, ?_⟩)
  obtain ⟨h', t', e⟩ := r.same
  refine ⟨.inl ⟨.bool true, rfl, (fun z_ => rfl), ⟨.bool true, [.list (ns.map .int)], [], _, .bool true, .cons (.list (r.ext _ _ (Heap.get?_push_size _ rfl)) rfl rfl (by simpa using reads_ints hv)) .nil, post_ok _ _, (fun z_ => ⟨List.nodup_nil, (fun z_ h => nomatch h), fun z_ h => nomatch h⟩), fun z_ z_1 => ident_ok _ _⟩, (fun z_ h => nomatch h), fun b o q z_ z_1 => .inl (r.ext b o q), fun z_ h => nomatch h⟩, by rw [e], by rw [e], fun h => nomatch h⟩
end
section
open PySem PySem.Calls PyProof.Rows
noncomputable def nthO {α : Type} : List α → Nat → Option α
  | [], _ => none
  | x :: _, 0 => some x
  | _ :: xs, n + 1 => nthO xs n
inductive AtIx (x : Str) : List Str → Nat → Prop
  | head {xs : List Str} : AtIx x (x :: xs) 0
  | tail {y : Str} {xs : List Str} {i : Nat} (h : AtIx x xs i) : AtIx x (y :: xs) (i + 1)
theorem At.ix {xs : List Str} {x : Str} {i : Nat} {V : List (Option Value)} {v : Option Value} (h : AtIx x xs i) (e : nthO V i = some v) : At xs V x v := by
  induction h generalizing V with
  | head =>
    cases V with
    | nil => cases e
    | cons u V => cases e; exact .head
  | tail _ ih =>
    cases V with
    | nil => cases e
    | cons u V => exact .tail (ih e)
theorem len_ok {n : Nat} (h : Nat.ble n 16777216 = true) : n ≤ sizeLine := Nat.le_of_ble_eq_true h

section
variable {prog : Program} {w : World} {ad : Ad} {A : Around} {E : Value → Shared → Prop} {s : Shared} {B : Ph} {env : Env} {sc : Sc} {V : List (Option Value)} {C : Ph → Shared → Prop} {a : Addr} {k : Int} {t u : Tok} {o : Obj} {n : Nat} {pos : Pos}
theorem x_inset {T : Int → Bool} {Q : Value → Shared → Prop} (S : Stab w ad env sc V C) (c : C B s) (hB : B a = some o) (ho : o.IntSetOf T n) (hn : n < scanBound) (h : ∀ s', C B s' → Q (.bool (T k)) s') : wpAny (model prog w) A (compareOp .In (.int k t) (.ref a)) Q E s := by
  exact wpAny_inSet_of (knd := intKind prog w) (k := k) (S := T) (n := n) (key := .int k t) (by simp [intKind, Value.isInt]) rfl ((ho.kind prog w).setOf ((S.rd c).keep _ _ hB) hn) (h _ (S.tok c _))
theorem x_eqB {l r : List UInt8} {Q : Value → Shared → Prop} (h : Q (.bool (decide (l = r))) s) : wpAny (model prog w) A (compareOp .Eq (.bytes l.toArray t) (.bytes r.toArray u)) Q E s :=
  W.eq_bytes (by rw [show (l.toArray.toList == r.toArray.toList) = decide (l = r) by rw [Bool.eq_iff_iff]; simp]; exact h)
theorem x_neB {l r : List UInt8} {Q : Value → Shared → Prop} (h : Q (.bool (!decide (l = r))) s) : wpAny (model prog w) A (compareOp .NotEq (.bytes l.toArray t) (.bytes r.toArray u)) Q E s :=
  W.ne_bytes (by
    have : (l.toArray.toList != r.toArray.toList) = !decide (l = r) := by rw [Bool.eq_iff_iff]; simp
    rw [this]; exact h)
theorem x_or {vals : List Expr} {whole : Sem Value} {op : BoolOp} {Q : Bool → Shared → Prop} (h : wpAny (model prog w) A (allTrue op vals env) Q E s) : wpAny (model prog w) A (isTrue (.BoolOp op vals pos) env whole) Q E s := wpAny_isTrue_BoolOp h
theorem x_or1 {x : Expr} {rest : List Expr} {Q : Bool → Shared → Prop} (h : let Q' : Bool → Shared → Prop := fun b s₁ => Br b (Q true s₁) (wpAny (model prog w) A (allTrue .Or rest env) Q E s₁); wpAny (model prog w) A (isTrue x env (eval x env)) Q' E s) : wpAny (model prog w) A (allTrue .Or (x :: rest) env) Q E s := by
  refine wpAny_allTrue_Or_cons (wpAny_mono h (fun b s₁ h₁ => ?_) fun z_ z_1 x => x)
  cases b with
  | true => exact h₁.1 rfl
  | false => exact h₁.2 rfl
theorem x_or0 {Q : Bool → Shared → Prop} (h : Q false s) : wpAny (model prog w) A (allTrue .Or [] env) Q E s := wpAny_allTrue_Or_nil h
theorem x_and1 {x : Expr} {rest : List Expr} {Q : Bool → Shared → Prop} (h : wpAny (model prog w) A (isTrue x env (eval x env)) (fun b s₁ => Br b (wpAny (model prog w) A (allTrue .And rest env) Q E s₁) (Q false s₁)) E s) : wpAny (model prog w) A (allTrue .And (x :: rest) env) Q E s := by
  refine wpAny_allTrue_And_cons (wpAny_mono h (fun b s₁ h₁ => ?_) fun z_ z_1 x => x)
  cases b with
  | true => exact h₁.1 rfl
  | false => exact h₁.2 rfl
theorem x_and0 {Q : Bool → Shared → Prop} (h : Q true s) : wpAny (model prog w) A (allTrue .And [] env) Q E s := wpAny_allTrue_And_nil h
theorem x_not {x : Expr} {whole : Sem Value} {Q : Bool → Shared → Prop} (h : wpAny (model prog w) A (isTrue x env (eval x env)) (fun c s' => Q (!c) s') E s) : wpAny (model prog w) A (isTrue (.UnaryOp .Not x pos) env whole) Q E s := PyProof.Rows.isTrue_not h
theorem x_tval {e : Expr} {whole : Sem Value} {Q : Bool → Shared → Prop} (he : isTrue e env whole = (do let v ← whole; standAt e.pos; holding [v] (truthy v))) (h : wpAny (model prog w) A whole (fun v s₁ => wpAny (model prog w) A (truthy v) Q E s₁) E s) : wpAny (model prog w) A (isTrue e env whole) Q E s := PyProof.Rows.isTrue_plain h he
theorem x_indexN {x : Str} {p : Pos} {value : Expr} {Q : Value → Shared → Prop} (h : wpAny (model prog w) A (eval value env) (fun o s₁ => wpAny (model prog w) A (eval (.Name x p) env) (fun i s₂ => wpAny (model prog w) A (subscriptTail value (.Name x p) o i) Q E s₂) E s₁) E s) : wpAny (model prog w) A (eval (.Subscript value (.Name x p) pos) env) Q E s := x_index h
theorem x_indexC {c : Const} {k : Nat} {p : Pos} {value : Expr} {Q : Value → Shared → Prop} (h : wpAny (model prog w) A (eval value env) (fun o s₁ => wpAny (model prog w) A (eval (.Constant c k p) env) (fun i s₂ => wpAny (model prog w) A (subscriptTail value (.Constant c k p) o i) Q E s₂) E s₁) E s) : wpAny (model prog w) A (eval (.Subscript value (.Constant c k p) pos) env) Q E s := x_index h
theorem x_indexB {l r : Expr} {op : Operator} {p : Pos} {value : Expr} {Q : Value → Shared → Prop} (h : wpAny (model prog w) A (eval value env) (fun o s₁ => wpAny (model prog w) A (eval (.BinOp l op r p) env) (fun i s₂ => wpAny (model prog w) A (subscriptTail value (.BinOp l op r p) o i) Q E s₂) E s₁) E s) : wpAny (model prog w) A (eval (.Subscript value (.BinOp l op r p) pos) env) Q E s := x_index h
theorem x_callN {x : Str} {p : Pos} {args : List Expr} {Q : Value → Shared → Prop} (h : wpAny (model prog w) A (eval (.Name x p) env) (fun f s₁ => wpAny (model prog w) A (callWith pos f [] (backTo pos (starEach args env)) []) Q E s₁) E s) : wpAny (model prog w) A (eval (.Call (.Name x p) args [] pos) env) Q E s := x_call rfl h
theorem x_tvalN {x : Str} {p : Pos} {whole : Sem Value} {Q : Bool → Shared → Prop} (h : wpAny (model prog w) A whole (fun v s₁ => wpAny (model prog w) A (truthy v) Q E s₁) E s) : wpAny (model prog w) A (isTrue (.Name x p) env whole) Q E s := x_tval rfl h
theorem x_tvalC {f : Expr} {a : List Expr} {k : List Keyword} {p : Pos} {whole : Sem Value} {Q : Bool → Shared → Prop} (h : wpAny (model prog w) A whole (fun v s₁ => wpAny (model prog w) A (truthy v) Q E s₁) E s) : wpAny (model prog w) A (isTrue (.Call f a k p) env whole) Q E s := x_tval rfl h
theorem l_bin {op : Operator} {l r : Expr} {Q : Value → Shared → Prop} (h : let Q' : Value → Shared → Prop := fun a s₁ => wpAny (model prog w) A (eval r env) (fun b s₂ => wpAny (model prog w) A (binaryOp op a b) Q E s₂) E s₁; wpAny (model prog w) A (eval l env) Q' E s) : wpAny (model prog w) A (eval (.BinOp l op r pos) env) Q E s := x_bin h
theorem l_cmp {l r : Expr} {op : CmpOp} {Q : Value → Shared → Prop} (hm : behindInMarks op r = false) (h : let Q' : Value → Shared → Prop := fun a s₁ => wpAny (model prog w) A (eval r env) (fun b s₂ => wpAny (model prog w) A (compareOp op a b) Q E s₂) E s₁; wpAny (model prog w) A (eval l env) Q' E s) : wpAny (model prog w) A (eval (.Compare l [op] [r] pos) env) Q E s := x_cmp hm h
theorem l_tcmp {l r : Expr} {op : CmpOp} {whole : Sem Value} {Q : Bool → Shared → Prop} (hm : behindInMarks op r = false) (h : let Q' : Value → Shared → Prop := fun a s₁ => wpAny (model prog w) A (eval r env) (fun b s₂ => wpAny (model prog w) A (compareOp op a b) (fun c s₃ => wpAny (model prog w) A (truthy c) Q E s₃) E s₂) E s₁; wpAny (model prog w) A (eval l env) Q' E s) : wpAny (model prog w) A (isTrue (.Compare l [op] [r] pos) env whole) Q E s := x_tcmp hm h
theorem x_ifexp {test body orelse : Expr} {Q : Value → Shared → Prop} (h : wpAny (model prog w) A (isTrue test env (eval test env)) (fun b s₁ => Br b (wpAny (model prog w) A (eval body env) Q E s₁) (wpAny (model prog w) A (eval orelse env) Q E s₁)) E s) :
    wpAny (model prog w) A (eval (.IfExp test body orelse pos) env) Q E s := wpAny_IfExp (wpAny_mono h (fun z_ z_1 h => h.of) fun z_ z_1 x => x)
theorem x_none {k : Nat} {Q : Value → Shared → Prop} (h : Q .none s) : wpAny (model prog w) A (eval (.Constant .none k pos) env) Q E s := fun z_ z_1 z_2 => h
theorem x_tt {k : Nat} {Q : Value → Shared → Prop} (h : Q (.bool true) s) : wpAny (model prog w) A (eval (.Constant (.bool true) k pos) env) Q E s := fun z_ z_1 z_2 => h
theorem x_ff {k : Nat} {Q : Value → Shared → Prop} (h : Q (.bool false) s) : wpAny (model prog w) A (eval (.Constant (.bool false) k pos) env) Q E s := fun z_ z_1 z_2 => h
theorem x_inT {xs : List Value} {ns : List Int} {Q : Value → Shared → Prop} (hl : IsTup s.heap a xs.toArray) (r : IntsAre xs ns) (h : Q (.bool (ns.any (· == k))) s) : wpAny (model prog w) A (compareOp .In (.int k t) (.ref a)) Q E s := in_tuple_ints hl r h
theorem x_inL {xs : List Value} {ns : List Int} {Q : Value → Shared → Prop} (hl : s.heap.IsList a xs.toArray) (r : IntsAre xs ns) (h : Q (.bool (ns.any (· == k))) s) : wpAny (model prog w) A (compareOp .In (.int k t) (.ref a)) Q E s := in_list_ints hl r h
theorem x_notinL {xs : List Value} {ns : List Int} {Q : Value → Shared → Prop} (hl : s.heap.IsList a xs.toArray) (r : IntsAre xs ns) (h : Q (.bool (!(ns.any (· == k)))) s) : wpAny (model prog w) A (compareOp .NotIn (.int k t) (.ref a)) Q E s := notin_list_ints hl r h
theorem x_eqS {x y : Str} {Q : Value → Shared → Prop} (h : Q (.bool (x.cps.toList == y.cps.toList)) s) : wpAny (model prog w) A (compareOp .Eq (.str x t) (.str y u)) Q E s := P.eq_str h
theorem x_or2 {x y : Expr} {p q : Prop} [ip : Decidable p] [iq : Decidable q] {Q : Bool → Shared → Prop} (_S : Stab w ad env sc V C) (c : C B s) (h1 : ∀ s, C B s → wpAny (model prog w) A (isTrue x env (eval x env)) (fun b s₁ => b = @decide p ip ∧ C B s₁) E s)
    (h2 : ∀ s, ¬ p → C B s → wpAny (model prog w) A (isTrue y env (eval y env)) (fun b s₁ => b = @decide q iq ∧ C B s₁) E s) (h : ∀ s, C B s → Q (decide (p ∨ q)) s) : wpAny (model prog w) A (allTrue .Or [x, y] env) Q E s := by
  refine x_or1 (wpAny_mono (h1 s c) (fun b s₁ hb => ?_) fun z_ z_1 e => e)
  obtain ⟨rfl, c1⟩ := hb
  refine x_ite (fun hp => ?_) fun hp => ?_
  · have := h s₁ c1
    rw [decide_eq_true (Or.inl hp)] at this
    exact this
  · refine x_or1 (wpAny_mono (h2 s₁ hp c1) (fun b s₂ hb => ?_) fun z_ z_1 e => e)
    obtain ⟨rfl, c2⟩ := hb
    have := h s₂ c2
    refine x_ite (fun hq => ?_) fun hq => ?_
    · rw [decide_eq_true (Or.inr hq)] at this
      exact this
    · rw [decide_eq_false (fun z => z.elim hp hq)] at this
      exact x_or0 this
theorem x_part {e : Expr} {Q : Value → Shared → Prop} (h : wpAny (model prog w) A (eval e env) Q E s) : wpAny (model prog w) A (evalPart (some e) env) Q E s := h
theorem x_part0 {Q : Value → Shared → Prop} (h : Q .none s) : wpAny (model prog w) A (evalPart none env) Q E s := wpAny_pure h
theorem SwList.swIt {es p t l} : swapsWith (.List es p) t l env = pure false := rfl
theorem SwTuple.swIt {es k p t l} : swapsWith (.Tuple es k p) t l env = pure false := rfl
theorem SwCall.swIt {f a ks p t l} : swapsWith (.Call f a ks p) t l env = pure false := rfl
theorem SwConstant.swIt {c k p t l} : swapsWith (.Constant c k p) t l env = pure false := rfl
theorem SwName.swIt {x p t l} : swapsWith (.Name x p) t l env = pure false := rfl
theorem SwSubscript.swIt {v s p t l} : swapsWith (.Subscript v s p) t l env = pure false := rfl
theorem SwBinOp.swIt {a o b p t l} : swapsWith (.BinOp a o b p) t l env = pure false := rfl
theorem SwIfExp.swIt {a b c p t l} : swapsWith (.IfExp a b c p) t l env = pure false := rfl
theorem SwUnaryOp.swIt {o a p t l} : swapsWith (.UnaryOp o a p) t l env = pure false := rfl
theorem SwCompare.swIt {a b c p t l} : swapsWith (.Compare a b c p) t l env = pure false := rfl
theorem StList.stIt {es' p es} : starEach (.List es' p :: es) env = (false, eval (.List es' p) env) :: starEach es env := rfl
theorem StTuple.stIt {es' k p es} : starEach (.Tuple es' k p :: es) env = (false, eval (.Tuple es' k p) env) :: starEach es env := rfl
theorem StCall.stIt {f a ks p es} : starEach (.Call f a ks p :: es) env = (false, eval (.Call f a ks p) env) :: starEach es env := rfl
theorem StConstant.stIt {c k p es} : starEach (.Constant c k p :: es) env = (false, eval (.Constant c k p) env) :: starEach es env := rfl
theorem StName.stIt {x p es} : starEach (.Name x p :: es) env = (false, eval (.Name x p) env) :: starEach es env := rfl
theorem StSubscript.stIt {v s p es} : starEach (.Subscript v s p :: es) env = (false, eval (.Subscript v s p) env) :: starEach es env := rfl
theorem StBinOp.stIt {a o b p es} : starEach (.BinOp a o b p :: es) env = (false, eval (.BinOp a o b p) env) :: starEach es env := rfl
theorem StIfExp.stIt {a b c p es} : starEach (.IfExp a b c p :: es) env = (false, eval (.IfExp a b c p) env) :: starEach es env := rfl
theorem StUnaryOp.stIt {o a p es} : starEach (.UnaryOp o a p :: es) env = (false, eval (.UnaryOp o a p) env) :: starEach es env := rfl
theorem StCompare.stIt {a b c p es} : starEach (.Compare a b c p :: es) env = (false, eval (.Compare a b c p) env) :: starEach es env := rfl
theorem StListComp.stIt {e g sc p es} : starEach (.ListComp e g sc p :: es) env = (false, eval (.ListComp e g sc p) env) :: starEach es env := rfl
variable {xs gs : List Str}
theorem y_name {x : Str} {v : Value} {Q : Value → Shared → Prop} (S : Stab w ad env ⟨xs, gs⟩ V C) (c : C B s) (hv : At xs V x (some v)) (h : Q v s) : wpAny (model prog w) A (eval (.Name x pos) env) Q E s := x_name S c hv h
theorem y_glob {x : Str} {v : Value} {Q : Value → Shared → Prop} (S : Stab w ad env ⟨xs, gs⟩ V C) (c : C B s) (hx : List.Mem x gs) (hv : Means ad x v) (h : Q v s) : wpAny (model prog w) A (eval (.Name x pos) env) Q E s := x_glob S c hx hv h
theorem y_store {s₀ : Shared} {B₀ : Ph} {N : List (Addr × Obj)} {x : Str} {v : Value} {V' : List (Option Value)} {Q : Unit → Shared → Prop} (c : Cx w ad s₀ B₀ env ⟨xs, gs⟩ V N B s) (P : Put x v xs V V') (h : ∀ s', Cx w ad s₀ B₀ env ⟨xs, gs⟩ V' N B s' → Q () s') :
    wpAny (model prog w) A (storeName env x v) Q E s := c.storeName P h
end

section
variable {prog : Program} {w : World} {ad : Ad} {A : Around} {E : Value → Shared → Prop} {s : Shared} {B : Ph} {env : Env} {xs gs : List Str} {V : List (Option Value)} {C : Ph → Shared → Prop} {k j l : Int} {t u v : Tok} {pos : Pos}
theorem c_name {x : Str} {v : Value} {Q : Value → Shared → Prop} (c : C B s) (S : Stab w ad env ⟨xs, gs⟩ V C) (hv : At xs V x (some v)) (h : Q v s) : wpAny (model prog w) A (eval (.Name x pos) env) Q E s := y_name S c hv h
theorem c_glob {x : Str} {v : Value} {Q : Value → Shared → Prop} (c : C B s) (S : Stab w ad env ⟨xs, gs⟩ V C) (hx : List.Mem x gs) (hv : Means ad x v) (h : Q v s) : wpAny (model prog w) A (eval (.Name x pos) env) Q E s := y_glob S c hx hv h
theorem c_bytes {n : Nat} {x : List UInt8} {Q : Value → Shared → Prop} (c : C B s) (S : Stab w ad env ⟨xs, gs⟩ V C) (h : ∀ t s', C B s' → Q (.bytes x.toArray t) s') : wpAny (model prog w) A (eval (.Constant (.bytes x) n pos) env) Q E s := x_bytes S c h
theorem c_str {n : Nat} {x : Str} {Q : Value → Shared → Prop} (c : C B s) (S : Stab w ad env ⟨xs, gs⟩ V C) (h : ∀ t s', C B s' → Q (.str x t) s') : wpAny (model prog w) A (eval (.Constant (.str x) n pos) env) Q E s := x_str S c h
theorem c_addB {x y : List UInt8} {Q : Value → Shared → Prop} (c : C B s) (S : Stab w ad env ⟨xs, gs⟩ V C) (hz : x.length + y.length ≤ 16777216) (h : ∀ t s', C B s' → Q (.bytes (x ++ y).toArray t) s') : wpAny (model prog w) A (binaryOp .Add (.bytes x.toArray t) (.bytes y.toArray u)) Q E s := x_addB S c hz h
theorem c_tuple {elts : List Expr} {n : Nat} {Q : Value → Shared → Prop} (c : C B s) (S : Stab w ad env ⟨xs, gs⟩ V C) (h : wpAny (model prog w) A (spliced (backTo pos (starEach elts env))) (fun vs s₁ => ∃ B₁, C B₁ s₁ ∧ vs.length ≤ sizeLine ∧ ∀ a s' B', B₁.le B' → B' a = some (tupObj vs) → C B' s' → Q (.ref a) s') E s) : wpAny (model prog w) A (eval (.Tuple elts n pos) env) Q E s := x_tuple S c h
theorem c_neg {Q : Value → Shared → Prop} (c : C B s) (S : Stab w ad env ⟨xs, gs⟩ V C) (h : ∀ t s', C B s' → Q (.int (-k) t) s') : wpAny (model prog w) A (unaryOp .USub (.int k t)) Q E s := x_neg S c h
theorem c_ord {x : Nat} {Q : Value → Shared → Prop} (c : C B s) (S : Stab w ad env ⟨xs, gs⟩ V C) (h : ∀ t s', C B s' → Q (.int x t) s') : wpAny (model prog w) A (call (.builtin "ord") [.str ⟨#[x]⟩ t]) Q E s := b_ord S c h
theorem c_abs {Q : Value → Shared → Prop} (c : C B s) (S : Stab w ad env ⟨xs, gs⟩ V C) (h : ∀ t s', C B s' → Q (.int (k.natAbs : Int) t) s') : wpAny (model prog w) A (call (.builtin "abs") [.int k t]) Q E s := b_abs S c h
theorem c_range1 {Q : Value → Shared → Prop} (c : C B s) (S : Stab w ad env ⟨xs, gs⟩ V C) (h : ∀ a t u s' B', B.le B' → B' a = some (rangeObj 0 k 1 t v u) → C B' s' → Q (.ref a) s') : wpAny (model prog w) A (call (.type "range") [.int k v]) Q E s := b_range1 S c h
theorem c_range2 {Q : Value → Shared → Prop} (c : C B s) (S : Stab w ad env ⟨xs, gs⟩ V C) (h : ∀ a t s' B', B.le B' → B' a = some (rangeObj k j 1 u v t) → C B' s' → Q (.ref a) s') : wpAny (model prog w) A (call (.type "range") [.int k u, .int j v]) Q E s := b_range2 S c h
theorem c_range3 {Q : Value → Shared → Prop} (c : C B s) (S : Stab w ad env ⟨xs, gs⟩ V C) (hl : l ≠ 0) (hz : l.natAbs.log2 < 9000) (h : ∀ a s' B', B.le B' → B' a = some (rangeObj k j l t u v) → C B' s' → Q (.ref a) s') : wpAny (model prog w) A (call (.type "range") [.int k t, .int j u, .int l v]) Q E s := b_range3 S c hl hz h
end
noncomputable def swC (d : Scope) (scope : Scope) (y : Str) (l1 l2 : Nat) : Bool := (if d.kind.isAnnotationScope then ScopeKind.function else d.kind) == .function && d.names.lookup y == some .local && l1 == l2 && !(scope.names.any fun (n, k) => n == y && (k == .local || k == .cell))
theorem sw_comp {elt : Expr} {gens : List Comprehension} {scope : Scope} {pos py : Pos} {y : Str} {line : Nat} {env : Env} {d : Scope} {b : Bool} (he : env.scope = d) (h : swC d scope y py.line pos.line = b) : swapsWith (.ListComp elt gens scope pos) (some (.Name y py)) line env = pure b := by
  subst he h
  show (pure _ : Sem Bool) = pure _
  rfl
inductive OpI (a b : Int) : Operator → Int → Prop
  | add : OpI a b .Add (a + b)
  | sub : OpI a b .Sub (a - b)
  | and : OpI a b .BitAnd (Builtin.bitAnd a b)
  | mul (hm : IntMulOk a b) : OpI a b .Mult (a * b)
  | mod (hb : 0 < b) : OpI a b .Mod (a % b)
  | div (hb : 0 < b) (hz : b.natAbs.log2 < 9000) : OpI a b .FloorDiv (a / b)
inductive EvI (xs : List Str) (V : List (Option Value)) : Expr → Int → Prop
  | int {a : Int} {k : Nat} {pos : Pos} : EvI xs V (.Constant (.int a) k pos) a
  | name {x : Str} {a : Int} {t : Tok} {pos : Pos} (hv : At xs V x (some (.int a t))) : EvI xs V (.Name x pos) a
  | bin {l r : Expr} {op : Operator} {a b i : Int} {pos : Pos} (h1 : EvI xs V l a) (h2 : EvI xs V r b) (o : OpI a b op i) : EvI xs V (.BinOp l op r pos) i
  | neg {l : Expr} {a : Int} {pos : Pos} (h1 : EvI xs V l a) : EvI xs V (.UnaryOp .USub l pos) (-a)
section
variable {prog : Program} {w : World} {ad : Ad} {A : Around} {E : Value → Shared → Prop} {s : Shared} {B : Ph} {env : Env} {xs gs : List Str} {V : List (Option Value)} {C : Ph → Shared → Prop} {a b : Int} {l r : Expr} {pos : Pos}
theorem opI {op : Operator} {i : Int} {t u : Tok} {Q : Value → Shared → Prop} (c : C B s) (S : Stab w ad env ⟨xs, gs⟩ V C) (o : OpI a b op i) (h : ∀ t s', C B s' → Q (.int i t) s') : wpAny (model prog w) A (binaryOp op (.int a t) (.int b u)) Q E s := by
  cases o with
  | add => exact x_add S c h
  | sub => exact x_sub S c h
  | and => exact x_and S c h
  | mul hm => exact x_mul S c hm h
  | mod hb => exact x_mod S c hb h
  | div hb hz => exact x_div S c hb hz h
theorem evI {Q : Value → Shared → Prop} (c : C B s) (S : Stab w ad env ⟨xs, gs⟩ V C) (v : EvI xs V l a) (h : ∀ t s', C B s' → Q (.int a t) s') : wpAny (model prog w) A (eval l env) Q E s := by
  induction v generalizing B s Q with
  | int => exact x_int S c h
  | name hv => exact x_name S c hv (h _ _ c)
  | bin h1 h2 o ih1 ih2 => exact x_bin (ih1 c fun z_ z_1 c1 => ih2 c1 fun z_ z_1 c2 => opI c2 S o h)
  | neg h1 ih => exact x_un (ih c fun z_ z_1 c1 => x_neg S c1 h)
inductive CmpI (a b : Int) : CmpOp → Bool → Prop
  | lt : CmpI a b .Lt (decide (a < b))
  | le : CmpI a b .LtE (decide (a ≤ b))
  | gt : CmpI a b .Gt (decide (b < a))
  | eq : CmpI a b .Eq (decide (a = b))
  | ne : CmpI a b .NotEq (!decide (a = b))
theorem evCmp {op : CmpOp} {v : Bool} {whole : Sem Value} {Q : Bool → Shared → Prop} (c : C B s) (S : Stab w ad env ⟨xs, gs⟩ V C) (h1 : EvI xs V l a) (h2 : EvI xs V r b) (k : CmpI a b op v) (hm : behindInMarks op r = false) (h : ∀ s', C B s' → Q v s') : wpAny (model prog w) A (isTrue (.Compare l [op] [r] pos) env whole) Q E s :=
  x_tcmp hm (evI c S h1 fun z_ z_1 c1 => evI c1 S h2 fun z_ z_1 c2 => by
    have h := h _ c2
    cases k with
    | lt => exact x_lt (x_bool h)
    | le => exact x_le (x_bool h)
    | gt => exact x_gt (x_bool h)
    | eq => exact x_eq (x_bool h)
    | ne => exact x_ne (x_bool h))
inductive EvO (xs : List Str) (V : List (Option Value)) : Option Expr → Option Int → Prop
  | no : EvO xs V none none
  | some {l : Expr} {a : Int} (v : EvI xs V l a) : EvO xs V (some l) (some a)
theorem evO {e : Option Expr} {o : Option Int} {Q : Value → Shared → Prop} (c : C B s) (S : Stab w ad env ⟨xs, gs⟩ V C) (v : EvO xs V e o) (h : ∀ v s', IsPart v o → C B s' → Q v s') : wpAny (model prog w) A (evalPart e env) Q E s := by
  cases v with
  | no => exact x_part0 (h _ _ .none c)
  | some v => exact x_part (evI c S v fun t z_ c' => h _ _ (.int _ t) c')
theorem x_sliceP {x : Str} {ba : Addr} {vs : List Value} {n : Nat} {lo hi st : Option Expr} {ol oh os : Option Int} {p q : Pos} {Q : Value → Shared → Prop} (S : Stab w ad env ⟨xs, gs⟩ V C) (c : C B s) (hs : ∀ a b, ∃ ops, subscripted (.Slice lo hi st p) false (.ref a) (.ref b) = operate ops (getItem (.ref a) (.ref b)))
    (hv : At xs V x (some (.ref ba))) (h1 : EvO xs V lo ol) (h2 : EvO xs V hi oh) (h3 : EvO xs V st os) (hB : B ba = some (listObj vs n)) (h0 : os ≠ some 0) (hz : vs.length ≤ sizeLine)
    (h : ∀ b s' B', B.le B' → B' b = some (listObj (pick vs ol oh os)) → C B' s' → Q (.ref b) s') : wpAny (model prog w) A (eval (.Subscript (.Name x q) (.Slice lo hi st p) pos) env) Q E s :=
  x_slice S c hs (y_name S c hv (evO c S h1 fun z_ z_1 i1 c1 => evO c1 S h2 fun z_ z_1 i2 c2 => evO c2 S h3 fun z_ z_1 i3 c3 => ⟨ba, vs, ol, oh, os, _, rfl, c3, S.isList c3 hB, i1, i2, i3, h0, hz, h⟩))
end

section
variable {ad : Ad}
theorem MAbs.meansIt : Means ad "abs" (.builtin "abs") := .blt "abs" _ (by kernel_rfl) (by decide +kernel) (by decide +kernel) (by decide +kernel) (by decide +kernel) (by decide +kernel)
theorem MDivmod.meansIt : Means ad "divmod" (.builtin "divmod") := .blt "divmod" _ (by kernel_rfl) (by decide +kernel) (by decide +kernel) (by decide +kernel) (by decide +kernel) (by decide +kernel)
theorem MHasattr.meansIt : Means ad "hasattr" (.builtin "hasattr") := .blt "hasattr" _ (by kernel_rfl) (by decide +kernel) (by decide +kernel) (by decide +kernel) (by decide +kernel) (by decide +kernel)
theorem MOrd.meansIt : Means ad "ord" (.builtin "ord") := .blt "ord" _ (by kernel_rfl) (by decide +kernel) (by decide +kernel) (by decide +kernel) (by decide +kernel) (by decide +kernel)
theorem MSum.meansIt : Means ad "sum" (.builtin "sum") := .blt "sum" _ (by kernel_rfl) (by decide +kernel) (by decide +kernel) (by decide +kernel) (by decide +kernel) (by decide +kernel)
theorem MLen.meansIt : Means ad "len" (.builtin "len") := .blt "len" _ (by kernel_rfl) (by decide +kernel) (by decide +kernel) (by decide +kernel) (by decide +kernel) (by decide +kernel)
theorem MIsinstance.meansIt : Means ad "isinstance" (.builtin "isinstance") := .blt "isinstance" _ (by kernel_rfl) (by decide +kernel) (by decide +kernel) (by decide +kernel) (by decide +kernel) (by decide +kernel)
theorem MChr.meansIt : Means ad "chr" (.builtin "chr") := .blt "chr" _ (by kernel_rfl) (by decide +kernel) (by decide +kernel) (by decide +kernel) (by decide +kernel) (by decide +kernel)
theorem MEnumerate.meansIt : Means ad "enumerate" (.type "enumerate") := .blt "enumerate" _ (by kernel_rfl) (by decide +kernel) (by decide +kernel) (by decide +kernel) (by decide +kernel) (by decide +kernel)
theorem MInt.meansIt : Means ad "int" (.type "int") := .blt "int" _ (by kernel_rfl) (by decide +kernel) (by decide +kernel) (by decide +kernel) (by decide +kernel) (by decide +kernel)
theorem MTuple.meansIt : Means ad "tuple" (.type "tuple") := .blt "tuple" _ (by kernel_rfl) (by decide +kernel) (by decide +kernel) (by decide +kernel) (by decide +kernel) (by decide +kernel)
theorem MValueError.meansIt : Means ad "ValueError" (.type "ValueError") := .blt "ValueError" _ (by kernel_rfl) (by decide +kernel) (by decide +kernel) (by decide +kernel) (by decide +kernel) (by decide +kernel)
theorem MType.meansIt : Means ad "type" (.type "type") := .blt "type" _ (by kernel_rfl) (by decide +kernel) (by decide +kernel) (by decide +kernel) (by decide +kernel) (by decide +kernel)
theorem MTypeError.meansIt : Means ad "TypeError" (.type "TypeError") := .blt "TypeError" _ (by kernel_rfl) (by decide +kernel) (by decide +kernel) (by decide +kernel) (by decide +kernel) (by decide +kernel)
theorem MRange.meansIt : Means ad "range" (.type "range") := .blt "range" _ (by kernel_rfl) (by decide +kernel) (by decide +kernel) (by decide +kernel) (by decide +kernel) (by decide +kernel)
theorem MBytes.meansIt : Means ad "bytes" (.type "bytes") := .blt "bytes" _ (by kernel_rfl) (by decide +kernel) (by decide +kernel) (by decide +kernel) (by decide +kernel) (by decide +kernel)
theorem MIndexError.meansIt : Means ad "IndexError" (.type "IndexError") := .blt "IndexError" _ (by kernel_rfl) (by decide +kernel) (by decide +kernel) (by decide +kernel) (by decide +kernel) (by decide +kernel)
theorem MSet.meansIt : Means ad "set" (.type "set") := .blt "set" _ (by kernel_rfl) (by decide +kernel) (by decide +kernel) (by decide +kernel) (by decide +kernel) (by decide +kernel)
theorem AtIx.get {x : Str} {xs : List Str} {i : Nat} (h : AtIx x xs i) : xs[i]? = some x := by
  induction h with
  | head => rfl
  | tail _ ih => exact ih
theorem Means.fnIx {x : Str} {i : Nat} (h : AtIx x ["Int2AP", "ParseFlags", "is_not", "contains", "delitem", "getitem", "indexOf", "setitem", "iconcat", "in_table_b1", "in_table_c11", "in_table_c4", "in_table_c6", "in_table_c7", "in_table_c8", "in_table_c9", "_law_runs", "_law_within", "_law_word", "_law_three", "_law_reply", "_law_nothing", "_law_refused", "_law_dealt", "law"] i) : Means ad x (.ref (ad.fn i)) := .fn i x h.get
theorem Means.setIx {x : Str} {i : Nat} (h : AtIx x ["b1_set", "c6_set", "c7_set", "c8_set", "c9_set"] i) : Means ad x (.ref (ad.set i)) := .set i x h.get
end
end
open PySem PySem.Calls PyProof.Rows
set_option compiler.extract_closed false
open MAbs MDivmod MEnumerate MHasattr MOrd MSum MLen MIsinstance MChr MInt MTuple MValueError MType MTypeError MRange MBytes MIndexError MSet SwList SwTuple SwCall SwConstant SwName SwSubscript SwBinOp SwIfExp SwUnaryOp SwCompare StList StTuple StCall StConstant StName StSubscript StBinOp StIfExp StUnaryOp StCompare StListComp
set_option compiler.extract_closed false
set_option hygiene false
local macro_rules | `(tactic| kd_p) => `(tactic| exact At.ix (by tb_start) (by with_unfolding_all rfl))
local macro_rules | `(tactic| kd_p1) => `(tactic| repeat (with_reducible first | exact Put.head | apply Put.tail))
-- membership in a written list
local macro_rules | `(tactic| kpf_close) => `(tactic| repeat (with_reducible first | exact List.Mem.head _ | apply List.Mem.tail))
-- what a global name means
local macro_rules | `(tactic| kpf_c) => `(tactic| with_reducible first | exact meansIt | exact Means.fnIx (by tb_start) | exact Means.setIx (by tb_start) | exact Means.flags)
-- a chain of what stands
local macro_rules | `(tactic| kln_le) => `(tactic| first | exact Ph.le_refl _ | assumption | (refine Ph.le_trans ?_ (by assumption); kln_le))
-- the frame's lists in plain form
local macro_rules | `(tactic| krn_off) => `(tactic| simp only [List.cons_append, List.nil_append, List.map_cons, List.map_nil, List.length_cons, List.length_nil, List.replicate_succ, List.replicate_zero, Nat.zero_add, Nat.reduceAdd] at *)
-- no swap of a store, no star
local macro_rules | `(tactic| fold_depth) => `(tactic| with_reducible exact swIt)
local macro_rules | `(tactic| got_up) => `(tactic| with_reducible exact stIt)
-- on to what stands behind
local macro_rules | `(tactic| one_item) => `(tactic| try with_reducible refine s_next ‹_› ?_)
local macro_rules | `(tactic| one_place) => `(tactic| repeat (with_reducible first | refine s_nil ?_ | refine s_next ‹_› ?_ | refine s_ret ‹_› ?_ | refine s_turn ‹_› ?_ | refine s_done ‹_› ?_ | refine s_turnR ‹_› ?_))
-- a name's place
local macro_rules | `(tactic| tb_start) => `(tactic| first | with_reducible exact AtIx.head | ((with_reducible apply AtIx.tail); tb_start))
-- a pure number; two numbers
local macro_rules | `(tactic| tb_rel) => `(tactic| first | ((with_reducible show OpI _ _ _ _); (with_reducible constructor) <;> first | assumption | decide | decide +kernel | exact IntMulOk.of_left (by decide +kernel) | lia) | with_reducible first | exact EvI.int | (apply EvI.name; kd_p) | (apply EvI.bin; tb_rel; tb_rel; tb_rel) | (apply EvI.neg; tb_rel) | exact EvO.no | (apply EvO.some; tb_rel))
-- one step
local macro_rules | `(tactic| kcf_m) => `(tactic| first
  | ((with_reducible show wpAny _ _ (eval _ _) ..); first
    | ((with_reducible show wpAny _ _ (eval (Expr.Name _ _) _) ..); with_reducible first | refine c_name ‹_› (by first | assumption | exact Cx.stab) (by kd_p) ?_ | refine c_glob ‹_› (by first | assumption | exact Cx.stab) (by kpf_close) (by kpf_c) ?_)
    | ((with_reducible show wpAny _ _ (eval (Expr.BinOp _ _ _ _) _) ..); (with_reducible refine evI ‹_› (by first | assumption | exact Cx.stab) (by tb_rel) ?_); intro _ _ _)
    | ((with_reducible show wpAny _ _ (eval (Expr.Constant _ _ _) _) ..); first | (with_reducible first | refine x_none ?_ | refine x_tt ?_ | refine x_ff ?_) | ((with_reducible refine evI ‹_› (by first | assumption | exact Cx.stab) (by tb_rel) ?_); intro _ _ _) | ((with_reducible first | refine c_bytes ‹_› (by first | assumption | exact Cx.stab) ?_ | refine c_str ‹_› (by first | assumption | exact Cx.stab) ?_); intro _ _ _))
    | ((with_reducible show wpAny _ _ (eval (Expr.Tuple _ _ _) _) ..); with_reducible refine c_tuple ‹_› (by first | assumption | exact Cx.stab) ?_)
    )
  | ((with_reducible show wpAny _ _ (isTrue (Expr.Compare ..) _ _) ..); ((with_reducible refine evCmp ‹_› (by first | assumption | exact Cx.stab) (by tb_rel) (by tb_rel) (by constructor) (by rfl) ?_); intro _ _))
  | ((with_reducible show wpAny _ _ (binaryOp _ _ _) ..); first
    | ((with_reducible show wpAny _ _ (binaryOp _ (Value.int ..) (Value.int ..)) ..); (with_reducible refine opI ‹_› (by first | assumption | exact Cx.stab) (by tb_rel) ?_); intro _ _ _)
    | ((with_reducible show wpAny _ _ (binaryOp _ (Value.bytes ..) (Value.bytes ..)) ..); (with_reducible refine c_addB ‹_› (by first | assumption | exact Cx.stab) ‹_› ?_); intro _ _ _)
    )
  | ((with_reducible show wpAny _ _ (storeName _ _ _) ..); ((with_reducible refine y_store ‹_› (by kd_p1) ?_); intro _ _))
  | ((with_reducible show wpAny _ _ (call _ _) ..); first
    | ((with_reducible first | refine c_ord ‹_› (by first | assumption | exact Cx.stab) ?_ | refine c_abs ‹_› (by first | assumption | exact Cx.stab) ?_); intro _ _ _)
    | ((with_reducible refine c_range1 ‹_› (by first | assumption | exact Cx.stab) ?_); intro _ _ _ _ _ _ _ _)
    | ((with_reducible refine c_range2 ‹_› (by first | assumption | exact Cx.stab) ?_); intro _ _ _ _ _ _ _)
    | ((with_reducible refine c_range3 ‹_› (by first | assumption | exact Cx.stab) (by decide) (by decide +kernel) ?_); intro _ _ _ _ _ _)
    )
  | ((with_reducible show wpAny _ _ (execs _ _) ..); first
    | (with_reducible refine s_nil ?_)
    | ((with_reducible refine s_enterL ‹_› ?_); intro _ _ _ _ _ _)
    | (with_reducible refine s_cons (fun _ _ => ?_))
    )
  | (with_reducible first | refine x_un ?_ | refine x_indexN ?_ | refine x_indexC ?_ | refine x_indexB ?_ | refine x_callN ?_ | refine x_ifexp ?_ | refine x_or ?_ | refine x_not ?_ | refine x_tvalN ?_ | refine x_tvalC ?_ | refine x_eq ?_ | refine x_ne ?_ | refine x_lt ?_ | refine x_le ?_ | refine x_gt ?_ | refine x_neB ?_ | refine x_eqB ?_ | refine is_none ?_ | refine isNot_none ?_ | refine s_return ?_ | refine s_if ?_ | refine x_or0 ?_ | refine x_and1 ?_ | refine x_and0 ?_ | refine x_truthy ?_ | refine x_bool ?_ | refine x_part ?_ | refine x_part0 ?_ | refine b_isi_bytes ?_ | refine b_int ?_ | refine x_args0 ?_ | refine wpAny_assign_Name ?_ | refine s_next ‹_› ?_ | refine s_ret ‹_› ?_ | refine s_turn ‹_› ?_ | refine s_done ‹_› ?_ | refine s_turnR ‹_› ?_)
  | ((with_reducible refine x_args ?_ ?_); got_up)
  | ((with_reducible first | refine x_cblt ?_ ?_ ?_ | refine x_ctype ?_ ?_ ?_); got_up; rfl)
  | ((with_reducible refine s_assign ?_ ?_); fold_depth)
  | ((with_reducible first | refine l_bin ?_ | refine l_cmp rfl ?_ | refine l_tcmp rfl ?_); intro _)
  | ((with_reducible refine c_neg ‹_› (by first | assumption | exact Cx.stab) ?_); intro _ _ _))
set_option hygiene true
set_option compiler.extract_closed true
set_option compiler.extract_closed true
section
open PySem PySem.Calls PyProof.Rows

section
variable {prog : Program} {w : World} {ad : Ad} {A : Around} {E : Value → Shared → Prop} {s : Shared} {B : Ph}

set_option maxRecDepth 100000 in
theorem f_b1 {k : Nat} {t : Tok} {n : Nat} {Q : Value → Shared → Prop} (hw : Wd w ad B) (hkeep : ∀ a o, B a = some o → s.heap.get? a = some o) (hA : AOk (n + 1) A)
    (h : ∀ s', Ret B s s' B → Q (.bool (setHas 0 k)) s') : wpAny (model prog w) A (call (.ref (ad.fn 9)) [.str ⟨#[k]⟩ t]) Q E s := by
  refine def_call (d := dn 9) (ps := ["code"]) (rest := []) (xs := ["code"]) (V0 := [some _]) (gs := ["ord", "b1_set"]) hw hkeep (hw.fn 9 (by decide)) hA rfl rfl rfl (by decide +kernel) rfl rfl rfl (fun z_ z_1 z_2 => rfl) ?_
  intro env s' he c
  one_place
  refine @s_enterL _ _ _ _ _ _ _ _ _ _ _ _ _ _ _ _ (by assumption) ?_; intro Q' hQ' V_ C_ S_ c_
  repeat kcf_m
  obtain ⟨o, n, h1, h2, h3⟩ := hw.set 0 (by decide)
  refine x_inset Cx.stab (by assumption) h1 h2 h3 ?_
  intro s₃ c
  one_place
  exact h _ c.ret

set_option maxRecDepth 100000 in
theorem f_c6 {k : Nat} {t : Tok} {n : Nat} {Q : Value → Shared → Prop} (hw : Wd w ad B) (hkeep : ∀ a o, B a = some o → s.heap.get? a = some o) (hA : AOk (n + 1) A)
    (h : ∀ s', Ret B s s' B → Q (.bool (setHas 1 k)) s') : wpAny (model prog w) A (call (.ref (ad.fn 12)) [.str ⟨#[k]⟩ t]) Q E s := by
  refine def_call (d := dn 12) (ps := ["code"]) (rest := []) (xs := ["code"]) (V0 := [some _]) (gs := ["ord", "c6_set"]) hw hkeep (hw.fn 12 (by decide)) hA rfl rfl rfl (by decide +kernel) rfl rfl rfl (fun z_ z_1 z_2 => rfl) ?_
  intro env s' he c
  one_place
  refine @s_enterL _ _ _ _ _ _ _ _ _ _ _ _ _ _ _ _ (by assumption) ?_; intro Q' hQ' V_ C_ S_ c_
  repeat kcf_m
  obtain ⟨o, n, h1, h2, h3⟩ := hw.set 1 (by decide)
  refine x_inset Cx.stab (by assumption) h1 h2 h3 ?_
  intro s₃ c
  one_place
  exact h _ c.ret

set_option maxRecDepth 100000 in
theorem f_c7 {k : Nat} {t : Tok} {n : Nat} {Q : Value → Shared → Prop} (hw : Wd w ad B) (hkeep : ∀ a o, B a = some o → s.heap.get? a = some o) (hA : AOk (n + 1) A)
    (h : ∀ s', Ret B s s' B → Q (.bool (setHas 2 k)) s') : wpAny (model prog w) A (call (.ref (ad.fn 13)) [.str ⟨#[k]⟩ t]) Q E s := by
  refine def_call (d := dn 13) (ps := ["code"]) (rest := []) (xs := ["code"]) (V0 := [some _]) (gs := ["ord", "c7_set"]) hw hkeep (hw.fn 13 (by decide)) hA rfl rfl rfl (by decide +kernel) rfl rfl rfl (fun z_ z_1 z_2 => rfl) ?_
  intro env s' he c
  one_place
  refine @s_enterL _ _ _ _ _ _ _ _ _ _ _ _ _ _ _ _ (by assumption) ?_; intro Q' hQ' V_ C_ S_ c_
  repeat kcf_m
  obtain ⟨o, n, h1, h2, h3⟩ := hw.set 2 (by decide)
  refine x_inset Cx.stab (by assumption) h1 h2 h3 ?_
  intro s₃ c
  one_place
  exact h _ c.ret

set_option maxRecDepth 100000 in
theorem f_c8 {k : Nat} {t : Tok} {n : Nat} {Q : Value → Shared → Prop} (hw : Wd w ad B) (hkeep : ∀ a o, B a = some o → s.heap.get? a = some o) (hA : AOk (n + 1) A)
    (h : ∀ s', Ret B s s' B → Q (.bool (setHas 3 k)) s') : wpAny (model prog w) A (call (.ref (ad.fn 14)) [.str ⟨#[k]⟩ t]) Q E s := by
  refine def_call (d := dn 14) (ps := ["code"]) (rest := []) (xs := ["code"]) (V0 := [some _]) (gs := ["ord", "c8_set"]) hw hkeep (hw.fn 14 (by decide)) hA rfl rfl rfl (by decide +kernel) rfl rfl rfl (fun z_ z_1 z_2 => rfl) ?_
  intro env s' he c
  one_place
  refine @s_enterL _ _ _ _ _ _ _ _ _ _ _ _ _ _ _ _ (by assumption) ?_; intro Q' hQ' V_ C_ S_ c_
  repeat kcf_m
  obtain ⟨o, n, h1, h2, h3⟩ := hw.set 3 (by decide)
  refine x_inset Cx.stab (by assumption) h1 h2 h3 ?_
  intro s₃ c
  one_place
  exact h _ c.ret

set_option maxRecDepth 100000 in
theorem f_c9 {k : Nat} {t : Tok} {n : Nat} {Q : Value → Shared → Prop} (hw : Wd w ad B) (hkeep : ∀ a o, B a = some o → s.heap.get? a = some o) (hA : AOk (n + 1) A)
    (h : ∀ s', Ret B s s' B → Q (.bool (setHas 4 k)) s') : wpAny (model prog w) A (call (.ref (ad.fn 15)) [.str ⟨#[k]⟩ t]) Q E s := by
  refine def_call (d := dn 15) (ps := ["code"]) (rest := []) (xs := ["code"]) (V0 := [some _]) (gs := ["ord", "c9_set"]) hw hkeep (hw.fn 15 (by decide)) hA rfl rfl rfl (by decide +kernel) rfl rfl rfl (fun z_ z_1 z_2 => rfl) ?_
  intro env s' he c
  one_place
  refine @s_enterL _ _ _ _ _ _ _ _ _ _ _ _ _ _ _ _ (by assumption) ?_; intro Q' hQ' V_ C_ S_ c_
  repeat kcf_m
  obtain ⟨o, n, h1, h2, h3⟩ := hw.set 4 (by decide)
  refine x_inset Cx.stab (by assumption) h1 h2 h3 ?_
  intro s₃ c
  one_place
  exact h _ c.ret

noncomputable def c4Has (k : Int) : Bool := if k < 64976 then false else if k < 65008 then true else [65534, 65535].any (· == Builtin.bitAnd k 65535)
set_option maxRecDepth 100000 in
theorem f_c4 {k : Nat} {t : Tok} {n : Nat} {Q : Value → Shared → Prop} (hw : Wd w ad B) (hkeep : ∀ a o, B a = some o → s.heap.get? a = some o) (hA : AOk (n + 1) A)
    (h : ∀ s', Ret B s s' B → Q (.bool (c4Has k)) s') : wpAny (model prog w) A (call (.ref (ad.fn 11)) [.str ⟨#[k]⟩ t]) Q E s := by
  refine def_call (d := dn 11) (ps := ["code"]) (rest := ["c"]) (xs := ["code", "c"]) (V0 := [some _, none]) (gs := ["ord"]) hw hkeep (hw.fn 11 (by decide)) hA rfl rfl rfl (by decide +kernel) rfl rfl rfl (fun z_ z_1 z_2 => rfl) ?_
  intro env s' he c
  one_place
  refine @s_enterL _ _ _ _ _ _ _ _ _ _ _ _ _ _ _ _ (by assumption) ?_; intro Q' hQ' V_ C_ S_ c_
  repeat kcf_m
  unfold c4Has at h
  refine x_ite (fun h1 => ?_) fun h1 => ?_
  · repeat kcf_m
    rw [if_pos h1] at h
    one_place
    exact h _ (Cx.ret (by assumption))
  · repeat kcf_m
    refine x_ite (fun h2 => ?_) fun h2 => ?_
    · repeat kcf_m
      rw [if_neg h1, if_pos h2] at h
      one_place
      exact h _ (Cx.ret (by assumption))
    · repeat kcf_m
      rw [if_neg h1, if_neg h2] at h
      refine ⟨_, by assumption, len_ok rfl, fun a s' B' z_ hB c => ?_⟩
      refine x_inT (isTup_of (c.rd.keep _ _ hB)) (.cons _ _ (.cons _ _ .nil)) ?_
      one_place
      refine h _ (c.ret.weaken hkeep)
set_option maxRecDepth 100000 in
theorem f_c11 {k : Nat} {t : Tok} {n : Nat} {Q : Value → Shared → Prop} (hw : Wd w ad B) (hkeep : ∀ a o, B a = some o → s.heap.get? a = some o) (hA : AOk (n + 1) A)
    (h : ∀ s', Ret B s s' B → Q (.bool (k == 32)) s') : wpAny (model prog w) A (call (.ref (ad.fn 10)) [.str ⟨#[k]⟩ t]) Q E s := by
  refine def_call (d := dn 10) (ps := ["code"]) (rest := []) (xs := ["code"]) (V0 := [some _]) (gs := []) hw hkeep (hw.fn 10 (by decide)) hA rfl rfl rfl (by decide +kernel) rfl rfl rfl (fun z_ z_1 z_2 => rfl) ?_
  intro env s' he c
  one_place
  refine @s_enterL _ _ _ _ _ _ _ _ _ _ _ _ _ _ _ _ (by assumption) ?_; intro Q' hQ' V_ C_ S_ c_
  repeat kcf_m
  refine x_eqS ?_
  have e : ((⟨#[k]⟩ : Str).cps.toList == (Str.ofString " ").cps.toList) = (k == 32) := by
    have : (Str.ofString " ").cps.toList = [32] := by decide +kernel
    rw [this]
    simp
  rw [e]
  one_place
  exact h _ (Cx.ret (by assumption))
end
end
section
open PySem PySem.Calls PyProof.Rows

theorem seqSlot_list_iadd : seqSlot? (.type "list") (dunderI "add") = pure (some (.builtin "list.__iadd__")) := PySem.seqSlot_of F.slot_list_iadd.lookup (by decide +kernel)
theorem fillsI_list_add : fillsInplaceSlot (.type "list") "add" (Operator.Add == .Add) = pure false := by
  unfold fillsInplaceSlot
  show (typeLookup (.type "list") (dunderI "add") >>= fun fi => pure (fi.isSome && !isSeqSlot fi)) = pure false
  rw [F.slot_list_iadd.lookup]
  rfl
theorem seqIndex_lt {i : Int} {n k : Nat} (h : seqIndex? i n = some k) : k < n := lt_of_seqIndex h

section
variable {prog : Program} {w : World} {ad : Ad} {A : Around} {E : Value → Shared → Prop} {s : Shared} {B : Ph} {env : Env} {sc : Sc} {V : List (Option Value)} {C : Ph → Shared → Prop}
variable {s₀ : Shared} {B₀ : Ph} {N : List (Addr × Obj)} {pos : Pos} {a b : Addr} {xs ys : List Value} {n m : Nat} {k : Int} {t u : Tok} {x : Value}

theorem not_freed {h : Heap} {o : Obj} (e : h.get? a = some o) : o.isFreed = false := (Heap.get?_some_iff.mp e).2

theorem Cx.upd1 (c : Cx w ad s₀ B₀ env sc V N B s) {o o' : Obj} {h : Heap} {t : Nat} (ha : s₀.heap.get? a = some o) (hB : B a = none) (hs : Heap.SameBut a s.heap h) (hg : h.get? a = some o') :
    Cx w ad { s₀ with heap := s₀.heap.update a (fun z_ => o') } B₀ env sc V N B { s with heap := h, toks := t } := by
  have hf := not_freed hg
  have hp : a ∉ priv env N := fun z => by rw [(c.fresh a z).1] at ha; cases ha
  have hs0 := Heap.SameBut.update s₀.heap a (fun z_ => o')
  have hL : env.locals ≠ a := fun z => hp (z ▸ List.mem_cons_self)
  have keep : ∀ b o, B b = some o → h.get? b = some o := fun b o q => (hs.2 b (fun z => by subst z; rw [hB] at q; cases q)).trans (c.rd.keep b o q)
  obtain ⟨m, cm, h1, h2, h3⟩ := c.rd.store
  have alive : ∀ b, b ≠ a → s₀.heap.get? b = none → (s₀.heap.update a (fun z_ => o')).get? b = none := fun b hb q => (hs0.2 b hb).trans q
  refine ⟨⟨c.rd.ok, c.rd.wd, keep, m, cm, h1.sameBut hs hL, fun n q hq => (h2 n q hq).sameBut hs (fun z => hp (z ▸ List.mem_cons_of_mem _ (List.mem_append_left _ (List.mem_map_of_mem (f := (·.2)) hq)))), h3⟩, c.len, ?_, fun p hp' => ?_, c.sep, fun b hb => ⟨alive b (fun z => hp (z ▸ hb)) (c.fresh b hb).1, (c.fresh b hb).2⟩⟩
  · obtain ⟨h1, t1, e1⟩ := c.ret.same
    refine ⟨⟨h, t, by rw [e1]⟩, fun b o q => ?_, c.ret.le, fun b o q => ?_, keep⟩
    · by_cases z : b = a
      · subst z
        rw [Heap.get?_update_self _ ha hf] at q
        cases q
        exact hg
      · exact (hs.2 b z).trans (c.ret.ext b o ((hs0.2 b z).symm.trans q))
    · rcases c.ret.new b o q with z | z
      · exact .inl z
      · refine .inr (alive b ?_ z)
        rintro rfl
        rw [z] at ha; cases ha
  · exact (hs.2 _ (fun z => hp (z ▸ List.mem_cons_of_mem _ (List.mem_append_right _ (List.mem_map_of_mem hp'))))).trans (c.own p hp')

theorem Cx.back (c : Cx w ad s₀ B₀ env sc V N B s) {o o' : Obj} {N' : List (Addr × Obj)} {B' : Ph} {s' : Shared} (P : Sel a o o' N N') (hf : o'.isFreed = false) (x : Ret B { s with heap := s.heap.update a (fun z_ => o') } s' B') : Cx w ad s₀ B₀ env sc V N' B' s' :=
  (c.upd (t := s.toks) P (Heap.SameBut.update ..) (Heap.get?_update_self _ (c.own _ P.mem) hf)).go x

theorem setItem_own {Q : Unit → Shared → Prop} (ho : s.heap.get? a = some (listObj xs n)) (h0 : 0 ≤ k) (hfit : k < 2 ^ 63) (hn : k < xs.length)
    (h : ∀ h', Heap.SameBut a s.heap h' → h'.get? a = some (listObj (xs.set k.toNat x) n) → Q () { s with heap := h' }) : wpAny (model prog w) A (setItem (.ref a) (.int k t) x) Q E s := by
  refine W.ki_setAt (items := xs.toArray) (n := n) ho h0 hfit (by simpa using hn) (h _ (Heap.SameBut.update ..) ?_)
  have e : Obj.mapSeq (·.setIfInBounds k.toNat x) (listObj xs n) = listObj (xs.set k.toNat x) n := by simp [Obj.mapSeq, listObj]
  rw [Heap.get?_update_self _ ho (by rw [e]; rfl), e]
theorem delItem_own {j : Nat} {Q : Unit → Shared → Prop} (ho : s.heap.get? a = some (listObj xs n)) (hfit : Builtin.List.listFitsIndex k = true) (hk : seqIndex? k xs.length = some j) (hsz : xs.length ≤ sizeLine)
    (h : ∀ h', Heap.SameBut a s.heap h' → h'.get? a = some (listObj (xs.eraseIdx j) (n + 1)) → Q () { s with heap := h' }) : wpAny (model prog w) A (delItem (.ref a) (.int k t)) Q E s :=
  delItem_at (its := xs.toArray) (n := n) ho hfit (by simpa using hk) (fun h' hs hg => h h' hs (by simpa [listObj] using hg)) (by simpa using hsz)
theorem iadd_own {Q : Value → Shared → Prop} (ho : s.heap.get? a = some (listObj xs n)) (hb : s.heap.get? b = some (listObj ys m)) (hz : xs.length + ys.length ≤ sizeLine)
    (h : ∀ h' n', Heap.SameBut a s.heap h' → h'.get? a = some (listObj (xs ++ ys) n') → Q (.ref a) { s with heap := h' }) : wpAny (model prog w) A (inplaceOp .Add (.ref a) (.ref b)) Q E s := by
  unfold inplaceOp
  refine wpAny_holding ?_
  have hT : s.TypeIs (.ref a) "list" := ⟨_, ho, rfl⟩
  have hT2 : s.TypeIs (.ref b) "list" := ⟨_, hb, rfl⟩
  refine wpAny_bind (wpAny_typeOf hT (wpAny_bind (wpAny_of_eq fillsI_list_add ?_)))
  show wpAny _ _ (if false = true then _ else _) _ _ _
  rw [if_neg Bool.false_ne_true]
  refine wpAny_bind (wpAny_binaryOp1_none (nm := "add") hT hT2 noFill_list_add ?_)
  refine wpAny_bind (wpAny_of_eq seqSlot_list_iadd ?_)
  refine wpAny_bind (wpAny_rule ?_)
  have hsz : xs.toArray.size ≤ sizeLine := by simp; lia
  refine call_meets F.slot_list_iadd hT F.entry_list_iadd (F.args_list_iadd_2 _ _) (AutoSeq1.list___iadd___list_list_0 a xs.toArray n b ys.toArray m ?_ hsz (by simp; lia)) ⟨ho, hb, ?_⟩
  · simp only [Builtin.List.listTooLong, List.size_toArray, Bool.and_eq_true, decide_eq_true_eq, not_and]
    intro _
    lia
  · have e : ∃ n', Obj.mapSeq (fun x => x ++ ys.toArray) (listObj xs n) = listObj (xs ++ ys) n' := by
      simp only [Obj.mapSeq, listObj]
      exact ⟨_, by simp; rfl⟩
    obtain ⟨n', e⟩ := e
    exact h _ n' (Heap.SameBut.update ..) (by rw [Heap.get?_update_self _ ho (by rw [e]; rfl), e])
end
end
section
open PySem PySem.Calls PyProof.Rows

section
variable {prog : Program} {w : World} {ad : Ad} {A : Around} {E : Value → Shared → Prop} {s : Shared} {B : Ph}
variable {a : Addr} {xs : List Value} {m j : Nat} {k : Int} {t : Tok} {x : Value} {n : Nat}

set_option maxRecDepth 100000 in
theorem f_getitem {Q : Value → Shared → Prop} (hw : Wd w ad B) (hkeep : ∀ a o, B a = some o → s.heap.get? a = some o) (hA : AOk (n + 1) A) (ha : s.heap.get? a = some (listObj xs m)) (h0 : 0 ≤ k) (hfit : k < 2 ^ 63) (hx : xs[k.toNat]? = some x)
    (h : ∀ s', Ret B s s' B → Q x s') : wpAny (model prog w) A (call (.ref (ad.fn 5)) [.ref a, .int k t]) Q E s := by
  refine def_call (d := dn 5) (ps := ["a", "b"]) (rest := []) (xs := ["a", "b"]) (V0 := [some _, some _]) (gs := []) hw hkeep (hw.fn 5 (by decide)) hA rfl rfl rfl (by decide +kernel) rfl rfl rfl (fun z_ z_1 z_2 => rfl) ?_
  intro env s' he c
  one_place
  refine @s_enterL _ _ _ _ _ _ _ _ _ _ _ _ _ _ _ _ (by assumption) ?_; intro Q' hQ' V_ C_ S_ c_
  repeat kcf_m
  exact x_itemV rfl (isList_of (c.ret.ext _ _ ha)) h0 hfit hx (s_ret (by assumption) (h _ c.ret))

set_option maxRecDepth 100000 in
theorem f_contains {ns : List Int} {Q : Value → Shared → Prop} (hw : Wd w ad B) (hkeep : ∀ a o, B a = some o → s.heap.get? a = some o) (hA : AOk (n + 1) A) (ha : s.heap.get? a = some (listObj xs m)) (r : IntsAre xs ns)
    (h : ∀ s', Ret B s s' B → Q (.bool (ns.any (· == k))) s') : wpAny (model prog w) A (call (.ref (ad.fn 3)) [.ref a, .int k t]) Q E s := by
  refine def_call (d := dn 3) (ps := ["a", "b"]) (rest := []) (xs := ["a", "b"]) (V0 := [some _, some _]) (gs := []) hw hkeep (hw.fn 3 (by decide)) hA rfl rfl rfl (by decide +kernel) rfl rfl rfl (fun z_ z_1 z_2 => rfl) ?_
  intro env s' he c
  one_place
  refine @s_enterL _ _ _ _ _ _ _ _ _ _ _ _ _ _ _ _ (by assumption) ?_; intro Q' hQ' V_ C_ S_ c_
  repeat kcf_m
  exact x_inL (isList_of (c.ret.ext _ _ ha)) r (s_ret (by assumption) (h _ c.ret))

set_option maxRecDepth 100000 in
theorem f_delitem {Q : Value → Shared → Prop} (hw : Wd w ad B) (hkeep : ∀ a o, B a = some o → s.heap.get? a = some o) (hA : AOk (n + 1) A) (ha : s.heap.get? a = some (listObj xs m)) (hB : B a = none)
    (hfit : Builtin.List.listFitsIndex k = true) (hk : seqIndex? k xs.length = some j) (hsz : xs.length ≤ sizeLine)
    (h : ∀ s', Ret B { s with heap := s.heap.update a (fun z_ => listObj (xs.eraseIdx j) (m + 1)) } s' B → Q .none s') : wpAny (model prog w) A (call (.ref (ad.fn 4)) [.ref a, .int k t]) Q E s := by
  refine def_call (d := dn 4) (ps := ["a", "b"]) (rest := []) (xs := ["a", "b"]) (V0 := [some _, some _]) (gs := []) hw hkeep (hw.fn 4 (by decide)) hA rfl rfl rfl (by decide +kernel) rfl rfl rfl (fun z_ z_1 z_2 => rfl) ?_
  intro env s' he c
  one_place
  refine @s_enterL _ _ _ _ _ _ _ _ _ _ _ _ _ _ _ _ (by assumption) ?_; intro Q' hQ' V_ C_ S_ c_
  refine wpAny_Delete (wpAny_deleteEach_cons (wpAny_delete_Subscript ?_))
  repeat kcf_m
  refine delItem_own (c.ret.ext _ _ ha) hfit hk hsz fun h' hs hg => ?_
  have c' := c.upd1 (t := s'.toks) ha hB hs hg
  refine wpAny_deleteEach_nil ?_
  one_item
  refine @s_nil _ _ _ _ _ _ _ ?_
  one_place
  exact h _ c'.ret

set_option maxRecDepth 100000 in
theorem f_setitem {Q : Value → Shared → Prop} (hw : Wd w ad B) (hkeep : ∀ a o, B a = some o → s.heap.get? a = some o) (hA : AOk (n + 1) A) (ha : s.heap.get? a = some (listObj xs m)) (hB : B a = none)
    (h0 : 0 ≤ k) (hfit : k < 2 ^ 63) (hn : k < xs.length)
    (h : ∀ s', Ret B { s with heap := s.heap.update a (fun z_ => listObj (xs.set k.toNat x) m) } s' B → Q .none s') : wpAny (model prog w) A (call (.ref (ad.fn 7)) [.ref a, .int k t, x]) Q E s := by
  refine def_call (d := dn 7) (ps := ["a", "b", "c"]) (rest := []) (xs := ["a", "b", "c"]) (V0 := [some _, some _, some _]) (gs := []) hw hkeep (hw.fn 7 (by decide)) hA rfl rfl rfl (by decide +kernel) rfl rfl rfl (fun z_ z_1 z_2 => rfl) ?_
  intro env s' he c
  one_place
  refine @s_enterL _ _ _ _ _ _ _ _ _ _ _ _ _ _ _ _ (by assumption) ?_; intro Q' hQ' V_ C_ S_ c_
  refine wpAny_Assign_Subscript ?_
  repeat kcf_m
  refine setItem_own (c.ret.ext _ _ ha) h0 hfit hn fun h' hs hg => ?_
  have c' := c.upd1 (t := s'.toks) ha hB hs hg
  one_item
  refine @s_nil _ _ _ _ _ _ _ ?_
  one_place
  exact h _ c'.ret
end
end
section
open PySem PySem.Calls PyProof.Rows

noncomputable def wstep (code : Int) (w : List UInt8) (i : Int) : List UInt8 := if w ≠ [] ∨ 0 < code / 16 ^ i.toNat % 16 then w ++ [(65 + code / 16 ^ i.toNat % 16).toNat.toUInt8] else w
noncomputable def lawWord (code : Int) : List UInt8 := [5, 4, 3, 2, 1, 0].foldl (wstep code) []

inductive WInv (k : Int) (t : Tok) (ds : List D) (V : List (Option Value)) (N : List (Addr × Obj)) (_B : Ph) : Prop
  | mk (wd : List UInt8) (ns : List Int) (vAt vFig : Option Value) (u : Tok) (h1 : ds = ns.map .int) (h2 : (∀ n ∈ ns, 0 ≤ n ∧ n ≤ 5)) (h3 : V = [some (.int k t), some (.bytes wd.toArray u), vAt, vFig]) (h4 : N = []) (h5 : ns.foldl (wstep k) wd = lawWord k) (h6 : wd.length + ns.length ≤ 6) : WInv k t ds V N _B

section
variable {prog : Program} {w : World} {ad : Ad} {A : Around} {E : Value → Shared → Prop} {s : Shared} {B : Ph}
variable {a : Addr} {xs : List Value} {m j : Nat} {k : Int} {t : Tok} {x : Value} {n : Nat}

set_option maxRecDepth 100000 in
theorem f_word {Q : Value → Shared → Prop} (hw : Wd w ad B) (hkeep : ∀ a o, B a = some o → s.heap.get? a = some o) (hA : AOk (n + 1) A)
    (h : ∀ t s', Ret B s s' B → Q (.bytes (lawWord k).toArray t) s') : wpAny (model prog w) A (call (.ref (ad.fn 18)) [.int k t]) Q E s := by
  refine def_call (d := dn 18) (ps := ["code"]) (rest := ["word", "at", "figure"]) (xs := ["code", "word", "at", "figure"]) (V0 := [some _, none, none, none]) (gs := ["range", "bytes"]) hw hkeep (hw.fn 18 (by decide)) hA rfl rfl rfl (by decide +kernel) rfl rfl rfl (fun z_ z_1 z_2 => rfl) ?_
  intro env s' he c
  one_place
  refine @s_enterL _ _ _ _ _ _ _ _ _ _ _ _ _ _ _ _ (by assumption) ?_; intro Q' hQ' V_ C_ S_ c_
  repeat kcf_m
  refine x_for (fun z_ => rfl) (fun R hRR => ?_)
  repeat kcf_m
  refine x_iterR (m := 6) (by assumption) (by assumption) (by decide +kernel) (by decide +kernel) ?_
  intro I M L s₃ It hM c
  refine f_loop (WInv k t)
    (.inl ⟨_, _, rfl⟩) It hM (hA.deeper env).handled ⟨[], [5, 4, 3, 2, 1, 0], _, _, _, rfl, by decide, rfl, rfl, rfl, by decide⟩ (Ph.le_refl _) c ?_ ?_
  · rintro d ds V N B' s₄ L v ⟨wd, ns, vAt, vFig, u, e1, e2, rfl, rfl, e3, e4⟩ le hr c Qb Eb hQb
    cases ns with
    | nil => cases e1
    | cons i ns =>
      simp only [List.map_cons, List.cons.injEq] at e1
      obtain ⟨rfl, rfl⟩ := e1
      obtain ⟨ti, rfl⟩ := Rep.isInt hr
      have hi := e2 i (.head _)
      have hp : (0 : Int) < 16 ^ i.toNat := Int.pow_pos (by decide)
      have hlog : ((16 : Int) ^ i.toNat).natAbs.log2 < 9000 := by
        have key : ∀ j : Nat, j ≤ 5 → ((16 : Int) ^ j).natAbs.log2 < 9000 := by decide +kernel
        exact key _ (by lia)
      have hf0 : 0 ≤ k / 16 ^ i.toNat % 16 := Int.emod_nonneg _ (by decide)
      have hf1 : k / 16 ^ i.toNat % 16 < 16 := Int.emod_lt_of_pos _ (by decide)
      repeat kcf_m
      refine x_pow Cx.stab (by assumption) hi.1 (by
        have : (Builtin.Int.intBits 16 : Int) = 5 := by decide +kernel
        rw [this]; lia) ?_
      intro _ _ _
      repeat kcf_m
      refine x_or2 (p := wd ≠ []) (q := 0 < k / 16 ^ i.toNat % 16) Cx.stab (by assumption) (fun s c => ?_) (fun s z_ c => ?_) (fun s c => ?_)
      · repeat kcf_m
        exact ⟨by simp, by assumption⟩
      · repeat kcf_m
        exact ⟨rfl, by assumption⟩
      refine x_ite (fun h1 => ?_) (fun h1 => ?_)
      · repeat kcf_m
        refine x_list Cx.stab (by assumption) ?_
        repeat kcf_m
        refine ⟨_, by assumption, len_ok rfl, fun a s' B1 le1 hB1 c => ?_⟩
        repeat kcf_m
        refine b_bytes (ns := [65 + k / 16 ^ i.toNat % 16]) Cx.stab (by assumption) (hA.deeper env).handled hB1 (.cons (.int _ _) .nil) (by simp; lia) (len_ok rfl) ?_
        intro t s' c
        unfold byteArr
        refine x_addB Cx.stab (by assumption) (by simp; simp at e4; lia) ?_
        intro t s' c
        repeat kcf_m
        refine ⟨_, _, _, ⟨wd ++ [(65 + k / 16 ^ i.toNat % 16).toNat.toUInt8], ns, _, _, _, rfl, fun n hn => e2 n (.tail _ hn), rfl, rfl, ?_, by simp at e4 ⊢; lia⟩, ?_, by assumption⟩
        · rw [← e3, List.foldl_cons]
          congr 1
          unfold wstep
          rw [if_pos h1]
        · kln_le
      · repeat kcf_m
        refine ⟨_, _, _, ⟨wd, ns, _, _, _, rfl, fun n hn => e2 n (.tail _ hn), rfl, rfl, ?_, by simp at e4 ⊢; lia⟩, Ph.le_refl _, by assumption⟩
        rw [← e3, List.foldl_cons]
        congr 1
        unfold wstep
        rw [if_neg h1]
  · rintro V N B' s₄ ⟨wd, ns, vAt, vFig, u, e1, e2, rfl, rfl, e3, e4⟩ le c
    cases ns with
    | cons i ns => cases e1
    | nil =>
      repeat kcf_m
      simp only [List.foldl_nil] at e3
      rw [e3]
      one_place
      exact h _ _ ((Cx.ret (by assumption)).weaken hkeep)
end
end
section
open PySem PySem.Calls PyProof.Rows

section
variable {prog : Program} {w : World} {ad : Ad} {A : Around} {E : Value → Shared → Prop} {s : Shared} {B : Ph} {env : Env} {sc : Sc} {V V1 V2 : List (Option Value)} {s₀ : Shared} {B₀ : Ph} {N : List (Addr × Obj)}
theorem s_unpack2 {a : Addr} {v1 v2 : Value} {n : Nat} {x y : Str} {p q r : Pos} {k : Nat} {Q : Unit → Shared → Prop} (c : Cx w ad s₀ B₀ env sc V N B s) (hA : A.handled = none) (hB : B a = some (tupObj [v1, v2] n)) (P1 : Put x v1 sc.xs V V1) (P2 : Put y v2 sc.xs V1 V2)
    (h : ∀ s', Cx w ad s₀ B₀ env sc V2 N B s' → Q () s') : wpAny (model prog w) A (assign (.Tuple [.Name x p, .Name y q] k r) env (.ref a)) Q E s := by
  refine wpAny_assign_Tuple hA (isTup_of (c.rd.keep _ _ hB)) rfl (by rfl) fun h' he => ?_
  have c1 := c.go (Ret.heap (t := s.toks) c.rd.keep fun b o e => he b o (fun z => by subst z; rw [size_none] at e; cases e) e)
  refine wpAny_assignInOrder_more (wpAny_assign_Name (c1.storeName P1 fun s' c' => ?_))
  refine wpAny_assignInOrder_more (wpAny_assign_Name (c'.storeName P2 fun s'' c'' => ?_))
  exact wpAny_assignInOrder_none (h s'' c'')
theorem s_assign2 {elts : List Expr} {k : Nat} {tpos pos : Pos} {value : Expr} {Q : Flow → Shared → Prop} (hs : swapsWithSole [.Tuple elts k tpos] value pos.line env = pure false) (hw : swappedStores [.Tuple elts k tpos] value env = pure none)
    (h : wpAny (model prog w) A (eval value env) (fun v s₁ => wpAny (model prog w) A (assign (.Tuple elts k tpos) env v) (fun z_ => Q .next) E s₁) E s) : wpAny (model prog w) A (exec (.Assign [.Tuple elts k tpos] value pos) env) Q E s := Assign_Tuple h hs hw
end

noncomputable def apW : Nat → Nat → List UInt8
  | 0, _ => []
  | _, 0 => []
  | f + 1, n + 1 => apW f ((n + 1) / 16) ++ [(65 + (n + 1) % 16).toUInt8]
noncomputable def letters : List UInt8 := [65, 66, 67, 68, 69, 70, 71, 72, 73, 74, 75, 76, 77, 78, 79, 80]
theorem letters_cut : ∀ m : Nat, m < 16 → W.KBy.picked letters.toArray (some (m : Int)) (some ((m : Int) + 1)) = [(65 + m).toUInt8].toArray := by decide +kernel
inductive APInv (k : Int) (n : Nat) (V : List (Option Value)) (N : List (Addr × Obj)) (_B : Ph) : Prop
  | mk (vl : List UInt8) (vm : Option Value) (t u v : Tok) (h1 : V = [some (.int (n : Int) t), some (.bytes vl.toArray u), some (.bytes letters.toArray v), vm]) (h2 : N = []) (h3 : (∃ f, n < 16 ^ f ∧ vl.length + f = 6 ∧ apW f n ++ vl = apW 6 k.natAbs)) : APInv k n V N _B

section
variable {prog : Program} {w : World} {ad : Ad} {A : Around} {E : Value → Shared → Prop} {s : Shared} {B : Ph}
variable {a : Addr} {xs : List Value} {m j : Nat} {k : Int} {t : Tok} {x : Value} {n : Nat}

set_option maxRecDepth 100000 in
theorem f_int2ap {Q : Value → Shared → Prop} (hw : Wd w ad B) (hkeep : ∀ a o, B a = some o → s.heap.get? a = some o) (hA : AOk (n + 1) A) (hk : k.natAbs < 16 ^ 6)
    (h : ∀ t s', Ret B s s' B → Q (.bytes (apW 6 k.natAbs).toArray t) s') : wpAny (model prog w) A (call (.ref (ad.fn 0)) [.int k t]) Q E s := by
  refine def_call (d := dn 0) (ps := ["num"]) (rest := ["val", "AP", "mod"]) (xs := ["num", "val", "AP", "mod"]) (V0 := [some _, none, none, none]) (gs := ["int", "abs", "divmod"]) hw hkeep (hw.fn 0 (by decide)) hA rfl rfl rfl (by decide +kernel) rfl rfl rfl (fun z_ z_1 z_2 => rfl) ?_
  intro env s' he c
  one_place
  refine @s_enterL _ _ _ _ _ _ _ _ _ _ _ _ _ _ _ _ (by assumption) ?_; intro Q' hQ' V_ C_ S_ c_
  repeat kcf_m
  refine x_while (fun R hRR => ?_)
  rename Cx _ _ _ _ _ _ _ _ _ _ => c1
  refine w_loop (n := k.natAbs) (APInv k) ?_ ⟨[], _, _, _, _, rfl, rfl, 6, hk, rfl, List.append_nil _⟩ c1
  rintro n V N B' s₄ ⟨vl, vm, t, u, v, rfl, rfl, f, f1, f2, f3⟩ c Qb Eb hQb
  repeat kcf_m
  refine x_iten (fun h1 => ?_) (fun h1 => ?_)
  · have hn : n ≠ 0 := by lia
    obtain ⟨f, rfl⟩ : ∃ f', f = f' + 1 := ⟨f - 1, by
      cases f with
      | zero => simp at f1; lia
      | succ f => simp⟩
    one_place
    refine @s_enterL _ _ _ _ _ _ _ _ _ _ _ _ _ _ _ _ (by assumption) ?_; intro Q' hQ' V_ C_ S_ c_
    refine s_assign2 rfl rfl ?_
    repeat kcf_m
    refine b_divmod Cx.stab (by assumption) (by decide) (by decide +kernel) ?_
    intro a t' u' s' B1 le hB1 c
    have hd : (n : Int) / 16 = ((n / 16 : Nat) : Int) := by lia
    have hm : (n : Int) % 16 = ((n % 16 : Nat) : Int) := by lia
    rw [hd, hm] at hB1
    refine s_unpack2 c (hA.deeper env).handled hB1 (by kd_p1) (by kd_p1) ?_
    intro s' c
    repeat kcf_m
    refine x_sliceB Cx.stab (by assumption) (fun z_ z_1 => ⟨_, rfl⟩) ?_
    repeat kcf_m
    refine ⟨_, _, some _, some _, _, rfl, by assumption, .int _ _, .int _ _, len_ok rfl, fun t s' c => ?_⟩
    rw [letters_cut _ (Nat.mod_lt _ (by decide))]
    repeat kcf_m
    refine x_addB Cx.stab (by assumption) (by simp; lia) ?_
    intro t s' c
    repeat kcf_m
    refine ⟨n / 16, _, _, _, Nat.div_lt_self (by lia) (by decide), ⟨[(65 + n % 16).toUInt8] ++ vl, _, _, _, _, rfl, rfl, f, by rw [Nat.pow_succ] at f1; lia, by simp; lia, ?_⟩, by assumption⟩
    rw [← f3]
    obtain ⟨n', rfl⟩ : ∃ n', n = n' + 1 := ⟨n - 1, by lia⟩
    simp [apW]
  · have hn : n = 0 := by lia
    subst hn
    have : vl = apW 6 k.natAbs := by rw [← f3]; cases f <;> rfl
    repeat kcf_m
    rw [← this] at h
    one_place
    exact h _ _ ((Cx.ret (by assumption)).weaken hkeep)
end
end
section
open PySem PySem.Calls PyProof.Rows

theorem pick_from (xs : List Value) (k : Int) (h : 0 ≤ k) : pick xs (some k) none none = xs.drop k.toNat := by
  obtain ⟨j, rfl⟩ := Int.eq_ofNat_of_zero_le h
  have e := slicePick_eq xs (some (j : Int)) none none
  rw [slicePick_from' xs.toArray j] at e
  have := congrArg Array.toList e
  simp only [List.toList_toArray] at this
  rw [← this]; rfl
theorem pick_upto (xs : List Value) (k : Int) (h : 0 ≤ k) : pick xs none (some k) none = xs.take k.toNat := by
  obtain ⟨j, rfl⟩ := Int.eq_ofNat_of_zero_le h
  have e := slicePick_eq xs none (some (j : Int)) none
  rw [slicePick_upto' xs.toArray j] at e
  have := congrArg Array.toList e
  simp only [List.toList_toArray] at this
  rw [← this]; rfl

section
variable {prog : Program} {w : World} {ad : Ad} {A : Around} {E : Value → Shared → Prop} {s : Shared} {B : Ph} {env : Env} {sc : Sc} {V : List (Option Value)} {s₀ : Shared} {B₀ : Ph} {N : List (Addr × Obj)} {a : Addr}
theorem interactive_ok (k : env.scope.kind = .function) : interactive env = false := by unfold interactive; rw [k]; rfl
theorem s_append {x : Str} {elt : Expr} {p1 apos cpos epos : Pos} {xs : List Value} {n : Nat} {Q : Flow → Shared → Prop} (c : Cx w ad s₀ B₀ env sc V N B s) (hx : At sc.xs V x (some (.ref a))) (hN : (a, listObj xs n) ∈ N)
    (hbase : attributeBase (.Name x p1) "append" env (eval (.Name x p1) env) = eval (.Name x p1) env) (hline : (apos.endLine == cpos.line) = true) (htrees : backTo cpos (starEach [elt] env) = [(false, eval elt env)]) (hsw : swapsWith (.Call (.Attribute (.Name x p1) "append" apos) [elt] [] cpos) none epos.line env = pure false)
    (h : ∀ s', Cx w ad s₀ B₀ env sc V N B s' → wpAny (model prog w) A (eval elt env) (fun y s₂ => ∃ V' N' N'' B' xs n, Cx w ad s₀ B₀ env sc V' N' B' s₂ ∧ Sel a (listObj xs n) (listObj (xs ++ [y]) (n + 1)) N' N'' ∧ xs.length ≤ sizeLine ∧ ∀ s', Cx w ad s₀ B₀ env sc V' N'' B' s' → Q .next s') E s') :
    wpAny (model prog w) A (exec (.Expr (.Call (.Attribute (.Name x p1) "append" apos) [elt] [] cpos) epos) env) Q E s := by
  refine wpAny_Expr ?_ (interactive_ok c.rd.ok.kind) hsw
  refine wpAny_Call_append hbase (by rw [htrees]; rfl) hline htrees ?_
  refine x_name Cx.stab c hx ?_
  refine ⟨a, xs.toArray, rfl, ⟨_, n, c.own _ hN, rfl, rfl, rfl⟩, ?_⟩
  refine wpAny_mono (h s c) (fun y s₂ h₂ => ?_) fun z_ z_1 e => e
  obtain ⟨V', N', N'', B', xs, n, c', P, hz, hq⟩ := h₂
  exact x_append c' P hz fun s' c'' => hq s' c''
end

noncomputable def pairD (p : Int × Int) : D := .tuple [.int p.1, .int p.2]
noncomputable def widthD : D → D
  | .tuple [.int a, .int b] => .int (b - a + 1)
  | d => d
noncomputable def withinGo : List (Int × Int) → Int → Option Int
  | [], _ => none
  | (a, b) :: ps, l => if l ≤ b - a then some (a + l) else withinGo ps (l - (b - a + 1))
noncomputable def total (ps : List (Int × Int)) : Int := (ps.map fun p => p.2 - p.1 + 1).sum
inductive WnInv (num : Value) (row : Value) (r : Int) (ds : List D) (V : List (Option Value)) (N : List (Addr × Obj)) (_B : Ph) : Prop
  | mk (ps : List (Int × Int)) (l : Int) (t : Tok) (vf vl : Option Value) (h1 : ds = ps.map pairD) (h2 : V = [some row, some num, some (.int l t), vf, vl]) (h3 : N = []) (h4 : withinGo ps l = some r) : WnInv num row r ds V N _B

section
variable {prog : Program} {w : World} {ad : Ad} {A : Around} {E : Value → Shared → Prop} {s : Shared} {B : Ph}
variable {a : Addr} {xs : List Value} {m j : Nat} {k : Int} {t : Tok} {x : Value} {n : Nat}

set_option maxRecDepth 100000 in
theorem f_within {ps : List (Int × Int)} {r : Int} {row : Value} {Q : Value → Shared → Prop} (hw : Wd w ad B) (hkeep : ∀ a o, B a = some o → s.heap.get? a = some o) (hA : AOk (n + 1) A) (hr : Rep B row (.list (ps.map pairD))) (hpos : 0 < total ps)
    (hlen : ps.length ≤ 1000) (hres : withinGo ps (k % total ps) = some r)
    (h : ∀ t s', Ret B s s' B → Q (.int r t) s') : wpAny (model prog w) A (call (.ref (ad.fn 17)) [row, .int k t]) Q E s := by
  refine def_call (d := dn 17) (ps := ["row", "number"]) (rest := ["left", "first", "last"]) (xs := ["row", "number", "left", "first", "last"]) (V0 := [some _, some _, none, none, none]) (gs := ["sum"]) hw hkeep (hw.fn 17 (by decide)) hA rfl rfl rfl (by decide +kernel) rfl rfl rfl (fun z_ z_1 z_2 => rfl) ?_
  intro env s' he c
  obtain ⟨a, n0, xs, rfl, hB, rr⟩ := Rep.isList hr
  one_place
  refine @s_enterL _ _ _ _ _ _ _ _ _ _ _ _ _ _ _ _ (by assumption) ?_; intro Q' hQ' V_ C_ S_ c_
  repeat kcf_m
  refine x_comp (p := fun z_ => true) (f := widthD) (tg := ["first", "last"]) (fr := []) (gs := []) (hA.deeper env).handled (by assumption) (by rw [he]; decide +kernel) rfl (fun z_ => rfl) ?_
  repeat kcf_m
  refine goL (by assumption) hB rr (CompOk.pair .nil (by rw [List.length_map]; exact Nat.le_trans hlen (len_ok rfl)) (fun d hd => ?_) ?_ ?_)
  · obtain ⟨p, _, rfl⟩ := List.mem_map.mp hd
    exact ⟨_, _, rfl⟩
  · intro cenv K d1 d2 v1 v2 B' s E S hd le h1 h2 hK
    obtain ⟨p, _, e⟩ := List.mem_map.mp hd
    simp only [pairD, D.tuple.injEq, List.cons.injEq, and_true] at e
    obtain ⟨rfl, rfl⟩ := e
    obtain ⟨t1, rfl⟩ := Rep.isInt h1
    obtain ⟨t2, rfl⟩ := Rep.isInt h2
    repeat kcf_m
    exact ⟨_, Ph.le_refl _, .int _ _, by assumption⟩
  · intro Dl n xs B' le hxs s' c
    repeat kcf_m
    have hxs' : IntsAre xs (ps.map fun p => p.2 - p.1 + 1) := by
      have e : ((ps.map pairD).map widthD) = (ps.map fun p => p.2 - p.1 + 1).map D.int := by
        rw [List.map_map, List.map_map]; rfl
      rw [e] at hxs
      exact hxs.ints
    refine b_sum Cx.stab (by assumption) (hA.deeper env).handled (c.isList (.head _)) hxs' ?_
    intro t s' c
    have hpos' : 0 < (ps.map fun p => p.2 - p.1 + 1).sum := hpos
    repeat kcf_m
    rename Cx _ _ _ _ _ _ _ _ _ _ => c1
    have c2 := c1.sub (List.nil_sublist _)
    refine x_for (fun z_ => rfl) (fun R hRR => ?_)
    repeat kcf_m
    refine x_iterL c2 (le _ _ hB) (rr.mono le) ?_
    intro I M L s₃ It hM c
    refine f_loop (WnInv (.int k _) (.ref a) r) (.inr ⟨_, _, _, rfl⟩) It hM (hA.deeper env).handled ⟨ps, _, _, _, _, rfl, rfl, rfl, hres⟩ (Ph.le_refl _) c ?_ ?_
    · rintro d ds V N B' s₄ L v ⟨ps', l, tl, vf, vl, e1, rfl, rfl, e3⟩ le hr c Qb Eb hQb
      cases ps' with
      | nil => cases e1
      | cons p ps' =>
        simp only [List.map_cons, List.cons.injEq] at e1
        obtain ⟨rfl, rfl⟩ := e1
        obtain ⟨p1, p2⟩ := p
        obtain ⟨T, n1, ys, rfl, hT, r2⟩ := Rep.isTup hr
        cases r2 with
        | cons h1 r2 =>
          cases r2 with
          | cons h2 r2 =>
            cases r2
            obtain ⟨t1, rfl⟩ := Rep.isInt h1
            obtain ⟨t2, rfl⟩ := Rep.isInt h2
            refine s_unpack2 c (hA.deeper env).handled hT (by kd_p1) (by kd_p1) ?_
            intro s' c
            repeat kcf_m
            unfold withinGo at e3
            refine x_ite (fun h1 => ?_) (fun h1 => ?_)
            · rw [if_pos h1] at e3
              cases e3
              repeat kcf_m
              one_place
              exact h _ _ ((Cx.ret (by assumption)).weaken hkeep)
            · rw [if_neg h1] at e3
              repeat kcf_m
              exact ⟨_, _, _, ⟨ps', _, _, _, _, rfl, rfl, rfl, e3⟩, Ph.le_refl _, by assumption⟩
    · rintro V N B' s₄ ⟨ps', l, tl, vf, vl, e1, rfl, rfl, e3⟩ le c
      cases ps' with
      | nil => cases e3
      | cons p ps' => cases e1
end
end
section
open PySem PySem.Calls PyProof.Rows

theorem small_log {n : Nat} (h : n ≤ 1000) : ((n : Int)).natAbs.log2 < 9000 := by
  have key : ∀ j : Nat, j ≤ 1000 → ((j : Int)).natAbs.log2 < 9000 := by decide +kernel
  exact key n h
theorem reps_ints {B : Ph} {vs : List Value} {ns : List Int} (h : IntsAre vs ns) : Reps B vs (ns.map .int) := by
  induction h with
  | nil => exact .nil
  | cons n t _ ih => exact .cons (.int n t) ih
theorem ints_get {vs : List Value} {ns : List Int} (r : IntsAre vs ns) {i : Nat} {d : Int} (h : ns[i]? = some d) : ∃ t, vs[i]? = some (.int d t) := r.get i d h

theorem ints_erase {vs : List Value} {ns : List Int} (h : IntsAre vs ns) : ∀ k : Nat, IntsAre (vs.eraseIdx k) (ns.eraseIdx k) := by
  induction h with
  | nil => exact fun z_ => .nil
  | cons n t r ih =>
    intro k
    cases k with
    | zero => exact r
    | succ k => exact .cons n t (ih k)
noncomputable def upto (n : Nat) : List Int := steps 0 1 n
noncomputable def three : Nat → Int → List Int → List Int
  | 0, _, _ => []
  | n + 1, f, l => l.getD (f % l.length).toNat 0 :: three n (f / l.length) (l.eraseIdx (f % l.length).toNat)
theorem steps_length (x c : Int) : ∀ n, (steps x c n).length = n
  | 0 => rfl
  | n + 1 => by rw [steps, List.length_cons, steps_length]
inductive ThInv (f0 : Int) (m : Nat) (vm : Value) (ta : Addr) (ds : List D) (V : List (Option Value)) (N : List (Addr × Obj)) (B : Ph) : Prop
  | mk (f : Int) (l dn : List Int) (t : Tok) (la : Addr) (n1 n2 : Nat) (ls ts : List Value) (va vp : Option Value) (h1 : V = [some (.int f t), some vm, some (.ref la), some (.ref ta), va, vp]) (h2 : N = [(ta, listObj ts n2)]) (h3 : B la = some (listObj ls n1)) (h4 : IntsAre ls l) (h5 : IntsAre ts dn) (h6 : dn ++ three ds.length f l = three 3 f0 (upto m)) (h7 : l.length = m - 3 + ds.length) (h8 : ds.length ≤ 3) (h9 : dn.length + ds.length = 3) : ThInv f0 m vm ta ds V N B
theorem erase_split {α : Type} (l : List α) (k : Nat) : l.take k ++ l.drop (k + 1) = l.eraseIdx k := by rw [List.eraseIdx_eq_take_drop_succ]

section
variable {prog : Program} {w : World} {ad : Ad} {A : Around} {E : Value → Shared → Prop} {s : Shared} {B : Ph}
variable {a : Addr} {xs : List Value} {m j : Nat} {k : Int} {t u : Tok} {x : Value} {n : Nat}

set_option maxRecDepth 100000 in
set_option maxHeartbeats 4000000 in
theorem f_three {Q : Value → Shared → Prop} (hw : Wd w ad B) (hkeep : ∀ a o, B a = some o → s.heap.get? a = some o) (hA : AOk (n + 1) A) (hm : 3 ≤ m) (hm' : m ≤ 1000)
    (h : ∀ a s' B' xs n, Ret B s s' B' → B' a = some (listObj xs n) → IntsAre xs (three 3 k (upto m)) → Q (.ref a) s') : wpAny (model prog w) A (call (.ref (ad.fn 19)) [.int k t, .int m u]) Q E s := by
  refine def_call (d := dn 19) (ps := ["figure", "many"]) (rest := ["left", "three", "at", "place"]) (xs := ["figure", "many", "left", "three", "at", "place"]) (V0 := [some _, some _, none, none, none, none]) (gs := ["range", "len"]) hw hkeep (hw.fn 19 (by decide)) hA rfl rfl rfl (by decide +kernel) rfl rfl rfl (fun z_ z_1 z_2 => rfl) ?_
  intro env s' he c
  one_place
  refine @s_enterL _ _ _ _ _ _ _ _ _ _ _ _ _ _ _ _ (by assumption) ?_; intro Q' hQ' V_ C_ S_ c_
  refine s_comp (p := fun z_ => true) (f := id) (tg := ["colour"]) (fr := []) (gs := []) (hA.deeper env).handled c (by rw [he]; decide +kernel) rfl (fun z_ => rfl) (sw_comp he (by decide +kernel)) ?_
  repeat kcf_m
  refine goR (m := m) (by assumption) (by assumption) (small_one (by decide) (by decide) (by lia) (by lia)) (by rw [rangeSize_one]; split <;> lia) (CompOk.name .nil (by rw [List.length_map, steps_length]; exact Nat.le_trans hm' (len_ok rfl)) ?_ ?_)
  · intro cenv K d v B' s E S hd le hr hK
    repeat kcf_m
    exact ⟨_, Ph.le_refl _, hr, by assumption⟩
  · intro Dl n1 xs B' le hxs
    refine ⟨_, by kd_p1, fun s' c => ?_⟩
    obtain ⟨B1, lef, hB1, c⟩ := c.freeze' Del.head
    repeat kcf_m
    refine x_listO (by assumption) ?_
    repeat kcf_m
    refine ⟨_, _, _, by assumption, len_ok rfl, fun ta s' c => ?_⟩
    repeat kcf_m
    refine x_for (fun z_ => rfl) (fun R hRR => ?_)
    repeat kcf_m
    refine x_iterR (m := 3) (by assumption) (by assumption) (by decide +kernel) (by decide +kernel) ?_
    intro I M L s₃ It hM c
    rw [List.map_id] at hxs
    refine f_loop (ThInv k m (.int m u) ta) (.inl ⟨_, _, rfl⟩) It hM (hA.deeper env).handled ⟨k, upto m, [], _, Dl, n1, _, xs, [], _, _, rfl, rfl, ?_, hxs.ints, .nil, rfl, ?_, by decide, by decide⟩ (Ph.le_refl _) c ?_ ?_
    · exact (by assumption : Ph.le B1 _) _ _ hB1
    · show (upto m).length = m - 3 + 3
      unfold upto; rw [steps_length]; lia
    · rintro d ds V N B' s₄ L v ⟨f, l, dn, tf, la, n1, n2, ls, ts, va, vp, rfl, rfl, hB, hl, ht, e3, e4, e5, e6⟩ le hr c Qb Eb hQb
      have hll : ls.length = l.length := hl.length
      have hpos : 0 < ls.length := by simp at e4; lia
      have hL : ls.length ≤ 1000 := by simp at e4 e5; lia
      have hlog := small_log (n := ls.length) (Nat.le_trans hL (by decide))
      have hz : ls.length < 2 ^ 62 := Nat.lt_of_le_of_lt hL (by decide)
      have hmod0 : 0 ≤ f % (ls.length : Int) := Int.emod_nonneg _ (by lia)
      have hmod1 : f % (ls.length : Int) < ls.length := Int.emod_lt_of_pos _ (by lia)
      repeat kcf_m
      refine x_lenL Cx.stab (by assumption) (Stab.isList Cx.stab (by assumption) hB) hz ?_
      intro _ _ _
      repeat kcf_m
      refine x_lenL Cx.stab (by assumption) (Stab.isList Cx.stab (by assumption) hB) hz ?_
      intro _ _ _
      repeat kcf_m
      refine s_append (a := ta) (xs := ts) (n := n2) (by assumption) (by kd_p) (.head _) rfl rfl rfl rfl ?_
      intro s5 c5
      have hget : l[(f % (ls.length : Int)).toNat]? = some (l.getD (f % (ls.length : Int)).toNat 0) := by
        have : (f % (ls.length : Int)).toNat < l.length := by lia
        simp [this]
      obtain ⟨tg, hg⟩ := ints_get hl hget
      repeat kcf_m
      refine x_itemV rfl (Stab.isList Cx.stab (by assumption) hB) hmod0 (by lia) hg ?_
      refine ⟨_, _, _, _, _, _, by assumption, Sel.head, ?_, fun s' c => ?_⟩
      · rw [ht.length]; exact Nat.le_trans (by lia : dn.length ≤ 3) (len_ok rfl)
      repeat kcf_m
      refine x_sliceP Cx.stab (by assumption) (fun z_ z_1 => ⟨_, rfl⟩) (by kd_p) (by tb_rel) (by tb_rel) (by tb_rel) hB (by decide) (Nat.le_trans hL (len_ok rfl)) fun b1 s' B1 le1 hb1 c1 => ?_
      rw [pick_upto _ _ hmod0] at hb1
      repeat kcf_m
      refine x_sliceP Cx.stab (by assumption) (fun z_ z_1 => ⟨_, rfl⟩) (by kd_p) (by tb_rel) (by tb_rel) (by tb_rel) (le1 _ _ hB) (by decide) (Nat.le_trans hL (len_ok rfl)) fun b2 s' B2 le2 hb2 c2 => ?_
      rw [pick_from _ _ (by lia)] at hb2
      refine x_addL Cx.stab c2 (Stab.isList Cx.stab c2 (le2 _ _ hb1)) (Stab.isList Cx.stab c2 hb2) ?_ ?_
      · rw [List.length_take, List.length_drop]; exact Nat.le_trans (Nat.add_le_add (Nat.le_trans (Nat.min_le_right _ _) hL) (Nat.le_trans (Nat.sub_le _ _) hL)) (len_ok rfl)
      intro b3 s' B3 le3 hb3 c3
      have e8 : (f % (ls.length : Int) + 1).toNat = (f % (ls.length : Int)).toNat + 1 := by lia
      rw [e8, erase_split] at hb3
      repeat kcf_m
      refine ⟨_, _, _, ⟨_, l.eraseIdx (f % (ls.length : Int)).toNat, dn ++ [l.getD (f % (ls.length : Int)).toNat 0], _, b3, _, _, _, _, _, _, rfl, rfl, hb3, ints_erase hl _, ht.append (.cons _ _ .nil), ?_, ?_, ?_, ?_⟩, ?_, by assumption⟩
      · rw [← e3]
        simp [three, hll]
      · rw [List.length_eraseIdx_of_lt (by lia)]; simp at e4; lia
      · simp at e5; lia
      · simp at e6 ⊢; lia
      · exact Ph.le_trans le1 (Ph.le_trans le2 le3)
    · rintro V N B' s₄ ⟨f, l, dn, tf, la, n1, n2, ls, ts, va, vp, rfl, rfl, hB, hl, ht, e3, e4, e5, e6⟩ le c
      obtain ⟨B1, lef, hB1, c⟩ := c.freeze' Del.head
      repeat kcf_m
      simp only [List.length_nil, three, List.append_nil] at e3
      rw [e3] at ht
      one_place
      exact h _ _ _ _ _ (Cx.ret (by assumption)) hB1 ht
end
end
section
open PySem PySem.Calls PyProof.Rows

theorem get_bytes {tab : List (List UInt8)} {i : Nat} (h : i < tab.length) : (tab.map D.bytes)[i]? = some (.bytes (tab.getD i [])) := by simp [h]
inductive BytesAre : List Value → List (List UInt8) → Prop
  | nil : BytesAre [] []
  | cons (l : List UInt8) (t : Tok) {vs : List Value} {ls : List (List UInt8)} (r : BytesAre vs ls) : BytesAre (.bytes l.toArray t :: vs) (l :: ls)
theorem BytesAre.length {vs : List Value} {ls : List (List UInt8)} (h : BytesAre vs ls) : vs.length = ls.length := by
  induction h with
  | nil => rfl
  | cons _ _ _ ih => exact congrArg Nat.succ ih
theorem BytesAre.get {vs : List Value} {ls : List (List UInt8)} (h : BytesAre vs ls) : ∀ {i : Nat}, i < ls.length → ∃ t, vs[i]? = some (.bytes (ls.getD i []).toArray t) := by
  induction h with
  | nil => exact fun h => absurd h (Nat.not_lt_zero _)
  | cons _ t _ ih =>
    intro i h
    cases i with
    | zero => exact ⟨t, rfl⟩
    | succ i => exact ih (Nat.lt_of_succ_lt_succ h)
theorem BytesAre.append {vs us : List Value} {ls ms : List (List UInt8)} (h : BytesAre vs ls) (g : BytesAre us ms) : BytesAre (vs ++ us) (ls ++ ms) := by
  induction h with
  | nil => exact g
  | cons l t _ ih => exact .cons l t ih
theorem Reps.bytesAre {B : Ph} {vs : List Value} {ls : List (List UInt8)} (h : Reps B vs (ls.map .bytes)) : BytesAre vs ls := by
  induction ls generalizing vs with
  | nil => exact h.eNil (P := fun vs => BytesAre vs []) .nil
  | cons l ls ih => exact h.eCons (P := fun vs => BytesAre vs (l :: ls)) fun x xs hx r => hx.eBytes (P := fun x => BytesAre (x :: xs) (l :: ls)) fun t => .cons l t (ih r)
theorem BytesAre.reps {B : Ph} {vs : List Value} {ls : List (List UInt8)} (h : BytesAre vs ls) : Reps B vs (ls.map .bytes) := by
  induction h with
  | nil => exact .nil
  | cons l t _ ih => exact .cons (.bytes l t) ih
section
variable {prog : Program} {w : World} {ad : Ad} {A : Around} {E : Value → Shared → Prop} {s : Shared} {a : Addr} {k : Int} {u : Tok} {xs : List Value} {ls : List (List UInt8)} {value slice : Expr}
theorem x_itemB {Q : Value → Shared → Prop} (hs : subscripted slice false (.ref a) (.int k u) = operate [.ref a, .int k u] (getItem (.ref a) (.int k u))) (hl : s.heap.IsList a xs.toArray) (r : BytesAre xs ls) (h0 : 0 ≤ k) (hi : k.toNat < ls.length) (hfit : k < 2 ^ 63) (h : ∀ t, Q (.bytes (ls.getD k.toNat []).toArray t) s) :
    wpAny (model prog w) A (subscriptTail value slice (.ref a) (.int k u)) Q E s :=
  let ⟨t, e⟩ := r.get hi
  x_itemV hs hl h0 hfit e (h t)
end
noncomputable def spaces : List (List UInt8) := [[32], [32, 32], [9], [13, 10]]
noncomputable def aheads : List (List UInt8) := [[], [42, 32, 79, 75, 32, 91, 80, 69, 82, 77, 65, 78, 69, 78, 84, 70, 76, 65, 71, 83, 32, 40, 66, 32, 67, 41, 93, 32], [40, 68, 41, 32, 70, 76, 65, 71, 83, 32, 40, 69, 41, 32, 80, 69, 82, 77, 65, 78, 69, 78, 84], [70, 76, 65, 71, 83, 32, 40, 41, 32]]
noncomputable def behinds : List (List UInt8) := [[], [32, 70, 76, 65, 71, 83, 32, 40, 70, 32, 71], [32, 102, 108, 97, 103, 115, 32, 40, 72, 41], [13, 10, 70, 76, 65, 71, 83, 32, 40, 73, 41]]
noncomputable def flagsAt : List UInt8 := [70, 76, 65, 71, 83, 32, 40]
noncomputable def gapOf (dress row : Int) : List UInt8 := spaces.getD ((dress + row) % 4).toNat []
noncomputable def lineStep (g : List UInt8) (ws : List (List UInt8)) (l : List UInt8) (i : Int) : List UInt8 := l ++ [[32], g].getD (i % 2).toNat [] ++ ws.getD i.toNat []
noncomputable def lineOf (g : List UInt8) (ws : List (List UInt8)) : List UInt8 := [1, 2, 3, 4, 5, 6, 7, 8].foldl (lineStep g ws) (ws.getD 0 [])
noncomputable def edgeOf (g : List UInt8) (row : Int) : List UInt8 := [[], [32], g].getD row.toNat []
noncomputable def aheadOf (dress row : Int) : List UInt8 := aheads.getD (dress / 4 / 4 ^ row.toNat % 4).toNat []
noncomputable def behindOf (dress row : Int) : List UInt8 := behinds.getD (dress / 256 / 4 ^ row.toNat % 4).toNat []
noncomputable def reply (row : Int) (ws : List (List UInt8)) (dress : Int) : List UInt8 :=
  aheadOf dress row ++ flagsAt ++ edgeOf (gapOf dress row) row ++ lineOf (gapOf dress row) ws ++ edgeOf (gapOf dress row) row ++ [41] ++ behindOf dress row

inductive LnInv (g : List UInt8) (ws : List (List UInt8)) (v0 v1 v2 : Option Value) (ga : Addr) (ds : List D) (V : List (Option Value)) (N : List (Addr × Obj)) (B : Ph) : Prop
  | mk (l : List UInt8) (ns : List Int) (t : Tok) (va : Option Value) (h1 : (∃ gv n, B ga = some (listObj gv n) ∧ BytesAre gv [[32], g])) (h2 : ds = ns.map .int) (h3 : V = [v0, v1, v2, some (.ref ga), some (.bytes l.toArray t), va, none, none, none]) (h4 : N = []) (h5 : ns.foldl (lineStep g ws) l = lineOf g ws) (h6 : l.length + 20 * ns.length ≤ 200) (h7 : (∀ n ∈ ns, 1 ≤ n ∧ n ≤ 8)) : LnInv g ws v0 v1 v2 ga ds V N B

section
variable {prog : Program} {w : World} {ad : Ad} {A : Around} {E : Value → Shared → Prop} {s : Shared} {B : Ph}
variable {a : Addr} {xs : List Value} {m j : Nat} {k row dress : Int} {t u : Tok} {x : Value} {n : Nat}

theorem getD_len {tab : List (List UInt8)} {i b : Nat} (h : ∀ l ∈ tab, l.length ≤ b) : (tab.getD i []).length ≤ b := by
  by_cases hi : i < tab.length
  · rw [List.getD_eq_getElem?_getD, List.getElem?_eq_getElem hi]
    one_place
    exact h _ (List.getElem_mem hi)
  · rw [List.getD_eq_getElem?_getD, List.getElem?_eq_none (by lia)]
    simp

set_option maxRecDepth 100000 in
set_option maxHeartbeats 4000000 in
theorem f_reply {ws : List (List UInt8)} {wa : Value} {Q : Value → Shared → Prop} (hw : Wd w ad B) (hkeep : ∀ a o, B a = some o → s.heap.get? a = some o) (hA : AOk (n + 1) A) (hr0 : 0 ≤ row) (hr1 : row < 3) (hws : Rep B wa (.list (ws.map .bytes))) (hlen : ws.length = 9) (hw8 : ∀ x ∈ ws, x.length ≤ 10)
    (h : ∀ t s', Ret B s s' B → Q (.bytes (reply row ws dress).toArray t) s') : wpAny (model prog w) A (call (.ref (ad.fn 20)) [.int row t, wa, .int dress u]) Q E s := by
  refine def_call (d := dn 20) (ps := ["row", "words", "dress"]) (rest := ["gaps", "line", "at", "edge", "ahead", "behind"]) (xs := ["row", "words", "dress", "gaps", "line", "at", "edge", "ahead", "behind"]) (V0 := [some _, some _, some _, none, none, none, none, none, none]) (gs := ["range"]) hw hkeep (hw.fn 20 (by decide)) hA rfl rfl rfl (by decide +kernel) rfl rfl rfl (fun z_ z_1 z_2 => rfl) ?_
  intro env s' he c
  have hA' := (hA.deeper env).handled
  have m4 : ∀ x : Int, 0 ≤ x % 4 ∧ (x % 4).toNat < 4 ∧ x % 4 < 2 ^ 63 := fun x => by
    have h1 := Int.emod_nonneg x (show (4 : Int) ≠ 0 by decide)
    have h2 := Int.emod_lt_of_pos x (show (0 : Int) < 4 by decide)
    exact ⟨h1, by lia, by lia⟩
  have hp : (0 : Int) < 4 ^ row.toNat := Int.pow_pos (by decide)
  have hlog : ((4 : Int) ^ row.toNat).natAbs.log2 < 9000 := by
    have key : ∀ j : Nat, j ≤ 3 → ((4 : Int) ^ j).natAbs.log2 < 9000 := by decide +kernel
    exact key _ (by lia)
  have hbits : (Builtin.Int.intBits 4 : Int) * row ≤ 2 ^ 27 := by
    have : (Builtin.Int.intBits 4 : Int) = 3 := by decide +kernel
    rw [this]; lia
  obtain ⟨wa, n0, xs, rfl, hB, rr⟩ := Rep.isList hws
  have hr := rr.bytesAre
  one_place
  refine @s_enterL _ _ _ _ _ _ _ _ _ _ _ _ _ _ _ _ (by assumption) ?_; intro Q' hQ' V_ C_ S_ c_
  repeat kcf_m
  refine x_list Cx.stab (by assumption) ?_
  repeat kcf_m
  refine x_list Cx.stab (by assumption) ?_
  repeat kcf_m
  refine ⟨_, by assumption, len_ok rfl, fun a1 s1 B1 le1 hB1 c1 => ?_⟩
  repeat kcf_m
  have i1 := m4 (dress + row)
  refine x_itemB (ls := spaces) rfl (Stab.isList Cx.stab (by assumption) hB1) (.cons _ _ (.cons _ _ (.cons _ _ (.cons _ _ .nil)))) i1.1 i1.2.1 i1.2.2 ?_
  intro _
  repeat kcf_m
  refine ⟨_, by assumption, len_ok rfl, fun ga s2 B2 le2 hg c2 => ?_⟩
  obtain ⟨gv, hg1, hg2⟩ : ∃ gv, B2 ga = some (listObj gv) ∧ BytesAre gv [[32], gapOf dress row] := ⟨_, hg, .cons _ _ (.cons _ _ .nil)⟩
  clear hg
  repeat kcf_m
  have hB2 := le2 _ _ (le1 _ _ hB)
  refine x_itemB rfl (Stab.isList Cx.stab (by assumption) hB2) hr (by decide) (by rw [hlen]; decide) (by decide) ?_
  intro _
  repeat kcf_m
  refine x_for (fun z_ => rfl) (fun R hRR => ?_)
  repeat kcf_m
  refine x_iterR (m := 8) (by assumption) (by assumption) (by decide +kernel) (by decide +kernel) ?_
  intro I M L s₃ It hM c
  refine f_loop (LnInv (gapOf dress row) ws (some (.int row t)) (some (.ref wa)) (some (.int dress u)) ga) (.inl ⟨_, _, rfl⟩) It hM hA' ⟨_, [1, 2, 3, 4, 5, 6, 7, 8], _, _, ⟨gv, 0, ?_, hg2⟩, rfl, rfl, rfl, rfl, ?_, by decide⟩ (Ph.le_refl _) c ?_ ?_
  · exact (by assumption : Ph.le B2 _) _ _ hg1
  · have := getD_len (i := 0) hw8
    simp only [List.length_cons, List.length_nil]
    exact Nat.le_trans (Nat.add_le_add_right this _) (by decide)
  · rintro d ds V N B' s₄ L v ⟨l, ns, tl, va, ⟨gv, gn, hg1, hg2⟩, e1, rfl, rfl, e3, e4, e5⟩ le hr' c Qb Eb hQb
    cases ns with
    | nil => cases e1
    | cons i ns =>
      simp only [List.map_cons, List.cons.injEq] at e1
      obtain ⟨rfl, rfl⟩ := e1
      obtain ⟨ti, rfl⟩ := Rep.isInt hr'
      have hi := e5 i (.head _)
      have hB9 := c.ret.le _ _ hB
      have j1 := Int.emod_nonneg i (show (2 : Int) ≠ 0 by decide)
      have j2 := Int.emod_lt_of_pos i (show (0 : Int) < 2 by decide)
      have z1 : ([[32], gapOf dress row].getD (i % 2).toNat []).length ≤ 10 := getD_len (fun x hx => by
        rcases List.mem_cons.mp hx with rfl | hx
        · decide
        · cases List.mem_singleton.mp hx
          exact Nat.le_trans (getD_len (b := 2) (by decide)) (by decide))
      have z2 : (ws.getD i.toNat []).length ≤ 10 := getD_len hw8
      simp only [List.length_cons] at e4
      repeat kcf_m
      refine x_itemB rfl (Stab.isList Cx.stab (by assumption) hg1) hg2 j1 (by simp; lia) (by lia) ?_
      intro _
      refine x_addB Cx.stab (by assumption) (by lia) ?_
      intro _ _ _
      repeat kcf_m
      refine x_itemB rfl (Stab.isList Cx.stab (by assumption) hB9) hr (by lia) (by lia) (by lia) ?_
      intro _
      refine x_addB Cx.stab (by assumption) (by rw [List.length_append]; lia) ?_
      intro _ _ _
      repeat kcf_m
      refine ⟨_, _, _, ⟨lineStep (gapOf dress row) ws l i, ns, _, _, ⟨gv, gn, hg1, hg2⟩, rfl, rfl, rfl, e3, ?_, fun n hn => e5 n (.tail _ hn)⟩, Ph.le_refl _, by assumption⟩
      unfold lineStep
      rw [List.length_append, List.length_append]; lia
  · rintro V N B' s₄ ⟨l, ns, tl, va, ⟨gv, gn, hg1, hg2⟩, e1, rfl, rfl, e3, e4, e5⟩ le c
    cases ns with
    | cons i ns => cases e1
    | nil =>
      simp only [List.foldl_nil] at e3
      simp only [List.length_nil, Nat.mul_zero, Nat.add_zero] at e4
      have h' : ∀ t s', Ret B s s' B → Q (.bytes (aheads.getD (dress / 4 / 4 ^ row.toNat % 4).toNat [] ++ flagsAt ++ [[], [32], gapOf dress row].getD row.toNat [] ++ l ++ [[], [32], gapOf dress row].getD row.toNat [] ++ [41] ++ behinds.getD (dress / 256 / 4 ^ row.toNat % 4).toNat []).toArray t) s' := by rw [e3]; exact h
      clear h e3
      have i2 := m4 (dress / 4 / 4 ^ row.toNat)
      have i3 := m4 (dress / 256 / 4 ^ row.toNat)
      have z3 : ([[], [32], gapOf dress row].getD row.toNat []).length ≤ 2 := getD_len (fun x hx => by
          rcases List.mem_cons.mp hx with rfl | hx
          · decide
          · rcases List.mem_cons.mp hx with rfl | hx
            · decide
            · cases List.mem_singleton.mp hx
              exact getD_len (b := 2) (by decide))
      have z4 : (aheads.getD (dress / 4 / 4 ^ row.toNat % 4).toNat []).length ≤ 40 := getD_len (by decide)
      have z5 : (behinds.getD (dress / 256 / 4 ^ row.toNat % 4).toNat []).length ≤ 40 := getD_len (by decide)
      repeat kcf_m
      refine x_list Cx.stab (by assumption) ?_
      repeat kcf_m
      refine x_itemB rfl (Stab.isList Cx.stab (by assumption) hg1) hg2 (by decide) (by simp) (by decide) ?_
      intro _
      repeat kcf_m
      refine ⟨_, by assumption, len_ok rfl, fun a3 s' B3 le3 hB3 c3 => ?_⟩
      repeat kcf_m
      refine x_itemB (ls := [[], [32], gapOf dress row]) rfl (Stab.isList Cx.stab (by assumption) hB3) (.cons _ _ (.cons _ _ (.cons _ _ .nil))) hr0 (by simp; lia) (by lia) ?_
      intro _
      generalize [[], [32], gapOf dress row].getD row.toNat [] = ed at z3 h' ⊢
      repeat kcf_m
      refine x_list Cx.stab (by assumption) ?_
      repeat kcf_m
      refine ⟨_, by assumption, len_ok rfl, fun a4 s' B4 le4 hB4 c4 => ?_⟩
      repeat kcf_m
      refine x_pow Cx.stab (by assumption) hr0 hbits ?_
      intro _ _ _
      repeat kcf_m
      refine x_itemB (ls := aheads) rfl (Stab.isList Cx.stab (by assumption) hB4) (.cons _ _ (.cons _ _ (.cons _ _ (.cons _ _ .nil)))) i2.1 i2.2.1 i2.2.2 ?_
      intro _
      generalize aheads.getD (dress / 4 / 4 ^ row.toNat % 4).toNat [] = ah at z4 h' ⊢
      repeat kcf_m
      refine x_list Cx.stab (by assumption) ?_
      repeat kcf_m
      refine ⟨_, by assumption, len_ok rfl, fun a5 s' B5 le5 hB5 c5 => ?_⟩
      repeat kcf_m
      refine x_pow Cx.stab (by assumption) hr0 hbits ?_
      intro _ _ _
      repeat kcf_m
      refine x_itemB (ls := behinds) rfl (Stab.isList Cx.stab (by assumption) hB5) (.cons _ _ (.cons _ _ (.cons _ _ (.cons _ _ .nil)))) i3.1 i3.2.1 i3.2.2 ?_
      intro _
      generalize behinds.getD (dress / 256 / 4 ^ row.toNat % 4).toNat [] = bh at z5 h' ⊢
      repeat kcf_m
      refine x_addB Cx.stab (by assumption) (by simp only [List.length_append, List.length_cons, List.length_nil]; lia) ?_
      intro _ _ _
      repeat kcf_m
      refine x_addB Cx.stab (by assumption) (by simp only [List.length_append, List.length_cons, List.length_nil]; lia) ?_
      intro _ _ _
      repeat kcf_m
      refine x_addB Cx.stab (by assumption) (by simp only [List.length_append, List.length_cons, List.length_nil]; lia) ?_
      intro _ _ _
      repeat kcf_m
      refine x_addB Cx.stab (by assumption) (by simp only [List.length_append, List.length_cons, List.length_nil]; lia) ?_
      intro _ _ _
      repeat kcf_m
      refine x_addB Cx.stab (by assumption) (by simp only [List.length_append, List.length_cons, List.length_nil]; lia) ?_
      intro _ _ _
      repeat kcf_m
      refine x_addB Cx.stab (by assumption) (by simp only [List.length_append, List.length_cons, List.length_nil]; lia) ?_
      intro _ _ _
      one_place
      exact h' _ _ ((Cx.ret (by assumption)).weaken hkeep)
end
end
section
set_option maxRecDepth 100000
open PySem PySem.Calls PyProof.Rows PySem.W

noncomputable def splitW (l : List UInt8) : List (List UInt8) := Builtin.Bytes.words (l.length + 1) (l.length + 1) l
theorem opt0 (id : String) : Builtin.Bytes.bindOptional id "split" ["sep", "maxsplit"] [] [] = pure [none, none] := rfl

theorem words_len : ∀ (f n : Nat) (l : List UInt8), (∀ x ∈ Builtin.Bytes.words f n l, x.length ≤ l.length) ∧ (Builtin.Bytes.words f n l).length ≤ f
  | 0, _, _ => ⟨(fun z_ h => nomatch h), Nat.le_refl _⟩
  | f + 1, n, l => by
    unfold Builtin.Bytes.words
    have hd : (l.dropWhile Builtin.Bytes.isSpace).length ≤ l.length := (List.dropWhile_sublist _).length_le
    generalize l.dropWhile Builtin.Bytes.isSpace = r at hd
    cases r with
    | nil => exact ⟨fun z_ h => (List.not_mem_nil h).elim, Nat.zero_le _⟩
    | cons c r =>
      simp only
      split
      · exact ⟨fun x h => by cases List.mem_singleton.mp h; exact hd, by simp⟩
      · have ih := words_len f (n - 1) ((c :: r).dropWhile fun x => !Builtin.Bytes.isSpace x)
        have h1 : ((c :: r).dropWhile fun x => !Builtin.Bytes.isSpace x).length ≤ (c :: r).length := (List.dropWhile_sublist _).length_le
        have h2 : ((c :: r).takeWhile fun x => !Builtin.Bytes.isSpace x).length ≤ (c :: r).length := (List.takeWhile_sublist _).length_le
        refine ⟨fun x h => ?_, ?_⟩
        · rcases List.mem_cons.mp h with rfl | h
          · lia
          · have := ih.1 x h; lia
        · rw [List.length_cons]; have := ih.2; lia

section
variable {M : Model} {A : Around} {E : Value → Shared → Prop}
theorem mapM_bytes {Q : List Value → Shared → Prop} : ∀ (ls : List (List UInt8)) (s : Shared), (∀ x ∈ ls, x.length ≤ sizeLine) → (∀ vs k, BytesAre vs ls → Q vs { s with toks := k }) → wpAny M A (ls.mapM fun w => Builtin.Bytes.Kind.bytes.new w.toArray) Q E s
  | [], s, _, h => wpAny_pure (h [] s.toks .nil)
  | x :: ls, s, hz, h => by
    rw [List.mapM_cons]
    show wpAny M A (mkBytes x.toArray >>= _) Q E s
    unfold mkBytes
    rw [if_neg (by have := hz x (.head _); simpa using this)]
    have hf : wpAny M A (fresh >>= fun t => pure (Value.bytes x.toArray t)) (fun v s₁ => ∃ t, v = .bytes x.toArray t ∧ s₁ = { s with toks := s.toks + 1 }) E s := by
      repeat (any_goals (first | assumption | wp_step))
      exact ⟨_, rfl, rfl⟩
    refine wpAny_bind (wpAny_mono hf (fun v s₁ hv => ?_) fun z_ z_1 e => e)
    obtain ⟨t, rfl, rfl⟩ := hv
    exact wpAny_bind (mapM_bytes ls _ (fun y hy => hz y (.tail _ hy)) fun vs k hvs => wpAny_pure (h _ _ (.cons x t hvs)))

end
theorem entry_split : entryFor table "bytes.split" = some Builtin.«bytes.split» := entryFor_of_tree (by kernel_rfl)
theorem slot_split : Slot "bytes" "split" "bytes.split" :=
  .of (owner := "bytes") (n := "split") (by rw [typeLookup_type, builtinLookup_eq_fast]; kernel_rfl) (by decide +kernel) (by decide +kernel) (by decide +kernel)
    (by first | exact .inl (by decide +kernel) | exact .inr (by decide +kernel)) (by rw [isSubtype_type]; kernel_rfl)
theorem args_split (a : Value) : argsOk "bytes.split" ⟨[a], []⟩ := by unfold argsOk; kernel_rfl
theorem type_split : typeOf (.builtin "bytes.split") = pure (.type "method_descriptor") := by show builtinType _ = _; rw [builtinType_eq_fast]; kernel_rfl

theorem split_one {l : List UInt8} (hne : l ≠ []) (h : ¬ (l.toArray.any Builtin.Bytes.isSpace = true)) : splitW l = [l] := by
  have h' : ∀ x ∈ l, Builtin.Bytes.isSpace x = false := fun x hx => by
    cases e : Builtin.Bytes.isSpace x with
    | false => rfl
    | true => exact absurd (by simp [List.any_eq_true]; exact ⟨x, hx, e⟩) h
  have hd : l.dropWhile Builtin.Bytes.isSpace = l := by
    cases l with
    | nil => rfl
    | cons a r => rw [List.dropWhile_cons, h' a (.head _)]; rfl
  have ht : l.takeWhile (fun x => !Builtin.Bytes.isSpace x) = l := by
    have key : ∀ m : List UInt8, (∀ x ∈ m, Builtin.Bytes.isSpace x = false) → m.takeWhile (fun x => !Builtin.Bytes.isSpace x) = m := by
      intro m
      induction m with
      | nil => intro _; rfl
      | cons a r ih => intro hm; rw [List.takeWhile_cons, hm a (.head _)]; simp only [Bool.not_false, if_true]; rw [ih fun x hx => hm x (.tail _ hx)]
    exact key l h'
  have hr : l.dropWhile (fun x => !Builtin.Bytes.isSpace x) = [] := by
    have := List.takeWhile_append_dropWhile (p := fun x => !Builtin.Bytes.isSpace x) (l := l)
    rw [ht] at this
    simpa using this
  unfold splitW Builtin.Bytes.words
  rw [hd]
  cases l with
  | nil => exact absurd rfl hne
  | cons a r =>
    simp only [List.length_cons, Nat.add_eq_zero_iff, Nat.one_ne_zero, and_false, beq_iff_eq, if_false]
    rw [ht, hr]
    simp [Builtin.Bytes.words]

section
variable {prog : Program} {w : World} {A : Around} {E : Value → Shared → Prop} {s : Shared}
set_option maxHeartbeats 3200000 in
theorem bytes_split {l : List UInt8} {t : Tok} {Q : Value → Shared → Prop} (hsz : l.length ≤ 1000000) (h : ∀ vs k, BytesAre vs (splitW l) → Q (.ref s.heap.objs.size) { s with heap := s.heap.push (listObj vs), toks := k }) :
    wpAny (model prog w) A (call (.builtin "bytes.split") [.bytes l.toArray t]) Q E s := by
  have hTy : s.TypeIs (.bytes l.toArray t) "bytes" := W.typeIs_bytes _ _ _
  refine wpAny_call (codeAny_call_builtin slot_split.plain entry_split (slot_split.check _ _ _ _ _ _ _ _ hTy (args_split _) ?_))
  unfold Builtin.«bytes.split» Builtin.Bytes.splitM
  have h2 : 1000001 ≤ sizeLine := Nat.le_of_ble_eq_true rfl
  obtain ⟨hp', g, d, tk, os⟩ := s
  dsimp only
  refine wpAny_bind (wpAny_of_eq (opt0 _) ?_)
  dsimp only
  repeat (any_goals (first | assumption | ((with_reducible show wpAny _ _ (List.mapM _ _ >>= _) _ _ _); refine stop_in ?_) | wp_step))
  refine wpAny_ite_split (fun hx => ?_) fun z_ => ?_
  · have hx2 : (decide (l.length + 1 > 0) && !l.toArray.isEmpty && !l.toArray.any Builtin.Bytes.isSpace) = true := hx
    simp only [Bool.and_eq_true, Bool.not_eq_true', decide_eq_true_eq] at hx2
    have hne : l ≠ [] := by
      rintro rfl
      exact absurd hx2.1.2 (by decide)
    have he := split_one hne (by rw [hx2.2]; decide)
    unfold Builtin.Bytes.Kind.same
    repeat (any_goals (first | assumption | wp_step))
    exact h _ _ (by rw [he]; exact .cons l t .nil)
  · have hw := words_len (l.length + 1) (l.length + 1) l
    refine wpAny_bind (mapM_bytes (splitW l) _ (fun x hx => ?_) fun vs k hvs => ?_)
    · have : x.length ≤ l.length := hw.1 x hx
      lia
    · have hl : vs.length ≤ 1000001 := by
        rw [hvs.length]
        exact Nat.le_trans hw.2 (by lia)
      refine wpAny_bind (wpAny_newList ?_ (by lia))
      exact wpAny_pure (h _ _ hvs)
end
end
section
open PySem PySem.Calls PyProof.Rows

section
variable {prog : Program} {w : World} {ad : Ad} {A : Around} {E : Value → Shared → Prop} {s : Shared} {B : Ph} {env : Env} {sc : Sc} {V : List (Option Value)} {s₀ : Shared} {B₀ : Ph} {N : List (Addr × Obj)} {a : Addr}
theorem s_extend {x : Str} {elt : Expr} {p1 apos cpos epos : Pos} {xs : List Value} {n : Nat} {Q : Flow → Shared → Prop} (c : Cx w ad s₀ B₀ env sc V N B s) (hx : At sc.xs V x (some (.ref a))) (hN : (a, listObj xs n) ∈ N)
    (hbase : attributeBase (.Name x p1) "extend" env (eval (.Name x p1) env) = eval (.Name x p1) env) (hline : (apos.endLine == cpos.line) = true) (htrees : backTo cpos (starEach [elt] env) = [(false, eval elt env)]) (hsw : swapsWith (.Call (.Attribute (.Name x p1) "extend" apos) [elt] [] cpos) none epos.line env = pure false)
    (h : ∀ s', Cx w ad s₀ B₀ env sc V N B s' → wpAny (model prog w) A (eval elt env) (fun y s₂ => ∃ V' N' B' xs n b ys m, y = .ref b ∧ Cx w ad s₀ B₀ env sc V' N' B' s₂ ∧ (a, listObj xs n) ∈ N' ∧ B' b = some (listObj ys m) ∧ xs.length + ys.length ≤ sizeLine ∧
      ∀ n' N'' s', Sel a (listObj xs n) (listObj (xs ++ ys) n') N' N'' → Cx w ad s₀ B₀ env sc V' N'' B' s' → Q .next s') E s') :
    wpAny (model prog w) A (exec (.Expr (.Call (.Attribute (.Name x p1) "extend" apos) [elt] [] cpos) epos) env) Q E s := by
  refine wpAny_Expr ?_ (interactive_ok c.rd.ok.kind) hsw
  refine wpAny_Call_method1_late hbase hline htrees ?_
  refine x_name Cx.stab c hx ?_
  refine ⟨"list", "list.extend", F.plainAttrs_list, F.slot_list_extend, F.type_list_extend, ⟨_, c.own _ hN, rfl⟩, fun a' e => ?_, ?_⟩
  · cases e; exact ⟨_, c.own _ hN, rfl⟩
  refine Calls.callWith_builtin rfl (Calls.evalArgs_plain (Calls.spliced_cons (wpAny_mono (h s c) (fun y s₂ h₂ => Calls.spliced_nil ?_) fun z_ z_1 e => e)))
  obtain ⟨V', N', B', xs, n, b, ys, m, rfl, c', hN', hb, hz, hq⟩ := h₂
  have ho := c'.own _ hN'
  have hb := c'.rd.keep _ _ hb
  have hsz : xs.toArray.size ≤ sizeLine := by simp only [List.size_toArray]; lia
  refine call_meets F.slot_list_extend ⟨_, ho, rfl⟩ F.entry_list_extend (F.args_list_extend_2 _ _) (AutoSeq1.list_extend_list_list_0 a xs.toArray n b ys.toArray m ?_ hsz (by simp only [List.size_toArray]; lia)) ⟨ho, hb, ?_⟩
  · simp only [Builtin.List.listTooLong, List.size_toArray, Bool.and_eq_true, decide_eq_true_eq, not_and]
    intro _
    lia
  · obtain ⟨n', e⟩ : ∃ n', Obj.mapSeq (fun x => x ++ ys.toArray) (listObj xs n) = listObj (xs ++ ys) n' := by
      simp only [Obj.mapSeq, listObj]
      exact ⟨_, by simp; rfl⟩
    obtain ⟨N'', P⟩ : ∃ N'', Sel a (listObj xs n) (listObj (xs ++ ys) n') N' N'' := by
      clear hq
      have := hN'
      generalize N' = l at this
      induction l with
      | nil => cases this
      | cons p r ih =>
        rcases List.mem_cons.mp this with e | e
        · subst e; exact ⟨_, .head⟩
        · obtain ⟨q, hq⟩ := ih e; exact ⟨_, .tail hq⟩
    exact hq n' N'' _ P (c'.upd (t := s₂.toks) P (Heap.SameBut.update ..) (by rw [Heap.get?_update_self _ ho (by rw [e]; rfl), e]))
end

noncomputable def nothings (wd : List UInt8) : List (List UInt8) :=
  [[70, 76, 65, 71, 83, 32, 32, 40] ++ wd ++ [41], [70, 76, 65, 71, 83, 32, 40] ++ wd ++ [41] ++ [32, 70, 76, 65, 71, 83, 32, 40, 41], [42, 32, 79, 75, 13, 10] ++ ([70, 76, 65, 71, 83, 32, 40] ++ wd ++ [41]),
    [70, 76, 65, 71, 83, 40] ++ wd ++ [41], [70, 76, 65, 71, 83, 32, 40] ++ wd, [102, 108, 97, 103, 115, 32, 40] ++ wd ++ [41]]
noncomputable def nothing (wd : List UInt8) (dress : Int) : List UInt8 := (nothings wd).getD (dress % 6).toNat []

section
variable {prog : Program} {w : World} {ad : Ad} {A : Around} {E : Value → Shared → Prop} {s : Shared} {B : Ph}
variable {a : Addr} {xs : List Value} {m j : Nat} {k row dress : Int} {t u : Tok} {x : Value} {n : Nat}

set_option maxRecDepth 100000 in
set_option maxHeartbeats 4000000 in
theorem f_nothing {wd : List UInt8} {Q : Value → Shared → Prop} (hw : Wd w ad B) (hkeep : ∀ a o, B a = some o → s.heap.get? a = some o) (hA : AOk (n + 1) A) (hz : wd.length ≤ 100)
    (h : ∀ t s', Ret B s s' B → Q (.bytes (nothing wd dress).toArray t) s') : wpAny (model prog w) A (call (.ref (ad.fn 21)) [.bytes wd.toArray t, .int dress u]) Q E s := by
  refine def_call (d := dn 21) (ps := ["word", "dress"]) (rest := ["shut", "bare"]) (xs := ["word", "dress", "shut", "bare"]) (V0 := [some _, some _, none, none]) (gs := []) hw hkeep (hw.fn 21 (by decide)) hA rfl rfl rfl (by decide +kernel) rfl rfl rfl (fun z_ z_1 z_2 => rfl) ?_
  intro env s' he c
  have z0 : ([70, 76, 65, 71, 83, 32, 40] : List UInt8).length + wd.length ≤ 16777216 := by simp only [List.length_cons, List.length_nil]; lia
  have d0 := Int.emod_nonneg dress (show (6 : Int) ≠ 0 by decide)
  have d1 := Int.emod_lt_of_pos dress (show (0 : Int) < 6 by decide)
  one_place
  refine @s_enterL _ _ _ _ _ _ _ _ _ _ _ _ _ _ _ _ (by assumption) ?_; intro Q' hQ' V_ C_ S_ c_
  repeat kcf_m
  refine x_addB Cx.stab (by assumption) (by simp only [List.length_append, List.length_cons, List.length_nil]; lia) ?_
  intro _ _ _
  repeat kcf_m
  refine x_listO (by assumption) ?_
  repeat (first | kcf_m | (refine x_addB Cx.stab (by assumption) (by simp only [List.length_append, List.length_cons, List.length_nil]; lia) ?_; intro _ _ _))
  refine ⟨_, _, _, by assumption, len_ok rfl, fun ba s' c => ?_⟩
  repeat kcf_m
  refine s_extend (a := ba) (by assumption) (by kd_p) (.head _) rfl rfl rfl rfl ?_
  intro s5 c5
  refine x_list Cx.stab (by assumption) ?_
  repeat (first | kcf_m | (refine x_addB Cx.stab (by assumption) (by simp only [List.length_append, List.length_cons, List.length_nil]; lia) ?_; intro _ _ _))
  refine ⟨_, by assumption, len_ok rfl, fun b1 s' B1 le1 hB1 c1 => ?_⟩
  refine ⟨_, _, _, _, _, _, _, _, rfl, c1, .head _, hB1, len_ok rfl, fun n' N'' s' P c => ?_⟩
  cases P with
  | tail P => cases P
  | head =>
    repeat kcf_m
    refine x_itemB (ls := nothings wd) rfl (Cx.isList (by assumption) (.head _)) (.cons _ _ (.cons _ _ (.cons _ _ (.cons _ _ (.cons _ _ (.cons _ _ .nil)))))) d0 (by simp [nothings]; lia) (by lia) ?_
    intro _
    one_place
    exact h _ _ ((Cx.ret (by assumption)).weaken hkeep)
end
end
section
open PySem PySem.Calls PyProof.Rows

section
variable {prog : Program} {w : World} {ad : Ad} {A : Around} {E : Value → Shared → Prop} {env : Env} {xs gs : List Str} {V : List (Option Value)} {C : Ph → Shared → Prop} {Bm : Ph}

noncomputable def Ev (prog : Program) (w : World) (A : Around) (E : Value → Shared → Prop) (env : Env) (C : Ph → Shared → Prop) (Bm : Ph) (e : Expr) (d : D) : Prop :=
  ∀ B s, Bm.le B → C B s → wpAny (model prog w) A (eval e env) (fun v s' => ∃ B', B.le B' ∧ Rep B' v d ∧ C B' s') E s
inductive Evs (prog : Program) (w : World) (A : Around) (E : Value → Shared → Prop) (env : Env) (C : Ph → Shared → Prop) (Bm : Ph) : List Expr → List D → Prop
  | nil : Evs prog w A E env C Bm [] []
  | cons {e : Expr} {es : List Expr} {d : D} {ds : List D} (he : starEach (e :: es) env = (false, eval e env) :: starEach es env) (h : Ev prog w A E env C Bm e d) (r : Evs prog w A E env C Bm es ds) : Evs prog w A E env C Bm (e :: es) (d :: ds)

theorem Evs.args {pos : Pos} {es : List Expr} {ds : List D} (h : Evs prog w A E env C Bm es ds) : ∀ (B : Ph) (s : Shared), Bm.le B → C B s → wpAny (model prog w) A (spliced (backTo pos (starEach es env))) (fun vs s' => ∃ B', B.le B' ∧ Reps B' vs ds ∧ C B' s') E s := by
  induction h with
  | nil => exact fun B s z_ c => x_args0 ⟨B, Ph.le_refl B, .nil, c⟩
  | cons he h r ih =>
    intro B s le c
    refine x_args he (wpAny_mono (h B s le c) (fun v s₁ h₁ => ?_) fun z_ z_1 x => x)
    obtain ⟨B₁, le1, hv, c1⟩ := h₁
    refine wpAny_mono (ih B₁ s₁ (Ph.le_trans le le1) c1) (fun vs s₂ h₂ => ?_) fun z_ z_1 x => x
    obtain ⟨B₂, le2, hvs, c2⟩ := h₂
    exact ⟨B₂, Ph.le_trans le1 le2, .cons (hv.mono le2) hvs, c2⟩

theorem Ev.list (S : Stab w ad env ⟨xs, gs⟩ V C) {es : List Expr} {ds : List D} {pos : Pos} (hz : ds.length ≤ sizeLine) (h : Evs prog w A E env C Bm es ds) : Ev prog w A E env C Bm (.List es pos) (.list ds) := fun B s le c => by
  refine x_list S c (wpAny_mono (h.args B s le c) (fun vs s₁ h₁ => ?_) fun z_ z_1 x => x)
  obtain ⟨B₁, le1, hvs, c1⟩ := h₁
  exact ⟨B₁, c1, by rw [hvs.length]; exact hz, fun a s' B' le2 hB c2 => ⟨B', Ph.le_trans le1 le2, .list a 0 vs ds hB (hvs.mono le2), c2⟩⟩
theorem Ev.tuple (S : Stab w ad env ⟨xs, gs⟩ V C) {es : List Expr} {ds : List D} {k : Nat} {pos : Pos} (hz : ds.length ≤ sizeLine) (h : Evs prog w A E env C Bm es ds) : Ev prog w A E env C Bm (.Tuple es k pos) (.tuple ds) := fun B s le c => by
  refine x_tuple S c (wpAny_mono (h.args B s le c) (fun vs s₁ h₁ => ?_) fun z_ z_1 x => x)
  obtain ⟨B₁, le1, hvs, c1⟩ := h₁
  exact ⟨B₁, c1, by rw [hvs.length]; exact hz, fun a s' B' le2 hB c2 => ⟨B', Ph.le_trans le1 le2, .tuple a 0 vs ds hB (hvs.mono le2), c2⟩⟩
theorem Ev.int (S : Stab w ad env ⟨xs, gs⟩ V C) {i : Int} {k : Nat} {pos : Pos} : Ev prog w A E env C Bm (.Constant (.int i) k pos) (.int i) := fun B s z_ c => x_int S c fun t z_ c' => ⟨B, Ph.le_refl B, .int i t, c'⟩
theorem Ev.none {k : Nat} {pos : Pos} : Ev prog w A E env C Bm (.Constant .none k pos) .none := fun B z_ z_1 c => x_none ⟨B, Ph.le_refl B, .none, c⟩
theorem Ev.name (S : Stab w ad env ⟨xs, gs⟩ V C) {x : Str} {v : Value} {d : D} {pos : Pos} (hx : At xs V x (some v)) (hv : Rep Bm v d) : Ev prog w A E env C Bm (.Name x pos) d := fun B s le c => y_name S c hx ⟨B, Ph.le_refl B, hv.mono le, c⟩
theorem Ev.glob (S : Stab w ad env ⟨xs, gs⟩ V C) {x : Str} {a : Addr} {pos : Pos} (hx : List.Mem x gs) (hv : Means ad x (.ref a)) : Ev prog w A E env C Bm (.Name x pos) (.ref a) := fun B s z_ c => y_glob S c hx hv ⟨B, Ph.le_refl B, .ref a, c⟩
theorem Ev.addL (S : Stab w ad env ⟨xs, gs⟩ V C) {e1 e2 : Expr} {ds es : List D} {pos : Pos} (hz : ds.length + es.length ≤ sizeLine) (h1 : Ev prog w A E env C Bm e1 (.list ds)) (h2 : Ev prog w A E env C Bm e2 (.list es)) : Ev prog w A E env C Bm (.BinOp e1 .Add e2 pos) (.list (ds ++ es)) := fun B s le c => by
  refine x_bin (wpAny_mono (h1 B s le c) (fun v s₁ ⟨B₁, le1, hv, c1⟩ => wpAny_mono (h2 B₁ s₁ (Ph.le_trans le le1) c1) (fun u s₂ ⟨B₂, le2, hu, c2⟩ => ?_) fun z_ z_1 x => x) fun z_ z_1 x => x)
  have hv := hv.mono le2
  obtain ⟨a, n, vs, rfl, hB, r⟩ := Rep.isList hv
  obtain ⟨b, m, us, rfl, hB', r'⟩ := Rep.isList hu
  refine x_addL S c2 (S.isList c2 hB) (S.isList c2 hB') (by rw [r.length, r'.length]; exact hz) fun e s' B' le3 hB3 c3 => ?_
  exact ⟨B', Ph.le_trans le1 (Ph.le_trans le2 le3), .list e 0 _ _ hB3 ((r.append r').mono le3), c3⟩

inductive Lays (ad : Ad) (xs gs : List Str) (V : List (Option Value)) (Bm : Ph) : List Expr → List D → Prop
  | nil : Lays ad xs gs V Bm [] []
  | int {i : Int} {k : Nat} {p : Pos} {es : List Expr} {ds : List D} (r : Lays ad xs gs V Bm es ds) : Lays ad xs gs V Bm (.Constant (.int i) k p :: es) (.int i :: ds)
  | none {k : Nat} {p : Pos} {es : List Expr} {ds : List D} (r : Lays ad xs gs V Bm es ds) : Lays ad xs gs V Bm (.Constant .none k p :: es) (.none :: ds)
  | tuple {k : Nat} {p : Pos} {es fs : List Expr} {ds gd : List D} (h : Lays ad xs gs V Bm fs gd) (hz : Nat.ble gd.length 16777216 = true) (r : Lays ad xs gs V Bm es ds) : Lays ad xs gs V Bm (.Tuple fs k p :: es) (.tuple gd :: ds)
  | list {p : Pos} {es fs : List Expr} {ds gd : List D} (h : Lays ad xs gs V Bm fs gd) (hz : Nat.ble gd.length 16777216 = true) (r : Lays ad xs gs V Bm es ds) : Lays ad xs gs V Bm (.List fs p :: es) (.list gd :: ds)
  | name {x : Str} {v : Value} {d : D} {p : Pos} {es : List Expr} {ds : List D} (hx : At xs V x (some v)) (hv : Rep Bm v d) (r : Lays ad xs gs V Bm es ds) : Lays ad xs gs V Bm (.Name x p :: es) (d :: ds)
  | glob {x : Str} {a : Addr} {p : Pos} {es : List Expr} {ds : List D} (hx : List.Mem x gs) (hv : Means ad x (.ref a)) (r : Lays ad xs gs V Bm es ds) : Lays ad xs gs V Bm (.Name x p :: es) (.ref a :: ds)
  | add {e1 e2 : Expr} {d1 d2 : List D} {p : Pos} {es : List Expr} {ds : List D} (h1 : Lays ad xs gs V Bm [e1] [.list d1]) (h2 : Lays ad xs gs V Bm [e2] [.list d2]) (hz : Nat.ble (d1.length + d2.length) 16777216 = true) (r : Lays ad xs gs V Bm es ds) : Lays ad xs gs V Bm (.BinOp e1 .Add e2 p :: es) (.list (d1 ++ d2) :: ds)
theorem Evs.one {e : Expr} {d : D} (h : Evs prog w A E env C Bm [e] [d]) : Ev prog w A E env C Bm e d := by
  cases h with | cons _ h _ => exact h
theorem Lays.evs (S : Stab w ad env ⟨xs, gs⟩ V C) {es : List Expr} {ds : List D} (h : Lays ad xs gs V Bm es ds) : Evs prog w A E env C Bm es ds := by
  induction h with
  | nil => exact .nil
  | int _ ih => exact .cons StConstant.stIt (.int S) ih
  | none _ ih => exact .cons StConstant.stIt .none ih
  | tuple _ hz _ i1 ih => exact .cons StTuple.stIt (.tuple S (len_ok hz) i1) ih
  | list _ hz _ i1 ih => exact .cons StList.stIt (.list S (len_ok hz) i1) ih
  | name hx hv _ ih => exact .cons StName.stIt (.name S hx hv) ih
  | glob hx hv _ ih => exact .cons StName.stIt (.glob S hx hv) ih
  | add _ _ hz _ i1 i2 ih => exact .cons StBinOp.stIt (.addL S (len_ok hz) i1.one i2.one) ih

theorem evThen {e : Expr} {d : D} {Q : Value → Shared → Prop} {s₀ : Shared} {B₀ : Ph} {N : List (Addr × Obj)} {B : Ph} {s : Shared} (c : Cx w ad s₀ B₀ env ⟨xs, gs⟩ V N B s)
    (h : Lays ad xs gs V B [e] [d]) (hq : ∀ v B' s', B.le B' → Rep B' v d → Cx w ad s₀ B₀ env ⟨xs, gs⟩ V N B' s' → Q v s') :
    wpAny (model prog w) A (eval e env) Q E s :=
  wpAny_mono ((h.evs Cx.stab).one B s (Ph.le_refl B) c) (fun v s' ⟨B', le, hv, c'⟩ => hq v B' s' le hv c') fun z_ z_1 x => x
end

noncomputable def unseenP : List (Int × Int) := [(173, 173), (847, 847), (6150, 6150), (6155, 6157), (8203, 8205), (8288, 8288), (65024, 65039), (65279, 65279)]
noncomputable def planesP : List (Int × Int) := (upto 17).map fun p => (65536 * p + 65534, 65536 * p + 65535)
noncomputable def shownP : List (Int × Int) := [(832, 833), (8206, 8207), (8234, 8238), (8298, 8303)]
noncomputable def tagsP : List (Int × Int) := [(917505, 917505), (917536, 917631)]
noncomputable def runsP : List (List (Int × Int)) := [unseenP, [(32, 32)], [(64976, 65007)] ++ planesP, [(65529, 65533)], [(12272, 12283)], shownP, tagsP]
noncomputable def rowD (ps : List (Int × Int)) : D := .list (ps.map pairD)
noncomputable def planeD : D → D
  | .int p => pairD (65536 * p + 65534, 65536 * p + 65535)
  | d => d

section
variable {prog : Program} {w : World} {ad : Ad} {A : Around} {E : Value → Shared → Prop} {s : Shared} {B : Ph} {n : Nat}

set_option maxRecDepth 100000 in
set_option maxHeartbeats 4000000 in
theorem f_runs {Q : Value → Shared → Prop} (hw : Wd w ad B) (hkeep : ∀ a o, B a = some o → s.heap.get? a = some o) (hA : AOk (n + 1) A)
    (h : ∀ v s' B', Ret B s s' B' → Rep B' v (.list (runsP.map rowD)) → Q v s') : wpAny (model prog w) A (call (.ref (ad.fn 16)) []) Q E s := by
  refine def_call (d := dn 16) (ps := []) (rest := ["unseen", "planes", "shown", "tags"]) (xs := ["unseen", "planes", "shown", "tags"]) (V0 := [none, none, none, none]) (gs := ["range"]) hw hkeep (hw.fn 16 (by decide)) hA rfl rfl rfl (by decide +kernel) rfl rfl rfl (fun z_ z_1 z_2 => rfl) ?_
  intro env s' he c
  one_place
  refine @s_enterL _ _ _ _ _ _ _ _ _ _ _ _ _ _ _ _ (by assumption) ?_; intro Q' hQ' V_ C_ S_ c_
  refine @s_assign _ _ _ _ _ _ _ _ _ _ _ SwList.swIt ?_
  refine @evThen _ _ _ _ _ _ _ _ _ _ (rowD unseenP) _ _ _ _ _ _ c (by unfold rowD; repeat constructor) fun v1 B1 s' le1 hv1 c => ?_
  refine @y_store _ _ _ _ _ _ _ _ _ _ _ _ _ _ _ _ _ _ c (by kd_p1) fun s' c => ?_
  one_place
  refine @s_enterL _ _ _ _ _ _ _ _ _ _ _ _ _ _ _ _ (by assumption) ?_; intro Q' hQ' V_ C_ S_ c_
  refine s_comp (p := fun z_ => true) (f := planeD) (tg := ["plane"]) (fr := []) (gs := []) (hA.deeper env).handled c (by rw [he]; decide +kernel) rfl (fun z_ => rfl) (sw_comp he (by decide +kernel)) ?_
  repeat kcf_m
  refine goR (m := 17) (by assumption) (by assumption) (by decide +kernel) (by decide +kernel) (CompOk.name .nil (len_ok rfl) ?_ ?_)
  · intro cenv K d v B' s E S hd le hr hK
    obtain ⟨p, hp, rfl⟩ := List.mem_map.mp hd
    obtain ⟨tp, rfl⟩ := Rep.isInt hr
    repeat kcf_m
    try ((with_reducible refine x_mul S (by assumption) (IntMulOk.of_left (by decide +kernel)) ?_); intro _ _ _; repeat kcf_m)
    try ((with_reducible refine x_mul S (by assumption) (IntMulOk.of_left (by decide +kernel)) ?_); intro _ _ _; repeat kcf_m)
    refine ⟨_, by assumption, len_ok rfl, fun a s' B1 le1 hB1 c1 => ?_⟩
    exact ⟨_, le1, .tuple a 0 _ _ hB1 (.cons (.int _ _) (.cons (.int _ _) .nil)), c1⟩
  · intro Dl n1 xs B2 le2 hxs
    refine ⟨_, by kd_p1, fun s' c => ?_⟩
    obtain ⟨B3, le3, hB3, c⟩ := c.freeze' Del.head
    have leR : Ph.le B1 B2 := by kln_le
    have hv2 : Rep B3 (.ref Dl) (rowD planesP) := .list Dl n1 xs _ hB3 (by
      have e : (List.map planeD (List.map D.int (steps 0 1 17))) = planesP.map pairD := by
        rw [planesP, upto, List.map_map, List.map_map]; rfl
      rw [e] at hxs
      exact hxs.mono le3)
    have hv1 := hv1.mono (Ph.le_trans leR le3)
    one_place
    refine @s_enterL _ _ _ _ _ _ _ _ _ _ _ _ _ _ _ _ (by assumption) ?_; intro Q' hQ' V_ C_ S_ c_
    refine @s_assign _ _ _ _ _ _ _ _ _ _ _ SwList.swIt ?_
    refine @evThen _ _ _ _ _ _ _ _ _ _ (rowD shownP) _ _ _ _ _ _ c (by unfold rowD; repeat constructor) fun v3 B4 s' le4 hv3 c => ?_
    refine @y_store _ _ _ _ _ _ _ _ _ _ _ _ _ _ _ _ _ _ c (by kd_p1) fun s' c => ?_
    one_place
    refine @s_enterL _ _ _ _ _ _ _ _ _ _ _ _ _ _ _ _ (by assumption) ?_; intro Q' hQ' V_ C_ S_ c_
    refine @s_assign _ _ _ _ _ _ _ _ _ _ _ SwList.swIt ?_
    refine @evThen _ _ _ _ _ _ _ _ _ _ (rowD tagsP) _ _ _ _ _ _ c (by unfold rowD; repeat constructor) fun v4 B5 s' le5 hv4 c => ?_
    refine @y_store _ _ _ _ _ _ _ _ _ _ _ _ _ _ _ _ _ _ c (by kd_p1) fun s' c => ?_
    have hv1 := hv1.mono (Ph.le_trans le4 le5)
    have hv2 := hv2.mono (Ph.le_trans le4 le5)
    have hv3 := hv3.mono le5
    one_place
    refine @s_enterL _ _ _ _ _ _ _ _ _ _ _ _ _ _ _ _ (by assumption) ?_; intro Q' hQ' V_ C_ S_ c_
    refine s_return ?_
    refine @evThen _ _ _ _ _ _ _ _ _ _ (.list [rowD unseenP, .list [pairD (32, 32)], .list ([pairD (64976, 65007)] ++ planesP.map pairD), .list [pairD (65529, 65533)], .list [pairD (12272, 12283)], rowD shownP, rowD tagsP]) _ _ _ _ _ _ c (by refine .list (.name (by kd_p) (by assumption) (.list ?_ rfl (.add ?_ (.name (by kd_p) (by assumption) .nil) rfl (.list ?_ rfl (.list ?_ rfl (.name (by kd_p) (by assumption) (.name (by kd_p) (by assumption) .nil))))))) rfl .nil <;> repeat constructor) fun v B' s' le hv c' => ?_
    one_place
    exact h _ _ _ c'.ret hv
end
end
section
set_option maxRecDepth 100000
open PySem PySem.Calls PyProof.Rows
theorem ha_kind : builtinKind "hasattr" = none := by decide +kernel
theorem ha_plain : plainId "hasattr" = true := by decide +kernel
theorem ha_entry : entryFor table "hasattr" = some Builtin.«hasattr» := entryFor_of_tree (by kernel_rfl)
theorem ha_args (a b : Value) : argsOk "hasattr" ⟨[a, b], []⟩ := by unfold argsOk; kernel_rfl
theorem lk_list_getitem : typeLookup (.type "list") "__getitem__" = pure (some (.builtin "list.__getitem__")) := by rw [typeLookup_type, builtinLookup_eq_fast]; kernel_rfl
theorem sub_list_module : isSubtype (.type "list") (.type "module") = pure false := by rw [isSubtype_type]; kernel_rfl
theorem md_get : Slot "method_descriptor" "__get__" "method_descriptor.__get__" :=
  .of (owner := "method_descriptor") (n := "__get__") (by rw [typeLookup_type, builtinLookup_eq_fast]; kernel_rfl) (by decide +kernel) (by decide +kernel) (by decide +kernel)
    (by first | exact .inl (by decide +kernel) | exact .inr (by decide +kernel)) (by rw [isSubtype_type]; kernel_rfl)
theorem md_args (a b c : Value) : argsOk "method_descriptor.__get__" ⟨[a, b, c], []⟩ := by unfold argsOk; kernel_rfl
theorem md_entry : entryFor table "method_descriptor.__get__" = some Builtin.«method_descriptor.__get__» := entryFor_of_tree (by kernel_rfl)
theorem owner_gi : ".".intercalate ("list.__getitem__".cutAt '.').dropLast = "list" := by decide +kernel
theorem sub_gi : isSubtype (.type "list") (.type (".".intercalate ("list.__getitem__".cutAt '.').dropLast)) = pure true := by rw [owner_gi, isSubtype_type]; kernel_rfl
theorem md_set : typeLookup (.type "method_descriptor") "__set__" = pure none := by rw [typeLookup_type, builtinLookup_eq_fast]; kernel_rfl
theorem md_del : typeLookup (.type "method_descriptor") "__delete__" = pure none := by rw [typeLookup_type, builtinLookup_eq_fast]; kernel_rfl
section
variable {prog : Program} {w : World} {A : Around} {E : Value → Shared → Prop} {h : Heap} {g : Array GenState} {d : Drawn} {tk : Nat} {os : OsState} {a : Addr} {its : Array Value} {n : Nat} {t : Tok}
set_option maxHeartbeats 2000000 in
theorem hasattr_list {Q : Value → Shared → Prop} (hx : h.get? a = some { cls := .type "list", data := .seq its n }) (hq : ∀ h' k, (∀ b o, h.get? b = some o → h'.get? b = some o) → Q (.bool true) ⟨h', g, d, k, os⟩) :
    wpAny (model prog w) A (call (.builtin "hasattr") [.ref a, .str "__getitem__" t]) Q E ⟨h, g, d, tk, os⟩ := by
  have hT : (⟨h, g, d, tk, os⟩ : Shared).TypeIs (.ref a) "list" := ⟨_, hx, rfl⟩
  have f2 := F.slot_list_getattribute.lookup
  have f3 := F.slot_list_getattribute.bind (.ref a)
  have f4 := lk_list_getitem
  have f5 := sub_list_module
  have f6 := F.type_list_getitem
  have f10 := sub_gi
  have f7 := md_get.lookup
  have f8 := md_set
  have f9 := md_del
  have hT6 : (⟨h, g, d, tk, os⟩ : Shared).TypeIs (.builtin "list.__getitem__") "method_descriptor" := F.type_list_getitem
  refine Calls.call_function_entry ha_kind ha_plain ha_entry (ha_args _ _) ?_
  unfold Builtin.«hasattr»
  repeat (any_goals (first | assumption | wp_step))
  refine codeAny_call_builtin F.slot_list_getattribute.plain F.entry_list_ga (F.slot_list_getattribute.check _ _ _ _ _ _ _ _ hT (F.args_list_getattribute_2 _ _) ?_)
  repeat (any_goals (first | assumption | wp_step))
  refine codeAny_call_builtin md_get.plain md_entry (md_get.check _ _ _ _ _ _ _ _ hT6 (md_args _ _ _) ?_)
  repeat (any_goals (first | assumption | wp_step))
  exact ⟨_, rfl, hq _ _ fun z_ z_1 e => Heap.get?_push_of_some _ e⟩
end
end
section
open PySem PySem.Calls PyProof.Rows

section
variable {prog : Program} {w : World} {ad : Ad} {A : Around} {E : Value → Shared → Prop} {s : Shared} {B : Ph}
variable {a b : Addr} {xs ys : List Value} {m m' : Nat} {n : Nat}

set_option maxRecDepth 100000 in
set_option maxHeartbeats 4000000 in
theorem f_iconcat {Q : Value → Shared → Prop} (hw : Wd w ad B) (hkeep : ∀ a o, B a = some o → s.heap.get? a = some o) (hA : AOk (n + 1) A) (ha : s.heap.get? a = some (listObj xs m)) (hB : B a = none) (hb : B b = some (listObj ys m')) (hz : xs.length + ys.length ≤ sizeLine)
    (h : ∀ n' s', Ret B { s with heap := s.heap.update a (fun z_ => listObj (xs ++ ys) n') } s' B → Q (.ref a) s') : wpAny (model prog w) A (call (.ref (ad.fn 8)) [.ref a, .ref b]) Q E s := by
  refine def_call (d := dn 8) (ps := ["a", "b"]) (rest := ["msg"]) (xs := ["a", "b", "msg"]) (V0 := [some _, some _, none]) (gs := ["hasattr", "type", "TypeError"]) hw hkeep (hw.fn 8 (by decide)) hA rfl rfl rfl (by decide +kernel) rfl rfl rfl (fun z_ z_1 z_2 => rfl) ?_
  intro env s' he c
  one_place
  refine @s_enterL _ _ _ _ _ _ _ _ _ _ _ _ _ _ _ _ (by assumption) ?_; intro Q' hQ' V_ C_ S_ c_
  repeat kcf_m
  rename Cx _ _ _ _ _ _ _ _ _ _ => c1
  refine hasattr_list (c1.ret.ext _ _ ha) (fun h' k hk => ?_)
  have c2 := c1.go (Ret.heap (h := h') (t := k) c1.rd.keep hk)
  repeat kcf_m
  refine x_itn (x_itt ?_)
  repeat kcf_m
  refine wpAny_AugAssign_Name (Rd.loadName c2.rd (by kd_p) ?_)
  repeat kcf_m
  refine iadd_own (c2.ret.ext _ _ ha) (c2.rd.keep _ _ hb) hz fun h2 n' hs hg => ?_
  have c3 := c2.upd1 (t := k) ha hB hs hg
  refine y_store c3 (by kd_p1) fun s3 c4 => ?_
  repeat kcf_m
  one_place
  exact h _ _ c4.ret
end
end
section
open PySem PySem.Calls PyProof.Rows

theorem all_eq {ns ms : List Int} (h : ns.length = ms.length) : (List.range ns.length).all (fun j => ns.getD j 0 == ms.getD j 0) = decide (ns = ms) := by
  rw [Bool.eq_iff_iff]
  simp only [List.all_eq_true, List.mem_range, beq_iff_eq, decide_eq_true_eq]
  constructor
  · intro hh
    refine List.ext_getElem h fun i h1 h2 => ?_
    have := hh i h1
    rw [List.getD_eq_getElem?_getD, List.getD_eq_getElem?_getD, List.getElem?_eq_getElem h1, List.getElem?_eq_getElem h2] at this
    exact this
  · rintro rfl i _
    rfl

section
variable {prog : Program} {w : World} {A : Around} {E : Value → Shared → Prop} {s : Shared} {a b : Addr} {xs ys : List Value} {ns ms : List Int}
theorem ints_eqAt (hx : IntsAre xs ns) (hy : IntsAre ys ms) (j : Nat) (h1 : j < xs.toArray.size) (h2 : j < ys.toArray.size) : SeqAt.EqAt A s xs.toArray[j] ys.toArray[j] (ns.getD j 0 == ms.getD j 0) := by
  have l1 : j < ns.length := by rw [← hx.length]; simpa using h1
  have l2 : j < ms.length := by rw [← hy.length]; simpa using h2
  obtain ⟨t, e1⟩ := hx.get j ns[j] (List.getElem?_eq_getElem l1)
  obtain ⟨u, e2⟩ := hy.get j ms[j] (List.getElem?_eq_getElem l2)
  have e1' : xs.toArray[j] = .int ns[j] t := by simpa using (List.getElem?_eq_some_iff.mp e1).2
  have e2' : ys.toArray[j] = .int ms[j] u := by simpa using (List.getElem?_eq_some_iff.mp e2).2
  rw [e1', e2']
  have g1 : ns.getD j 0 = ns[j] := by simp [l1]
  have g2 : ms.getD j 0 = ms[j] := by simp [l2]
  rw [g1, g2]
  exact (MeetsSeq.EqGives.int _ _ t u).at A s

theorem x_neLI {Q : Value → Shared → Prop} (hl : s.heap.IsList a xs.toArray) (hb : s.heap.IsList b ys.toArray) (hx : IntsAre xs ns) (hy : IntsAre ys ms) (hu : A.units < cLine) (h : Q (.bool (!decide (ns = ms))) s) : wpAny (model prog w) A (compareOp .NotEq (.ref a) (.ref b)) Q E s := by
  by_cases e : ns.length = ms.length
  · refine SeqAt.RcNeAt.lists (e := fun j => ns.getD j 0 == ms.getD j 0) hl hb (by simp [hx.length, hy.length, e]) hu (fun j h1 h2 => ints_eqAt hx hy j h1 h2) prog w E Q ?_
    rw [show xs.toArray.size = ns.length by simp [hx.length], all_eq e]
    exact h
  · refine SeqAt.RcNeAt.lists_lengths hl hb (by simp [hx.length, hy.length, e]) hu prog w E Q ?_
    rw [decide_eq_false (fun z => e (by rw [z]))] at h
    exact h
theorem x_eqLI {Q : Value → Shared → Prop} (hl : s.heap.IsList a xs.toArray) (hb : s.heap.IsList b ys.toArray) (hx : IntsAre xs ns) (hy : IntsAre ys ms) (hu : A.units < cLine) (h : Q (.bool (decide (ns = ms))) s) : wpAny (model prog w) A (compareOp .Eq (.ref a) (.ref b)) Q E s := by
  by_cases e : ns.length = ms.length
  · refine SeqAt.eq_listAt (e := fun j => ns.getD j 0 == ms.getD j 0) hl hb (by simp [hx.length, hy.length, e]) hu (fun j h1 h2 => ints_eqAt hx hy j h1 h2) ?_
    rw [show xs.toArray.size = ns.length by simp [hx.length], all_eq e]
    exact h
  · refine SeqAt.eq_list_lengthsAt hl hb (by simp [hx.length, hy.length, e]) hu ?_
    rw [decide_eq_false (fun z => e (by rw [z]))] at h
    exact h
end
end
section
open PySem PySem.Calls PyProof.Rows

noncomputable def SlotTurn (L : Addr) (s s₁ : Shared) : Prop := ∃ h, s₁ = { s with heap := h } ∧ (∀ b, b ≠ L → h.get? b = s.heap.get? b) ∧ ∃ o sl, s.heap.get? L = some o ∧ h.get? L = some { o with slots := sl }
theorem SlotTurn.refl {L : Addr} {s : Shared} {o : Obj} (h : s.heap.get? L = some o) : SlotTurn L s s := ⟨s.heap, rfl, fun z_ z_1 => rfl, o, o.slots, h, h⟩
theorem SlotTurn.trans {L : Addr} {s s₁ s₂ : Shared} (x : SlotTurn L s s₁) (y : SlotTurn L s₁ s₂) : SlotTurn L s s₂ := by
  obtain ⟨h, rfl, a1, o, sl, a2, a3⟩ := x
  obtain ⟨h2, rfl, b1, o2, sl2, b2, b3⟩ := y
  have b2 : h.get? L = some o2 := b2
  rw [a3] at b2
  cases b2
  exact ⟨h2, rfl, fun b hb => (b1 b hb).trans (a1 b hb), o, sl2, a2, b3⟩

structure Thrown (outer : List Env) (s : Shared) (e : Addr) (X : String) (s' : Shared) : Prop where
  same : ∃ h tk, s' = { s with heap := h, toks := tk }
  fly : ∃ a0, Heap.FlyingW (W.hideAll s.heap (outer.filterMap (·.frame))) outer e (.type X) a0 s'.heap
  slots : s.heap.UpToSlots s'.heap

section
variable {M : Model} {A : Around} {E : Value → Shared → Prop} {s : Shared}
theorem noteFrame_first {base : Heap} {env : Env} {outer : List Env} {L e : Addr} {oe : Obj} {vs : Array Value} {a0 : Value} {Q : Unit → Shared → Prop}
    (hfr : A.frames = some (env :: outer)) (hl : s.heap.FunFrames base (env :: outer)) (hf : env.frame = some L)
    (he : s.heap.get? e = some oe) (hkb : base.StaysIn s.heap) (hen : base.get? e = none) (hd : oe.data = .fields vs) (h1 : vs[1]? = some .none) (h0 : vs[0]? = some a0)
    (h : ∀ h', Heap.HeldW base (env :: outer) e oe.cls a0 L h' → s.heap.UpToSlots h' → Q () { s with heap := h' }) : wpAny M A (noteFrame (.ref e) env) Q E s := by
  unfold noteFrame
  simp only [hf]
  refine wpAny_bind (wpAny_field he hd h1 ?_)
  rw [if_neg (by decide)]
  refine wpAny_entryW hfr hl hf he hkb hen hd (Array.getElem?_eq_some_iff.mp h1).1 h0 fun h' hN => ?_
  obtain ⟨k1, k2, k3, k4⟩ := hN
  exact h h' ⟨k1, hen, k2, k3⟩ k4

theorem cameBack_held {base : Heap} {l : List Env} {env : Env} {e L : Addr} {cls a0 : Value} (hh : Heap.HeldW base l e cls a0 L s.heap) (hf : env.frame = some L)
    (h : ∀ h', Heap.HeldW base l e cls a0 L h' → s.heap.UpToSlots h' → E (.ref e) { s with heap := h' }) : cameBackBy M A env E (.ref e) s := by
  obtain ⟨hkb, f2, hl, ht⟩ := hh
  obtain ⟨oe, vs, T, oT, ts, he, hcls, hd, h1, hnT, hTe, hT, hdT, h3⟩ := ht
  have hsz3 : 3 < ts.size := (Array.getElem?_eq_some_iff.mp h3).1
  have other : ∀ b, b ≠ T → (s.heap.update T (Obj.mapFields (·.setIfInBounds 3 ((some L : Option Addr).elim Value.none fun f => rawInt f)))).get? b = s.heap.get? b :=
    fun b hb => Heap.get?_update_other _ _ (Ne.symm hb)
  have noRecord : ∀ b o, s.heap.get? b = some o → (∀ vs, o.data ≠ .fields vs) → b ≠ T := fun b o hb hnf q => by
    rw [q, hT] at hb; injection hb with hb; subst hb; exact hnf ts hdT
  unfold cameBackBy
  refine wpAny_bind (wpAny_field he hd h1 ?_)
  rw [if_neg (show ¬ ((Value.ref T == Value.none) = true) from by simp)]
  rw [hf]
  show wpAny M A (setFlight (.ref e) (some L)) _ _ _
  unfold setFlight
  refine wpAny_bind (wpAny_field he hd h1 ?_)
  rw [if_pos (show (Value.ref T != Value.none) = true from by simp)]
  refine wpAny_setField hT hdT hsz3 (h _ ⟨fun b o hbo => (other b fun q => by rw [q, hnT] at hbo; cases hbo).trans (hkb b o hbo), f2,
    hl.of_keeps fun b o hb hnf => ⟨o, (other b (noRecord b o hb hnf)).trans hb, rfl⟩, ?_⟩ fun b o hb hn => ⟨o.slots, (other b (noRecord b o hb hn)).trans hb⟩)
  exact ⟨oe, vs, T, _, _, (other e (Ne.symm hTe)).trans he, hcls, hd, h1, hnT, hTe, Heap.get?_update_self _ hT (Obj.isFreed_of_fields (Obj.data_mapFields hdT _)), Obj.data_mapFields hdT _, by simp [hsz3]⟩
end

theorem ns_data {h : Heap} {a : Addr} {m : Str → Option Value} (x : h.Ns a m) : ∃ o, h.get? a = some o ∧ ∀ vs, o.data ≠ .fields vs := by
  obtain ⟨o, es, ep, ho, hd, _⟩ := x
  exact ⟨o, ho, fun vs q => by rw [hd] at q; cases q⟩
theorem hide_none {h : Heap} {as : List Addr} {a : Addr} (e : h.get? a = none) : (W.hideAll h as).get? a = none := by
  cases q : (W.hideAll h as).get? a with
  | none => rfl
  | some o => have := W.of_hideAll as q; rw [e] at this; cases this

section
variable {w : World} {ad : Ad} {s₀ : Shared} {B₀ : Ph} {env eL : Env} {sc : Sc} {V : List (Option Value)} {N : List (Addr × Obj)} {B : Ph} {s : Shared} {M : Model} {A : Around} {E : Value → Shared → Prop} {outer : List Env} {X : String} {e Lf : Addr} {h' : Heap} {tk : Nat} {oL : Obj}

theorem Cx.base (c : Cx w ad s₀ B₀ env sc V N B s) (hf : env.frame = some env.locals) (hF : s₀.heap.FunFrames (W.hideAll s₀.heap (outer.filterMap (·.frame))) outer) (x : Heap.NewExc s.heap h' e X) :
    (W.hideAll s₀.heap (outer.filterMap (·.frame))).StaysIn h' ∧ h'.FunFrames (W.hideAll s₀.heap (outer.filterMap (·.frame))) (env :: outer) ∧ (W.hideAll s₀.heap (outer.filterMap (·.frame))).get? e = none := by
  obtain ⟨m, cm, h1, _, _⟩ := c.rd.store
  obtain ⟨o, ho, hd⟩ := ns_data h1
  refine ⟨fun b o q => x.keeps _ _ (c.ret.ext _ _ (W.of_hideAll _ q)), ⟨by rw [c.rd.ok.kind]; decide, ⟨env.locals, o, hf, hide_none (c.fresh _ (.head _)).1, x.keeps _ _ ho, hd⟩, hF.of_keeps fun b o q z_ => ⟨o, x.keeps _ _ (c.ret.ext _ _ q), rfl⟩⟩, hide_none ?_⟩
  cases q : s₀.heap.get? e with
  | none => rfl
  | some o => have := c.ret.ext _ _ q; rw [x.new] at this; cases this

theorem Cx.leave {Q : Unit → Shared → Prop} (c : Cx w ad s₀ B₀ env sc V N B s) (hf : env.frame = some env.locals) (hA : A.frames = some outer) (hF : s₀.heap.FunFrames (W.hideAll s₀.heap (outer.filterMap (·.frame))) outer)
    (x : Heap.NewExc s.heap h' e X) (hQ : ∀ s', Thrown outer s₀ e X s' → Q () s') : wpAny M (A.deeper env) (leaving env (.ref e)) Q E { s with heap := h', toks := tk } := by
  obtain ⟨st, ff, en⟩ := c.base hf hF x
  obtain ⟨ob, t, he, hc, hd⟩ := x.there
  refine wpAny_leaving_firstW (Around.frames_deeper hA) ff hf he st en hd rfl rfl fun h'' hL => hQ _ ?_
  obtain ⟨k1, ⟨_, _, k2⟩, k3, k4⟩ := hL
  obtain ⟨h1, t1, e1⟩ := c.ret.same
  exact ⟨⟨h'', tk, by rw [e1]⟩, ⟨t, k1, en, k2, hc ▸ k3⟩, (Heap.UpToSlots.of_keeps c.ret.ext).trans ((Heap.UpToSlots.of_keeps x.keeps).trans k4)⟩

theorem Cx.leaveLoop {Q : Value → Shared → Prop} (c : Cx w ad s₀ B₀ env sc V N B s) (hf : env.frame = some env.locals) (hA : A.frames = some outer) (hF : s₀.heap.FunFrames (W.hideAll s₀.heap (outer.filterMap (·.frame))) outer)
    (x : Heap.NewExc s.heap h' e X) (hQ : ∀ s', Thrown outer s₀ e X s' → Q (.ref e) s') :
    notedBy M (A.deeper env) env (fun v s' => cameBackBy M (A.deeper env) env (fun v' s'' => wpAny M (A.deeper env) (leaving env v') (fun z_ s₃ => Q v' s₃) E s'') v s') (.ref e) { s with heap := h', toks := tk } := by
  obtain ⟨st, ff, en⟩ := c.base hf hF x
  obtain ⟨ob, t, he, hc, hd⟩ := x.there
  refine noteFrame_first (Around.frames_deeper hA) ff hf he st en hd rfl rfl fun h2 hh k2 => ?_
  refine cameBack_held hh hf fun h3 hh3 k3 => ?_
  unfold leaving
  refine wpAny_bind (wpAny_noteFrame_againW hf hh3.2.2.2 ?_)
  refine wpAny_landsW hh3 fun h4 hfl k4 => hQ _ ?_
  obtain ⟨k1, kn, ⟨_, _, kf⟩, kt⟩ := hfl
  obtain ⟨h1, t1, e1⟩ := c.ret.same
  exact ⟨⟨h4, tk, by rw [e1]⟩, ⟨t, k1, kn, kf, hc ▸ kt⟩, (Heap.UpToSlots.of_keeps c.ret.ext).trans ((Heap.UpToSlots.of_keeps x.keeps).trans (k2.trans (k3.trans k4)))⟩

theorem Cx.turned (c : Cx w ad s₀ B₀ env sc V N B s) (h0 : s₀.heap.get? Lf = some oL) (hnf : ∀ vs, oL.data ≠ .fields vs) (hB : B₀ Lf = none) (st : (W.hideAll s.heap [env.locals, Lf]).StaysIn h') (sl : s.heap.UpToSlots h') :
    ∃ s₁, SlotTurn Lf s₀ s₁ ∧ Cx w ad s₁ B₀ env sc V N B { s with heap := h', toks := tk } := by
  have hps : s.heap.get? Lf = some oL := c.ret.ext _ _ h0
  obtain ⟨sl', hsl⟩ := sl _ _ hps hnf
  have hp : Lf ∉ priv env N := fun z => by rw [(c.fresh _ z).1] at h0; cases h0
  have hBL : B Lf = none := by
    cases q : B Lf with
    | none => rfl
    | some o => rcases c.ret.new _ _ q with z | z
                · rw [hB] at z; cases z
                · rw [h0] at z; cases z
  have hBl : B env.locals = none := (c.fresh _ (.head _)).2
  have ex : ∀ b o, b ≠ env.locals → b ≠ Lf → s.heap.get? b = some o → h'.get? b = some o := fun b o n1 n2 q => st b o (W.hideAll_get _ q (by simp [n1, n2]))
  have keep : ∀ b o, B b = some o → h'.get? b = some o := fun b o q => ex b o (fun z => by rw [z, hBl] at q; cases q) (fun z => by rw [z, hBL] at q; cases q) (c.rd.keep _ _ q)
  obtain ⟨m, cm, h1, h2, h3⟩ := c.rd.store
  have hs0 := Heap.SameBut.update s₀.heap Lf (fun z_ => { oL with slots := sl' })
  have hg0 : (s₀.heap.update Lf (fun z_ => { oL with slots := sl' })).get? Lf = some { oL with slots := sl' } := Heap.get?_update_self _ h0 (by
    have := not_freed h0
    obtain ⟨c1, c2, dt, c4⟩ := oL
    cases dt <;> first | rfl | exact this)
  refine ⟨{ s₀ with heap := s₀.heap.update Lf (fun z_ => { oL with slots := sl' }) }, ⟨_, rfl, fun b hb => hs0.2 b hb, oL, sl', h0, hg0⟩, ⟨⟨c.rd.ok, c.rd.wd, keep, m, cm, sl.ns h1, fun n q hq => ?_, h3⟩, c.len, ?_, fun p hp' => ?_, c.sep, fun b hb => ⟨?_, (c.fresh b hb).2⟩⟩⟩
  · obtain ⟨o, ho, r⟩ := h2 n q hq
    exact ⟨o, ex q o (c.sepLC (n, q) hq) (fun z => hp (z ▸ List.mem_cons_of_mem _ (List.mem_append_left _ (List.mem_map_of_mem (f := (·.2)) hq)))) ho, r⟩
  · obtain ⟨h1, t1, e1⟩ := c.ret.same
    refine ⟨⟨h', tk, by rw [e1]⟩, fun b o q => ?_, c.ret.le, fun b o q => ?_, keep⟩
    · by_cases z : b = Lf
      · subst z
        rw [hg0] at q
        cases q
        exact hsl
      · have q' : s₀.heap.get? b = some o := (hs0.2 b z).symm.trans q
        exact ex b o (fun z' => by rw [z', (c.fresh _ (.head _)).1] at q'; cases q') z (c.ret.ext _ _ q')
    · rcases c.ret.new b o q with z | z
      · exact .inl z
      · refine .inr ((hs0.2 b ?_).trans z)
        rintro rfl
        rw [z] at h0; cases h0
  · exact ex _ _ (c.sepL p hp') (fun z => hp (z ▸ List.mem_cons_of_mem _ (List.mem_append_right _ (List.mem_map_of_mem hp')))) (c.own p hp')
  · exact (hs0.2 b (fun z => hp (z ▸ hb))).trans (c.fresh b hb).1

theorem Cx.slotTurn {s₁ : Shared} (c : Cx w ad s₀ B₀ env sc V N B s) (x : SlotTurn env.locals s s₁) : Cx w ad s₀ B₀ env sc V N B s₁ := by
  obtain ⟨h, rfl, a1, o, sl, a2, a3⟩ := x
  obtain ⟨m, cm, h1, h2, h3⟩ := c.rd.store
  have hl := c.fresh _ (List.Mem.head _)
  have ex : ∀ b o, b ≠ env.locals → s.heap.get? b = some o → h.get? b = some o := fun b o n q => (a1 b n).trans q
  have keep : ∀ b o, B b = some o → h.get? b = some o := fun b o q => ex b o (fun z => by rw [z, hl.2] at q; cases q) (c.rd.keep _ _ q)
  refine ⟨⟨c.rd.ok, c.rd.wd, keep, m, cm, ?_, fun n q hq => ?_, h3⟩, c.len, ?_, fun p hp' => ex _ _ (c.sepL p hp') (c.own p hp'), c.sep, c.fresh⟩
  · obtain ⟨o', es, ep, ho, hd, r⟩ := h1
    rw [a2] at ho
    cases ho
    exact ⟨_, es, ep, a3, hd, r⟩
  · obtain ⟨o, ho, r⟩ := h2 n q hq
    exact ⟨o, ex q o (c.sepLC (n, q) hq) ho, r⟩
  · obtain ⟨h1, t1, e1⟩ := c.ret.same
    exact ⟨⟨h, s.toks, by rw [e1]⟩, fun b o q => ex b o (fun z => by rw [z, hl.1] at q; cases q) (c.ret.ext b o q), c.ret.le, c.ret.new, keep⟩

theorem Cx.funFrames (c : Cx w ad s₀ B₀ env sc V N B s) (hf : env.frame = some env.locals) (hfL : eL.frame = some Lf) (hkL : eL.scope.kind ≠ .module) (h0 : s₀.heap.get? Lf = some oL) (hnf : ∀ vs, oL.data ≠ .fields vs) :
    s.heap.FunFrames (W.hideAll s.heap ([env, eL].filterMap (·.frame))) [env, eL] := by
  obtain ⟨m, cm, h1, _, _⟩ := c.rd.store
  obtain ⟨o, ho, hd⟩ := ns_data h1
  have e : [env, eL].filterMap (·.frame) = [env.locals, Lf] := by simp [hf, hfL]
  rw [e]
  exact ⟨by rw [c.rd.ok.kind]; decide, ⟨_, o, hf, W.hideAll_none _ (.head _), ho, hd⟩, hkL, ⟨_, oL, hfL, W.hideAll_none _ (.tail _ (.head _)), c.ret.ext _ _ h0, hnf⟩, trivial⟩
theorem Cx.funFrames1 (c : Cx w ad s₀ B₀ env sc V N B s) (hf : env.frame = some env.locals) : s.heap.FunFrames (W.hideAll s.heap ([env].filterMap (·.frame))) [env] := by
  obtain ⟨m, cm, h1, _, _⟩ := c.rd.store
  obtain ⟨o, ho, hd⟩ := ns_data h1
  have e : [env].filterMap (·.frame) = [env.locals] := by simp [hf]
  rw [e]
  exact ⟨by rw [c.rd.ok.kind]; decide, ⟨_, o, hf, W.hideAll_none _ (.head _), ho, hd⟩, trivial⟩
end

section
variable {prog : Program} {w : World} {ad : Ad} {A : Around} {E : Value → Shared → Prop} {s s' : Shared} {B₀ B : Ph} {env eL : Env} {sc : Sc} {V : List (Option Value)} {s₀ : Shared} {N : List (Addr × Obj)} {e Lf : Addr} {oL : Obj}
theorem caught {x : Str} {X T : String} {np pos : Pos} {b₀ : Stmt} {suite : List Stmt} {rest : List ExceptHandler} {Q : Flow → Shared → Prop} (c : Cx w ad s₀ B₀ env sc V N B s) (hf : env.frame = some env.locals) (hA : A.frames = some [eL]) (hfL : eL.frame = some Lf) (h0 : s₀.heap.get? Lf = some oL) (hnf : ∀ vs, oL.data ≠ .fields vs) (hB : B₀ Lf = none)
    (hT : Thrown [env, eL] s e X s') (hexc : isSubtype (.type T) (.type "BaseException") = pure true) (hnt : isSubtype (.type ((Manifest.find? T).elim "type" fun y => y.metatype)) (.type "tuple") = pure false) (hsub : isSubtype (.type X) (.type T) = pure true)
    (hx : x ∈ sc.gs) (hv : Means ad x (.type T))
    (k : ∀ s₁ s'' E', SlotTurn Lf s₀ s₁ → Cx w ad s₁ B₀ env sc V N B s'' → wpAny (model prog w) ((A.deeper env).mark (some (.ref e))) (execs (b₀ :: suite) env) Q E' s'') :
    wpAny (model prog w) (A.deeper env) (noteFrame (.ref e) env) (fun z_ s₂ => wpAny (model prog w) (A.deeper env) (setFlight (.ref e) none) (fun z_ s₃ =>
        wpAny (model prog w) (A.deeper env) (handleBy (.ref e) env (.ExceptHandler (some (.Name x np)) none (b₀ :: suite) pos :: rest)) Q E s₃) E s₂) E s' := by
  obtain ⟨⟨hp, tk, rfl⟩, ⟨a0, hfl⟩, hsl⟩ := hT
  have e : [env, eL].filterMap (·.frame) = [env.locals, Lf] := by simp [hf, hfL]
  rw [e] at hfl
  have hsl : s.heap.UpToSlots hp := hsl
  have hfl : Heap.FlyingW (W.hideAll s.heap [env.locals, Lf]) [env, eL] _ (.type X) a0 hp := hfl
  refine wpAny_looks_onW (Around.frames_deeper hA) hf hfl fun h₄ hheld₄ hsm₄ => ?_
  refine wpAny_landsW hheld₄ fun h₅ hheld hsm₅ => ?_
  obtain ⟨s₁, t₁, c₁⟩ := c.turned (tk := tk) h0 hnf hB hheld.1 (hsl.trans (hsm₄.trans hsm₅))
  obtain ⟨ob, hob, hobc⟩ := hheld.there
  refine wpAny_handleBy_builtin (X := X) (T := T) (b := true) hexc hnt hsub (x_glob Cx.stab c₁ hx hv ⟨rfl, ⟨ob, hob, hobc⟩, ?_⟩)
  rw [if_pos rfl]
  refine lands_againW hheld fun h₆ hfl₆ hsm₆ => ?_
  obtain ⟨s₂, t₂, c₂⟩ := c.turned (tk := tk) h0 hnf hB hfl₆.1 (hsl.trans (hsm₄.trans (hsm₅.trans hsm₆)))
  exact k _ _ _ t₂ c₂
end

section
variable {prog : Program} {w : World} {ad : Ad} {A : Around} {E : Value → Shared → Prop} {s : Shared} {B : Ph}
set_option maxRecDepth 100000 in
theorem f_isnot {v u : Value} {b : Bool} {n : Nat} {Q : Value → Shared → Prop} (hw : Wd w ad B) (hkeep : ∀ a o, B a = some o → s.heap.get? a = some o) (hA : AOk (n + 1) A)
    (hc : ∀ A E s' (Q : Value → Shared → Prop), (∀ a o, s.heap.get? a = some o → s'.heap.get? a = some o) → Q (.bool b) s' → wpAny (model prog w) A (compareOp .IsNot v u) Q E s')
    (h : ∀ s', Ret B s s' B → Q (.bool b) s') : wpAny (model prog w) A (call (.ref (ad.fn 2)) [v, u]) Q E s := by
  refine def_call (d := dn 2) (ps := ["a", "b"]) (rest := []) (xs := ["a", "b"]) (V0 := [some _, some _]) (gs := []) hw hkeep (hw.fn 2 (by decide)) hA rfl rfl rfl (by decide +kernel) rfl rfl rfl (fun z_ z_1 z_2 => rfl) ?_
  intro env s' he c
  one_place
  refine @s_enterL _ _ _ _ _ _ _ _ _ _ _ _ _ _ _ _ (by assumption) ?_; intro Q' hQ' V_ C_ S_ c_
  repeat kcf_m
  exact hc _ _ _ _ c.ret.ext (s_ret (by assumption) (h _ c.ret))
theorem f_isnot_bool {c d : Bool} {n : Nat} {Q : Value → Shared → Prop} (hw : Wd w ad B) (hkeep : ∀ a o, B a = some o → s.heap.get? a = some o) (hA : AOk (n + 1) A)
    (h : ∀ s', Ret B s s' B → Q (.bool (c != d)) s') : wpAny (model prog w) A (call (.ref (ad.fn 2)) [.bool c, .bool d]) Q E s :=
  f_isnot hw hkeep hA (fun z_ z_1 z_2 z_3 z_4 hq => isnot_bool hq) h
theorem f_isnot_self {a : Addr} {n : Nat} {Q : Value → Shared → Prop} (hw : Wd w ad B) (hkeep : ∀ a o, B a = some o → s.heap.get? a = some o) (hA : AOk (n + 1) A)
    (h : ∀ s', Ret B s s' B → Q (.bool false) s') : wpAny (model prog w) A (call (.ref (ad.fn 2)) [.ref a, .ref a]) Q E s :=
  f_isnot hw hkeep hA (fun z_ z_1 z_2 z_3 z_4 hq => wpAny_isNot_ref_self hq) h
theorem f_isnot_other {a b : Addr} {oa ob : Obj} {n : Nat} {Q : Value → Shared → Prop} (hw : Wd w ad B) (hkeep : ∀ a o, B a = some o → s.heap.get? a = some o) (hA : AOk (n + 1) A) (hab : a ≠ b) (ha : s.heap.get? a = some oa) (hb : s.heap.get? b = some ob) (hnt : oa.cls ≠ .type "tuple")
    (h : ∀ s', Ret B s s' B → Q (.bool true) s') : wpAny (model prog w) A (call (.ref (ad.fn 2)) [.ref a, .ref b]) Q E s :=
  f_isnot hw hkeep hA (fun z_ z_1 z_2 z_3 hk hq => wpAny_isNot_ref_other hab (hk _ _ ha) (hk _ _ hb) hnt hq) h
end
end
section
open PySem PySem.Calls PyProof.Rows

noncomputable def Like (B : Ph) (x b : Value) (e : Bool) : Prop := ∀ (prog : Program) (w : World) (A : Around) (s : Shared), (∀ a o, B a = some o → s.heap.get? a = some o) → A.units < cLine →
  ∃ i : Bool, (∀ E Q, Q (.bool i) s → wpAny (model prog w) A (compareOp .Is x b) Q E s) ∧ (i = true → e = true) ∧ (i = false → ∀ E Q, Q (.bool e) s → wpAny (model prog w) A (compareOp .Eq x b) Q E s)
theorem like_bool (B : Ph) (c d : Bool) : Like B (.bool c) (.bool d) (c == d) := fun prog w A s hk hu => ⟨c == d, fun E Q h => is_bool h, fun h => h, fun z_ E Q h => eq_bool h⟩
theorem like_none {B : Ph} {a : Addr} {xs : List Value} {n : Nat} (hB : B a = some (listObj xs n)) : Like B (.ref a) .none false := fun prog w A s hk hu =>
  ⟨false, fun E Q h => is_none_gen h, fun h => h, fun z_ E Q h => SeqAt.RcAt.list_none (isList_of (hk _ _ hB)) hu prog w E Q h⟩
theorem like_ints {B : Ph} {a b : Addr} {xs ys : List Value} {ns ms : List Int} {n m : Nat} (hB : B a = some (listObj xs n)) (hB' : B b = some (listObj ys m)) (hx : IntsAre xs ns) (hy : IntsAre ys ms) : Like B (.ref a) (.ref b) (decide (ns = ms)) := fun prog w A s hk hu => by
  by_cases e : a = b
  · subst e
    rw [hB] at hB'
    cases hB'
    refine ⟨true, fun E Q h => wpAny_is_ref_self h, fun z_ => ?_, fun h => nomatch h⟩
    have : ns = ms := by
      clear hB
      induction hx generalizing ms with
      | nil => cases hy; rfl
      | cons k t r ih =>
        cases hy with
        | cons _ _ r' => rw [ih r']
    exact decide_eq_true this
  · exact ⟨false, fun E Q h => wpAny_is_ref_other e (hk _ _ hB) (hk _ _ hB') (by simp [listObj]) h, (fun h => nomatch h), fun z_ E Q h => x_eqLI (isList_of (hk _ _ hB)) (isList_of (hk _ _ hB')) hx hy hu h⟩

inductive Likes (B : Ph) (b : Value) : List D → List Bool → Prop
  | nil : Likes B b [] []
  | cons {d : D} {ds : List D} {e : Bool} {es : List Bool} (h : ∀ B', B.le B' → ∀ v, Rep B' v d → Like B' v b e) (r : Likes B b ds es) : Likes B b (d :: ds) (e :: es)
theorem Likes.drop {B : Ph} {b : Value} {ds : List D} {es : List Bool} (h : Likes B b ds es) : ∀ k, Likes B b (ds.drop k) (es.drop k) := by
  induction h with
  | nil => intro k; rw [List.drop_nil, List.drop_nil]; exact .nil
  | cons h r ih =>
    intro k
    cases k with
    | zero => exact .cons h r
    | succ k => exact ih k

inductive IxInv (va vb : Value) (B : Ph) (es : List Bool) (ds0 ds : List D) (V : List (Option Value)) (N : List (Addr × Obj)) (_B : Ph) : Prop
  | mk (i : Nat) (vi vj : Option Value) (rest : List D) (h1 : ds = enumD i rest) (h2 : V = [some va, some vb, vi, vj]) (h3 : N = []) (h4 : Likes B vb rest (es.drop i)) (h5 : ∀ k, k < i → es.getD k false = false) : IxInv va vb B es ds0 ds V N _B

section
variable {prog : Program} {w : World} {ad : Ad} {A : Around} {E : Value → Shared → Prop} {s : Shared} {B : Ph}
variable {a : Addr} {xs : List Value} {m : Nat} {b : Value} {n : Nat} {ds : List D} {es : List Bool} {outer : List Env}

set_option maxRecDepth 100000 in
set_option maxHeartbeats 4000000 in
theorem f_indexOf {Q : Value → Shared → Prop} (hw : Wd w ad B) (hkeep : ∀ a o, B a = some o → s.heap.get? a = some o) (hA : AOk (n + 1) A) (hfr : A.frames = some outer) (hF : s.heap.FunFrames (W.hideAll s.heap (outer.filterMap (·.frame))) outer)
    (hB : B a = some (listObj xs m)) (hr : Reps B xs ds) (hl : Likes B b ds es)
    (hyes : ∀ (r : Nat) t s' B', Ret B s s' B' → r < es.length → es.getD r false = true → (∀ k, k < r → es.getD k false = false) → Q (.int r t) s')
    (hno : (∀ k, es.getD k false = false) → ∀ e s', Thrown outer s e "ValueError" s' → E (.ref e) s') : wpAny (model prog w) A (call (.ref (ad.fn 6)) [.ref a, b]) Q E s := by
  refine def_callX (d := dn 6) (ps := ["a", "b"]) (rest := ["i", "j"]) (xs := ["a", "b", "i", "j"]) (V0 := [some _, some _, none, none]) (gs := ["enumerate", "ValueError"]) hw hkeep (hw.fn 6 (by decide)) hA rfl rfl rfl (by decide +kernel) rfl rfl rfl (fun z_ z_1 z_2 => rfl) ?_
  intro env s' he hf c
  one_place
  refine @s_enterL _ _ _ _ _ _ _ _ _ _ _ _ _ _ _ _ (by assumption) ?_; intro Q' hQ' V_ C_ S_ c_
  refine x_for (fun z_ => rfl) (fun R hRR => ?_)
  repeat kcf_m
  refine b_enum c hB hr fun e L s' hM c => ?_
  refine (IterT.enum (elts := [.Name "i" ⟨0, 0, 0, 0⟩]) (k := 0) (p := ⟨0, 0, 0, 0⟩) hB).self hM c ?_
  refine f_loopT (IxInv (.ref a) b B es ds) (IterT.enum hB) hM (hA.deeper env).handled ⟨0, _, _, ds, rfl, rfl, rfl, hl, fun k hk => absurd hk (Nat.not_lt_zero _)⟩ (Ph.le_refl _) c ?_ ?_
  · rintro d ds' V N B₁ B' s₄ L v ⟨i, vi, vj, rest, e1, rfl, rfl, hl, hk⟩ le1 le hrv c Qb Eb hQb
    cases rest with
    | nil => cases e1
    | cons dx rest =>
      simp only [enumD, List.cons.injEq] at e1
      obtain ⟨rfl, rfl⟩ := e1
      generalize hes : es.drop i = es' at hl
      cases hl with
      | @cons _ _ e0 es'' hlk hl =>
        have hi : es[i]? = some e0 := by rw [← List.head?_drop, hes]; rfl
        have hr' : es.drop (i + 1) = es'' := by rw [← List.drop_drop, hes]; rfl
        have hlt : i < es.length := (List.getElem?_eq_some_iff.mp hi).1
        have hg : es.getD i false = e0 := by rw [List.getD_eq_getElem?_getD, hi]; rfl
        obtain ⟨T, n1, ys, rfl, hT, r2⟩ := Rep.isTup hrv
        cases r2 with
        | cons h1 r2 =>
          cases r2 with
          | cons h2 r2 =>
            cases r2
            obtain ⟨t1, rfl⟩ := Rep.isInt h1
            refine s_unpack2 c (hA.deeper env).handled hT (by kd_p1) (by kd_p1) ?_
            intro s' c
            obtain ⟨is, k1, k2, k3⟩ := hlk B' le _ h2 prog w (A.deeper env) s' c.rd.keep (hA.deeper env).unit
            have fin : ∀ {V' N'} s' , Cx w ad s B env ⟨["a", "b", "i", "j"], ["enumerate", "ValueError"]⟩ V' N' B' s' → es.getD i false = true → Q (.int i t1) s' := fun s' c h => hyes i t1 s' B' c.ret hlt h hk
            have nxt : e0 = false → ∀ k, k < i + 1 → es.getD k false = false := fun h k hk' => by
              rcases Nat.lt_succ_iff_lt_or_eq.mp hk' with h' | h'
              · exact hk k h'
              · rw [h', hg, h]
            repeat kcf_m
            refine x_or1 ?_; intro Q_
            repeat kcf_m
            refine k1 _ _ ?_
            repeat kcf_m
            refine x_itb (fun hi => ?_) (fun hi => ?_)
            · repeat kcf_m
              refine x_itt ?_
              repeat kcf_m
              exact fin _ c (hg.trans (k2 hi))
            · refine x_or1 ?_; intro Q_
              repeat kcf_m
              refine k3 hi _ _ ?_
              repeat kcf_m
              refine x_itb (fun h0 => ?_) (fun h0 => ?_)
              · refine x_itt ?_
                repeat kcf_m
                exact fin _ c (hg.trans h0)
              · repeat kcf_m
                refine x_itf ?_
                repeat kcf_m
                exact ⟨_, _, _, ⟨i + 1, _, _, rest, rfl, rfl, rfl, hr' ▸ hl, nxt h0⟩, Ph.le_refl _, by assumption⟩
  · rintro V N B' s₄ ⟨i, vi, vj, rest, e1, rfl, rfl, hl, hk⟩ le c
    cases rest with
    | cons d rest => cases e1
    | nil =>
      generalize hes : es.drop i = es' at hl
      cases hl
      have hall : ∀ k, es.getD k false = false := fun k => by
        by_cases h : k < i
        · exact hk k h
        · have : es.length ≤ k := by have := List.drop_eq_nil_iff.mp hes; lia
          rw [List.getD_eq_getElem?_getD, List.getElem?_eq_none this]; rfl
      one_place
      refine @s_enterL _ _ _ _ _ _ _ _ _ _ _ _ _ _ _ _ (by assumption) ?_; intro Q' hQ' V_ C_ S_ c_
      refine Raise_madeB PySem.F.excCall_ValueError PySem.F.excRaise_ValueError (hA.deeper env).handled ?_ (by got_up) rfl
      repeat kcf_m
      refine ⟨rfl, ?_⟩
      repeat kcf_m
      refine ⟨len_ok rfl, fun h' e hx => ?_⟩
      subst hRR
      exact Cx.leaveLoop (by assumption) hf hfr hF hx.newExc fun s' hT => hno hall _ _ hT
end
end
section
set_option maxRecDepth 100000
open PySem PySem.Calls PyProof.Rows
theorem lk_int_getitem : typeLookup (.type "int") "__getitem__" = pure none := by rw [typeLookup_type, builtinLookup_eq_fast]; kernel_rfl
theorem sub_int_module : isSubtype (.type "int") (.type "module") = pure false := by rw [isSubtype_type]; kernel_rfl
theorem sub_AttrErr : isSubtype (.type "AttributeError") (.type "AttributeError") = pure true := by rw [isSubtype_type]; kernel_rfl
section
variable {prog : Program} {w : World} {A : Around} {s : Shared}
theorem codeAny_meets {T : String} {name : Str} {id : String} {B : Builtin} {self : Value} {rest : List Value} {S : PySem.Spec} {R : Result → Shared → Prop} (slot : Slot T name id) (hT : s.TypeIs self T)
    (entry : entryFor table id = some B) (args : argsOk id ⟨self :: rest, []⟩) (g : Meets (B ⟨self :: rest, []⟩) S) (h : S A R s) :
    codeAny (model prog w) A (.call (.builtin id) ⟨self :: rest, []⟩) R s := codeAny_call_builtin slot.plain entry (slot.check _ _ _ _ _ _ _ _ hT args (g prog w A R s h))
end
section
variable {prog : Program} {w : World} {A : Around} {E : Value → Shared → Prop} {h : Heap} {g : Array GenState} {d : Drawn} {tk : Nat} {os : OsState} {a : Addr} {its : Array Value} {n : Int} {t u : Tok}
set_option maxHeartbeats 2000000 in
theorem hasattr_int {Q : Value → Shared → Prop} (hA : A.handled = none) (hq : ∀ h' k, (∀ b o, h.get? b = some o → h'.get? b = some o) → Q (.bool false) ⟨h', g, d, k, os⟩) :
    wpAny (model prog w) A (call (.builtin "hasattr") [.int n u, .str "__getitem__" t]) Q E ⟨h, g, d, tk, os⟩ := by
  have f2 := F.slot_int_getattribute.lookup
  have f3 := F.slot_int_getattribute.bind (.int n u)
  have f4 := lk_int_getitem
  have f5 := sub_int_module
  have f6 := am_int_getattr_none
  have f7 := sub_AttrErr
  have hT : ∀ s' : Shared, s'.TypeIs (.int n u) "int" := fun z_ => rfl
  refine Calls.call_function_entry ha_kind ha_plain ha_entry (ha_args _ _) ?_
  unfold Builtin.«hasattr»
  repeat (any_goals (first | assumption | wp_step))
  refine codeAny_meets F.slot_int_getattribute (hT _) am_entry_int_getattribute (F.args_int_getattribute_2 _ _) (meets_getattribute_miss_int n u "__getitem__" t lk_int_getitem) ⟨hA, fun h' k e hx => ?_⟩
  obtain ⟨t', u', he⟩ := hx.there
  show wpAny _ _ (getattributeRaised _ _ _ _ _ _ _) _ _ _
  unfold getattributeRaised
  repeat (any_goals (first | assumption | wp_step))
  exact ⟨_, rfl, hq _ _ hx.keeps⟩
end
end
section
set_option maxRecDepth 100000
open PySem PySem.Calls PyProof.Rows
theorem lk_type_ga : Slot "type" "__getattribute__" "type.__getattribute__" :=
  .of (owner := "type") (n := "__getattribute__") (by rw [typeLookup_type, builtinLookup_eq_fast]; kernel_rfl) (by decide +kernel) (by decide +kernel) (by decide +kernel)
    (by first | exact .inl (by decide +kernel) | exact .inr (by decide +kernel)) (by rw [isSubtype_type]; kernel_rfl)
theorem args_type_ga (a b : Value) : argsOk "type.__getattribute__" ⟨[a, b], []⟩ := by unfold argsOk; kernel_rfl
theorem entry_type_ga : entryFor table "type.__getattribute__" = some Builtin.«type.__getattribute__» := entryFor_of_tree (by kernel_rfl)
theorem lk_type_name : typeLookup (.type "type") "__name__" = pure (some (.builtin "type.__name__")) := by rw [typeLookup_type, builtinLookup_eq_fast]; kernel_rfl
theorem kind_type_name : builtinKind "type.__name__" = some .getset := by decide +kernel
theorem gs_get : Slot "getset_descriptor" "__get__" "getset_descriptor.__get__" :=
  .of (owner := "getset_descriptor") (n := "__get__") (by rw [typeLookup_type, builtinLookup_eq_fast]; kernel_rfl) (by decide +kernel) (by decide +kernel) (by decide +kernel)
    (by first | exact .inl (by decide +kernel) | exact .inr (by decide +kernel)) (by rw [isSubtype_type]; kernel_rfl)
theorem gs_set : Slot "getset_descriptor" "__set__" "getset_descriptor.__set__" :=
  .of (owner := "getset_descriptor") (n := "__set__") (by rw [typeLookup_type, builtinLookup_eq_fast]; kernel_rfl) (by decide +kernel) (by decide +kernel) (by decide +kernel)
    (by first | exact .inl (by decide +kernel) | exact .inr (by decide +kernel)) (by rw [isSubtype_type]; kernel_rfl)
theorem gs_args (a b c : Value) : argsOk "getset_descriptor.__get__" ⟨[a, b, c], []⟩ := by unfold argsOk; kernel_rfl
theorem gs_entry : entryFor table "getset_descriptor.__get__" = some Builtin.«getset_descriptor.__get__» := entryFor_of_tree (by kernel_rfl)
theorem type_of_tn : ∀ s : Shared, s.TypeIs (.builtin "type.__name__") "getset_descriptor" := fun s => by
  show builtinType _ = _
  kernel_rfl

section
variable {prog : Program} {w : World} {A : Around} {E : Value → Shared → Prop} {h : Heap} {g : Array GenState} {d : Drawn} {tk : Nat} {os : OsState} {a : Addr} {its : Array Value} {n : Int} {t u : Tok}

theorem owner_tn : ".".intercalate ("type.__name__".cutAt '.').dropLast = "type" := by decide +kernel
theorem sub_tn : isSubtype (.type "type") (.type (".".intercalate ("type.__name__".cutAt '.').dropLast)) = pure true := by rw [owner_tn, isSubtype_type]; kernel_rfl
theorem bq_int : builtinQualname "int" = "int" := by decide +kernel
theorem tn_entry : entryFor table "type.__name__" = some Builtin.«type.__name__» := entryFor_of_tree (by kernel_rfl)
set_option maxHeartbeats 4000000 in
theorem gs_int {R : Result → Shared → Prop} (hq : ∀ h' k t, (∀ b o, h.get? b = some o → h'.get? b = some o) → R (.ok (.ret (.str "int" t))) ⟨h', g, d, k, os⟩) :
    codeAny (model prog w) A (.call (.builtin "getset_descriptor.__get__") ⟨[.builtin "type.__name__", .type "int", .type "type"], []⟩) R ⟨h, g, d, tk, os⟩ := by
  refine codeAny_call_builtin gs_get.plain gs_entry (gs_get.check _ _ _ _ _ _ _ _ (type_of_tn _) (gs_args _ _ _) ?_)
  unfold Builtin.«getset_descriptor.__get__» Builtin.Getset_descriptor.descrGet
  have f8 := sub_tn
  have f0 : ((Manifest.find? "int").elim "type" fun x => x.metatype) = "type" := by decide +kernel
  repeat (any_goals (first | assumption | wp_step | rw [f0] | (rw [kind_type_name]; dsimp only)))
  refine ⟨Code.quiet_builtin _ (by decide +kernel), codeAny_builtin tn_entry ?_⟩
  unfold Builtin.«type.__name__»
  repeat (any_goals (first | assumption | wp_step | rw [bq_int]))
  exact hq _ _ _ fun z_ z_1 e => e
set_option maxHeartbeats 4000000 in
theorem type_name_int {Q : Value → Shared → Prop} (hq : ∀ h' k t, (∀ b o, h.get? b = some o → h'.get? b = some o) → Q (.str "int" t) ⟨h', g, d, k, os⟩) :
    wpAny (model prog w) A (getAttr (.type "int") "__name__" true) Q E ⟨h, g, d, tk, os⟩ := by
  have f1 := lk_type_ga.lookup
  have f2 := lk_type_ga.bind (.type "int")
  have f3 := lk_type_name
  have f4 := gs_get.lookup
  have f5 := gs_set.lookup
  have f6 := type_of_tn
  have hT : ∀ s' : Shared, s'.TypeIs (.type "int") "type" := fun z_ => rfl
  have f0 : ((Manifest.find? "int").elim "type" fun x => x.metatype) = "type" := by decide +kernel
  have tT : typeOf (.type "int") = pure (.type "type") := by
    show pure _ = pure _
    rw [f0]
  unfold getAttr getAttrBy
  repeat (any_goals (first | assumption | wp_step | rw [f0]))
  refine codeAny_call_builtin lk_type_ga.plain entry_type_ga (lk_type_ga.check _ _ _ _ _ _ _ _ (by show typeOf _ = _; exact tT) (args_type_ga _ _) ?_)
  unfold Builtin.«type.__getattribute__»
  repeat (any_goals (first | assumption | wp_step | rw [f0] | (rw [kind_type_name]; dsimp only)))
  refine gs_int fun h' k t hk => ?_
  repeat (any_goals (first | assumption | wp_step))
  exact hq _ _ _ hk
end
noncomputable def pctText : Str := "'%s' object can't be concatenated"
section
variable {prog : Program} {w : World} {A : Around} {E : Value → Shared → Prop} {h : Heap} {g : Array GenState} {d : Drawn} {tk : Nat} {os : OsState} {a : Addr} {its : Array Value} {n : Int} {t u : Tok}
theorem loop4 {σ β : Type} {body : Nat → σ → Sem (ForInStep σ)} {s0 s1 s2 s3 s4 : σ} {k : σ → Sem β} {Q : β → Shared → Prop} {s : Shared} {m : Nat} (hm : m = 33) (h0 : body 0 s0 = pure (.yield s1)) (h1 : wpAny (model prog w) A (body 1 s1) (fun r s' => r = .yield s2 ∧ s' = s) E s)
    (h2 : body 2 s2 = pure (.yield s3)) (h3 : body 3 s3 = pure (.done s4)) (hk : wpAny (model prog w) A (k s4) Q E s) : wpAny (model prog w) A (forIn [:m] s0 body >>= k) Q E s := by
  subst hm
  rw [Std.Legacy.Range.forIn_eq_forIn_range']
  show wpAny _ _ (forIn (0 :: 1 :: 2 :: 3 :: List.range' 4 29 1) s0 body >>= k) _ _ _
  rw [List.forIn_cons, h0, pure_bind]
  simp only []
  rw [List.forIn_cons]
  refine wpAny_bind (wpAny_bind (wpAny_mono h1 (fun r s' hr => ?_) fun z_ z_1 x => x))
  obtain ⟨rfl, rfl⟩ := hr
  simp only []
  rw [List.forIn_cons, h2, pure_bind]
  simp only []
  rw [List.forIn_cons, h3, pure_bind]
  exact wpAny_pure hk
theorem sub_str_tuple : isSubtype (.type "str") (.type "tuple") = pure false := by rw [isSubtype_type]; kernel_rfl
set_option maxHeartbeats 4000000 in
theorem pct_int {Q : PySem.Fin → Shared → Prop} (hq : ∀ k t, Q (.done (.ret (.str "'int' object can't be concatenated" t))) ⟨h, g, d, k, os⟩) :
    wpAny (model prog w) A (Builtin.Str.percentFormat (.str pctText t) pctText (.str "int" u)) Q E ⟨h, g, d, tk, os⟩ := by
  have s1 := PySem.F.slot_str_getitem.lookup
  have s2 := sub_str_tuple
  unfold Builtin.Str.percentFormat
  repeat (any_goals (first | assumption | ((with_reducible show wpAny _ _ (forIn _ _ _ >>= _) _ _ _); (with_reducible refine loop4 (s1 := ([Value.str "int" u], Builtin.Str.Writer.add {} ⟨#[39]⟩ none, pctText.cps.toList.drop 1)) (s2 := (([] : List Value), (Builtin.Str.Writer.add {} ⟨#[39]⟩ none).add "int" none, pctText.cps.toList.drop 3)) (s3 := (([] : List Value), ((Builtin.Str.Writer.add {} ⟨#[39]⟩ none).add "int" none).add ⟨(pctText.cps.toList.drop 3).toArray⟩ none, [])) (s4 := (([] : List Value), ((Builtin.Str.Writer.add {} ⟨#[39]⟩ none).add "int" none).add ⟨(pctText.cps.toList.drop 3).toArray⟩ none, [])) ?g0 ?g1 ?g2 ?g3 ?g4 ?g5); (case g0 => decide +kernel); (case g1 => kernel_rfl); (case g3 => kernel_rfl); (case g4 => kernel_rfl); rotate_left) | wp_step))
  · have e : (((Builtin.Str.Writer.add {} ⟨#[39]⟩ none).add "int" none).add ⟨(pctText.cps.toList.drop 3).toArray⟩ none).text = ("'int' object can't be concatenated" : Str) := by kernel_rfl
    have := hq (tk + 1) tk
    rw [← e] at this
    exact this
  · exact ⟨by kernel_rfl, rfl⟩
end
section
variable {prog : Program} {w : World} {A : Around} {E : Value → Shared → Prop} {s : Shared} {t u : Tok}
set_option maxHeartbeats 4000000 in
theorem mod_pct {Q : Value → Shared → Prop} (hq : ∀ k t, Q (.str "'int' object can't be concatenated" t) { s with toks := k }) :
    wpAny (model prog w) A (binaryOp .Mod (.str pctText t) (.str "int" u)) Q E s := by
  obtain ⟨h, g, d, tk, os⟩ := s
  have hT : ∀ s' : Shared, s'.TypeIs (.str pctText t) "str" := fun s' => typeIs_str s' _ _
  refine wpAny_binaryOp_same (op := .Mod) (T := "str") (typeIs_str _ _ t) (typeIs_str _ _ u) F.fills_str_mod F.slot_str_mod ?_
  refine wpAny_call (codeAny_call_builtin F.slot_str_mod.plain F.entry_str_mod (F.slot_str_mod.check _ _ _ _ _ _ _ _ (hT _) (F.args_str_mod_2 _ _) ?_))
  unfold Builtin.«str.__mod__»
  repeat (any_goals (first | assumption | ((with_reducible show wpAny _ _ (Builtin.Str.percentFormat _ _ _) _ _ _); refine pct_int (fun k t => ?_)) | wp_step))
  exact ⟨by simp, hq _ _⟩
end
end
section
open PySem PySem.Calls PyProof.Rows

section
variable {prog : Program} {w : World} {ad : Ad} {A : Around} {E : Value → Shared → Prop} {s : Shared} {B : Ph}
variable {a : Addr} {xs : List Value} {m : Nat} {k : Int} {t u : Tok} {n : Nat} {outer : List Env}

set_option maxRecDepth 100000 in
set_option maxHeartbeats 4000000 in
theorem f_getitem_no {Q : Value → Shared → Prop} (hw : Wd w ad B) (hkeep : ∀ a o, B a = some o → s.heap.get? a = some o) (hA : AOk (n + 1) A) (hfr : A.frames = some outer) (hF : s.heap.FunFrames (W.hideAll s.heap (outer.filterMap (·.frame))) outer)
    (hB : s.heap.get? a = some (listObj xs m)) (hk : (xs.length : Int) ≤ k) (hhi : k < 2 ^ 63)
    (hno : ∀ e s', Thrown outer s e "IndexError" s' → E (.ref e) s') : wpAny (model prog w) A (call (.ref (ad.fn 5)) [.ref a, .int k t]) Q E s := by
  refine def_callX (d := dn 5) (ps := ["a", "b"]) (rest := []) (xs := ["a", "b"]) (V0 := [some _, some _]) (gs := []) hw hkeep (hw.fn 5 (by decide)) hA rfl rfl rfl (by decide +kernel) rfl rfl rfl (fun z_ z_1 z_2 => rfl) ?_
  intro env s' he hf c
  one_place
  refine @s_enterL _ _ _ _ _ _ _ _ _ _ _ _ _ _ _ _ (by assumption) ?_; intro Q' hQ' V_ C_ S_ c_
  repeat kcf_m
  have hl := isList_of (c.ret.ext _ _ hB)
  refine tail_any hl.typeIs slot_list_getitem.lookup (wpAny_getItem_list_out (hA.deeper env).handled hl (.inr (by simpa using hk)) (by lia) hhi fun h' tk e hx => ?_) rfl
  exact c.leave hf hfr hF hx fun s' hT => hno _ _ hT

set_option maxRecDepth 100000 in
set_option maxHeartbeats 4000000 in
theorem f_iconcat_no {v : Value} {Q : Value → Shared → Prop} (hw : Wd w ad B) (hkeep : ∀ a o, B a = some o → s.heap.get? a = some o) (hA : AOk (n + 1) A) (hfr : A.frames = some outer) (hF : s.heap.FunFrames (W.hideAll s.heap (outer.filterMap (·.frame))) outer)
    (hno : ∀ e s', Thrown outer s e "TypeError" s' → E (.ref e) s') : wpAny (model prog w) A (call (.ref (ad.fn 8)) [.int k u, v]) Q E s := by
  refine def_callX (d := dn 8) (ps := ["a", "b"]) (rest := ["msg"]) (xs := ["a", "b", "msg"]) (V0 := [some _, some _, none]) (gs := ["hasattr", "type", "TypeError"]) hw hkeep (hw.fn 8 (by decide)) hA rfl rfl rfl (by decide +kernel) rfl rfl rfl (fun z_ z_1 z_2 => rfl) ?_
  intro env s' he hf c
  one_place
  refine @s_enterL _ _ _ _ _ _ _ _ _ _ _ _ _ _ _ _ (by assumption) ?_; intro Q' hQ' V_ C_ S_ c_
  repeat kcf_m
  rename Cx _ _ _ _ _ _ _ _ _ _ => c1
  refine hasattr_int (hA.deeper env).handled (fun h' k hk => ?_)
  have c2 := c1.go (Ret.heap (h := h') (t := k) c1.rd.keep hk)
  repeat kcf_m
  refine x_itn (x_itf ?_)
  repeat kcf_m
  refine @Attribute_any_ _ _ _ _ _ _ _ _ _ _ ?_ rfl
  repeat kcf_m
  refine call_type_of (Tx := "int") (by rfl) (by decide +kernel) ?_
  rename Cx _ _ _ _ _ _ _ _ _ _ => c3
  refine type_name_int fun h' k t hk => ?_
  have c4 := c3.go (Ret.heap (h := h') (t := k) c3.rd.keep hk)
  refine mod_pct fun k t => ?_
  have c5 := c4.go (Ret.tok c4.rd.keep k)
  repeat kcf_m
  refine Raise_madeB PySem.F.excCall_TypeError PySem.F.excRaise_TypeError (hA.deeper env).handled ?_ (by got_up) rfl
  repeat kcf_m
  refine ⟨rfl, ?_⟩
  repeat kcf_m
  refine ⟨len_ok rfl, fun h' e hx => ?_⟩
  exact Cx.leave (by assumption) hf hfr hF hx.newExc fun s' hT => hno _ _ hT
end
end
section
open PySem PySem.Calls PyProof.Rows

theorem SlotTurn.obj {L : Addr} {s s₁ : Shared} {o : Obj} (x : SlotTurn L s s₁) (h : s.heap.get? L = some o) (hn : ∀ vs, o.data ≠ .fields vs) : ∃ o', s₁.heap.get? L = some o' ∧ ∀ vs, o'.data ≠ .fields vs := by
  obtain ⟨h', rfl, _, o2, sl, a2, a3⟩ := x
  rw [h] at a2
  cases a2
  exact ⟨_, a3, hn⟩

section
variable {prog : Program} {w : World} {ad : Ad} {A : Around} {E : Value → Shared → Prop} {s : Shared} {B : Ph} {env : Env} {sc : Sc} {V : List (Option Value)} {s₀ : Shared} {B₀ : Ph} {N : List (Addr × Obj)}
theorem s_exprc {e : Expr} {pos : Pos} {Q : Flow → Shared → Prop} (c : Cx w ad s₀ B₀ env sc V N B s) (hs : swapsWith e none pos.line env = pure false) (h : wpAny (model prog w) A (eval e env) (fun z_ => Q .next) E s) : wpAny (model prog w) A (exec (.Expr e pos) env) Q E s :=
  wpAny_Expr_any h (interactive_ok c.rd.ok.kind) hs
end

section
variable {prog : Program} {w : World} {ad : Ad} {A : Around} {E : Value → Shared → Prop} {s : Shared} {B : Ph}
variable {a : Addr} {xs : List Value} {m : Nat} {n : Nat} {ds : List D} {es : List Bool} {eL : Env} {Lf : Addr} {oL : Obj}

set_option maxRecDepth 100000 in
set_option maxHeartbeats 4000000 in
theorem f_refused {Q : Value → Shared → Prop} (hw : Wd w ad B) (hkeep : ∀ a o, B a = some o → s.heap.get? a = some o) (hA : AOk (n + 2) A) (hfr : A.frames = some [eL]) (hfL : eL.frame = some Lf) (hkL : eL.scope.kind ≠ .module) (h0 : s.heap.get? Lf = some oL) (hnf : ∀ vs, oL.data ≠ .fields vs) (hBL : B Lf = none)
    (hB : B a = some (listObj xs m)) (hr : Reps B xs ds) (hl : Likes B .none ds es) (he : ∀ k, es.getD k false = false) (hxs : xs.length = 9)
    (h : ∀ a' s' s₁ B' n t1 t2 t3, SlotTurn Lf s s₁ → Ret B s₁ s' B' → B' a' = some (listObj [.int 1 t1, .int 2 t2, .int 3 t3] n) → Q (.ref a') s') : wpAny (model prog w) A (call (.ref (ad.fn 22)) [.ref a]) Q E s := by
  refine def_callX (d := dn 22) (ps := ["lists"]) (rest := ["refused"]) (xs := ["lists", "refused"]) (V0 := [some _, none]) (gs := ["indexOf", "ValueError", "iconcat", "TypeError", "getitem", "IndexError"]) hw hkeep (hw.fn 22 (by decide)) (hA.mono (Nat.le_refl _)) rfl rfl rfl (by decide +kernel) rfl rfl rfl (fun z_ z_1 z_2 => rfl) ?_
  intro env s' hes hf c
  have hA1 := hA.deeper env
  have hfr1 : (A.deeper env).frames = some [env, eL] := Around.frames_deeper hfr
  one_place
  refine @s_enterL _ _ _ _ _ _ _ _ _ _ _ _ _ _ _ _ (by assumption) ?_; intro Q' hQ' V_ C_ S_ c_
  refine @s_assign _ _ _ _ _ _ _ _ _ _ _ (by fold_depth) ?_
  refine x_listO (by assumption) ?_
  repeat kcf_m
  refine ⟨_, _, _, by assumption, len_ok rfl, fun ra s' c => ?_⟩
  refine y_store c (by kd_p1) fun s' c => ?_
  one_place
  refine @s_cons _ _ _ _ _ _ _ _ _ (fun Q' hQ' => wpAny_Try_except ?_)
  one_place
  refine @s_cons _ _ _ _ _ _ _ _ _ (fun Q' hQ' => s_exprc c (by fold_depth) ?_)
  repeat kcf_m
  refine x_cdef Cx.stab (by assumption) (by decide) (by got_up) (fun Qc hQc => ?_)
  repeat kcf_m
  refine callNow (by assumption) c (f_indexOf c.rd.wd c.rd.keep hA1 hfr1 (c.funFrames hf hfL hkL h0 hnf) hB hr hl (fun r z_ z_1 z_2 z_3 z_4 h z_5 => by rw [he] at h; cases h) fun z_ e s' hT => ?_)
  refine caught c hf hfr hfL h0 hnf hBL hT PySem.F.isExc_ValueError PySem.F.notTuple_ValueError (by rw [isSubtype_type]; kernel_rfl) (by simp) (by kpf_c) fun s₁ s'' E' t1 c => ?_
  one_place
  refine @s_enterL _ _ _ _ _ _ _ _ _ _ _ _ _ _ _ _ (by assumption) ?_; intro Q' hQ' V_ C_ S_ c_
  refine s_append (a := ra) (xs := []) (n := 0) c (by kd_p) (.head _) rfl rfl rfl rfl ?_
  intro s5 c5
  repeat kcf_m
  refine ⟨_, _, _, _, _, _, by assumption, Sel.head, len_ok rfl, fun s' c => ?_⟩
  repeat kcf_m
  clear c5
  obtain ⟨o1, h1, hnf1⟩ := t1.obj h0 hnf
  refine wpAny_Try_except ?_
  one_place
  refine @s_cons _ _ _ _ _ _ _ _ _ (fun Q' hQ' => s_exprc c (by fold_depth) ?_)
  repeat kcf_m
  refine x_cdef Cx.stab (by assumption) (by decide) (by got_up) (fun Qc hQc => ?_)
  repeat kcf_m
  rename Cx _ _ _ _ _ _ _ _ _ _ => c6
  refine callNow (by assumption) c6 (f_iconcat_no c6.rd.wd c6.rd.keep hA1 hfr1 (c6.funFrames hf hfL hkL h1 hnf1) fun e s' hT => ?_)
  refine caught c6 hf hfr hfL h1 hnf1 hBL hT PySem.F.isExc_TypeError PySem.F.notTuple_TypeError (by rw [isSubtype_type]; kernel_rfl) (by simp) (by kpf_c) fun s₂ s'' E' t2 c => ?_
  one_place
  refine @s_enterL _ _ _ _ _ _ _ _ _ _ _ _ _ _ _ _ (by assumption) ?_; intro Q' hQ' V_ C_ S_ c_
  refine s_append (a := ra) (n := 1) c (by kd_p) (.head _) rfl rfl rfl rfl ?_
  intro s5 c5
  repeat kcf_m
  refine ⟨_, _, _, _, _, _, by assumption, Sel.head, len_ok rfl, fun s' c => ?_⟩
  repeat kcf_m
  clear c5
  obtain ⟨o2, h2, hnf2⟩ := t2.obj h1 hnf1
  refine wpAny_Try_except ?_
  one_place
  refine @s_cons _ _ _ _ _ _ _ _ _ (fun Q' hQ' => s_exprc c (by fold_depth) ?_)
  repeat kcf_m
  refine x_cdef Cx.stab (by assumption) (by decide) (by got_up) (fun Qc hQc => ?_)
  repeat kcf_m
  rename Cx _ _ _ _ _ _ _ _ _ _ => c6
  refine callNow (by assumption) c6 (f_getitem_no c6.rd.wd c6.rd.keep hA1 hfr1 (c6.funFrames hf hfL hkL h2 hnf2) (c6.rd.keep _ _ (c6.ret.le _ _ hB)) (by lia) (by decide) fun e s' hT => ?_)
  refine caught c6 hf hfr hfL h2 hnf2 hBL hT PySem.F.isExc_IndexError PySem.F.notTuple_IndexError (by rw [isSubtype_type]; kernel_rfl) (by simp) (by kpf_c) fun s₃ s'' E' t3 c => ?_
  one_place
  refine @s_enterL _ _ _ _ _ _ _ _ _ _ _ _ _ _ _ _ (by assumption) ?_; intro Q' hQ' V_ C_ S_ c_
  refine s_append (a := ra) (n := 2) c (by kd_p) (.head _) rfl rfl rfl rfl ?_
  intro s5 c5
  repeat kcf_m
  refine ⟨_, _, _, _, _, _, by assumption, Sel.head, len_ok rfl, fun s' c => ?_⟩
  repeat kcf_m
  clear c5
  obtain ⟨B1, lef, hB1, c⟩ := c.freeze' Del.head
  repeat kcf_m
  one_place
  exact h _ _ _ _ _ _ _ _ (t1.trans (t2.trans t3)) c.ret hB1
end
end
section
open PySem PySem.Calls PyProof.Rows

section
variable {prog : Program} {w : World} {ad : Ad} {A : Around} {E : Value → Shared → Prop} {s : Shared} {B Bm : Ph} {env cenv : Env} {sc : Sc} {V VF VT : List (Option Value)} {s₀ : Shared} {B₀ : Ph} {N L : List (Addr × Obj)} {pos p' : Pos} {a I : Addr} {n : Nat} {ds : List D}
variable {scope : Scope} {tg fr gs : List Str} {R : Result → Shared → Prop} {elt iter0 iter1 c1 t0 t1 : Expr} {it acc : Value}

theorem compTurn2_0 : compTurn (.ListComp elt [⟨t0, iter0, [], 0⟩, ⟨t1, iter1, [c1], 0⟩] scope pos) 0 it acc env = (do
      standAt iter0.pos
      match ← pyNext it with
      | none => pure (.done .next)
      | some v =>
        letOwnedTupleGo t0 it v
        assign t0 env v
        let x ← eval iter1 env
        standAt iter1.pos
        let x ← foldedSetIterable iter1 env x
        let _ ← runOwn (.compStart (.ListComp elt [⟨t0, iter0, [], 0⟩, ⟨t1, iter1, [c1], 0⟩] scope pos) 1 (← holding [x] (pyIter x)) acc env) env
        again (.compLoop (.ListComp elt [⟨t0, iter0, [], 0⟩, ⟨t1, iter1, [c1], 0⟩] scope pos) 0 it acc env)) := by rfl
theorem compTurn2_1 : compTurn (.ListComp elt [⟨t0, iter0, [], 0⟩, ⟨t1, iter1, [c1], 0⟩] scope pos) 1 it acc env = (do
      standAt iter1.pos
      match ← pyNext it with
      | none => pure (.done .next)
      | some v =>
        letOwnedTupleGo t1 it v
        assign t1 env v
        let mut ok := true
        for c in [c1] do
          if ok then ok ← isTrue c env (eval c env)
        if ok then
          (do let _ ← call (.builtin "list.append") [acc, ← eval elt env])
        again (.compLoop (.ListComp elt [⟨t0, iter0, [], 0⟩, ⟨t1, iter1, [c1], 0⟩] scope pos) 1 it acc env)) := by rfl

theorem comp2_loop0 (J : Nat → Shared → Prop)
    (turn : ∀ n s, J n s → ∀ (Qb : Option Value → Shared → Prop) (Eb : Value → Shared → Prop), (∀ s, R (.ok .next) s → Qb none s) →
      (∀ v s, (∀ Rc : Result → Shared → Prop, (∀ f s', (∃ m, m < n ∧ J m s') → Rc (.ok f) s') → wpAny (model prog w) A (letOwnedTupleGo t0 it v) (fun z_ s₁' => wpAny (model prog w) A (assign t0 env v) (fun z_ s₂ => wpAny (model prog w) A (eval iter1 env) (fun x s₃ => wpAny (model prog w) A (pyIter x) (fun it' s₄ =>
          codeAny (model prog w) A (.compStart (.ListComp elt [⟨t0, iter0, [], 0⟩, ⟨t1, iter1, [c1], 0⟩] scope pos) 1 it' acc env) Rc s₄) Eb s₃) Eb s₂) Eb s₁') Eb s) → Qb (some v) s) →
      wpAny (model prog w) A (pyNext it) Qb Eb s)
    (hs1 : ∀ x, foldedSetIterable iter1 env x = pure x) (n : Nat) (h : J n s) :
    codeAny (model prog w) A (.compLoop (.ListComp elt [⟨t0, iter0, [], 0⟩, ⟨t1, iter1, [c1], 0⟩] scope pos) 0 it acc env) R s := by
  refine codeAny_loop rfl J (fun n s hI => ?_) n h
  show wpAny _ A ((compTurn (.ListComp elt [⟨t0, iter0, [], 0⟩, ⟨t1, iter1, [c1], 0⟩] scope pos) 0 it acc env).onRaise (fun x => do noteFrame x env; theTreesLotGoes x)) _ _ s
  refine wpAny_noted ?_
  rw [compTurn2_0]
  refine wpAny_bind (wpAny_standAt (wpAny_bind (turn n s hI _ _ (fun s₁ h₁ => wpAny_pure h₁) fun v s₁ h₁ => ?_)))
  refine wpAny_bind (wpAny_mono (h₁ (fun r s' => match r with | .ok _ => ∃ m, m < n ∧ J m s' | .error e => cameBackBy (model prog w) A env (notedBy (model prog w) A env fun e s' => R (.error e) s') e s') fun f s' h => h) (fun z_ s₁' h₁' => ?_) fun z_ z_1 h' => h')
  refine wpAny_bind (wpAny_mono h₁' (fun z_ s₂ h₂ => wpAny_bind (wpAny_mono h₂ (fun x s₃ h₃ => ?_) fun z_ z_1 h' => h')) fun z_ z_1 h' => h')
  refine wpAny_bind (wpAny_standAt ?_)
  refine wpAny_bind (wpAny_of_eq (hs1 x) ?_)
  refine wpAny_bind (wpAny_holding (wpAny_mono h₃ (fun it' s₄ h₄ => ?_) fun z_ z_1 h' => h'))
  refine wpAny_bind (wpAny_runOwn (codeAny_mono h₄ fun r s' hr => ?_))
  cases r with
  | ok f => exact wpAny_pure ⟨rfl, hr⟩
  | error e => exact hr

theorem comp2_loop1 (J : Nat → Shared → Prop)
    (turn : ∀ n s, J n s → ∀ (Qb : Option Value → Shared → Prop) (Eb : Value → Shared → Prop), (∀ s, R (.ok .next) s → Qb none s) →
      (∀ v s, (∀ Qc : Unit → Shared → Prop, (∀ s', (∃ m, m < n ∧ J m s') → Qc () s') → wpAny (model prog w) A (letOwnedTupleGo t1 it v) (fun z_ s₁' => wpAny (model prog w) A (assign t1 env v) (fun z_ s₂ =>
          wpAny (model prog w) A (tests [c1] env) (fun ok s₃ => Br ok (wpAny (model prog w) A (eval elt env) (fun x s₄ => wpAny (model prog w) A (call (.builtin "list.append") [acc, x]) (fun z_ => Qc ()) Eb s₄) Eb s₃) (Qc () s₃)) Eb s₂) Eb s₁') Eb s) → Qb (some v) s) →
      wpAny (model prog w) A (pyNext it) Qb Eb s)
    (n : Nat) (h : J n s) :
    codeAny (model prog w) A (.compLoop (.ListComp elt [⟨t0, iter0, [], 0⟩, ⟨t1, iter1, [c1], 0⟩] scope pos) 1 it acc env) R s := by
  refine codeAny_loop rfl J (fun n s hI => ?_) n h
  show wpAny _ A ((compTurn (.ListComp elt [⟨t0, iter0, [], 0⟩, ⟨t1, iter1, [c1], 0⟩] scope pos) 1 it acc env).onRaise (fun x => do noteFrame x env; theTreesLotGoes x)) _ _ s
  refine wpAny_noted ?_
  rw [compTurn2_1]
  refine wpAny_bind (wpAny_standAt (wpAny_bind (turn n s hI _ _ (fun s₁ h₁ => wpAny_pure h₁) fun v s₁ h₁ => ?_)))
  refine wpAny_bind (wpAny_mono (h₁ (fun z_ s' => ∃ m, m < n ∧ J m s') fun s' h => h) (fun z_ s₁' h₁' => ?_) fun z_ z_1 h' => h')
  refine wpAny_bind (wpAny_mono h₁' (fun z_ s₂ h₂ => wpAny_bind (wpAny_mono h₂ (fun ok s₃ h₃ => ?_) fun z_ z_1 h' => h')) fun z_ z_1 h' => h')
  cases ok with
  | false => exact wpAny_pure ⟨rfl, h₃.2 rfl⟩
  | true =>
    exact wpAny_bind (wpAny_bind (wpAny_mono (h₃.1 rfl) (fun x s₄ h₄ => wpAny_bind (wpAny_mono h₄ (fun z_ s₅ h₅ => wpAny_pure (wpAny_pure ⟨rfl, h₅⟩)) fun z_ z_1 h' => h')) fun z_ z_1 h' => h'))

theorem compStart2 
    (h0 : codeAny (model prog w) A (.compLoop (.ListComp elt [⟨t0, iter0, [], 0⟩, ⟨t1, iter1, [c1], 0⟩] scope pos) 1 it acc env) R s)
    (h : wpAny (model prog w) A (pyIter it) (fun it' s' => codeAny (model prog w) A (.compLoop (.ListComp elt [⟨t0, iter0, [], 0⟩, ⟨t1, iter1, [c1], 0⟩] scope pos) 1 it' acc env) R s')
      (notedBy (model prog w) A env fun x s' => R (.error x) s') s) :
    codeAny (model prog w) A (.compStart (.ListComp elt [⟨t0, iter0, [], 0⟩, ⟨t1, iter1, [c1], 0⟩] scope pos) 1 it acc env) R s := by
  refine codeAny_of_tree ?_
  show wpAny _ _ ((compStart (.ListComp elt [⟨t0, iter0, [], 0⟩, ⟨t1, iter1, [c1], 0⟩] scope pos) 1 it acc env).onRaise (fun x => do noteFrame x env; standAt theWindowsPlace)) _ _ s
  refine wpAny_notedAt ?_
  unfold compStart
  show wpAny _ _ (ask >>= _) _ _ s
  refine wpAny_bind (wpAny_askSetting (wpAny_ite ?_))
  split
  · first
      | exact wpAny_bind (wpAny_pure (wpAny_pure (And.intro rfl h0)))
      | exact wpAny_pure (And.intro rfl h0)
  · first
      | exact wpAny_bind (wpAny_rule (wpAny_bind (wpAny_standAt (wpAny_bind (wpAny_mono h (fun it' s' h' => wpAny_pure (And.intro rfl h')) fun z_ z_1 x => x)))))
      | (refine wpAny_bind (wpAny_rule ?_); show wpAny _ _ (standAt iter1.pos >>= _) _ _ s; exact wpAny_bind (wpAny_standAt (wpAny_bind (wpAny_mono h (fun it' s' h' => wpAny_pure (And.intro rfl h')) fun z_ z_1 x => x))))

theorem CC.put {C : Addr} {VT' : List (Option Value)} {x : Str} {v : Value} {Q : Unit → Shared → Prop} (k : OkC scope env sc.xs tg fr gs) (hk : scope.kind = .function) (P : Put x v tg VT VT')
    (c : CC w ad s₀ B₀ env sc V N C tg VT B s) (h : ∀ s', CC w ad s₀ B₀ env sc V N C tg VT' B s' → Q () s') : wpAny (model prog w) A (storeName (compEnvC scope (clOf scope.names env) C env) x v) Q E s := by
  have kk : ∀ x, (compEnvC scope (clOf scope.names env) C env).kindOf x = (scope.names.lookup x).map fun k => if (k == NameKind.free && env.scope.kind == .function && env.kindOf x == some .cell) then NameKind.cell else k := fun x => lookup_relabel
  have kT : ∀ x ∈ tg, (compEnvC scope (clOf scope.names env) C env).kindOf x = some .local := fun x hx => by rw [kk, k.tgs x hx]; rfl
  have hp : ((compEnvC scope (clOf scope.names env) C env).scope.kind == .class || ((compEnvC scope (clOf scope.names env) C env).scope.kind == .module && (compEnvC scope (clOf scope.names env) C env).locals != (compEnvC scope (clOf scope.names env) C env).globals)) = false := by
    have : (compEnvC scope (clOf scope.names env) C env).scope.kind = .function := hk
    rw [this]; rfl
  obtain ⟨oC, es, ep, m, c, h1, h2, h3, h4⟩ := c
  refine wpAny_storeName_local (kT x P.mem) (m := m) ⟨oC, es, ep, c.own _ (List.mem_append_right _ (.head _)), h1, h2, h3⟩ (fun h' hn hs => ?_) hp
  obtain ⟨oC', es', ep', a1, a2, a3, a4⟩ := hn
  refine h _ ⟨oC', es', ep', _, c.turn (L' := [(C, oC')]) rfl (fun b o hb e => (hs.2 b (fun z => hb (by simp [z]; rfl))).trans e) fun p hp => ?_, a2, a3, a4, fun y u hy => ?_⟩
  · cases List.mem_singleton.mp hp; exact a1
  · rcases P.at (List.nodup_append.mp k.nodup).1 y u hy with ⟨rfl, rfl⟩ | ⟨z1, z2⟩
    · exact if_pos rfl
    · exact (if_neg z1).trans (h4 y u z2)
theorem CC.cx {C : Addr} {N' L : List (Addr × Obj)} {oC : Obj} {es : Array DictEntry} {ep : Nat} {m : Str → Option Value} (P : ((N ++ [(C, oC)]) ++ L).Perm (N' ++ [(C, oC)])) (c : Cx w ad s₀ B₀ env sc V ((N ++ [(C, oC)]) ++ L) B s) (h1 : oC.data = .dict es ep) (h2 : StrKeys es) (h3 : ∀ name, nsFind es name = m name) (h4 : ∀ x v, At tg VT x v → m x = v) :
    CC w ad s₀ B₀ env sc V N' C tg VT B s := ⟨oC, es, ep, m, c.perm P.symm, h1, h2, h3, h4⟩
theorem perm_in (N L : List (Addr × Obj)) (c : Addr × Obj) : ((N ++ [c]) ++ L).Perm ((N ++ L) ++ [c]) := by
  rw [List.append_assoc, List.append_assoc]
  exact List.Perm.append_left _ List.perm_append_comm

inductive Cp2Inv (w : World) (ad : Ad) (s₀ : Shared) (B₀ : Ph) (env : Env) (sc : Sc) (V : List (Option Value)) (N : List (Addr × Obj)) (x y : Str) (Bm B : Ph) (C Da : Addr) (M : List D → List (Addr × Obj) → Prop) (p : D → D → Bool) (f : D → D → D) (ds ds1 : List D) (k : Nat) (s' : Shared) : Prop
  | mk (dd rest : List D) (xs : List Value) (n : Nat) (B' : Ph) (L' : List (Addr × Obj)) (u v : Option Value) (h1 : ds = dd ++ rest) (h2 : k = rest.length) (h3 : M rest L') (h4 : Bm.le B') (h5 : B.le B') (h6 : Reps B' xs (dd.flatMap fun d0 => (ds1.filter (p d0)).map (f d0))) (h7 : xs.length ≤ dd.length * ds1.length)
      (h8 : CC w ad s₀ B₀ env sc V (((Da, listObj xs n) :: N) ++ L') C [x, y] [u, v] B' s') : Cp2Inv w ad s₀ B₀ env sc V N x y Bm B C Da M p f ds ds1 k s'
inductive Cp3Inv (w : World) (ad : Ad) (s₀ : Shared) (B₀ : Ph) (env : Env) (sc : Sc) (V : List (Option Value)) (N : List (Addr × Obj)) (x y : Str) (L2 : List (Addr × Obj)) (Bq : Ph) (C Da : Addr) (M1 : List D → List (Addr × Obj) → Prop) (p : D → Bool) (f : D → D) (before ds1 : List D) (most : Nat) (u0 : Option Value) (k : Nat) (s' : Shared) : Prop
  | mk (dd1 rest1 : List D) (xs1 : List Value) (n1 : Nat) (B1 : Ph) (L1' : List (Addr × Obj)) (v1 : Option Value) (h1 : ds1 = dd1 ++ rest1) (h2 : k = rest1.length) (h3 : M1 rest1 L1') (h4 : Bq.le B1) (h5 : Reps B1 xs1 (before ++ (dd1.filter p).map f)) (h6 : xs1.length ≤ most + dd1.length)
      (h7 : CC w ad s₀ B₀ env sc V ((((Da, listObj xs1 n1) :: N) ++ L2) ++ L1') C [x, y] [u0, v1] B1 s') : Cp3Inv w ad s₀ B₀ env sc V N x y L2 Bq C Da M1 p f before ds1 most u0 k s'

theorem comp2_core {x y z : Str} {px py pz : Pos} {vz : Addr} {zs : List Value} {nz : Nat} {ds1 : List D} {M : List D → List (Addr × Obj) → Prop} {RR : Value → Addr → Result → Shared → Prop} (p : D → D → Bool) (f : D → D → D)
    (hA : A.handled = none) (ok : ScOk env sc) (k : OkC scope env sc.xs [x, y] fr gs) (hk : scope.kind = .function) (hf : Sub sc.xs V fr VF) (hz : At fr VF z (some (.ref vz)))
    (It : Iter prog w ad s₀ B₀ env sc Bm I M) (h0 : M ds L) (le : Bm.le B) (c : Cx w ad s₀ B₀ env sc V (N ++ L) B s) (hsz : ds.length * ds1.length ≤ sizeLine)
    (hB1 : Bm vz = some (listObj zs nz)) (hr1 : Reps Bm zs ds1)
    (body : ∀ (cenv : Env) (K : Ph → Shared → Prop) (d0 d1 : D) (v0 v1 : Value) (B : Ph) (s : Shared) (E : Value → Shared → Prop), Stab w ad cenv ⟨x :: y :: fr, gs⟩ (some v0 :: some v1 :: VF) K → d0 ∈ ds → d1 ∈ ds1 → Bm.le B → Rep B v0 d0 → Rep B v1 d1 → K B s →
      wpAny (model prog w) A (isTrue c1 cenv (eval c1 cenv)) (fun ok s₃ => ok = p d0 d1 ∧ ∃ B', B.le B' ∧ K B' s₃ ∧ (p d0 d1 = true → wpAny (model prog w) A (eval elt cenv) (fun y s₄ => ∃ B'', B'.le B'' ∧ Rep B'' y (f d0 d1) ∧ K B'' s₄) E s₃)) E s)
    (hRR : ∀ D C n xs VT B' s', Bm.le B' → B.le B' → Reps B' xs (ds.flatMap fun d0 => (ds1.filter (p d0)).map (f d0)) → CC w ad s₀ B₀ env sc V ((D, listObj xs n) :: N) C [x, y] VT B' s' → RR (.ref D) C (.ok .next) s') :
    wpAny (model prog w) A (newList []) (fun acc s₃ => wpAny (model prog w) A (newFunctionEnv scope env.globals (clOf scope.names env) [] env.qual none .none (some env)) (fun cenv s₄ =>
      codeAny (model prog w) A (.compStart (.ListComp elt [⟨.Name x px, iter0, [], 0⟩, ⟨.Name y py, .Name z pz, [c1], 0⟩] scope pos) 0 (.ref I) acc { cenv with scope := relabel scope env }) (RR acc cenv.locals) s₄) E s₃) E s := by
  refine wpAny_newObj_type (wpAny_newFunctionEnv k.cell (by intro y hy; simp at hy) (fun h₁ hns₁ hsb₁ => ?_) hk)
  dsimp only at hns₁ hsb₁ ⊢
  generalize hD : s.heap.objs.size = D at *
  have c1' : Cx w ad s₀ B₀ env sc V ((D, listObj []) :: (N ++ L)) B { s with heap := s.heap.push (listObj []), toks := s.toks } := hD ▸ c.alloc (t := s.toks) (listObj []) rfl
  generalize hH2 : s.heap.push { cls := .type "list", dict := none, data := .seq ([] : List Value).toArray } = H2 at hns₁ hsb₁ ⊢
  have hH2' : s.heap.push (listObj []) = H2 := hH2
  rw [hH2'] at c1'
  generalize hC : H2.objs.size = C at *
  obtain ⟨oC, es, ep, g1, g2, g3, g4⟩ := hns₁
  have c2 : Cx w ad s₀ B₀ env sc V ((C, { cls := .type "dict", data := .dict #[] }) :: (D, listObj []) :: (N ++ L)) B { s with heap := H2.push { cls := .type "dict", data := .dict #[] }, toks := s.toks } := by
    have := c1'.alloc (t := s.toks) { cls := .type "dict", data := .dict #[] } rfl
    rw [show ({ s with heap := H2, toks := s.toks } : Shared).heap.objs.size = C from hC] at this
    exact this
  have c3 : Cx w ad s₀ B₀ env sc V (((D, listObj []) :: N ++ L) ++ [(C, oC)]) B { s with heap := h₁, toks := s.toks + 0 } := by
    have := c2.perm (N' := ((D, listObj []) :: N ++ L) ++ [(C, { cls := .type "dict", data := .dict #[] })]) (List.perm_append_comm.trans (List.Perm.refl _))
    refine Cx.turn this (L' := [(C, oC)]) rfl (fun b o hb e => (hsb₁.2 b (fun z => hb (by simp [z]))).trans e) fun p hp => ?_
    cases List.mem_singleton.mp hp; exact g1
  have start : CC w ad s₀ B₀ env sc V (((D, listObj []) :: N) ++ L) C [x, y] [none, none] B { s with heap := h₁, toks := s.toks + 0 } := ⟨oC, es, ep, _, c3, g2, g3, g4, fun nm v' hy => by
    cases hy with
    | head => rfl
    | tail hy =>
      cases hy with
      | head => rfl
      | tail hy => cases hy⟩
  have loop : ∀ s₃ : Shared, s₃ = { s with heap := h₁, toks := s.toks + ([] : List (Str × Value)).length } →
      codeAny (model prog w) A (.compLoop (.ListComp elt [⟨.Name x px, iter0, [], 0⟩, ⟨.Name y py, .Name z pz, [c1], 0⟩] scope pos) 0 (.ref I) (.ref D) (compEnvC scope (clOf scope.names env) C env)) (RR (.ref D) C) s₃ := by
    rintro s₃ rfl
    refine comp2_loop0 (fun k s' => Cp2Inv w ad s₀ B₀ env sc V N x y Bm B C D M p f ds ds1 k s') ?_ (fun z_ => rfl) ds.length ?_
    · rintro k' s' ⟨dd, rest, xs, n, B', L', u, v, hds, rfl, hM, le1, le2, hr, hlen, cc⟩ Qb Eb q0 q1
      obtain ⟨oC, es, ep, m, c, r1, r2, r3, r4⟩ := cc.inner (N := (D, listObj xs n) :: N) (L := L') (.refl _)
      cases rest with
      | nil =>
        refine It.done hA hM le1 c fun s' c' => q0 _ ?_
        rw [List.append_nil] at hds
        subst hds
        exact hRR D C n xs _ B' s' le1 le2 hr ⟨oC, es, ep, m, c', r1, r2, r3, r4⟩
      | cons d rest =>
        have hd : d ∈ ds := by rw [hds]; simp
        refine It.item hA hM le1 c fun v0 L'' s' hM' hv c' => q1 _ _ fun Rc hRc => ?_
        refine wpAny_pure ?_
        have cc' : CC w ad s₀ B₀ env sc V (((D, listObj xs n) :: N) ++ L'') C [x, y] [u, v] B' s' := CC.cx (perm_in _ _ _) c' r1 r2 r3 r4
        refine wpAny_assign_Name (CC.put k hk .head cc' fun s₂ cc2 => ?_)
        have S2 : Stab w ad (compEnvC scope (clOf scope.names env) C env) ⟨[x, y] ++ fr, gs⟩ ([some v0, v] ++ VF) (CC w ad s₀ B₀ env sc V (((D, listObj xs n) :: N) ++ L'') C [x, y] [some v0, v]) := CC.stab ok k hk hf rfl
        refine x_name S2 cc2 (.tail (.tail hz)) ?_
        obtain ⟨oC, es, ep, m, c, r1, r2, r3, r4⟩ := cc2
        refine x_iterL c (le1 _ _ hB1) (hr1.mono le1) fun I1 M1 L1 s₃ It1 h1 c' => ?_
        have inner : codeAny (model prog w) A (.compLoop (.ListComp elt [⟨.Name x px, iter0, [], 0⟩, ⟨.Name y py, .Name z pz, [c1], 0⟩] scope pos) 1 (.ref I1) (.ref D) (compEnvC scope (clOf scope.names env) C env)) Rc s₃ := by
          clear q0 q1
          refine comp2_loop1 (fun k s' => Cp3Inv w ad s₀ B₀ env sc V N x y L'' B' C D M1 (p d) (f d) (dd.flatMap fun d0 => (ds1.filter (p d0)).map (f d0)) ds1 (dd.length * ds1.length) (some v0) k s') ?_ ds1.length ?_
          · rintro k1 s' ⟨dd1, rest1, xs1, n1, B1, L1', v1, hds1, rfl, hM1, le3, hr', hlen1, cc⟩ Qb Eb q0 q1
            obtain ⟨oC, es, ep, m, c, r1, r2, r3, r4⟩ := cc.inner (N := ((D, listObj xs1 n1) :: N) ++ L'') (L := L1') (.refl _)
            cases rest1 with
            | nil =>
              refine It1.done hA hM1 le3 c fun s' c' => q0 _ (hRc _ _ ?_)
              rw [List.append_nil] at hds1
              subst hds1
              refine ⟨rest.length, by simp, dd ++ [d], rest, xs1, n1, B1, L'', _, _, by rw [hds]; simp, rfl, hM', Ph.le_trans le1 le3, Ph.le_trans le2 le3, ?_, ?_, ⟨oC, es, ep, m, c', r1, r2, r3, r4⟩⟩
              · rw [List.flatMap_append]; simpa using hr'
              · rw [List.length_append, Nat.add_mul]; simpa using hlen1
            | cons d1 rest1 =>
              have hd1 : d1 ∈ ds1 := by rw [hds1]; simp
              refine It1.item hA hM1 le3 c fun v1' L1'' s' hM1' hv1 c' => q1 _ _ fun Qc hQc => ?_
              refine wpAny_pure ?_
              have cc' : CC w ad s₀ B₀ env sc V ((((D, listObj xs1 n1) :: N) ++ L'') ++ L1'') C [x, y] [some v0, v1] B1 s' := CC.cx (perm_in _ _ _) c' r1 r2 r3 r4
              refine wpAny_assign_Name (CC.put k hk (.tail .head) cc' fun s₂ cc2 => ?_)
              have S3 : Stab w ad (compEnvC scope (clOf scope.names env) C env) ⟨[x, y] ++ fr, gs⟩ ([some v0, some v1'] ++ VF) (CC w ad s₀ B₀ env sc V ((((D, listObj xs1 n1) :: N) ++ L'') ++ L1'') C [x, y] [some v0, some v1']) := CC.stab ok k hk hf rfl
              refine tests1 ?_
              refine wpAny_mono (body _ _ d d1 v0 v1' B1 s₂ _ S3 hd hd1 (Ph.le_trans le1 le3) (hv.mono le3) hv1 cc2) (fun okv s₃ h₃ => ?_) fun z_ z_1 x => x
              obtain ⟨rfl, B₁, le4, c3, h₃⟩ := h₃
              cases hpd : p d d1 with
              | false =>
                refine x_itf (hQc _ ?_)
                refine ⟨rest1.length, by simp, dd1 ++ [d1], rest1, xs1, n1, B₁, L1'', _, by rw [hds1]; simp, rfl, hM1', Ph.le_trans le3 le4, ?_, by rw [List.length_append]; lia, c3⟩
                rw [List.filter_append, List.filter_cons, hpd]
                simpa using hr'.mono le4
              | true =>
                refine x_itt (wpAny_mono (h₃ hpd) (fun y' s₄ h₄ => ?_) fun z_ z_1 x => x)
                obtain ⟨B₂, le5, hy, c4⟩ := h₄
                obtain ⟨oC, es, ep, m, c4, r1, r2, r3, r4⟩ := c4
                have hxs : xs1.length ≤ sizeLine := by
                  have h1 : dd1.length ≤ ds1.length := by rw [hds1, List.length_append]; lia
                  have h2 : dd.length + 1 ≤ ds.length := by rw [hds, List.length_append, List.length_cons]; lia
                  have h3 : (dd.length + 1) * ds1.length ≤ ds.length * ds1.length := Nat.mul_le_mul_right _ h2
                  rw [Nat.add_mul] at h3
                  lia
                refine x_append c4 (a := D) (xs := xs1) (n := n1) Sel.head hxs fun s₅ c5 => hQc _ ?_
                refine ⟨rest1.length, by simp, dd1 ++ [d1], rest1, xs1 ++ [y'], n1 + 1, B₂, L1'', _, by rw [hds1]; simp, rfl, hM1', Ph.le_trans (Ph.le_trans le3 le4) le5, ?_, by simp; lia, ⟨oC, es, ep, m, c5, r1, r2, r3, r4⟩⟩
                rw [List.filter_append, List.filter_cons, hpd, if_pos rfl, List.filter_nil, List.map_append, ← List.append_assoc]
                exact (hr'.mono (Ph.le_trans le4 le5)).snoc hy
          · exact ⟨[], ds1, xs, n, B', L1, v, rfl, rfl, h1, Ph.le_refl _, by simpa using hr, by simpa using hlen, CC.cx (perm_in _ _ _) c' r1 r2 r3 r4⟩
        exact compStart2 inner (It1.self h1 c' inner)
    · exact ⟨[], ds, [], 0, B, L, none, none, rfl, rfl, h0, le, Ph.le_refl B, .nil, Nat.zero_le _, start⟩
  refine codeAny_compStart_list (loop _ rfl) ?_
  obtain ⟨oC', es', ep', m', c', _, _, _, _⟩ := start.inner (N := (D, listObj []) :: N) (L := L) (.refl _)
  exact It.self h0 c' (loop _ rfl)

inductive Comp2Go (prog : Program) (w : World) (ad : Ad) (A : Around) (s₀ : Shared) (B₀ : Ph) (env : Env) (sc : Sc) (elt c1 : Expr) (x y z : Str) (fr gs : List Str) (p : D → D → Bool) (f : D → D → D) (Q : Value → Shared → Prop) (xv : Value) (s₁ : Shared) : Prop
  | mk (a : Addr) (n : Nat) (xs : List Value) (V : List (Option Value)) (N : List (Addr × Obj)) (B : Ph) (VF : List (Option Value)) (vz : Addr) (zs : List Value) (nz : Nat) (ds ds1 : List D) (e : xv = .ref a) (c : Cx w ad s₀ B₀ env sc V N B s₁) (hB : B a = some (tupObj xs n)) (r : Reps B xs ds) (hf : Sub sc.xs V fr VF) (hz : At fr VF z (some (.ref vz))) (hsz : ds.length * ds1.length ≤ sizeLine) (hB1 : B vz = some (listObj zs nz)) (r1 : Reps B zs ds1) (body : (∀ (cenv : Env) (K : Ph → Shared → Prop) (d0 d1 : D) (v0 v1 : Value) (B' : Ph) (s : Shared) (E : Value → Shared → Prop), Stab w ad cenv ⟨x :: y :: fr, gs⟩ (some v0 :: some v1 :: VF) K → d0 ∈ ds → d1 ∈ ds1 → B.le B' → Rep B' v0 d0 → Rep B' v1 d1 → K B' s →
        wpAny (model prog w) A (isTrue c1 cenv (eval c1 cenv)) (fun ok s₃ => ok = p d0 d1 ∧ ∃ B₁, B'.le B₁ ∧ K B₁ s₃ ∧ (p d0 d1 = true → wpAny (model prog w) A (eval elt cenv) (fun y s₄ => ∃ B'', B₁.le B'' ∧ Rep B'' y (f d0 d1) ∧ K B'' s₄) E s₃)) E s)) (out : (∀ D n xs B' s', B.le B' → Reps B' xs (ds.flatMap fun d0 => (ds1.filter (p d0)).map (f d0)) → Cx w ad s₀ B₀ env sc V ((D, listObj xs n) :: N) B' s' → Q (.ref D) s')) : Comp2Go prog w ad A s₀ B₀ env sc elt c1 x y z fr gs p f Q xv s₁
theorem x_comp2 {x y z : Str} {px py pz : Pos} {Q : Value → Shared → Prop} (p : D → D → Bool) (f : D → D → D) (hA : A.handled = none) (c0 : Cx w ad s₀ B₀ env sc V N B s) (k : okC scope.names env.scope.names sc.xs [x, y] fr gs = true) (hk : scope.kind = .function) (hs : ∀ x, foldedSetIterable iter0 env x = pure x)
    (h : wpAny (model prog w) A (eval iter0 env) (Comp2Go prog w ad A s₀ B₀ env sc elt c1 x y z fr gs p f Q) E s) :
    wpAny (model prog w) A (eval (.ListComp elt [⟨.Name x px, iter0, [], 0⟩, ⟨.Name y py, .Name z pz, [c1], 0⟩] scope pos) env) Q E s := by
  have ok := c0.rd.ok
  have k := okC_ok ok k
  clear c0
  rw [eval_ListComp]
  refine wpAny_comprehension_free (use := none) rfl hs k.clos hk k.names (wpAny_mono h (fun xv s₁ h₁ => ?_) fun z_ z_1 e => e)
  obtain ⟨a, n, xs, V, N, B, VF, vz, zs, nz, ds, ds1, rfl, c, hB, hr, hf, hz, hsz, hB1, hr1, body, out⟩ := h₁
  refine x_iterT c hB hr fun I M L s' It h0 c' => ?_
  refine comp2_core (RR := fun acc C => compPost (model prog w) A E none Q acc C) p f hA ok k hk hf hz It h0 (Ph.le_refl B) c' hsz hB1 hr1 body ?_
  intro D C n xs VT B' s' le1 le2 hr cc
  obtain ⟨m, hn⟩ := cc.ns
  exact ⟨m, hn, fun h' hs' => out D n xs B' _ le2 hr (cc.out (t := s'.toks) hs')⟩
end
end
section
open PySem PySem.Calls PyProof.Rows

section
set_option maxRecDepth 100000
theorem pa_pattern : PlainAttrs "re.Pattern" :=
  ⟨⟨"object.__getattribute__", by rw [typeLookup_type, builtinLookup_eq_fast]; kernel_rfl, by decide +kernel⟩, by rw [typeLookup_type, builtinLookup_eq_fast]; kernel_rfl⟩
theorem pa_match : PlainAttrs "re.Match" :=
  ⟨⟨"object.__getattribute__", by rw [typeLookup_type, builtinLookup_eq_fast]; kernel_rfl, by decide +kernel⟩, by rw [typeLookup_type, builtinLookup_eq_fast]; kernel_rfl⟩
theorem match_no_bool : typeLookup (.type "re.Match") "__bool__" = pure none := by rw [typeLookup_type, builtinLookup_eq_fast]; kernel_rfl
theorem match_no_len : typeLookup (.type "re.Match") "__len__" = pure none := by rw [typeLookup_type, builtinLookup_eq_fast]; kernel_rfl
theorem truthy_match {M : Model} {A : Around} {E : Value → Shared → Prop} {s : Shared} {a : Addr} {o : Obj} {Q : Bool → Shared → Prop} (ho : s.heap.get? a = some o) (hc : o.cls = .type "re.Match") (h : Q true s) : wpAny M A (truthy (.ref a)) Q E s := by
  obtain ⟨hp, g, d, tk, os⟩ := s
  obtain ⟨c, d1, d2, d3⟩ := o
  dsimp only at hc
  subst hc
  have f1 := match_no_bool
  have f2 := match_no_len
  unfold truthy
  repeat (any_goals (first | assumption | wp_step))
end

section
variable {prog : Program} {w : World} {ad : Ad} {A : Around} {E : Value → Shared → Prop} {s : Shared} {B : Ph} {env : Env}
theorem methodThen {name : Str} {ov : Value} {pos : Pos} {T id : String} {a : Sem Value} {args : List (Bool × Sem Value)} {Q : Value → Shared → Prop} (pa : PlainAttrs T) (slot : Slot T name id) (hty : typeOf (.builtin id) = pure (.type "method_descriptor")) (hT : s.TypeIs ov T)
    (hd : ∀ a, ov = .ref a → ∃ ob, s.heap.get? a = some ob ∧ ob.dict = none) (hp : ((false, a) :: args).any (·.1) = false)
    (h : wpAny (model prog w) A (spliced ((false, a) :: args)) (fun vs s₁ => wpAny (model prog w) A (call (.builtin id) (ov :: vs)) Q E s₁) E s) : MethodOnS prog w A E name ov pos ((false, a) :: args) Q s :=
  ⟨T, id, pa, slot, hty, hT, hd, callWith_builtin hp (evalArgs_plain (wpAny_mono h (fun z_ z_1 h => h) fun z_ z_1 e => e))⟩
theorem methodThen0 {name : Str} {ov : Value} {pos : Pos} {T id : String} {Q : Value → Shared → Prop} (pa : PlainAttrs T) (slot : Slot T name id) (hty : typeOf (.builtin id) = pure (.type "method_descriptor")) (hT : s.TypeIs ov T)
    (hd : ∀ a, ov = .ref a → ∃ ob, s.heap.get? a = some ob ∧ ob.dict = none)
    (h : wpAny (model prog w) A (call (.builtin id) [ov]) Q E s) : MethodOnS prog w A E name ov pos [] Q s :=
  ⟨T, id, pa, slot, hty, hT, hd, callWith_builtin rfl (PyProof.Rows.evalArgs_none h)⟩

noncomputable def parsed (l : List UInt8) : List (List UInt8) := match look (textN l) (lineEnd (textN l)) with
  | some (p, q) => splitW (groupB l p q)
  | none => []

theorem look_lt {p q : Nat} : ∀ (t : Array Nat) (i : Nat), look t i = some (p, q) → q < t.size
  | t, 0, h => by
    unfold look tryAt at h
    split at h
    · rename_i hh
      cases h
      by_cases hl : closeOf t (0 + 7) < t.size
      · exact hl
      · have : t.getD (closeOf t (0 + 7)) 0 = 0 := by simp [Array.getD, hl]
        rw [this] at hh; exact absurd hh.2 (by decide)
    · cases h
  | t, i + 1, h => by
    unfold look at h
    cases e : tryAt t (i + 1) with
    | some r =>
      rw [e] at h
      cases h
      unfold tryAt at e
      split at e
      · rename_i hh
        cases e
        by_cases hl : closeOf t (i + 1 + 7) < t.size
        · exact hl
        · have : t.getD (closeOf t (i + 1 + 7)) 0 = 0 := by simp [Array.getD, hl]
          rw [this] at hh; exact absurd hh.2 (by decide)
      · cases e
    | none =>
      rw [e] at h
      exact look_lt t i h

set_option maxRecDepth 100000 in
set_option maxHeartbeats 4000000 in
theorem f_parse {l : List UInt8} {t : Tok} {n : Nat} {Q : Value → Shared → Prop} (hw : Wd w ad B) (hkeep : ∀ a o, B a = some o → s.heap.get? a = some o) (hA : AOk (n + 1) A) (h8 : 8 ≤ l.length) (hsz : l.length ≤ 1000000)
    (h : ∀ a s' B' xs, Ret B s s' B' → B' a = some (tupObj xs) → BytesAre xs (parsed l) → Q (.ref a) s') : wpAny (model prog w) A (call (.ref (ad.fn 1)) [.bytes l.toArray t]) Q E s := by
  refine def_call (d := dn 1) (ps := ["resp"]) (rest := ["mo"]) (xs := ["resp", "mo"]) (V0 := [some _, none]) (gs := ["Flags", "tuple"]) hw hkeep (hw.fn 1 (by decide)) hA rfl rfl rfl (by decide +kernel) rfl rfl rfl (fun z_ z_1 z_2 => rfl) ?_
  intro env s' he c
  one_place
  refine @s_enterL _ _ _ _ _ _ _ _ _ _ _ _ _ _ _ _ (by assumption) ?_; intro Q' hQ' V_ C_ S_ c_
  repeat kcf_m
  refine Call_method1 rfl rfl rfl ?_
  repeat kcf_m
  obtain ⟨pp, tf, hpat⟩ := c.rd.wd.pat
  have hpat' := c.rd.keep _ _ hpat
  refine methodThen pa_pattern slot_match type_match ⟨_, hpat', rfl⟩ (fun a e => by cases e; exact ⟨_, hpat', rfl⟩) rfl ?_
  refine Calls.spliced_cons ?_
  repeat kcf_m
  refine Calls.spliced_nil ?_
  refine re_match hpat' (c.rd.keep _ _ c.rd.wd.code) h8 hsz ?_
  cases e : look (textN l) (lineEnd (textN l)) with
  | none =>
    simp only
    repeat kcf_m
    refine PyProof.Rows.truthy_none ?_
    repeat kcf_m
    refine x_itt ?_
    repeat kcf_m
    refine ⟨_, by assumption, len_ok rfl, fun a s' B' le hB c => ?_⟩
    one_place
    exact h _ _ _ _ (Cx.ret (by assumption)) hB (by unfold parsed; rw [e]; exact .nil)
  | some r =>
    simp only
    have hsz' : (textN l).size = l.length := by simp [textN]
    have hlt := look_lt _ _ e
    have hle := look_le e
    have c1 := c.go (Ret.push (t := s'.toks) c.rd.keep (spanObj r.1 r.2) rfl)
    have c2 := c1.go (Ret.push (t := s'.toks) c1.rd.keep (matchObj l t ad.flags s'.heap.objs.size) rfl)
    have hm1 := c2.rd.keep _ _ (Ph.put_self)
    have hT1 : ∀ B', Ph.le _ B' → B' s'.heap.objs.size = some (spanObj r.1 r.2) := fun B' le => le _ _ (Ph.le_put (o := matchObj l t ad.flags s'.heap.objs.size) (a := s'.heap.objs.size + 1) (B := B.put s'.heap.objs.size (spanObj r.1 r.2)) (by
      cases q : B.put s'.heap.objs.size (spanObj r.1 r.2) (s'.heap.objs.size + 1) with
      | none => rfl
      | some o' => have := c1.rd.keep _ o' q; have := Heap.lt_size this; simp [Heap.size_push] at this) _ _ Ph.put_self)
    simp only [Heap.size_push] at c2 hm1
    repeat kcf_m
    rename Cx _ _ _ _ _ _ _ _ _ _ => c3
    have hmo := c3.rd.keep _ _ Ph.put_self
    refine truthy_match hmo rfl ?_
    repeat kcf_m
    refine x_itf ?_
    repeat kcf_m
    refine Call_method0 rfl rfl ?_
    refine Call_method1 rfl rfl rfl ?_
    repeat kcf_m
    refine methodThen pa_match slot_group type_group ⟨_, hmo, rfl⟩ (fun a e => by cases e; exact ⟨_, hmo, rfl⟩) rfl ?_
    refine Calls.spliced_cons ?_
    repeat kcf_m
    refine Calls.spliced_nil ?_
    rename Cx _ _ _ _ _ _ _ _ _ _ => c4
    obtain ⟨pp', tf', hpat2⟩ := c4.rd.wd.pat
    obtain ⟨tg, tu, gn, hgi⟩ := c4.rd.wd.gi
    refine re_group (gi := 0) (c4.rd.keep _ _ hpat2) (c4.rd.keep _ _ Ph.put_self) (c4.rd.keep _ _ (hT1 _ (Ph.le_refl _))) (c4.rd.keep _ _ hgi) hle (by lia) hsz fun k t2 => ?_
    have c5 := c4.go (Ret.tok c4.rd.keep k)
    refine methodThen0 W.FB.plainAttrs_bytes slot_split type_split (W.typeIs_bytes _ _ _) (fun a e => nomatch e) ?_
    have hgl : (groupB l r.1 r.2).length ≤ 1000000 := by unfold groupB; rw [List.length_take, List.length_drop]; lia
    refine bytes_split hgl fun vs k2 hvs => ?_
    have c6 := c5.go (Ret.push (t := k2) c5.rd.keep (listObj vs) rfl)
    repeat kcf_m
    have hvl : vs.length ≤ 1000001 := by
      rw [hvs.length]
      exact Nat.le_trans (words_len _ _ _).2 (by lia)
    refine b_tuple Cx.stab c6 (Stab.isList Cx.stab c6 Ph.put_self) (Nat.le_trans hvl (Nat.le_of_ble_eq_true rfl)) fun a s' B' le hB c => ?_
    one_place
    exact h _ _ _ _ (Cx.ret (by assumption)) hB (by unfold parsed; rw [e]; exact hvs)
end
end
section

noncomputable def dnL : Nat → List Int
  | 0 => []
  | f + 1 => (f : Int) :: dnL f
theorem dnL_succ : ∀ f, dnL (f + 1) = (dnL f).map (· + 1) ++ [0]
  | 0 => rfl
  | f + 1 => by
    show (((f + 1 : Nat) : Int)) :: dnL (f + 1) = (((f : Nat) : Int) :: dnL f).map (· + 1) ++ [0]
    rw [dnL_succ f]
    simp
theorem dnL_nonneg : ∀ f, ∀ i ∈ dnL f, 0 ≤ i
  | 0, _, h => nomatch h
  | f + 1, i, h => by
    rcases List.mem_cons.mp h with rfl | h
    · exact Int.natCast_nonneg _
    · exact dnL_nonneg f i h
theorem wstep_shift (n : Int) (w : List UInt8) {i : Int} (hi : 0 ≤ i) : wstep n w (i + 1) = wstep (n / 16) w i := by
  unfold wstep
  have e : n / 16 ^ (i + 1).toNat = n / 16 / 16 ^ i.toNat := by
    rw [show (i + 1).toNat = i.toNat + 1 by lia, Int.pow_succ, Int.mul_comm, Int.ediv_ediv_of_nonneg (by decide)]
  rw [e]
theorem fold_shift (n : Int) : ∀ (l : List Int) (w : List UInt8), (∀ i ∈ l, 0 ≤ i) → (l.map (· + 1)).foldl (wstep n) w = l.foldl (wstep (n / 16)) w
  | [], _, _ => rfl
  | i :: l, w, h => by
    simp only [List.map_cons, List.foldl_cons]
    rw [wstep_shift n w (h i (.head _))]
    exact fold_shift n l _ fun j hj => h j (.tail _ hj)
theorem apW_nil : ∀ f, apW f 0 = []
  | 0 => rfl
  | _ + 1 => rfl
theorem apW_succ (f n : Nat) (h : 0 < n) : apW (f + 1) n = apW f (n / 16) ++ [(65 + n % 16).toUInt8] := by
  obtain ⟨m, rfl⟩ : ∃ m, n = m + 1 := ⟨n - 1, by lia⟩
  rfl
theorem apW_ne : ∀ f n, 0 < n → n < 16 ^ f → apW f n ≠ []
  | 0, n, h, h2 => by simp at h2; lia
  | f + 1, n, h, h2 => by rw [apW_succ f n h]; simp
theorem word_eq : ∀ (f n : Nat), n < 16 ^ f → (dnL f).foldl (wstep (n : Int)) [] = apW f n
  | 0, n, _ => by cases n <;> rfl
  | f + 1, n, h => by
    have h16 : n / 16 < 16 ^ f := by rw [Nat.pow_succ] at h; lia
    rw [dnL_succ, List.foldl_append, fold_shift _ _ _ (dnL_nonneg f)]
    have e : ((n : Int) / 16) = ((n / 16 : Nat) : Int) := by lia
    rw [e, word_eq f (n / 16) h16]
    simp only [List.foldl_cons, List.foldl_nil]
    unfold wstep
    have e2 : (n : Int) / 16 ^ (0 : Int).toNat % 16 = ((n % 16 : Nat) : Int) := by simp
    rw [e2]
    have e3 : ((65 + ((n % 16 : Nat) : Int)).toNat) = 65 + n % 16 := by lia
    rw [e3]
    by_cases hz : n = 0
    · subst hz
      rw [apW_nil, apW_nil]
      simp
    · have hp : 0 < n := by lia
      rw [apW_succ f n hp, if_pos]
      by_cases hq : n / 16 = 0
      · right; lia
      · left; exact apW_ne f _ (by lia) h16
theorem law_word {n : Nat} (h : n < 16 ^ 6) : lawWord (n : Int) = apW 6 n := word_eq 6 n h

theorem apW_back : ∀ (f n : Nat), n < 16 ^ f → (apW f n).foldl (fun (c : Int) (l : UInt8) => 16 * c + (l.toNat : Int) - 65) 0 = (n : Int)
  | 0, n, h => by
    have : n = 0 := by simpa using h
    subst this; rfl
  | f + 1, n, h => by
    by_cases hz : n = 0
    · subst hz; rfl
    · have h16 : n / 16 < 16 ^ f := by rw [Nat.pow_succ] at h; lia
      rw [apW_succ f n (by lia), List.foldl_append, apW_back f (n / 16) h16]
      simp only [List.foldl_cons, List.foldl_nil]
      have e : ((65 + n % 16).toUInt8).toNat = 65 + n % 16 := by
        rw [Nat.toUInt8, UInt8.toNat_ofNat']
        lia
      rw [e]
      lia
theorem apW_letters : ∀ (f n : Nat), ∀ l ∈ apW f n, 65 ≤ l.toNat ∧ l.toNat < 81
  | 0, n, l, h => by cases n <;> cases h
  | f + 1, n, l, h => by
    by_cases hz : n = 0
    · subst hz; cases h
    · rw [apW_succ f n (by lia)] at h
      rcases List.mem_append.mp h with h | h
      · exact apW_letters f _ l h
      · cases List.mem_singleton.mp h
        have e : ((65 + n % 16).toUInt8).toNat = 65 + n % 16 := by
          rw [Nat.toUInt8, UInt8.toNat_ofNat']
          lia
        rw [e]; lia
theorem apW_len : ∀ (f n : Nat), (apW f n).length ≤ f
  | 0, n => by cases n <;> exact Nat.le_refl 0
  | f + 1, n => by
    by_cases hz : n = 0
    · subst hz; exact Nat.zero_le _
    · rw [apW_succ f n (by lia), List.length_append]
      have := apW_len f (n / 16)
      simp; lia
end
section
open PySem

theorem textN_getD (l : List UInt8) (i : Nat) : (textN l).getD i 0 = (l[i]?.map (·.toNat)).getD 0 := by
  unfold textN
  rw [Array.getD_eq_getD_getElem?]
  simp
theorem textN_size (l : List UInt8) : (textN l).size = l.length := by simp [textN]

theorem cnt_eq {ok : Nat → Bool} {t : Array Nat} : ∀ (n p m : Nat), m < n → (∀ j, j < m → ok (t.getD (p + j) 0) = true) → ok (t.getD (p + m) 0) = false → cnt ok t n p = m
  | 0, _, _, h, _, _ => absurd h (Nat.not_lt_zero _)
  | n + 1, p, 0, _, _, h => by
    unfold cnt
    rw [Nat.add_zero] at h
    rw [h]; rfl
  | n + 1, p, m + 1, hm, h1, h2 => by
    unfold cnt
    have h0 := h1 0 (Nat.succ_pos _)
    rw [Nat.add_zero] at h0
    rw [if_pos h0, cnt_eq n (p + 1) m (by lia) (fun j hj => by have := h1 (j + 1) (by lia); rw [show p + 1 + j = p + (j + 1) by lia]; exact this) (by rw [show p + 1 + m = p + (m + 1) by lia]; exact h2)]
theorem cnt_ge {ok : Nat → Bool} {t : Array Nat} : ∀ (n p m : Nat), m ≤ n → (∀ j, j < m → ok (t.getD (p + j) 0) = true) → m ≤ cnt ok t n p
  | _, _, 0, _, _ => Nat.zero_le _
  | 0, _, m + 1, h, _ => absurd h (by lia)
  | n + 1, p, m + 1, hm, h1 => by
    unfold cnt
    have h0 := h1 0 (Nat.succ_pos _)
    rw [Nat.add_zero] at h0
    rw [if_pos h0]
    exact Nat.succ_le_succ (cnt_ge n (p + 1) m (by lia) fun j hj => by have := h1 (j + 1) (by lia); rw [show p + 1 + j = p + (j + 1) by lia]; exact this)
theorem cnt_stop_le {ok : Nat → Bool} {t : Array Nat} {n p m : Nat} (h : ok (t.getD (p + m) 0) = false) : cnt ok t n p ≤ m := by
  rcases Nat.lt_or_ge m (cnt ok t n p) with h1 | h1
  · have := cnt_ok ok t n p m h1
    rw [h] at this; cases this
  · exact h1
theorem look_down {t : Array Nat} {a : Nat} {r : Nat × Nat} (h0 : tryAt t a = some r) : ∀ n, a ≤ n → (∀ j, a < j → j ≤ n → tryAt t j = none) → look t n = some r
  | 0, h, _ => by
    have : a = 0 := by lia
    subst this
    exact h0
  | n + 1, h, hn => by
    unfold look
    rcases Nat.lt_or_eq_of_le h with h1 | h1
    · rw [hn (n + 1) h1 (Nat.le_refl _)]
      exact look_down h0 n (by lia) fun j h2 h3 => hn j h2 (by lia)
    · rw [← h1, h0]
theorem look_none {t : Array Nat} : ∀ n, (∀ j, j ≤ n → tryAt t j = none) → look t n = none
  | 0, h => h 0 (Nat.le_refl _)
  | n + 1, h => by
    unfold look
    rw [h (n + 1) (Nat.le_refl _)]
    exact look_none n fun j hj => h j (by lia)

theorem words_step {f n : Nat} {s w r : List UInt8} (hs : ∀ b ∈ s, Builtin.Bytes.isSpace b = true) (hw : ∀ b ∈ w, Builtin.Bytes.isSpace b = false) (hne : w ≠ []) (hr : r = [] ∨ ∃ b r', r = b :: r' ∧ Builtin.Bytes.isSpace b = true) :
    Builtin.Bytes.words (f + 1) (n + 1) (s ++ w ++ r) = w :: Builtin.Bytes.words f n r := by
  have d1 : (s ++ w ++ r).dropWhile Builtin.Bytes.isSpace = w ++ r := by
    rw [List.append_assoc]
    induction s with
    | nil =>
      cases w with
      | nil => exact absurd rfl hne
      | cons b w => rw [List.nil_append, List.cons_append, List.dropWhile_cons, hw b (.head _)]; rfl
    | cons b s ih =>
      rw [List.cons_append, List.dropWhile_cons, hs b (.head _)]
      exact ih fun x hx => hs x (.tail _ hx)
  have t1 : (w ++ r).takeWhile (fun x => !Builtin.Bytes.isSpace x) = w := by
    clear d1 hne
    induction w with
    | nil =>
      rcases hr with rfl | ⟨b, r', rfl, hb⟩
      · rfl
      · rw [List.nil_append, List.takeWhile_cons, hb]; rfl
    | cons b w ih =>
      rw [List.cons_append, List.takeWhile_cons, hw b (.head _)]
      simp only [Bool.not_false, if_true]
      rw [ih fun x hx => hw x (.tail _ hx)]
  have d2 : (w ++ r).dropWhile (fun x => !Builtin.Bytes.isSpace x) = r := by
    have := List.takeWhile_append_dropWhile (p := fun x => !Builtin.Bytes.isSpace x) (l := w ++ r)
    rw [t1] at this
    exact List.append_cancel_left this
  conv => lhs; unfold Builtin.Bytes.words
  rw [d1]
  cases hwr : w ++ r with
  | nil => exact absurd (List.append_eq_nil_iff.mp hwr).1 hne
  | cons b x =>
    simp only
    rw [← hwr, t1, d2]
    simp
theorem words_end {f n : Nat} {s : List UInt8} (hs : ∀ b ∈ s, Builtin.Bytes.isSpace b = true) : Builtin.Bytes.words f n s = [] := by
  cases f with
  | zero => rfl
  | succ f =>
    unfold Builtin.Bytes.words
    have : s.dropWhile Builtin.Bytes.isSpace = [] := by
      induction s with
      | nil => rfl
      | cons b s ih => rw [List.dropWhile_cons, hs b (.head _)]; exact ih fun x hx => hs x (.tail _ hx)
    rw [this]
noncomputable def joinP (ps : List (List UInt8 × List UInt8)) (e : List UInt8) : List UInt8 := ps.foldr (fun p r => p.1 ++ p.2 ++ r) e
theorem words_join {e : List UInt8} (he : ∀ b ∈ e, Builtin.Bytes.isSpace b = true) : ∀ (ps : List (List UInt8 × List UInt8)) (f n : Nat), ps.length ≤ f → ps.length ≤ n → (∀ p ∈ ps, (∀ b ∈ p.1, Builtin.Bytes.isSpace b = true) ∧ (∀ b ∈ p.2, Builtin.Bytes.isSpace b = false) ∧ p.2 ≠ []) → (∀ p ∈ ps.tail, p.1 ≠ []) →
    Builtin.Bytes.words f n (joinP ps e) = ps.map (·.2)
  | [], f, n, _, _, _, _ => words_end he
  | p :: ps, 0, n, h, _, _, _ => by simp at h
  | p :: ps, f + 1, 0, _, h, _, _ => by simp at h
  | p :: ps, f + 1, n + 1, h1, h2, hp, ht => by
    have hp0 := hp p (.head _)
    show Builtin.Bytes.words (f + 1) (n + 1) (p.1 ++ p.2 ++ joinP ps e) = p.2 :: ps.map (·.2)
    rw [words_step hp0.1 hp0.2.1 hp0.2.2, words_join he ps f n (by simp at h1; lia) (by simp at h2; lia) (fun q hq => hp q (.tail _ hq)) fun q hq => ht q (List.mem_of_mem_tail hq)]
    cases ps with
    | nil =>
      cases e with
      | nil => exact .inl rfl
      | cons b e => exact .inr ⟨b, e, rfl, he b (.head _)⟩
    | cons q ps =>
      right
      have hq := (hp q (.tail _ (.head _))).1
      have hqne : q.1 ≠ [] := ht q (.head _)
      cases hq1 : q.1 with
      | nil => exact absurd hq1 hqne
      | cons b r =>
        refine ⟨b, r ++ q.2 ++ joinP ps e, ?_, hq b (by rw [hq1]; exact .head _)⟩
        show q.1 ++ q.2 ++ joinP ps e = _
        rw [hq1]; rfl
end
section
open PySem

noncomputable def Yok (Y : List UInt8) : Prop := (∀ b ∈ Y, b ≠ 83) ∨ (∀ b ∈ Y, b ≠ 41) ∨ ∃ m : Nat, Y[m]? = some (10 : UInt8) ∧ ∀ j : Nat, Y[j]? = some (83 : UInt8) → m + 4 < j

theorem nat_ne {b : UInt8} {n : Nat} (hn : n < 256) (h : b ≠ UInt8.ofNat n) : b.toNat ≠ n := fun e => h (by
  apply UInt8.toNat_inj.mp
  rw [e, UInt8.toNat_ofNat']
  lia)

section
variable {X C Y : List UInt8}
noncomputable def framed (X C Y : List UInt8) : List UInt8 := X ++ (flagsAt ++ (C ++ (41 :: Y)))
theorem fr1 {i : Nat} (h : i < X.length) : (framed X C Y)[i]? = X[i]? := List.getElem?_append_left h
theorem fr2 {j : Nat} (h : j < 7) : (framed X C Y)[X.length + j]? = flagsAt[j]? := by
  unfold framed
  rw [List.getElem?_append_right (by lia), Nat.add_sub_cancel_left, List.getElem?_append_left (show j < flagsAt.length from h)]
theorem fr3 (j : Nat) : (framed X C Y)[X.length + 7 + j]? = (C ++ (41 :: Y))[j]? := by
  unfold framed
  rw [List.getElem?_append_right (by lia), List.getElem?_append_right (by show flagsAt.length ≤ _; have : flagsAt.length = 7 := rfl; omega)]
  congr 1
  have : flagsAt.length = 7 := rfl
  omega
theorem fr4 {j : Nat} (h : j < C.length) : (framed X C Y)[X.length + 7 + j]? = C[j]? := by rw [fr3, List.getElem?_append_left h]
theorem fr5 : (framed X C Y)[X.length + 7 + C.length]? = some 41 := by
  rw [fr3, List.getElem?_append_right (Nat.le_refl _), Nat.sub_self]; rfl
theorem fr6 (j : Nat) : (framed X C Y)[X.length + 7 + C.length + 1 + j]? = Y[j]? := by
  rw [show X.length + 7 + C.length + 1 + j = X.length + 7 + (C.length + (j + 1)) by lia, fr3, List.getElem?_append_right (by lia), show C.length + (j + 1) - C.length = j + 1 by lia]
  rfl
theorem fr_len : (framed X C Y).length = X.length + 7 + C.length + 1 + Y.length := by
  unfold framed
  simp only [List.length_append, List.length_cons]
  have : flagsAt.length = 7 := rfl
  lia

theorem head_pat : ∀ j, j < 7 → (flagsAt[j]?.map (·.toNat)).getD 0 = pat j := by decide
theorem flags83 : ∀ j, j < 7 → (flagsAt[j]?.map (·.toNat)).getD 0 = 83 → j = 4 := by decide
theorem flags10 : ∀ j, j < 7 → (flagsAt[j]?.map (·.toNat)).getD 0 ≠ 10 := by decide

theorem parsed_frame (hX : ∀ b ∈ X, b ≠ 10) (hC41 : ∀ b ∈ C, b ≠ 41) (hC83 : ∀ b ∈ C, b ≠ 83) (hY : Yok Y) : parsed (framed X C Y) = splitW C := by
  have hlen := fr_len (X := X) (C := C) (Y := Y)
  have hg : ∀ i, (textN (framed X C Y)).getD i 0 = ((framed X C Y)[i]?.map (·.toNat)).getD 0 := textN_getD _
  have hsz : (textN (framed X C Y)).size = (framed X C Y).length := textN_size _
  have noC : ∀ {n : Nat} (hn : n < 256), (∀ b ∈ C, b ≠ UInt8.ofNat n) → ∀ j, j < C.length → (textN (framed X C Y)).getD (X.length + 7 + j) 0 ≠ n := fun {n} hn h j hj => by
    rw [hg, fr4 hj, List.getElem?_eq_getElem hj]
    exact nat_ne hn (h _ (List.getElem_mem hj))
  have g41 : (textN (framed X C Y)).getD (X.length + 7 + C.length) 0 = 41 := by rw [hg, fr5]; rfl
  have gY : ∀ j, (textN (framed X C Y)).getD (X.length + 7 + C.length + 1 + j) 0 = (Y[j]?.map (·.toNat)).getD 0 := fun j => by rw [hg, fr6]
  have hclose : closeOf (textN (framed X C Y)) (X.length + 7) = X.length + 7 + C.length := by
    unfold closeOf
    have hcnt : cnt notCl (textN (framed X C Y)) ((textN (framed X C Y)).size - (X.length + 7)) (X.length + 7) = C.length := cnt_eq _ _ C.length (by rw [hsz, hlen]; omega) (fun j hj => by
      have := noC (n := 41) (by decide) hC41 j hj
      simpa [notCl] using this) (by rw [g41]; rfl)
    rw [hcnt]
  have htry : tryAt (textN (framed X C Y)) X.length = some (X.length + 7, X.length + 7 + C.length) := by
    unfold tryAt
    rw [hclose, if_pos ⟨fun j hj => by rw [hg, fr2 hj]; exact head_pat j hj, g41⟩]
  have hle : X.length ≤ lineEnd (textN (framed X C Y)) := by
    unfold lineEnd
    refine cnt_ge _ _ _ (by rw [hsz, hlen]; lia) fun j hj => ?_
    rw [Nat.zero_add, hg, fr1 hj, List.getElem?_eq_getElem hj]
    have := nat_ne (n := 10) (by decide) (hX _ (List.getElem_mem hj))
    simpa [notNl] using this
  have hnone : ∀ i, X.length < i → i ≤ lineEnd (textN (framed X C Y)) → tryAt (textN (framed X C Y)) i = none := fun i h1 h2 => by
    unfold tryAt
    refine if_neg ?_
    rintro ⟨hh, hc⟩
    have h83 : (textN (framed X C Y)).getD (i + 4) 0 = 83 := hh 4 (by decide)
    rcases Nat.lt_or_ge (i + 4) (X.length + 7) with c1 | c1
    · obtain ⟨j, hj⟩ : ∃ j, i + 4 = X.length + j := ⟨i + 4 - X.length, by lia⟩
      rw [hj, hg, fr2 (by lia)] at h83
      have := flags83 j (by lia) h83
      lia
    · rcases Nat.lt_or_ge (i + 4) (X.length + 7 + C.length) with c2 | c2
      · obtain ⟨j, hj⟩ : ∃ j, i + 4 = X.length + 7 + j := ⟨i + 4 - (X.length + 7), by lia⟩
        rw [hj] at h83
        exact noC (n := 83) (by decide) hC83 j (by lia) h83
      · rcases Nat.lt_or_eq_of_le c2 with c3 | c3
        · obtain ⟨j, hj⟩ : ∃ j, i + 4 = X.length + 7 + C.length + 1 + j := ⟨i + 4 - (X.length + 7 + C.length + 1), by lia⟩
          rw [hj, gY] at h83
          have hjl : j < Y.length := by
            by_cases hj : j < Y.length
            · exact hj
            · rw [List.getElem?_eq_none (by lia)] at h83; cases h83
          rw [List.getElem?_eq_getElem hjl] at h83
          have e83 : Y[j] = 83 := by
            by_cases h : Y[j] = 83
            · exact h
            · exact absurd h83 (nat_ne (n := 83) (by decide) h)
          rcases hY with hY | hY | ⟨m, hm1, hm2⟩
          · exact hY _ (List.getElem_mem hjl) e83
          · -- no bracket behind
            have hcl : X.length + 7 + C.length < closeOf (textN (framed X C Y)) (i + 7) := by unfold closeOf; lia
            obtain ⟨q, hq⟩ : ∃ q, closeOf (textN (framed X C Y)) (i + 7) = X.length + 7 + C.length + 1 + q := ⟨closeOf (textN (framed X C Y)) (i + 7) - (X.length + 7 + C.length + 1), by lia⟩
            rw [hq, gY] at hc
            by_cases hql : q < Y.length
            · rw [List.getElem?_eq_getElem hql] at hc
              exact nat_ne (n := 41) (by decide) (hY _ (List.getElem_mem hql)) hc
            · rw [List.getElem?_eq_none (by lia)] at hc; cases hc
          · have hm3 := hm2 j (by rw [List.getElem?_eq_getElem hjl, e83])
            have : lineEnd (textN (framed X C Y)) ≤ X.length + 7 + C.length + 1 + m := by
              unfold lineEnd
              refine cnt_stop_le ?_
              rw [Nat.zero_add, gY, hm1]; rfl
            lia
        · rw [← c3, g41] at h83; cases h83
  have hlook := look_down htry _ hle hnone
  unfold parsed
  rw [hlook]
  show splitW (groupB (framed X C Y) (X.length + 7) (X.length + 7 + C.length)) = splitW C
  congr 1
  unfold groupB framed
  have e1 : X ++ (flagsAt ++ (C ++ 41 :: Y)) = (X ++ flagsAt) ++ (C ++ 41 :: Y) := by simp
  rw [e1, List.drop_append_of_le_length (by simp [flagsAt]), List.drop_of_length_le (by simp [flagsAt])]
  rw [List.nil_append, show X.length + 7 + C.length - (X.length + 7) = C.length by lia, List.take_left']
  rfl
end
end
section
open PySem

noncomputable def WordOk (w : List UInt8) : Prop := w ≠ [] ∧ ∀ b ∈ w, b ≠ 41 ∧ b ≠ 83 ∧ Builtin.Bytes.isSpace b = false
theorem getD_in {α : Type} {l : List α} {i : Nat} {d : α} (h : i < l.length) : l.getD i d ∈ l := by
  rw [List.getD_eq_getElem?_getD, List.getElem?_eq_getElem h]; exact List.getElem_mem h
theorem getD_all {tab : List (List UInt8)} {P : List UInt8 → Prop} (h : ∀ x ∈ tab, P x) (h0 : P []) (i : Nat) : P (tab.getD i []) := by
  by_cases hi : i < tab.length
  · exact h _ (getD_in hi)
  · rw [List.getD_eq_getElem?_getD, List.getElem?_eq_none (by lia)]; exact h0
theorem ahead_ok : ∀ x ∈ aheads, ∀ b ∈ x, b ≠ 10 := by decide
theorem behind_ok : ∀ x ∈ behinds, Yok x := by
  intro x hx
  simp only [behinds, List.mem_cons, List.not_mem_nil, or_false] at hx
  rcases hx with rfl | rfl | rfl | rfl
  · exact .inl (fun b h => nomatch h)
  · exact .inr (.inl (by decide))
  · exact .inl (by decide)
  · refine .inr (.inr ⟨1, rfl, fun j hj => ?_⟩)
    have key : ∀ j, j < 12 → ([13, 10, 70, 76, 65, 71, 83, 32, 40, 73, 41] : List UInt8)[j]? = some (83 : UInt8) → 1 + 4 < j := by decide
    by_cases h : j < 12
    · exact key j h hj
    · omega
noncomputable def SpOk (g : List UInt8) : Prop := ∀ b ∈ g, Builtin.Bytes.isSpace b = true
theorem spaces_ok : ∀ g ∈ spaces, SpOk g ∧ g ≠ [] := by
  intro g hg
  simp only [spaces, List.mem_cons, List.not_mem_nil, or_false] at hg
  rcases hg with rfl | rfl | rfl | rfl <;> exact ⟨by unfold SpOk; decide, by decide⟩
theorem gap_ok (dress row : Int) : SpOk (gapOf dress row) ∧ gapOf dress row ≠ [] := by
  unfold gapOf
  have h1 := Int.emod_nonneg (dress + row) (show (4 : Int) ≠ 0 by decide)
  have h2 := Int.emod_lt_of_pos (dress + row) (show (0 : Int) < 4 by decide)
  exact spaces_ok _ (getD_in (by show _ < 4; lia))
theorem sp32 : SpOk [32] := by unfold SpOk; decide
theorem sp_ne {g : List UInt8} (h : SpOk g) : ∀ b ∈ g, b ≠ 41 ∧ b ≠ 83 := fun b hb => by
  have := h b hb
  constructor <;> (rintro rfl; exact absurd this (by decide))
theorem edge_ok {g : List UInt8} (h : SpOk g) (row : Int) : SpOk (edgeOf g row) := by
  unfold edgeOf
  refine getD_all (P := SpOk) (fun x hx => ?_) (fun z_ h => nomatch h) _
  simp only [List.mem_cons, List.not_mem_nil, or_false] at hx
  rcases hx with rfl | rfl | rfl
  · exact fun z_ h => nomatch h
  · exact sp32
  · exact h

theorem joinP_mem {e : List UInt8} {b : UInt8} : ∀ {ps : List (List UInt8 × List UInt8)}, b ∈ joinP ps e → (∃ p ∈ ps, b ∈ p.1 ∨ b ∈ p.2) ∨ b ∈ e
  | [], h => .inr h
  | p :: ps, h => by
    rcases List.mem_append.mp h with h | h
    · rcases List.mem_append.mp h with h | h
      · exact .inl ⟨p, .head _, .inl h⟩
      · exact .inl ⟨p, .head _, .inr h⟩
    · rcases joinP_mem h with ⟨q, hq, h⟩ | h
      · exact .inl ⟨q, .tail _ hq, h⟩
      · exact .inr h
theorem joinP_len {e : List UInt8} : ∀ {ps : List (List UInt8 × List UInt8)}, (∀ p ∈ ps, p.2 ≠ []) → ps.length ≤ (joinP ps e).length
  | [], _ => Nat.zero_le _
  | p :: ps, h => by
    show _ ≤ (p.1 ++ p.2 ++ joinP ps e).length
    have h1 := joinP_len (e := e) (ps := ps) fun q hq => h q (.tail _ hq)
    have h2 := List.length_pos_iff.mpr (h p (.head _))
    simp only [List.length_append, List.length_cons]
    lia

theorem parsed_join {X Y e : List UInt8} {ps : List (List UInt8 × List UInt8)} (hX : ∀ b ∈ X, b ≠ 10) (hY : Yok Y) (he : SpOk e) (hp : ∀ p ∈ ps, SpOk p.1 ∧ WordOk p.2) (ht : ∀ p ∈ ps.tail, p.1 ≠ []) : parsed (framed X (joinP ps e) Y) = ps.map (·.2) := by
  have hC : ∀ b ∈ joinP ps e, b ≠ 41 ∧ b ≠ 83 := fun b hb => by
    rcases joinP_mem hb with ⟨p, hpm, h | h⟩ | h
    · exact sp_ne (hp p hpm).1 b h
    · have := (hp p hpm).2.2 b h
      exact ⟨this.1, this.2.1⟩
    · exact sp_ne he b h
  rw [parsed_frame hX (fun b hb => (hC b hb).1) (fun b hb => (hC b hb).2) hY]
  unfold splitW
  have hl := joinP_len (e := e) (ps := ps) fun p h => (hp p h).2.1
  exact words_join he ps _ _ (by lia) (by lia) (fun p h => ⟨(hp p h).1, fun b hb => ((hp p h).2.2 b hb).2.2, (hp p h).2.1⟩) ht

theorem parsed_reply {row dress : Int} {w0 w1 w2 w3 w4 w5 w6 w7 w8 : List UInt8} (hw : ∀ w ∈ [w0, w1, w2, w3, w4, w5, w6, w7, w8], WordOk w) :
    parsed (reply row [w0, w1, w2, w3, w4, w5, w6, w7, w8] dress) = [w0, w1, w2, w3, w4, w5, w6, w7, w8] := by
  have hg := gap_ok dress row
  have he := edge_ok hg.1 row
  have e : reply row [w0, w1, w2, w3, w4, w5, w6, w7, w8] dress = framed (aheadOf dress row)
      (joinP [(edgeOf (gapOf dress row) row, w0), (gapOf dress row, w1), ([32], w2), (gapOf dress row, w3), ([32], w4), (gapOf dress row, w5), ([32], w6), (gapOf dress row, w7), ([32], w8)] (edgeOf (gapOf dress row) row)) (behindOf dress row) := by
    unfold reply framed
    generalize edgeOf (gapOf dress row) row = ed
    generalize gapOf dress row = g
    have hl : lineOf g [w0, w1, w2, w3, w4, w5, w6, w7, w8] = w0 ++ g ++ w1 ++ [32] ++ w2 ++ g ++ w3 ++ [32] ++ w4 ++ g ++ w5 ++ [32] ++ w6 ++ g ++ w7 ++ [32] ++ w8 := rfl
    rw [hl]
    simp [joinP]
  rw [e, parsed_join]
  · rfl
  · exact getD_all (P := fun x => ∀ b ∈ x, b ≠ 10) ahead_ok (fun z_ h => nomatch h) _
  · exact getD_all (P := Yok) behind_ok (.inl fun z_ h => nomatch h) _
  · exact he
  · intro p hp
    simp only [List.mem_cons, List.not_mem_nil, or_false] at hp hw
    rcases hp with rfl | rfl | rfl | rfl | rfl | rfl | rfl | rfl | rfl
    · exact ⟨he, hw _ (by simp)⟩
    · exact ⟨hg.1, hw _ (by simp)⟩
    · exact ⟨sp32, hw _ (by simp)⟩
    · exact ⟨hg.1, hw _ (by simp)⟩
    · exact ⟨sp32, hw _ (by simp)⟩
    · exact ⟨hg.1, hw _ (by simp)⟩
    · exact ⟨sp32, hw _ (by simp)⟩
    · exact ⟨hg.1, hw _ (by simp)⟩
    · exact ⟨sp32, hw _ (by simp)⟩
  · intro p hp
    simp only [List.tail_cons, List.mem_cons, List.not_mem_nil, or_false] at hp
    rcases hp with rfl | rfl | rfl | rfl | rfl | rfl | rfl | rfl
    · exact hg.2
    · simp
    · exact hg.2
    · simp
    · exact hg.2
    · simp
    · exact hg.2
    · simp
end
section
open PySem

theorem parsed_none {T : List UInt8} (h : ∀ i, i ≤ lineEnd (textN T) → ¬ HeadAt (textN T) i ∨ ∀ j, i + 7 ≤ j → (textN T).getD j 0 ≠ 41) : parsed T = [] := by
  unfold parsed
  rw [look_none]
  intro j hj
  unfold tryAt
  refine if_neg ?_
  rintro ⟨h1, h2⟩
  rcases h j hj with h | h
  · exact h h1
  · exact h _ (by unfold closeOf; lia) h2
theorem no_head {P w Q : List UInt8} (hw : ∀ b ∈ w, b ≠ 83) (hP : ∀ i, i < P.length → P[i]? = some 83 → (P[i + 1]?.getD 32 ≠ 32 ∨ P[i + 2]?.getD 40 ≠ 40)) (hQ : ∀ b ∈ Q, b ≠ 83) : ∀ i, ¬ HeadAt (textN (P ++ (w ++ Q))) i := by
  intro i hh
  have h4 := hh 4 (by decide)
  have h5 := hh 5 (by decide)
  have h6 := hh 6 (by decide)
  rw [textN_getD] at h4 h5 h6
  have key : ∀ (l : List UInt8) (k : Nat) (n : Nat), n < 256 → n ≠ 0 → (l[k]?.map (·.toNat)).getD 0 = n → l[k]? = some (UInt8.ofNat n) := fun l k n hn hz e => by
    cases hk : l[k]? with
    | none => rw [hk] at e; exact absurd e.symm hz
    | some b =>
      rw [hk] at e
      congr 1
      apply UInt8.toNat_inj.mp
      rw [UInt8.toNat_ofNat']
      have : b.toNat = n := e
      lia
  have k4 := key _ _ 83 (by decide) (by decide) h4
  have k5 := key _ _ 32 (by decide) (by decide) h5
  have k6 := key _ _ 40 (by decide) (by decide) h6
  rcases Nat.lt_or_ge (i + 4) P.length with c1 | c1
  · rw [List.getElem?_append_left c1] at k4
    rcases hP (i + 4) c1 k4 with h3 | h3
    · rcases Nat.lt_or_ge (i + 5) P.length with c2 | c2
      · rw [List.getElem?_append_left c2] at k5
        rw [show i + 4 + 1 = i + 5 by lia, k5] at h3
        exact h3 rfl
      · rw [show i + 4 + 1 = i + 5 by lia, List.getElem?_eq_none c2] at h3
        exact h3 rfl
    · rcases Nat.lt_or_ge (i + 6) P.length with c2 | c2
      · rw [List.getElem?_append_left c2] at k6
        rw [show i + 4 + 2 = i + 6 by lia, k6] at h3
        exact h3 rfl
      · rw [show i + 4 + 2 = i + 6 by lia, List.getElem?_eq_none c2] at h3
        exact h3 rfl
  · have hm : (83 : UInt8) ∈ w ++ Q := by
      rw [List.getElem?_append_right c1] at k4
      exact List.mem_of_getElem? k4
    rcases List.mem_append.mp hm with h | h
    · exact hw _ h rfl
    · exact hQ _ h rfl

theorem parsed_nothings {w : List UInt8} (hw : WordOk w) : ∀ T ∈ nothings w, parsed T = [] := by
  have h83 : ∀ b ∈ w, b ≠ 83 := fun b h => (hw.2 b h).2.1
  have h41 : ∀ b ∈ w, b ≠ 41 := fun b h => (hw.2 b h).1
  have h10 : ∀ b ∈ w, b ≠ 10 := fun b h => by
    rintro rfl
    exact absurd (hw.2 _ h).2.2 (by decide)
  have q41 : ∀ b ∈ ([41] : List UInt8), b ≠ 83 := by decide
  intro T hT
  simp only [nothings, List.mem_cons, List.not_mem_nil, or_false] at hT
  rcases hT with rfl | rfl | rfl | rfl | rfl | rfl
  · rw [List.append_assoc]
    exact parsed_none fun i z_ => .inl (no_head h83 (by decide) q41 i)
  · have e : [70, 76, 65, 71, 83, 32, 40] ++ w ++ [41] ++ [32, 70, 76, 65, 71, 83, 32, 40, 41] = framed ([70, 76, 65, 71, 83, 32, 40] ++ w ++ [41] ++ [32]) [] [] := by
      simp [framed, flagsAt]
    rw [e, parsed_frame]
    · rfl
    · intro b hb
      simp only [List.mem_append] at hb
      rcases hb with ((hb | hb) | hb) | hb
      · revert b; decide
      · exact h10 b hb
      · revert b; decide
      · revert b; decide
    · exact fun z_ h => nomatch h
    · exact fun z_ h => nomatch h
    · exact .inl fun z_ h => nomatch h
  · refine parsed_none fun i hi => .inl fun hh => ?_
    have hl : lineEnd (textN ([42, 32, 79, 75, 13, 10] ++ ([70, 76, 65, 71, 83, 32, 40] ++ w ++ [41]))) ≤ 5 := by
      unfold lineEnd
      refine cnt_stop_le ?_
      rw [textN_getD]
      rfl
    have h0 := hh 0 (by decide)
    rw [textN_getD, Nat.add_zero, List.getElem?_append_left (show i < 6 by lia)] at h0
    have key : ∀ i, i < 6 → (([42, 32, 79, 75, 13, 10] : List UInt8)[i]?.map (·.toNat)).getD 0 ≠ 70 := by decide
    exact key i (by lia) h0
  · rw [List.append_assoc]
    exact parsed_none fun i z_ => .inl (no_head h83 (by decide) q41 i)
  · refine parsed_none fun i hi => .inr fun j z_ h => ?_
    rw [textN_getD] at h
    cases hk : ([70, 76, 65, 71, 83, 32, 40] ++ w)[j]? with
    | none => rw [hk] at h; cases h
    | some b =>
      rw [hk] at h
      have hb := List.mem_of_getElem? hk
      have h41b : b ≠ 41 := by
        rcases List.mem_append.mp hb with hb | hb
        · exact (show ∀ b ∈ ([70, 76, 65, 71, 83, 32, 40] : List UInt8), b ≠ 41 by decide) b hb
        · exact h41 b hb
      exact nat_ne (n := 41) (by decide) h41b h
  · rw [List.append_assoc]
    exact parsed_none fun i z_ => .inl (no_head h83 (by decide) q41 i)
theorem parsed_nothing {w : List UInt8} (hw : WordOk w) (dress : Int) : parsed (nothing w dress) = [] := by
  unfold nothing
  have h1 := Int.emod_nonneg dress (show (6 : Int) ≠ 0 by decide)
  have h2 := Int.emod_lt_of_pos dress (show (0 : Int) < 6 by decide)
  exact parsed_nothings hw _ (getD_in (by show _ < 6; lia))
end
section
open PySem PySem.Calls

noncomputable def tells (j x : Nat) : Bool := match j with
  | 0 => setHas 0 x
  | 1 => x == 32
  | 2 => c4Has x
  | 3 => setHas 1 x
  | 4 => setHas 2 x
  | 5 => setHas 3 x
  | _ => setHas 4 x
noncomputable def rowP (k : Nat) : List (Int × Int) := runsP.getD k []
noncomputable def codeChk (k l : Nat) : Bool := match withinGo (rowP k) (l : Int) with
  | some x => decide (32 ≤ x) && decide (x ≤ 1114111) && (List.range 7).all fun j => tells j x.toNat == (j == k)
  | none => false
theorem code_chk : (List.range 7).all (fun k => decide (0 < total (rowP k)) && Nat.ble (rowP k).length 1000 && (List.range (total (rowP k)).toNat).all (codeChk k)) = true := by decide +kernel
theorem code_ok {k : Nat} (hk : k < 7) : 0 < total (rowP k) ∧ (rowP k).length ≤ 1000 ∧ ∀ number : Int, ∃ x : Nat, withinGo (rowP k) (number % total (rowP k)) = some (x : Int) ∧ 32 ≤ x ∧ x ≤ 1114111 ∧ ∀ j, j < 7 → tells j x = (j == k) := by
  have h := code_chk
  rw [List.all_eq_true] at h
  have h := h k (List.mem_range.mpr hk)
  simp only [Bool.and_eq_true, decide_eq_true_eq] at h
  obtain ⟨⟨h1, h2⟩, h3⟩ := h
  refine ⟨h1, Nat.le_of_ble_eq_true h2, fun number => ?_⟩
  have m0 := Int.emod_nonneg number (show total (rowP k) ≠ 0 by lia)
  have m1 := Int.emod_lt_of_pos number h1
  rw [List.all_eq_true] at h3
  have h4 := h3 (number % total (rowP k)).toNat (List.mem_range.mpr (by lia))
  unfold codeChk at h4
  rw [show (((number % total (rowP k)).toNat : Nat) : Int) = number % total (rowP k) by lia] at h4
  cases e : withinGo (rowP k) (number % total (rowP k)) with
  | none => rw [e] at h4; cases h4
  | some x =>
    rw [e] at h4
    simp only [Bool.and_eq_true, decide_eq_true_eq, List.all_eq_true, List.mem_range, beq_iff_eq] at h4
    obtain ⟨⟨h5, h6⟩, h7⟩ := h4
    exact ⟨x.toNat, by congr 1; lia, by lia, by lia, h7⟩

section
variable {prog : Program} {w : World} {ad : Ad} {A : Around} {E : Value → Shared → Prop} {s : Shared} {B : Ph}
theorem tells0 (k : Nat) : tells 0 k = setHas 0 k := by simp only [tells]
theorem tells1 (k : Nat) : tells 1 k = (k == 32) := by simp only [tells]
theorem tells2 (k : Nat) : tells 2 k = c4Has k := by simp only [tells]
theorem tells3 (k : Nat) : tells 3 k = setHas 1 k := by simp only [tells]
theorem tells4 (k : Nat) : tells 4 k = setHas 2 k := by simp only [tells]
theorem tells5 (k : Nat) : tells 5 k = setHas 3 k := by simp only [tells]
theorem tells6 (k : Nat) : tells 6 k = setHas 4 k := by simp only [tells]
theorem f_table {j k : Nat} {t : Tok} {n : Nat} {Q : Value → Shared → Prop} (hj : j < 7) (hw : Wd w ad B) (hkeep : ∀ a o, B a = some o → s.heap.get? a = some o) (hA : AOk (n + 1) A)
    (h : ∀ s', Ret B s s' B → Q (.bool (tells j k)) s') : wpAny (model prog w) A (call (.ref (ad.fn (9 + j))) [.str ⟨#[k]⟩ t]) Q E s := by
  have : j = 0 ∨ j = 1 ∨ j = 2 ∨ j = 3 ∨ j = 4 ∨ j = 5 ∨ j = 6 := by lia
  rcases this with rfl | rfl | rfl | rfl | rfl | rfl | rfl
  · rw [tells0] at h; exact f_b1 hw hkeep hA h
  · rw [tells1] at h; exact f_c11 hw hkeep hA h
  · rw [tells2] at h; exact f_c4 hw hkeep hA h
  · rw [tells3] at h; exact f_c6 hw hkeep hA h
  · rw [tells4] at h; exact f_c7 hw hkeep hA h
  · rw [tells5] at h; exact f_c8 hw hkeep hA h
  · rw [tells6] at h; exact f_c9 hw hkeep hA h
end
end
section
open PySem

noncomputable def drawnOf (f c3 : Int) (many : Nat) : List Int := (three 3 f (upto many)).map fun x => (x + c3) % 7
noncomputable def coloursOf (q c3 : Int) (many : Nat) : List Int := (upto many).map fun x => ((q + x) % (many : Int) + c3) % 7

noncomputable def threeChk (m f : Nat) : Bool := (fun l : List Int => l.length == 3 && (fun a b c : Int => a != b && a != c && b != c && decide (0 ≤ a) && decide (a < (m : Int)) && decide (0 ≤ b) && decide (b < (m : Int)) && decide (0 ≤ c) && decide (c < (m : Int))) (l.getD 0 0) (l.getD 1 0) (l.getD 2 0)) (three 3 (f : Int) (upto m))
theorem three_chk : ([3, 4, 5, 6, 7].all fun m => (List.range 1000).all fun f => threeChk m f) = true := by decide +kernel
theorem three_eq {l : List Int} (h : l.length = 3) : l = [l.getD 0 0, l.getD 1 0, l.getD 2 0] := three3 (P := fun l => l = [l.getD 0 0, l.getD 1 0, l.getD 2 0]) h fun _ _ _ => rfl
theorem three_ok {m : Nat} (h3 : 3 ≤ m) (h7 : m ≤ 7) {f : Int} (h0 : 0 ≤ f) (h1 : f < 1000) : ∃ a b c, three 3 f (upto m) = [a, b, c] ∧ a ≠ b ∧ a ≠ c ∧ b ≠ c ∧ (0 ≤ a ∧ a < (m : Int)) ∧ (0 ≤ b ∧ b < (m : Int)) ∧ (0 ≤ c ∧ c < (m : Int)) := by
  have h := three_chk
  rw [List.all_eq_true] at h
  have hm : m ∈ [3, 4, 5, 6, 7] := by
    have : m = 3 ∨ m = 4 ∨ m = 5 ∨ m = 6 ∨ m = 7 := by lia
    rcases this with rfl | rfl | rfl | rfl | rfl <;> simp
  have h := h m hm
  rw [List.all_eq_true] at h
  have h := h f.toNat (List.mem_range.mpr (by lia))
  unfold threeChk at h
  rw [show ((f.toNat : Nat) : Int) = f by lia] at h
  obtain ⟨hl, h⟩ := Bool.and_eq_true_iff.mp h
  have hl := three_eq (eq_of_beq hl)
  generalize (three 3 f (upto m)).getD 0 0 = a, (three 3 f (upto m)).getD 1 0 = b, (three 3 f (upto m)).getD 2 0 = c at h hl
  have h : (a != b && a != c && b != c && decide (0 ≤ a) && decide (a < (m : Int)) && decide (0 ≤ b) && decide (b < (m : Int)) && decide (0 ≤ c) && decide (c < (m : Int))) = true := h
  simp only [Bool.and_eq_true, bne_iff_ne, decide_eq_true_eq] at h
  obtain ⟨⟨⟨⟨⟨⟨⟨⟨h1, h2⟩, h3⟩, h4⟩, h5⟩, h6⟩, h7⟩, h8⟩, h9⟩ := h
  exact ⟨a, b, c, hl, h1, h2, h3, ⟨h4, h5⟩, ⟨h6, h7⟩, ⟨h8, h9⟩⟩

noncomputable def colChk (m u s : Nat) : Bool := decide (coloursOf (u : Int) (s : Int) m).Nodup && (List.range m).all fun x => (coloursOf (u : Int) (s : Int) m).contains (((x : Int) + (s : Int)) % 7)
theorem col_chk : ([3, 4, 5, 6, 7].all fun m => (List.range m).all fun u => (List.range 7).all fun s => colChk m u s) = true := by decide +kernel
theorem col_norm {m : Nat} (h3 : 3 ≤ m) (q c3 : Int) : coloursOf q c3 m = coloursOf (q % (m : Int)) (c3 % 7) m := by
  unfold coloursOf
  refine List.map_congr_left fun x z_ => ?_
  rw [Int.emod_add_emod]
  lia
theorem col_ok {m : Nat} (h3 : 3 ≤ m) (h7 : m ≤ 7) (q c3 : Int) : (coloursOf q c3 m).Nodup ∧ ∀ x : Int, 0 ≤ x → x < (m : Int) → (x + c3) % 7 ∈ coloursOf q c3 m := by
  rw [col_norm h3]
  have hm : m ∈ [3, 4, 5, 6, 7] := by
    have : m = 3 ∨ m = 4 ∨ m = 5 ∨ m = 6 ∨ m = 7 := by lia
    rcases this with rfl | rfl | rfl | rfl | rfl <;> simp
  have u0 := Int.emod_nonneg q (show (m : Int) ≠ 0 by lia)
  have u1 := Int.emod_lt_of_pos q (show (0 : Int) < m by lia)
  have s0 := Int.emod_nonneg c3 (show (7 : Int) ≠ 0 by decide)
  have s1 := Int.emod_lt_of_pos c3 (show (0 : Int) < 7 by decide)
  have h := col_chk
  rw [List.all_eq_true] at h
  have h := h m hm
  rw [List.all_eq_true] at h
  have h := h (q % (m : Int)).toNat (List.mem_range.mpr (by lia))
  rw [List.all_eq_true] at h
  have h := h (c3 % 7).toNat (List.mem_range.mpr (by lia))
  unfold colChk at h
  rw [show (((q % (m : Int)).toNat : Nat) : Int) = q % (m : Int) by lia, show (((c3 % 7).toNat : Nat) : Int) = c3 % 7 by lia] at h
  simp only [Bool.and_eq_true, decide_eq_true_eq, List.all_eq_true, List.mem_range, List.contains_iff_mem] at h
  refine ⟨h.1, fun x hx0 hx1 => ?_⟩
  have := h.2 x.toNat (by lia)
  rw [show ((x.toNat : Nat) : Int) = x by lia] at this
  rw [show (x + c3) % 7 = (x + c3 % 7) % 7 by lia]
  exact this
theorem drawn_ok {m : Nat} (h3 : 3 ≤ m) (h7 : m ≤ 7) {f : Int} (h0 : 0 ≤ f) (h1 : f < 1000) (q c3 : Int) : ∃ a b c, drawnOf f c3 m = [a, b, c] ∧ a ≠ b ∧ a ≠ c ∧ b ≠ c ∧ (a ∈ coloursOf q c3 m ∧ 0 ≤ a ∧ a < 7) ∧ (b ∈ coloursOf q c3 m ∧ 0 ≤ b ∧ b < 7) ∧ (c ∈ coloursOf q c3 m ∧ 0 ≤ c ∧ c < 7) := by
  obtain ⟨a, b, c, e, h1, h2, h3', ⟨a0, a1⟩, ⟨b0, b1⟩, ⟨c0, c1⟩⟩ := three_ok h3 h7 h0 h1
  have hc := (col_ok h3 h7 q c3).2
  refine ⟨(a + c3) % 7, (b + c3) % 7, (c + c3) % 7, by unfold drawnOf; rw [e]; rfl, by lia, by lia, by lia, ⟨hc a a0 a1, by lia, by lia⟩, ⟨hc b b0 b1, by lia, by lia⟩, ⟨hc c c0 c1, by lia, by lia⟩⟩
end
section
open PySem

theorem log2_lt_of {x K : Nat} (h : x < 2 ^ K) : (if (x : Int) == 0 then 0 else x.log2 + 1) ≤ K := by
  split
  · exact Nat.zero_le _
  · rename_i hz
    have hx : x ≠ 0 := by
      rintro rfl
      exact hz rfl
    have := (Nat.log2_lt hx).mpr h
    lia
theorem bits_le {i : Int} {K : Nat} (h : i.natAbs < 2 ^ K) : Builtin.Int.intBits i ≤ K := by
  unfold Builtin.Int.intBits
  split
  · exact Nat.zero_le _
  · rename_i hz
    have hx : i.natAbs ≠ 0 := by
      intro e
      have : i = 0 := by lia
      subst this
      exact hz rfl
    have := (Nat.log2_lt hx).mpr h
    lia
theorem lt_of_bits {i : Int} {K : Nat} (h : Builtin.Int.intBits i ≤ K) : i.natAbs < 2 ^ K := by
  by_cases hz : i = 0
  · subst hz; exact Nat.pow_pos (by decide)
  · unfold Builtin.Int.intBits at h
    have e : (i == 0) = false := beq_eq_false_iff_ne.mpr hz
    rw [e] at h
    have h2 : i.natAbs.log2 + 1 ≤ K := by simpa using h
    exact (Nat.log2_lt (by lia)).mp (by lia)
theorem sum_le {M : Nat} : ∀ (l : List Int), (∀ i ∈ l, i.natAbs ≤ M) → l.sum.natAbs ≤ l.length * M
  | [], _ => by simp
  | i :: l, h => by
    have h1 := h i (.head _)
    have h2 := sum_le l fun j hj => h j (.tail _ hj)
    rw [List.sum_cons, List.length_cons, Nat.add_mul]
    have := Int.natAbs_add_le i l.sum
    lia
theorem mul_big {a b : Int} (ha : Builtin.Int.intBits a ≤ 2 ^ 20) (hb : Builtin.Int.intBits b ≤ 2 ^ 21) : IntMulOk a b := by
  have e : (2 : Nat) ^ 20 = 1048576 := by decide
  have e1 : (2 : Nat) ^ 21 = 2097152 := by decide
  have h : Builtin.Int.intTooBig (Builtin.Int.intBits a + Builtin.Int.intBits b) = false := by
    unfold Builtin.Int.intTooBig bitsLine
    exact decide_eq_false (by lia)
  unfold IntMulOk
  rw [h]
  simp

theorem slice_chk : ((List.range 4).all fun i => (List.range 64).all fun len => Nat.ble (sliceRange (sliceBounds (some (i : Int)) none (some 4) len).1 (sliceBounds (some (i : Int)) none (some 4) len).2.1 (sliceBounds (some (i : Int)) none (some 4) len).2.2).length 64) = true := by decide +kernel
theorem pick_bits {ns : List Int} {i : Int} {K : Nat} (h0 : 0 ≤ i) (h4 : i < 4) (hl : ns.length ≤ 63) (h : ∀ n ∈ ns, Builtin.Int.intBits n ≤ K) : Builtin.Int.intBits (pick ns (some i) none (some 4)).sum ≤ K + 7 := by
  have hlen : (pick ns (some i) none (some 4)).length ≤ 64 := by
    have hc := slice_chk
    rw [List.all_eq_true] at hc
    have hc := hc i.toNat (List.mem_range.mpr (by lia))
    rw [List.all_eq_true] at hc
    have hc := Nat.le_of_ble_eq_true (hc ns.length (List.mem_range.mpr (by lia)))
    rw [show ((i.toNat : Nat) : Int) = i by lia] at hc
    unfold pick
    exact Nat.le_trans (List.length_filterMap_le _ _) hc
  have hm : ∀ n ∈ pick ns (some i) none (some 4), n.natAbs ≤ 2 ^ K := fun n hn => by
    unfold pick at hn
    obtain ⟨j, _, hj⟩ := List.mem_filterMap.mp hn
    exact Nat.le_of_lt (lt_of_bits (h n (List.mem_of_getElem? hj)))
  have hs := sum_le _ hm
  refine bits_le ?_
  have h1 : (pick ns (some i) none (some 4)).length * 2 ^ K ≤ 64 * 2 ^ K := Nat.mul_le_mul_right _ hlen
  have h2 : 2 ^ (K + 7) = 128 * 2 ^ K := by rw [Nat.pow_add, Nat.mul_comm]
  have h3 : 0 < 2 ^ K := Nat.pow_pos (by decide)
  lia
end
section
open PySem PySem.Calls PyProof.Rows

section
variable {prog : Program} {w : World} {ad : Ad} {A : Around} {E : Value → Shared → Prop} {s : Shared} {B : Ph} {env : Env} {sc : Sc} {V : List (Option Value)} {C : Ph → Shared → Prop}
variable {s₀ : Shared} {B₀ : Ph} {N : List (Addr × Obj)} {pos : Pos}
theorem x_cdefR {i : Nat} {e : Expr} {rest : List Expr} {Q : Value → Shared → Prop} (hi : i < 25) (he : starEach (e :: rest) env = (false, eval e env) :: starEach rest env)
    (h : wpAny (model prog w) A (spliced (backTo pos (starEach (e :: rest) env))) (fun vs s₁ => ∃ B₁, Wd w ad B₁ ∧ (∀ a o, B₁ a = some o → s₁.heap.get? a = some o) ∧ wpAny (model prog w) A (call (.ref (ad.fn i)) vs) Q E s₁) E s) :
    wpAny (model prog w) A (callWith pos (.ref (ad.fn i)) [] (backTo pos (starEach (e :: rest) env)) []) Q E s := by
  rw [he] at h ⊢
  exact callWith_function (o := fnObj (dn i) (ad.pm i) (ad.cd i) (ad.doc i)) (fd := (dn i).data (ad.pm i) (.ref (ad.cd i)) (ad.doc i)) (evalArgs_plain (wpAny_mono h (fun vs s₁ h₁ =>
    let ⟨_, hw, hk, h₁⟩ := h₁
    let ⟨_, _, _, h1, _⟩ := hw.fn i hi
    ⟨⟨hk _ _ h1, rfl⟩, h₁⟩) fun z_ z_1 x => x))
theorem x_mul9 {a : Addr} {n : Nat} {u : Tok} {Q : Value → Shared → Prop} (c : Cx w ad s₀ B₀ env sc V N B s) (hB : B a = some (listObj [.none] n)) (h : ∀ e s', Cx w ad s₀ B₀ env sc V ((e, listObj (List.replicate 9 .none)) :: N) B s' → Q (.ref e) s') :
    wpAny (model prog w) A (binaryOp .Mult (.ref a) (.int 9 u)) Q E s := by
  have hl := c.rd.keep _ _ hB
  exact wpAny_binaryOp_repeat_ref (T := "list") (U := "int") (by decide) ⟨_, hl, rfl⟩ (fun s' => typeIs_int s' 9 u) noFill_list_mul F.fills_int_mul F.slot_int_rmul repeat_list F.slot_int_index.lookup
    (call_meets F.slot_int_rmul (typeIs_int s 9 u) F.entry_int_rmul (F.args_int_rmul_2 _ _) (int___rmul___int_list 9 u a #[.none] n)
      ⟨hl, rfl, ⟨_, hl, rfl⟩, call_meets F.slot_list_mul ⟨_, hl, rfl⟩ F.entry_list_mul (F.args_list_mul_2 _ _)
        (AutoListH.list___mul___list_int_3 a #[.none] n 9 u (by decide) (by decide) (by decide))
        ⟨hl, h _ _ (c.alloc (t := s.toks) (listObj (List.replicate 9 .none)) rfl)⟩⟩)
end

noncomputable def optI : Option Int → D
  | none => .none
  | some r => .int r
noncomputable def optN : Option Nat → D
  | none => .none
  | some r => .int r
inductive OptsAre : List Value → List (Option Int) → Prop
  | nil : OptsAre [] []
  | no {vs : List Value} {os : List (Option Int)} (r : OptsAre vs os) : OptsAre (.none :: vs) (none :: os)
  | yes (i : Int) (t : Tok) {vs : List Value} {os : List (Option Int)} (r : OptsAre vs os) : OptsAre (.int i t :: vs) (some i :: os)
inductive OptIs : Value → Option Int → Prop
  | no : OptIs .none none
  | yes (i : Int) (t : Tok) : OptIs (.int i t) (some i)
theorem OptIs.isYes {v : Value} {i : Int} (h : OptIs v (some i)) : IsInt v i := by cases h; exact ⟨_, rfl⟩
theorem OptIs.isNo {v : Value} (h : OptIs v none) : v = .none := by cases h; rfl
theorem OptsAre.length {vs : List Value} {os : List (Option Int)} (h : OptsAre vs os) : vs.length = os.length := by
  induction h with
  | nil => rfl
  | no _ ih => exact congrArg Nat.succ ih
  | yes _ _ _ ih => exact congrArg Nat.succ ih
theorem OptsAre.get {vs : List Value} {os : List (Option Int)} (h : OptsAre vs os) : ∀ {i : Nat}, i < os.length → ∃ v, vs[i]? = some v ∧ OptIs v (os.getD i none) := by
  induction h with
  | nil => exact fun h => absurd h (Nat.not_lt_zero _)
  | no _ ih =>
    intro i h
    cases i with
    | zero => exact ⟨_, rfl, .no⟩
    | succ i => exact ih (Nat.lt_of_succ_lt_succ h)
  | yes n t _ ih =>
    intro i h
    cases i with
    | zero => exact ⟨_, rfl, .yes n t⟩
    | succ i => exact ih (Nat.lt_of_succ_lt_succ h)
theorem OptsAre.set {vs : List Value} {os : List (Option Int)} (h : OptsAre vs os) : ∀ (k : Nat) (i : Int) (t : Tok), OptsAre (vs.set k (.int i t)) (os.set k (some i)) := by
  induction h with
  | nil => exact fun z_ z_1 z_2 => .nil
  | no r ih =>
    intro k i t
    cases k with
    | zero => exact .yes i t r
    | succ k => exact .no (ih k i t)
  | yes n u r ih =>
    intro k i t
    cases k with
    | zero => exact .yes i t r
    | succ k => exact .yes n u (ih k i t)
theorem OptsAre.reps {B : Ph} {vs : List Value} {os : List (Option Int)} (h : OptsAre vs os) : Reps B vs (os.map optI) := by
  induction h with
  | nil => exact .nil
  | no _ ih => exact .cons .none ih
  | yes n t _ ih => exact .cons (.int n t) ih
theorem ints_set {vs : List Value} {ns : List Int} (h : IntsAre vs ns) : ∀ (k : Nat) (i : Int) (t : Tok), IntsAre (vs.set k (.int i t)) (ns.set k i) := by
  induction h with
  | nil => exact fun z_ z_1 z_2 => .nil
  | cons n u r ih =>
    intro k i t
    cases k with
    | zero => exact .cons i t r
    | succ k => exact .cons n u (ih k i t)

noncomputable def natsD (l : List Nat) : List D := l.map fun (c : Nat) => .int (c : Int)
noncomputable def cellD (r : Nat) : D → D
  | .int j => .int (3 * (r : Int) + j)
  | d => d
noncomputable def ableD (lists : List (List Int)) (dealt : List (Option Int)) (colour : Int) : D → Bool
  | .int c => ableP lists dealt colour c.toNat
  | _ => false
theorem filter_nats (p : D → Bool) (q : Nat → Bool) (h : ∀ c : Nat, p (.int c) = q c) (l : List Nat) : (natsD l).filter p = natsD (l.filter q) := by
  unfold natsD
  induction l with
  | nil => rfl
  | cons c l ih =>
    simp only [List.map_cons, List.filter_cons, h]
    split
    · rw [List.map_cons, ih]
    · exact ih
noncomputable def rankP (ranks : List Nat) : D → D → Bool
  | .int rk, .int cl => decide (((ranks.getD cl.toNat 0 : Nat) : Int) = rk)
  | _, _ => false
noncomputable def colF (_ : D) : D → D
  | .int cl => .int (cl % 3)
  | d => d
theorem comp2_eq (ranks able : List Nat) : ([D.int 2, .int 1, .int 0].flatMap fun d0 => ((natsD able).filter (rankP ranks d0)).map (colF d0)) = natsD (wishOf ranks able) := by
  have h : ∀ rk : Nat, ((natsD able).filter (rankP ranks (.int (rk : Int)))).map (colF (.int (rk : Int))) = natsD ((able.filter fun cell => ranks.getD cell 0 == rk).map (· % 3)) := fun rk => by
    rw [filter_nats _ (fun cell => ranks.getD cell 0 == rk) (fun c => ?_)]
    · unfold natsD
      rw [List.map_map, List.map_map]
      refine List.map_congr_left fun c z_ => ?_
      show D.int ((c : Int) % 3) = D.int (((c % 3 : Nat)) : Int)
      rw [show ((c % 3 : Nat) : Int) = (c : Int) % 3 by lia]
    · show decide (((ranks.getD ((c : Nat) : Int).toNat 0 : Nat) : Int) = (rk : Int)) = _
      rw [Bool.eq_iff_iff, decide_eq_true_iff, beq_iff_eq, Int.toNat_natCast]
      lia
  have h2 := h 2
  have h1 := h 1
  have h0 := h 0
  simp only [List.flatMap_cons, List.flatMap_nil]
  rw [show (D.int 2) = D.int ((2 : Nat) : Int) from rfl, show (D.int 1) = D.int ((1 : Nat) : Int) from rfl, show (D.int 0) = D.int ((0 : Nat) : Int) from rfl, h2, h1, h0]
  simp [wishOf, natsD]
noncomputable def wD (l : List Nat) : D := .list (l.map fun (c : Nat) => .int (c : Int))
inductive DInv (vl vc vr vt : Value) (da : Addr) (lists : List (List Int)) (ranks : List Nat) (turn : Nat) (fin : List (Option Int)) (ds : List D) (V : List (Option Value)) (N : List (Addr × Obj)) (_B : Ph) : Prop
  | mk (cs : List Int) (dl : List (Option Int)) (xs : List Value) (m : Nat) (v1 v2 v3 v4 v5 v6 v7 v8 v9 v10 : Option Value) (h1 : ds = cs.map .int) (h2 : V = [some vl, some vc, some vr, some vt, some (.ref da), v1, v2, v3, v4, v5, v6, v7, v8, v9, v10]) (h3 : N = [(da, listObj xs m)]) (h4 : OptsAre xs dl) (h5 : dl.length = 9) (h6 : cs.foldl (dealStep lists ranks turn) dl = fin) : DInv vl vc vr vt da lists ranks turn fin ds V N _B
inductive WInv2 (vl vc vr vt vk : Value) (da wa : Addr) (N0 : List (Addr × Obj)) (all : List (List Nat)) (f : Nat → List Nat) (ds : List D) (V : List (Option Value)) (N : List (Addr × Obj)) (B : Ph) : Prop
  | mk (rs : List Nat) (ws : List (List Nat)) (xs : List Value) (m : Nat) (v3 v4 v5 v6 v7 v8 v9 v10 : Option Value) (h1 : ds = rs.map (fun (r : Nat) => .int (r : Int))) (h2 : V = [some vl, some vc, some vr, some vt, some (.ref da), some vk, some (.ref wa), v3, v4, v5, v6, v7, v8, v9, v10]) (h3 : N = (wa, listObj xs m) :: N0) (h4 : Reps B xs (ws.map wD)) (h5 : ws ++ rs.map f = all) (h6 : (∀ r ∈ rs, r < 3)) (h7 : ws.length + rs.length = 3) : WInv2 vl vc vr vt vk da wa N0 all f ds V N B

section
theorem Cx.offB {w : World} {ad : Ad} {s₀ : Shared} {B₀ : Ph} {env : Env} {sc : Sc} {V : List (Option Value)} {N : List (Addr × Obj)} {B : Ph} {s : Shared} (c : Cx w ad s₀ B₀ env sc V N B s) {a : Addr} {o : Obj} (h : (a, o) ∈ N) : B a = none :=
  (c.fresh _ (priv_mem (List.mem_map_of_mem (f := (·.1)) h))).2
noncomputable def castO (l : List (Option Nat)) : List (Option Int) := l.map (Option.map fun (x : Nat) => (x : Int))
noncomputable def castN (l : List Nat) : List Int := l.map fun (x : Nat) => (x : Int)
inductive GInv (v0 v1 v2 v3 v4 v5 v6 v8 v9 : Option Value) (ha pa lna : Addr) (N0 : List (Addr × Obj)) (wishes : List (List Nat)) (ranks : List Nat) (turn : Nat) (fin : G) (Bw : Ph) (n : Nat) (V : List (Option Value)) (N : List (Addr × Obj)) (B : Ph) : Prop
  | mk (h0 : Bw.le B) (g : G) (hx px lx : List Value) (hm pm lm : Nat) (v7 v13 v14 : Option Value) (h1 : Good wishes g) (h2 : n = mu wishes g) (h3 : gRun wishes ranks turn (mu wishes g) g = fin) (h4 : V = [v0, v1, v2, v3, v4, v5, v6, v7, v8, v9, some (.ref ha), some (.ref pa), some (.ref lna), v13, v14]) (h5 : N = (lna, listObj lx lm) :: (pa, listObj px pm) :: (ha, listObj hx hm) :: N0) (h6 : OptsAre hx (castO g.held)) (h7 : IntsAre px (castN g.passed)) (h8 : IntsAre lx (castN g.line)) : GInv v0 v1 v2 v3 v4 v5 v6 v8 v9 ha pa lna N0 wishes ranks turn fin Bw n V N B
theorem castN_length (l : List Nat) : (castN l).length = l.length := List.length_map _
theorem castO_length (l : List (Option Nat)) : (castO l).length = l.length := List.length_map _
theorem castN_get {vs : List Value} {l : List Nat} (h : IntsAre vs (castN l)) {i : Nat} (hi : i < l.length) : ∃ t, vs[i]? = some (.int ((l.getD i 0 : Nat) : Int) t) := by
  refine ints_get h ?_
  simp [castN, hi]
theorem castO_get {vs : List Value} {l : List (Option Nat)} (h : OptsAre vs (castO l)) {i : Nat} (hi : i < l.length) : ∃ v, vs[i]? = some v ∧ OptIs v ((l.getD i none).map fun (x : Nat) => (x : Int)) := by
  obtain ⟨v, h1, h2⟩ := h.get (i := i) (by rw [castO_length]; exact hi)
  refine ⟨v, h1, ?_⟩
  have e : (castO l).getD i none = (l.getD i none).map fun (x : Nat) => (x : Int) := by
    simp [castO, hi]
  rw [e] at h2; exact h2
theorem castN_append (a b : List Nat) : castN (a ++ b) = castN a ++ castN b := by simp [castN]
theorem castN_set (l : List Nat) (k v : Nat) : castN (l.set k v) = (castN l).set k (v : Int) := by simp [castN, List.map_set]
theorem castO_set (l : List (Option Nat)) (k v : Nat) : castO (l.set k (some v)) = (castO l).set k (some (v : Int)) := by simp [castO, List.map_set]
theorem castN_erase (l : List Nat) (k : Nat) : castN (l.eraseIdx k) = (castN l).eraseIdx k := by
  unfold castN
  induction l generalizing k with
  | nil => rfl
  | cons a l ih =>
    cases k with
    | zero => rfl
    | succ k => simp only [List.eraseIdx_cons_succ, List.map_cons, ih]

end

noncomputable def dealtFor : List Stmt := match (dn 23).body with | _ :: .For _ _ b _ _ :: _ => b | _ => []
noncomputable def dealtWhile : Expr × List Stmt := match dealtFor.drop 5 with | .While t b _ _ :: _ => (t, b) | _ => (.Constant .none 0 ⟨0, 0, 0, 0⟩, [])
noncomputable def dealtAsk : List Stmt := match dealtWhile.2.drop 2 with | .If _ b _ _ :: _ => b | _ => []
noncomputable def dealtTail : List Stmt := dealtAsk.drop 4

section
variable {prog : Program} {w : World} {ad : Ad} {A : Around} {E : Value → Shared → Prop} {s s₀ : Shared} {B B₀ : Ph} {env : Env} {N1 : List (Addr × Obj)} {lna : Addr} {ls : List Value} {lm n : Nat} {i : Int} {t : Tok}
variable {v0 v1 v2 v3 v4 v5 v6 v8 v9 v10 v11 v13 v14 : Option Value}

set_option maxRecDepth 100000 in
theorem dealt_tail_none {N : List (Addr × Obj)} {Q : Flow → Shared → Prop} {v12 : Option Value} (hA1 : AOk (n + 1) A) (c : Cx w ad s₀ B₀ env (Sc.mk ["lists", "colours", "ranks", "turn", "dealt", "colour", "wishes", "row", "cells", "able", "held", "passed", "line", "column", "other"] ["range", "getitem", "delitem", "setitem", "iconcat", "is_not", "len"]) [v0, v1, v2, v3, v4, v5, v6, some .none, v8, v9, v10, v11, v12, v13, v14] N B s)
    (h : ∀ s', Cx w ad s₀ B₀ env (Sc.mk ["lists", "colours", "ranks", "turn", "dealt", "colour", "wishes", "row", "cells", "able", "held", "passed", "line", "column", "other"] ["range", "getitem", "delitem", "setitem", "iconcat", "is_not", "len"]) [v0, v1, v2, v3, v4, v5, v6, some .none, v8, v9, v10, v11, v12, v13, v14] N B s' → Q .next s') : wpAny (model prog w) A (execs dealtTail env) Q E s := by
  one_place
  refine @s_enterL _ _ _ _ _ _ _ _ _ _ _ _ _ _ _ _ (by assumption) ?_; intro Q' hQ' V_ C_ S_ c_
  repeat kcf_m
  refine x_cdef Cx.stab (by assumption) (by decide) (by got_up) (fun Qc hQc => ?_)
  repeat kcf_m
  rename Cx _ _ _ _ _ _ _ _ _ _ => c6
  refine callNow (by assumption) c6 (is_not_none (n := n) c6.rd.wd c6.rd.keep hA1 fun s' rt => ?_)
  have c7 := c6.go rt
  clear c6
  repeat kcf_m
  refine x_itf ?_
  refine x_itf ?_
  repeat kcf_m
  one_place
  exact h _ (by assumption)
set_option maxRecDepth 100000 in
theorem dealt_tail_some {Q : Flow → Shared → Prop} (hA1 : AOk (n + 1) A) (hz : ls.length ≤ 100) (c : Cx w ad s₀ B₀ env (Sc.mk ["lists", "colours", "ranks", "turn", "dealt", "colour", "wishes", "row", "cells", "able", "held", "passed", "line", "column", "other"] ["range", "getitem", "delitem", "setitem", "iconcat", "is_not", "len"]) [v0, v1, v2, v3, v4, v5, v6, some (.int i t), v8, v9, v10, v11, some (.ref lna), v13, v14] ((lna, listObj ls lm) :: N1) B s)
    (h : ∀ n' B' s', B.le B' → Cx w ad s₀ B₀ env (Sc.mk ["lists", "colours", "ranks", "turn", "dealt", "colour", "wishes", "row", "cells", "able", "held", "passed", "line", "column", "other"] ["range", "getitem", "delitem", "setitem", "iconcat", "is_not", "len"]) [v0, v1, v2, v3, v4, v5, v6, some (.int i t), v8, v9, v10, v11, some (.ref lna), v13, v14] ((lna, listObj (ls ++ [.int i t]) n') :: N1) B' s' → Q .next s') : wpAny (model prog w) A (execs dealtTail env) Q E s := by
  one_place
  refine @s_enterL _ _ _ _ _ _ _ _ _ _ _ _ _ _ _ _ (by assumption) ?_; intro Q' hQ' V_ C_ S_ c_
  repeat kcf_m
  refine x_cdef Cx.stab (by assumption) (by decide) (by got_up) (fun Qc hQc => ?_)
  repeat kcf_m
  rename Cx _ _ _ _ _ _ _ _ _ _ => c6
  refine callNow (by assumption) c6 (is_not_none (n := n) c6.rd.wd c6.rd.keep hA1 fun s' rt => ?_)
  have c7 := c6.go rt
  clear c6
  repeat kcf_m
  refine x_itt ?_
  repeat kcf_m
  refine x_cdefR (by decide) (by got_up) ?_
  repeat kcf_m
  refine x_cdef Cx.stab (by assumption) (by decide) (by got_up) (fun Qc hQc => ?_)
  repeat kcf_m
  refine x_list Cx.stab (by assumption) ?_
  repeat kcf_m
  refine ⟨_, by assumption, len_ok rfl, fun rl7 s' B7 le7 hB7 c => ?_⟩
  repeat kcf_m
  have hz7 : ls.length + ([Value.int i t].length) ≤ sizeLine := Nat.le_trans (show _ ≤ 101 from Nat.succ_le_succ hz) (len_ok rfl)
  refine callNow (by assumption) c (f_iconcat (n := n) c.rd.wd c.rd.keep hA1 (c.own _ (.head _)) (c.offB (.head _)) hB7 hz7 fun n' s' rt => ?_)
  have c8 := c.back Sel.head rfl rt
  repeat kcf_m
  refine ⟨_, c8.rd.wd, c8.rd.keep, f_isnot_self (n := n) c8.rd.wd c8.rd.keep hA1 fun s' rt => ?_⟩
  have c9 := c8.go rt
  clear c8
  repeat kcf_m
  refine x_itf ?_
  repeat kcf_m
  refine x_itf ?_
  repeat kcf_m
  one_place
  exact h _ _ _ le7 (by assumption)

variable {W : List (List Nat)} {ranks line : List Nat} {g : G} {row col : Nat} {oth : Option Nat} {wa ra pa ha : Addr} {wv rv px hx : List Value} {nw nr pm hm : Nat} {trow : Tok} {N0 : List (Addr × Obj)}
noncomputable def asked (ranks line : List Nat) (g : G) (row col : Nat) (oth : Option Nat) : G :=
  if better ranks row col oth = true then ⟨line ++ oth.toList, g.held.set col (some row), g.passed.set row (g.passed.getD row 0 + 1)⟩ else ⟨line ++ [row], g.held, g.passed.set row (g.passed.getD row 0 + 1)⟩
set_option maxRecDepth 100000 in
set_option maxHeartbeats 4000000 in
theorem dealt_ask {Q : Flow → Shared → Prop} (hA1 : AOk (n + 1) A) (hwa : B wa = some (listObj wv nw)) (hws : Reps B wv (W.map wD)) (hR : B ra = some (listObj rv nr)) (hRr : IntsAre rv (ranks.map fun (r : Nat) => (r : Int))) (hrl : ranks.length = 9)
    (hrow3 : row < 3) (hWl : W.length = 3) (hp : IntsAre px (castN g.passed)) (hpl : g.passed.length = 3) (hpw9 : g.passed.getD row 0 ≤ 9) (hh : OptsAre hx (castO g.held)) (hhl : g.held.length = 3) (hhr : ∀ r, some r ∈ g.held → r < 3)
    (hlt' : g.passed.getD row 0 < (W.getD row []).length) (hcold : (W.getD row []).getD (g.passed.getD row 0) 0 = col) (hcol3 : col < 3) (hod : g.held.getD col none = oth) (hl : IntsAre ls (castN line)) (hll : ls.length ≤ 3)
    (c : Cx w ad s₀ B₀ env (Sc.mk ["lists", "colours", "ranks", "turn", "dealt", "colour", "wishes", "row", "cells", "able", "held", "passed", "line", "column", "other"] ["range", "getitem", "delitem", "setitem", "iconcat", "is_not", "len"]) [v0, v1, some (.ref ra), v3, v4, v5, some (.ref wa), some (.int (row : Int) trow), v8, v9, some (.ref ha), some (.ref pa), some (.ref lna), v13, v14] ((lna, listObj ls lm) :: (pa, listObj px pm) :: (ha, listObj hx hm) :: N0) B s)
    (h : ∀ (B' : Ph) (s' : Shared) (hx' px' ls' : List Value) (hm' pm' lm' : Nat) (u7 u13 u14 : Option Value), B.le B' → OptsAre hx' (castO (asked ranks line g row col oth).held) → IntsAre px' (castN (asked ranks line g row col oth).passed) → IntsAre ls' (castN (asked ranks line g row col oth).line) →
      Cx w ad s₀ B₀ env (Sc.mk ["lists", "colours", "ranks", "turn", "dealt", "colour", "wishes", "row", "cells", "able", "held", "passed", "line", "column", "other"] ["range", "getitem", "delitem", "setitem", "iconcat", "is_not", "len"]) [v0, v1, some (.ref ra), v3, v4, v5, some (.ref wa), u7, v8, v9, some (.ref ha), some (.ref pa), some (.ref lna), u13, u14] ((lna, listObj ls' lm') :: (pa, listObj px' pm') :: (ha, listObj hx' hm') :: N0) B' s' → Q .next s') :
    wpAny (model prog w) A (execs dealtAsk env) Q E s := by
  have hWd : (W.map wD)[row]? = some (wD (W.getD row [])) := by
    have : row < W.length := by lia
    simp [this]
  obtain ⟨tp, hpw⟩ := castN_get hp (i := row) (by lia)
  one_place
  refine @s_enterL _ _ _ _ _ _ _ _ _ _ _ _ _ _ _ _ (by assumption) ?_; intro Q' hQ' V_ C_ S_ c_
  repeat kcf_m
  refine x_cdef Cx.stab (by assumption) (by decide) (by got_up) (fun Qc hQc => ?_)
  repeat kcf_m
  refine x_item rfl (Stab.isList Cx.stab (by assumption) hwa) hws (by lia) (by lia) (by rw [Int.toNat_natCast]; exact hWd) fun x hx'' => ?_
  obtain ⟨al2, nl3, lxs2, rfl, hBl2, rl2⟩ := Rep.isList hx''
  obtain ⟨tcol, hcol⟩ := castN_get (vs := lxs2) (l := W.getD row []) (Reps.ints (by rw [castN, List.map_map]; exact rl2)) hlt'
  rw [hcold] at hcol
  repeat kcf_m
  refine x_itemV rfl (Cx.isList (by assumption) (.tail _ (.head _))) (by lia) (by lia) (by rw [Int.toNat_natCast]; exact hpw) ?_
  repeat kcf_m
  rename Cx _ _ _ _ _ _ _ _ _ _ => c6
  refine callNow (by assumption) c6 (f_getitem (n := n) c6.rd.wd c6.rd.keep hA1 (c6.rd.keep _ _ hBl2) (by lia) (by lia) (by rw [Int.toNat_natCast]; exact hcol) fun s' rt => ?_)
  have c7 := c6.go rt
  clear c6
  repeat kcf_m
  rename Cx _ _ _ _ _ _ _ _ _ _ => c6
  refine s_exprc c6 (by fold_depth) ?_
  repeat kcf_m
  refine x_cdef Cx.stab (by assumption) (by decide) (by got_up) (fun Qc hQc => ?_)
  repeat kcf_m
  refine x_itemV rfl (Cx.isList (by assumption) (.tail _ (.head _))) (by lia) (by lia) (by rw [Int.toNat_natCast]; exact hpw) ?_
  repeat kcf_m
  rename Cx _ _ _ _ _ _ _ _ _ _ => c7
  refine callNow (by assumption) c7 (f_setitem (n := n) c7.rd.wd c7.rd.keep hA1 (c7.own _ (.tail _ (.head _))) (c7.offB (.tail _ (.head _))) (by lia) (by lia) (by rw [hp.length, castN_length]; lia) fun s' rt => ?_)
  have c8 := c7.back (.tail .head) rfl rt
  rw [Int.toNat_natCast] at c8
  clear c7 c6
  have e1 : ((g.passed.getD row 0 : Nat) : Int) + 1 = ((g.passed.getD row 0 + 1 : Nat) : Int) := by lia
  rw [e1] at c8
  repeat kcf_m
  obtain ⟨vo, hvo1, hvo2⟩ := castO_get hh (i := col) (by lia)
  rw [hod] at hvo2
  have hoth3 : ∀ o, oth = some o → o < 3 := fun o ho => hhr o (by rw [← ho, ← hod]; exact getD_mem (by lia))
  refine x_itemV rfl (Cx.isList (by assumption) (.tail _ (.tail _ (.head _)))) (by lia) (by lia) (by rw [Int.toNat_natCast]; exact hvo1) ?_
  repeat kcf_m
  refine x_or2 (p := oth = none) (q := better ranks row col oth = true) Cx.stab (by assumption) (fun s c => ?_) (fun s ho c => ?_) (fun s c => ?_)
  · repeat kcf_m
    refine ⟨?_, by assumption⟩
    cases oth with
    | none => obtain rfl := OptIs.isNo hvo2; rfl
    | some o => obtain ⟨to, rfl⟩ := OptIs.isYes (i := (o : Int)) hvo2; rfl
  · cases oth with
    | none => exact absurd rfl ho
    | some o =>
      have hvo2 : OptIs vo (some (o : Int)) := hvo2
      obtain ⟨to, rfl⟩ := OptIs.isYes hvo2
      have ho3 := hoth3 o rfl
      have hr1 : (ranks.map fun (r : Nat) => (r : Int))[3 * row + col]? = some ((ranks.getD (3 * row + col) 0 : Nat) : Int) := by
        have : 3 * row + col < ranks.length := by lia
        simp [this]
      have hr2 : (ranks.map fun (r : Nat) => (r : Int))[3 * o + col]? = some ((ranks.getD (3 * o + col) 0 : Nat) : Int) := by
        have : 3 * o + col < ranks.length := by lia
        simp [this]
      obtain ⟨t1, hq1⟩ := ints_get hRr hr1
      obtain ⟨t2, hq2⟩ := ints_get hRr hr2
      have ea1 : (3 * (row : Int) + (col : Int)) = ((3 * row + col : Nat) : Int) := by lia
      have ea2 : (3 * (o : Int) + (col : Int)) = ((3 * o + col : Nat) : Int) := by lia
      repeat kcf_m
      try ((with_reducible refine x_mul Cx.stab (by assumption) (IntMulOk.of_left (by decide +kernel)) ?_); intro _ _ _; repeat kcf_m)
      refine x_itemV rfl (Stab.isList Cx.stab (by assumption) hR) (by lia) (by lia) (by rw [ea1, Int.toNat_natCast]; exact hq1) ?_
      repeat kcf_m
      try ((with_reducible refine x_mul Cx.stab (by assumption) (IntMulOk.of_left (by decide +kernel)) ?_); intro _ _ _; repeat kcf_m)
      refine x_itemV rfl (Stab.isList Cx.stab (by assumption) hR) (by lia) (by lia) (by rw [ea2, Int.toNat_natCast]; exact hq2) ?_
      repeat kcf_m
      refine ⟨?_, by assumption⟩
      rw [Bool.eq_iff_iff]
      simp only [better, decide_eq_true_eq]
      lia
  have hb0 : (oth = none ∨ better ranks row col oth = true) ↔ better ranks row col oth = true := ⟨fun h => h.elim (fun h => by rw [h]; rfl) id, .inr⟩
  have hps : ∀ tk, IntsAre (px.set row (.int ((g.passed.getD row 0 + 1 : Nat) : Int) tk)) (castN (g.passed.set row (g.passed.getD row 0 + 1))) := fun tk => by rw [castN_set]; exact ints_set hp row _ _
  refine x_ite (fun hb => ?_) (fun hb => ?_)
  · have hb' := hb0.mp hb
    clear c8
    repeat kcf_m
    rename Cx _ _ _ _ _ _ _ _ _ _ => c6
    refine s_exprc c6 (by fold_depth) ?_
    repeat kcf_m
    refine x_cdef Cx.stab (by assumption) (by decide) (by got_up) (fun Qc hQc => ?_)
    repeat kcf_m
    rename Cx _ _ _ _ _ _ _ _ _ _ => c7
    refine callNow (by assumption) c7 (f_setitem (n := n) c7.rd.wd c7.rd.keep hA1 (c7.own _ (.tail _ (.tail _ (.head _)))) (c7.offB (.tail _ (.tail _ (.head _)))) (by lia) (by lia) (by rw [hh.length, castO_length]; lia) fun s' rt => ?_)
    have c8 := c7.back (.tail (.tail .head)) rfl rt
    rw [Int.toNat_natCast] at c8
    clear c7
    have hhs : OptsAre (hx.set col (.int (row : Int) trow)) (castO (g.held.set col (some row))) := by rw [castO_set]; exact hh.set col _ _
    iterate 5 kcf_m
    have ea : asked ranks line g row col oth = ⟨line ++ oth.toList, g.held.set col (some row), g.passed.set row (g.passed.getD row 0 + 1)⟩ := if_pos hb'
    cases oth with
    | none =>
      have hvo2 : OptIs vo none := hvo2
      obtain rfl := OptIs.isNo hvo2
      one_place
      refine dealt_tail_none hA1 (by assumption) fun s' c => ?_
      one_place
      exact h _ _ _ _ _ _ _ _ _ _ _ (Ph.le_refl _) (by rw [ea]; exact hhs) (by rw [ea]; exact hps _) (by rw [ea]; simpa using hl) c
    | some o =>
      have hvo2 : OptIs vo (some (o : Int)) := hvo2
      obtain ⟨to, rfl⟩ := OptIs.isYes hvo2
      rename Cx _ _ _ _ _ _ _ _ _ _ => c5
      one_place
      refine dealt_tail_some (ls := ls) hA1 (by lia) c5 fun n' B' s' le c => ?_
      one_place
      exact h _ _ _ _ _ _ _ _ _ _ _ le (by rw [ea]; exact hhs) (by rw [ea]; exact hps _) (by rw [ea]; show IntsAre _ (castN (line ++ [o])); rw [castN_append]; exact hl.append (.cons _ _ .nil)) c
  · have hb' : ¬ better ranks row col oth = true := fun z => hb (hb0.mpr z)
    have ea : asked ranks line g row col oth = ⟨line ++ [row], g.held, g.passed.set row (g.passed.getD row 0 + 1)⟩ := if_neg hb'
    clear c8
    one_item
    refine @s_nil _ _ _ _ _ _ _ ?_
    rename Cx _ _ _ _ _ _ _ _ _ _ => c5
    one_place
    refine dealt_tail_some (ls := ls) hA1 (by lia) c5 fun n' B' s' le c => ?_
    one_place
    exact h _ _ _ _ _ _ _ _ _ _ _ le (by rw [ea]; exact hh) (by rw [ea]; exact hps _) (by rw [ea]; show IntsAre _ (castN (line ++ [row])); rw [castN_append]; exact hl.append (.cons _ _ .nil)) c
end
end
section
open PySem PySem.Calls PyProof.Rows

section
variable {prog : Program} {w : World} {ad : Ad} {A : Around} {E : Value → Shared → Prop} {s s₀ : Shared} {B B₀ Bw : Ph} {env : Env} {N0 : List (Addr × Obj)} {lna wa ra pa ha : Addr} {wv rv : List Value} {nw nr n turn : Nat} {t : Tok}
variable {v0 v1 v4 v5 v8 v9 : Option Value} {W : List (List Nat)} {ranks : List Nat} {g : G} {V : List (Option Value)} {N : List (Addr × Obj)} {m : Nat}

theorem gRun_end {g : G} (h : g.line = []) (n : Nat) : gRun W ranks turn n g = g := by
  cases n with
  | zero => rfl
  | succ n => unfold gRun; rw [h]
theorem gStep_asked {k row col : Nat} {oth : Option Nat} (hk : turn % g.line.length = k) (hr : g.line.getD k 0 = row) (h : g.passed.getD row 0 < (W.getD row []).length) (hc : (W.getD row []).getD (g.passed.getD row 0) 0 = col) (ho : g.held.getD col none = oth) :
    gStep W ranks turn g = asked ranks (g.line.eraseIdx k) g row col oth := by
  unfold asked
  by_cases hb : better ranks row col oth = true
  · rw [if_pos hb, gStep_yes hk hr h hc ho hb]
  · rw [if_neg hb, gStep_rej hk hr h hc ho hb]

set_option maxRecDepth 100000 in
set_option maxHeartbeats 4000000 in
theorem dealt_while {R : Result → Shared → Prop} (hA1 : AOk (n + 1) A) (ht : turn < 1000) (hwa : Bw wa = some (listObj wv nw)) (hws : Reps Bw wv (W.map wD)) (hR : Bw ra = some (listObj rv nr)) (hRr : IntsAre rv (ranks.map fun (r : Nat) => (r : Int))) (hrl : ranks.length = 9) (hWl : W.length = 3)
    (hI : GInv v0 v1 (some (.ref ra)) (some (.int (turn : Int) t)) v4 v5 (some (.ref wa)) v8 v9 ha pa lna N0 W ranks turn (gRun W ranks turn (mu W g) g) Bw m V N B) (c : Cx w ad s₀ B₀ env (Sc.mk ["lists", "colours", "ranks", "turn", "dealt", "colour", "wishes", "row", "cells", "able", "held", "passed", "line", "column", "other"] ["range", "getitem", "delitem", "setitem", "iconcat", "is_not", "len"]) V N B s)
    (h : ∀ (B' : Ph) (s' : Shared) (hx px lx : List Value) (hm pm lm : Nat) (u7 u13 u14 : Option Value), Bw.le B' → OptsAre hx (castO (gRun W ranks turn (mu W g) g).held) →
      Cx w ad s₀ B₀ env (Sc.mk ["lists", "colours", "ranks", "turn", "dealt", "colour", "wishes", "row", "cells", "able", "held", "passed", "line", "column", "other"] ["range", "getitem", "delitem", "setitem", "iconcat", "is_not", "len"]) [v0, v1, some (.ref ra), some (.int (turn : Int) t), v4, v5, some (.ref wa), u7, v8, v9, some (.ref ha), some (.ref pa), some (.ref lna), u13, u14] ((lna, listObj lx lm) :: (pa, listObj px pm) :: (ha, listObj hx hm) :: N0) B' s' → R (.ok .next) s') :
    codeAny (model prog w) A (.whileLoop dealtWhile.1 dealtWhile.2 [] env) R s := by
  refine w_loop (GInv v0 v1 (some (.ref ra)) (some (.int (turn : Int) t)) v4 v5 (some (.ref wa)) v8 v9 ha pa lna N0 W ranks turn (gRun W ranks turn (mu W g) g) Bw) ?_ hI c
  clear c hI
  rintro n1 V N B5 s5 ⟨leW, g1, hx1, px, lx, hm, pm, lm, w7, w13, w14, hG, rfl, hrun, rfl, rfl, hh, hp, hl⟩ c Qb Eb hQb
  have hll : lx.length = g1.line.length := by rw [hl.length, castN_length]
  refine x_tcmp rfl ?_
  repeat kcf_m
  refine x_list Cx.stab (by assumption) ?_
  repeat kcf_m
  refine ⟨_, by assumption, len_ok rfl, fun ea s' B6 le6 he6 c => ?_⟩
  refine x_neLI (ns := castN g1.line) (ms := []) (Cx.isList c (.head _)) (Stab.isList Cx.stab c he6) hl .nil hA1.unit ?_
  repeat kcf_m
  have leZ : Ph.le Bw B6 := Ph.le_trans leW le6
  refine x_iten (fun hne => ?_) (fun hemp => ?_)
  · have hne' : g1.line ≠ [] := fun z => hne (by rw [z]; rfl)
    have hlen : 0 < lx.length := by rw [hll]; exact List.length_pos_iff.mpr hne'
    have hlog := small_log (n := lx.length) (by have := hG.ll; lia)
    have hkk : turn % lx.length < lx.length := Nat.mod_lt _ hlen
    have ek : ((turn : Int) % ((lx.length : Nat) : Int)) = ((turn % lx.length : Nat) : Int) := rfl
    have hll3 := hG.ll
    have hrow3 : g1.line.getD (turn % lx.length) 0 < 3 := hG.l _ (getD_mem (by lia))
    obtain ⟨trow, hrow⟩ := castN_get hl (i := turn % lx.length) (by lia)
    one_place
    refine @s_enterL _ _ _ _ _ _ _ _ _ _ _ _ _ _ _ _ (by assumption) ?_; intro Q' hQ' V_ C_ S_ c_
    repeat kcf_m
    refine x_cdef Cx.stab (by assumption) (by decide) (by got_up) (fun Qc hQc => ?_)
    repeat kcf_m
    refine x_lenL Cx.stab (by assumption) (Cx.isList (by assumption) (.head _)) (by lia) ?_
    intro _ _ _
    repeat kcf_m
    rename Cx _ _ _ _ _ _ _ _ _ _ => c6
    refine callNow (by assumption) c6 (f_getitem (n := n) c6.rd.wd c6.rd.keep hA1 (c6.own _ (.head _)) (by rw [ek]; lia) (by rw [ek]; lia) (by rw [ek, Int.toNat_natCast]; exact hrow) fun s' rt => ?_)
    have c7 := c6.go rt
    clear c6
    refine y_store c7 (by kd_p1) fun s' c7 => ?_
    one_place
    have hkg : turn % g1.line.length = turn % lx.length := by rw [hll]
    generalize hkd : turn % lx.length = kk at *
    generalize hrowd : g1.line.getD kk 0 = row at *
    repeat kcf_m
    refine x_cdefR (by decide) (by got_up) ?_
    repeat kcf_m
    refine x_cdef Cx.stab (by assumption) (by decide) (by got_up) (fun Qc hQc => ?_)
    repeat kcf_m
    refine x_lenL Cx.stab (by assumption) (Cx.isList (by assumption) (.head _)) (by lia) ?_
    intro _ _ _
    repeat kcf_m
    rename Cx _ _ _ _ _ _ _ _ _ _ => c6
    refine callNow (by assumption) c6 (f_delitem (n := n) (j := kk) c6.rd.wd c6.rd.keep hA1 (c6.own _ (.head _)) (c6.offB (.head _)) (by rw [ek]; exact fitsIndex_both (by lia) (by lia)) (by rw [ek]; exact seqIndex_of (by lia) (by lia)) (Nat.le_trans (by lia : lx.length ≤ 3) (len_ok rfl)) fun s' rt => ?_)
    have c8 := c6.back Sel.head rfl rt
    clear c6 c7
    repeat kcf_m
    refine ⟨_, c8.rd.wd, c8.rd.keep, is_not_none (n := n) c8.rd.wd c8.rd.keep hA1 fun s' rt => ?_⟩
    have c9 := c8.go rt
    clear c8
    repeat kcf_m
    refine x_itf ?_
    repeat kcf_m
    have hWd : (W.map wD)[row]? = some (wD (W.getD row [])) := by
      have : row < W.length := by lia
      simp [this]
    have hpw9 := hG.pw row hrow3
    have hle : IntsAre (lx.eraseIdx kk) (castN (g1.line.eraseIdx kk)) := by rw [castN_erase]; exact ints_erase hl kk
    obtain ⟨tp, hpw⟩ := castN_get hp (i := row) (by rw [hG.p]; exact hrow3)
    refine x_itemV rfl (Cx.isList (by assumption) (.tail _ (.head _))) (by lia) (by lia) (by rw [Int.toNat_natCast]; exact hpw) ?_
    repeat kcf_m
    refine x_item rfl (Stab.isList Cx.stab (by assumption) (leZ _ _ hwa)) (hws.mono leZ) (by lia) (by lia) (by rw [Int.toNat_natCast]; exact hWd) fun x hx' => ?_
    obtain ⟨al, nl2, lxs, rfl, hBl, rl⟩ := Rep.isList hx'
    have hlw : lxs.length = (W.getD row []).length := by rw [rl.length, List.length_map]
    repeat kcf_m
    refine x_lenL Cx.stab (by assumption) (Stab.isList Cx.stab (by assumption) hBl) (by lia) ?_
    intro _ _ _
    repeat kcf_m
    rename Cx _ _ _ _ _ _ _ _ _ _ => c7
    refine x_ite (fun hlt => ?_) (fun hlt => ?_)
    · have hlt' : g1.passed.getD row 0 < (W.getD row []).length := by lia
      have hcol3 : (W.getD row []).getD (g1.passed.getD row 0) 0 < 3 := hG.w row hrow3 _ (getD_mem hlt')
      one_place
      refine dealt_ask (g := g1) (line := g1.line.eraseIdx kk) (ranks := ranks) hA1 (leZ _ _ hwa) (hws.mono leZ) (leZ _ _ hR) hRr hrl hrow3 hWl hp hG.p hpw9.2 hh hG.h hG.hr hlt' rfl hcol3 rfl hle (by have := List.length_eraseIdx_le lx kk; lia) c7 ?_
      intro B' s' hx' px' ls' hm' pm' lm' u7 u13 u14 le hh' hp' hl' c
      have eG := gStep_asked (W := W) (ranks := ranks) hkg hrowd hlt' rfl rfl
      rw [← eG] at hh' hp' hl'
      one_item
      refine @s_nil _ _ _ _ _ _ _ ?_
      one_place
      exact ⟨_, _, _, _, (good_step hG hne').2, ⟨Ph.le_trans leZ le, _, _, _, _, _, _, _, _, _, _, (good_step hG hne').1, rfl, (gRun_next hG hne').trans hrun, rfl, rfl, hh', hp', hl'⟩, c⟩
    · have eG := gStep_no (g := g1) (wishes := W) (ranks := ranks) hkg hrowd (by lia)
      one_item
      refine @s_nil _ _ _ _ _ _ _ ?_
      one_item
      refine @s_nil _ _ _ _ _ _ _ ?_
      one_place
      exact ⟨_, _, _, _, (good_step hG hne').2, ⟨leZ, _, _, _, _, _, _, _, _, _, _, (good_step hG hne').1, rfl, (gRun_next hG hne').trans hrun, rfl, rfl, by rw [eG]; exact hh, by rw [eG]; exact hp, by rw [eG]; exact hle⟩, c7⟩
  · have hemp' : g1.line = [] := by
      cases e : g1.line with
      | nil => rfl
      | cons a r => rw [e] at hemp; simp [castN] at hemp
    rw [gRun_end hemp'] at hrun
    rw [hrun] at hh
    one_place
    exact h _ _ _ _ _ _ _ _ _ _ _ leZ hh (by assumption)
end
end
section
open PySem PySem.Calls PyProof.Rows

section
variable {prog : Program} {w : World} {ad : Ad} {A : Around} {E : Value → Shared → Prop} {s : Shared} {B : Ph}
variable {la ca ra : Addr} {lv cv rv : List Value} {nl nc nr : Nat} {n : Nat} {lists : List (List Int)} {colours : List Int} {ranks : List Nat} {turn : Nat} {t : Tok}

inductive CInv (V0 : List (Option Value)) (da : Addr) (hl : List (Option Nat)) (k : Int) (N0 L : List (Addr × Obj)) (fin : List (Option Int)) (ds : List D) (V : List (Option Value)) (N : List (Addr × Obj)) (_B : Ph) : Prop
  | mk (qs : List Nat) (dl : List (Option Int)) (xs : List Value) (m : Nat) (v13 v14 : Option Value) (h1 : ds = qs.map (fun (q : Nat) => .int (q : Int))) (h2 : V = V0 ++ [v13, v14]) (h3 : N = N0 ++ (da, listObj xs m) :: L) (h4 : OptsAre xs dl) (h5 : dl.length = 9) (h6 : qs.foldl (putCol hl k) dl = fin) (h7 : ∀ q ∈ qs, q < 3) : CInv V0 da hl k N0 L fin ds V N _B

set_option maxRecDepth 100000 in
set_option maxHeartbeats 8000000 in
theorem f_dealt {Q : Value → Shared → Prop} (hw : Wd w ad B) (hkeep : ∀ a o, B a = some o → s.heap.get? a = some o) (hA : AOk (n + 2) A)
    (hL : B la = some (listObj lv nl)) (hLr : Reps B lv (lists.map fun l => D.list (l.map D.int))) (hll : lists.length = 9)
    (hC : B ca = some (listObj cv nc)) (hCr : IntsAre cv colours) (hR : B ra = some (listObj rv nr)) (hRr : IntsAre rv (ranks.map fun (r : Nat) => (r : Int))) (hrl : ranks.length = 9) (ht : turn < 1000)
    (h : ∀ da s' B' xs n, Ret B s s' B' → B' da = some (listObj xs n) → Reps B' xs ((dealtOf lists colours ranks turn).map optI) → Q (.ref da) s') :
    wpAny (model prog w) A (call (.ref (ad.fn 23)) [.ref la, .ref ca, .ref ra, .int (turn : Int) t]) Q E s := by
  refine def_call (d := dn 23) (ps := ["lists", "colours", "ranks", "turn"]) (rest := ["dealt", "colour", "wishes", "row", "cells", "able", "held", "passed", "line", "column", "other"]) (xs := ["lists", "colours", "ranks", "turn", "dealt", "colour", "wishes", "row", "cells", "able", "held", "passed", "line", "column", "other"]) (V0 := [some _, some _, some _, some _, none, none, none, none, none, none, none, none, none, none, none]) (gs := ["range", "getitem", "delitem", "setitem", "iconcat", "is_not", "len"]) hw hkeep (hw.fn 23 (by decide)) (hA.mono (Nat.le_refl _)) rfl rfl rfl (by decide +kernel) rfl rfl rfl (fun z_ z_1 z_2 => rfl) ?_
  intro env s' hes c
  have hA1 := hA.deeper env
  one_place
  refine @s_enterL _ _ _ _ _ _ _ _ _ _ _ _ _ _ _ _ (by assumption) ?_; intro Q' hQ' V_ C_ S_ c_
  repeat kcf_m
  refine x_list Cx.stab (by assumption) ?_
  repeat kcf_m
  refine ⟨_, by assumption, len_ok rfl, fun a1 s' B1 le1 hB1 c => ?_⟩
  repeat kcf_m
  refine x_mul9 (by assumption) (by assumption) fun da s' c => ?_
  repeat kcf_m
  refine x_for (fun z_ => rfl) (fun R hRR => ?_)
  repeat kcf_m
  rename Cx _ _ _ _ _ _ _ _ _ _ => c1
  refine x_iterL c1 (c1.ret.le _ _ hC) (reps_ints hCr) ?_
  intro I M L s₃ It hM c
  refine f_loop (DInv (.ref la) (.ref ca) (.ref ra) (.int turn t) da lists ranks turn (dealtOf lists colours ranks turn)) (.inl ⟨_, _, rfl⟩) It hM hA1.handled
    ⟨colours, List.replicate 9 none, _, 0, _, _, _, _, _, _, _, _, _, _, rfl, rfl, rfl, ?_, rfl, rfl⟩ (Ph.le_refl _) c ?_ ?_
  · exact .no (.no (.no (.no (.no (.no (.no (.no (.no .nil))))))))
  · rintro d ds V N B' s₄ L v ⟨cs, dl, xs, m, v1, v2, v3, v4, v5, v6, v7, v8, v9, v10, e1, rfl, rfl, hx, h9, hfin⟩ le hr c Qb Eb hQb
    cases cs with
    | nil => cases e1
    | cons k cs =>
      simp only [List.map_cons, List.cons.injEq] at e1
      obtain ⟨rfl, rfl⟩ := e1
      obtain ⟨tk, rfl⟩ := Rep.isInt hr
      simp only [List.cons_append, List.nil_append] at c
      repeat kcf_m
      refine x_listO (by assumption) ?_
      repeat kcf_m
      refine ⟨_, _, _, by assumption, len_ok rfl, fun wa s' c => ?_⟩
      repeat kcf_m
      refine x_for (fun z_ => rfl) (fun R hRR => ?_)
      repeat kcf_m
      refine x_iterR (m := 3) (by assumption) (by assumption) (by decide +kernel) (by decide +kernel) ?_
      intro I2 M2 L2 s₅ It2 hM2 c
      refine f_loop (WInv2 (.ref la) (.ref ca) (.ref ra) (.int turn t) (.int k tk) da wa ((da, listObj xs m) :: L) (wishesOf lists ranks dl k) (fun row => wishOf ranks (ableOf lists dl k row))) (.inl ⟨_, _, rfl⟩) It2 hM2 hA1.handled
        ⟨[0, 1, 2], [], [], 0, _, _, _, _, _, _, _, _, rfl, rfl, rfl, .nil, rfl, by decide, rfl⟩ (Ph.le_refl _) c ?_ ?_
      · rintro d ds V N B2 s₄ L2 v ⟨rs, ws, ys, m2, v3, v4, v5, v6, v7, v8, v9, v10, e1, rfl, rfl, hws, hall, hr3, hl3⟩ le2 hr c Qb Eb hQb
        cases rs with
        | nil => cases e1
        | cons r rs =>
          simp only [List.map_cons, List.cons.injEq] at e1
          obtain ⟨rfl, rfl⟩ := e1
          obtain ⟨tr, rfl⟩ := Rep.isInt hr
          simp only [List.cons_append, List.nil_append] at c
          have hr3' := hr3 r (.head _)
          repeat kcf_m
          refine s_comp (p := fun z_ => true) (f := cellD r) (tg := ["column"]) (fr := ["row"]) (gs := []) hA1.handled (by assumption) (by rw [hes]; decide +kernel) rfl (fun z_ => rfl) (sw_comp hes (by decide +kernel)) ?_
          repeat kcf_m
          refine goR (m := 3) (by assumption) (by assumption) (by decide +kernel) (by decide +kernel) (CompOk.name (.cons (by kd_p) .nil) (len_ok rfl) ?_ ?_)
          · intro cenv K d v B' s E S hd le hr hK
            obtain ⟨j, hj, rfl⟩ := List.mem_map.mp hd
            obtain ⟨tj, rfl⟩ := Rep.isInt hr
            repeat kcf_m
            try ((with_reducible refine x_mul S (by assumption) (IntMulOk.of_left (by decide +kernel)) ?_); intro _ _ _; repeat kcf_m)
            exact ⟨_, Ph.le_refl _, .int _ _, by assumption⟩
          · intro Dc nc1 cs1 B3 le3 hcs
            refine ⟨_, by kd_p1, fun s' c => ?_⟩
            obtain ⟨B4, lef, hB4, c⟩ := c.freeze' Del.head
            have hcs : Reps B4 cs1 (natsD [3 * r, 3 * r + 1, 3 * r + 2]) := by
              have e : (List.map (cellD r) (List.map D.int (steps 0 1 3))) = natsD [3 * r, 3 * r + 1, 3 * r + 2] := by
                simp [steps, cellD, natsD]
              rw [e] at hcs
              exact hcs.mono lef
            repeat kcf_m
            refine @s_assign _ _ _ _ _ _ _ _ _ _ _ (sw_comp hes (by decide +kernel)) ?_
            refine x_comp (p := ableD lists dl k) (f := id) (tg := ["cell"]) (fr := ["dealt", "lists", "colour"]) (gs := ["contains"]) hA1.handled (by assumption) (by rw [hes]; decide +kernel) rfl (fun z_ => rfl) ?_
            repeat kcf_m
            rename Cx _ _ _ _ _ _ _ _ _ _ => c9
            refine goL c9 hB4 hcs (CompOk.nameIfO (.cons (by kd_p) (.cons (by kd_p) (.cons (by kd_p) .nil))) (len_ok rfl) ?_ ?_)
            · intro cenv K d v B' s E S ho hd le hr hK
              obtain ⟨cN, hcN, rfl⟩ := List.mem_map.mp hd
              have hc9 : cN < 9 := by
                simp only [List.mem_cons, List.not_mem_nil, or_false] at hcN
                lia
              have leX := Ph.le_trans c9.ret.le le
              have hda := ho _ _ hK (da, listObj xs m) (by simp)
              obtain ⟨v', hv1, hv2⟩ := hx.get (i := cN) (by lia)
              have hLd : (lists.map fun l => D.list (l.map D.int))[((cN : Nat) : Int).toNat]? = some (D.list ((lists.getD cN []).map D.int)) := by
                have : cN < lists.length := by lia
                simp [this]
              obtain ⟨tc, rfl⟩ := Rep.isInt hr
              repeat kcf_m
              refine x_itemV rfl (isList_of hda) (by lia) (by lia) (x := v') (by simpa using hv1) ?_
              generalize hdl : dl.getD cN none = od at hv2
              cases hv2 with
              | yes i ti =>
                have hnp : ableD lists dl k (.int (cN : Int)) = false := by
                  show ableP lists dl k cN = false
                  unfold ableP
                  rw [hdl]; rfl
                repeat kcf_m
                refine x_itf ?_
                exact ⟨hnp.symm, _, Ph.le_refl _, by assumption, fun hp => by rw [hnp] at hp; cases hp⟩
              | no =>
                have hp0 : ableD lists dl k (.int (cN : Int)) = (lists.getD cN []).any (· == k) := by
                  show ableP lists dl k cN = _
                  unfold ableP
                  rw [hdl]; rfl
                repeat kcf_m
                refine x_itt ?_
                repeat kcf_m
                refine x_cdef S (by assumption) (by decide) (by got_up) (fun Qc hQc => ?_)
                repeat kcf_m
                refine x_item rfl (S.isList (by assumption) (leX _ _ hL)) (hLr.mono leX) (by lia) (by lia) hLd fun x hx' => ?_
                obtain ⟨al, nl2, lxs, rfl, hBl, rl⟩ := Rep.isList hx'
                repeat kcf_m
                refine callNow (by assumption) (by assumption) (f_contains (S.rd hK).wd (S.rd hK).keep hA1 ((S.rd hK).keep _ _ hBl) rl.ints fun s' rt => ?_)
                have hK2 := S.ret hK rt
                rw [← hp0]
                repeat kcf_m
                refine x_itb (fun hb => ?_) (fun hb => ?_)
                · repeat kcf_m
                  refine ⟨hb.symm, _, Ph.le_refl _, by assumption, fun z_ => ?_⟩
                  repeat kcf_m
                  exact ⟨_, Ph.le_refl _, .int _ _, by assumption⟩
                · exact ⟨hb.symm, _, Ph.le_refl _, by assumption, fun hp => by rw [hb] at hp; cases hp⟩
            · intro Da na as B5 le5 has s' c
              obtain ⟨B6, lef6, hB6, c⟩ := c.freeze' Del.head
              have has : Reps B6 as (natsD (ableOf lists dl k r)) := by
                rw [filter_nats _ (ableP lists dl k) (fun c => rfl), List.map_id] at has
                exact has.mono lef6
              repeat kcf_m
              rename Cx _ _ _ _ _ _ _ _ _ _ => c7
              refine s_append (a := wa) (xs := ys) (n := m2) c7 (by kd_p) (.head _) rfl rfl rfl rfl ?_
              intro s7 c7
              refine x_comp2 (fr := ["able", "ranks"]) (gs := []) (rankP ranks) colF hA1.handled c7 (by rw [hes]; decide +kernel) rfl (fun z_ => rfl) ?_
              repeat kcf_m
              refine ⟨_, by assumption, len_ok rfl, fun ta s' B8 le8 hB8 c8 => ?_⟩
              have leR : B.le B8 := c8.ret.le
              refine ⟨ta, _, _, _, _, _, _, Da, as, na, [.int 2, .int 1, .int 0], natsD (ableOf lists dl k r), rfl, c8, hB8, .cons (.int _ _) (.cons (.int _ _) (.cons (.int _ _) .nil)), .cons (by kd_p) (.cons (by kd_p) .nil), .head, ?_, ?_, has.mono ?_, ?_, ?_⟩
              · have h3 : (ableOf lists dl k r).length ≤ 3 := by unfold ableOf; exact List.length_filter_le _ _
                have h9 : 9 ≤ sizeLine := len_ok rfl
                unfold natsD
                simp only [List.length_cons, List.length_nil, List.length_map]
                lia
              · exact (by kln_le : Ph.le B6 B8) _ _ hB6
              · kln_le
              · intro cenv K d0 d1 v0 v1 B' s E S hd0 hd1 le hr0 hr1 hK
                obtain ⟨rk, rfl⟩ : ∃ rk : Int, d0 = .int rk := by
                  simp only [List.mem_cons, List.not_mem_nil, or_false] at hd0
                  rcases hd0 with rfl | rfl | rfl <;> exact ⟨_, rfl⟩
                obtain ⟨cN, hcN, rfl⟩ := List.mem_map.mp hd1
                have hc9 : cN < 9 := by
                  have := (List.mem_filter.mp hcN).1
                  simp only [List.mem_cons, List.not_mem_nil, or_false] at this
                  lia
                have leX := Ph.le_trans leR le
                have hrd : (ranks.map fun (r : Nat) => (r : Int))[cN]? = some ((ranks.getD cN 0 : Nat) : Int) := by
                  have : cN < ranks.length := by lia
                  simp [this]
                obtain ⟨tq, hq⟩ := ints_get hRr hrd
                obtain ⟨t0, rfl⟩ := Rep.isInt hr0
                obtain ⟨t1, rfl⟩ := Rep.isInt hr1
                repeat kcf_m
                refine x_itemV rfl (S.isList (by assumption) (leX _ _ hR)) (by lia) (by lia) (by simpa using hq) ?_
                repeat kcf_m
                refine ⟨rfl, _, Ph.le_refl _, by assumption, fun z_ => ?_⟩
                repeat kcf_m
                exact ⟨_, Ph.le_refl _, .int _ _, by assumption⟩
              · clear leR
                intro Dw nw xw B9 s9 le9 hxw c
                rw [comp2_eq] at hxw
                obtain ⟨B10, lef10, hB10, c⟩ := c.freeze' Del.head
                refine ⟨_, _, _, _, _, _, c, Sel.head, ?_, fun s' c => ?_⟩
                · rw [hws.length, List.length_map]; exact Nat.le_trans (by lia : ws.length ≤ 3) (len_ok rfl)
                repeat kcf_m
                one_place
                refine ⟨_, _, _, ⟨rs, ws ++ [wishOf ranks (ableOf lists dl k r)], ys ++ [.ref Dw], m2 + 1, _, _, _, _, _, _, _, _, rfl, rfl, rfl, ?_, ?_, fun r' hr' => hr3 r' (.tail _ hr'), ?_⟩, ?_, by assumption⟩
                · rw [List.map_append]
                  refine (hws.mono ?_).snoc (.list Dw nw xw _ hB10 (hxw.mono lef10))
                  kln_le
                · rw [← hall]; simp
                · rw [List.length_append]; simp only [List.length_cons, List.length_nil] at hl3 ⊢; lia
                · kln_le
      · rintro V N B2 s₄ ⟨rs, ws, ys, m2, v3, v4, v5, v6, v7, v8, v9, v10, e1, rfl, rfl, hws, hall, hr3, hl3⟩ le2 c
        cases rs with
        | cons r rs => cases e1
        | nil =>
          rw [List.map_nil, List.append_nil] at hall
          subst hall
          obtain ⟨B3, lef, hwa, c⟩ := c.freeze' Del.head
          have hws := hws.mono lef
          repeat kcf_m
          refine x_listO (by assumption) ?_
          repeat kcf_m
          refine ⟨_, _, _, by assumption, len_ok rfl, fun ha s' c => ?_⟩
          repeat kcf_m
          refine x_listO (by assumption) ?_
          repeat kcf_m
          refine ⟨_, _, _, by assumption, len_ok rfl, fun pa s' c => ?_⟩
          repeat kcf_m
          refine x_listO (by assumption) ?_
          repeat kcf_m
          refine ⟨_, _, _, by assumption, len_ok rfl, fun lna s' c => ?_⟩
          repeat kcf_m
          rename Cx _ _ _ _ _ _ _ _ _ _ => c9
          refine x_while (fun R hRR => ?_)
          one_place
          refine dealt_while (g := g0) (W := wishesOf lists ranks dl k) (Bw := B3) (turn := turn) (ranks := ranks) (lna := lna) (wa := wa) (ra := ra) (pa := pa) (ha := ha) (N0 := (da, listObj xs m) :: L) hA1 ht hwa hws (c9.ret.le _ _ hR) hRr hrl rfl
            ⟨by kln_le, g0, _, _, _, _, _, _, _, _, _, good0, rfl, rfl, rfl, rfl, .no (.no (.no .nil)), .cons _ _ (.cons _ _ (.cons _ _ .nil)), .cons _ _ (.cons _ _ (.cons _ _ .nil))⟩ c9 ?_
          intro B5 s5 hx1 px lx hm pm lm w7 w13 w14 leW hh c
          rw [← gRun_stable 30 g0 good0 mu0] at hh
          have hGf := gRun_good (wishes := wishesOf lists ranks dl k) (ranks := ranks) (turn := turn) 30 g0 good0
          have hHl := hGf.h
          have hHr := hGf.hr
          have hstep : [0, 1, 2].foldl (putCol (heldOf lists ranks turn dl k) k) dl = dealStep lists ranks turn dl k := rfl
          unfold heldOf at hstep
          generalize (gRun (wishesOf lists ranks dl k) ranks turn 30 g0).held = hl at *
          one_place
          refine @s_enterL _ _ _ _ _ _ _ _ _ _ _ _ _ _ _ _ (by assumption) ?_; intro Q' hQ' V_ C_ S_ c_
          refine x_for (fun z_ => rfl) (fun R hRR => ?_)
          repeat kcf_m
          refine x_iterR (m := 3) (by assumption) (by assumption) (by decide +kernel) (by decide +kernel) ?_
          intro I3 M3 L3 s₆ It3 hM3 c
          refine f_loop (CInv [some (.ref la), some (.ref ca), some (.ref ra), some (.int (turn : Int) t), some (.ref da), some (.int k tk), some (.ref wa), _, _, _, some (.ref ha), some (.ref pa), some (.ref lna)] da hl k ((lna, listObj lx lm) :: (pa, listObj px pm) :: [(ha, listObj hx1 hm)]) L (dealStep lists ranks turn dl k)) (.inl ⟨_, _, rfl⟩) It3 hM3 hA1.handled
            ⟨[0, 1, 2], dl, xs, m, _, _, rfl, rfl, rfl, hx, h9, hstep, by decide⟩ (Ph.le_refl _) c ?_ ?_
          · rintro d ds V N B7 s₄ L7 v ⟨qs, dl2, xs2, m2, u13, u14, e1, rfl, rfl, hx2, h92, hfold, hq3⟩ le7 hr c Qb Eb hQb
            cases qs with
            | nil => cases e1
            | cons q qs =>
              simp only [List.map_cons, List.cons.injEq] at e1
              obtain ⟨rfl, rfl⟩ := e1
              have hq := hq3 q (.head _)
              obtain ⟨tq, rfl⟩ := Rep.isInt hr
              simp only [List.cons_append, List.nil_append] at c
              obtain ⟨vo, hvo1, hvo2⟩ := castO_get hh (i := q) (by lia)
              have hput : putCol hl k dl2 q = match hl.getD q none with | none => dl2 | some r => dl2.set (3 * r + q) (some k) := rfl
              have hr3 : ∀ r, hl.getD q none = some r → r < 3 := fun r hr => hHr r (by rw [← hr]; exact getD_mem (by lia))
              generalize hl.getD q none = oq at *
              repeat kcf_m
              refine x_cdef Cx.stab (by assumption) (by decide) (by got_up) (fun Qc hQc => ?_)
              repeat kcf_m
              refine x_itemV rfl (Cx.isList (by assumption) (.tail _ (.tail _ (.head _)))) (by lia) (by lia) (by rw [Int.toNat_natCast]; exact hvo1) ?_
              repeat kcf_m
              rename Cx _ _ _ _ _ _ _ _ _ _ => c6
              refine callNow (by assumption) c6 (is_not_none (n := n) c6.rd.wd c6.rd.keep hA1 fun s' rt => ?_)
              have c7 := c6.go rt
              clear c6
              cases oq with
              | none =>
                have hvo2 : OptIs vo none := hvo2
                obtain rfl := OptIs.isNo hvo2
                repeat kcf_m
                refine x_itf ?_
                repeat kcf_m
                one_place
                exact ⟨_, _, _, ⟨qs, dl2, xs2, m2, _, _, rfl, rfl, rfl, hx2, h92, by rw [← hfold, List.foldl_cons, hput], fun r hr => hq3 r (.tail _ hr)⟩, Ph.le_refl _, by assumption⟩
              | some r =>
                have hvo2 : OptIs vo (some (r : Int)) := hvo2
                have hr3' := hr3 r rfl
                obtain ⟨to, rfl⟩ := OptIs.isYes hvo2
                have ea : (3 * (r : Int) + (q : Int)) = ((3 * r + q : Nat) : Int) := by lia
                repeat kcf_m
                refine x_itt ?_
                repeat kcf_m
                refine x_cdefR (by decide) (by got_up) ?_
                repeat kcf_m
                refine x_cdef Cx.stab (by assumption) (by decide) (by got_up) (fun Qc hQc => ?_)
                repeat kcf_m
                refine x_itemV rfl (Cx.isList (by assumption) (.tail _ (.tail _ (.head _)))) (by lia) (by lia) (by rw [Int.toNat_natCast]; exact hvo1) ?_
                repeat kcf_m
                try ((with_reducible refine x_mul Cx.stab (by assumption) (IntMulOk.of_left (by decide +kernel)) ?_); intro _ _ _; repeat kcf_m)
                rename Cx _ _ _ _ _ _ _ _ _ _ => c6
                refine callNow (by assumption) c6 (f_setitem (n := n) c6.rd.wd c6.rd.keep hA1 (c6.own _ (.tail _ (.tail _ (.tail _ (.head _))))) (c6.offB (.tail _ (.tail _ (.tail _ (.head _))))) (by rw [ea]; lia) (by rw [ea]; lia) (by rw [hx2.length, ea]; lia) fun s' rt => ?_)
                have c8 := c6.back (.tail (.tail (.tail .head))) rfl rt
                rw [ea, Int.toNat_natCast] at c8
                clear c6 c7
                repeat kcf_m
                refine ⟨_, c8.rd.wd, c8.rd.keep, is_not_none (n := n) c8.rd.wd c8.rd.keep hA1 fun s' rt => ?_⟩
                have c9 := c8.go rt
                clear c8
                repeat kcf_m
                refine x_itf ?_
                repeat kcf_m
                one_place
                exact ⟨_, _, _, ⟨qs, dl2.set (3 * r + q) (some k), _, m2, _, _, rfl, rfl, rfl, hx2.set _ _ _, by rw [List.length_set]; exact h92, by rw [← hfold, List.foldl_cons, hput], fun r hr => hq3 r (.tail _ hr)⟩, Ph.le_refl _, by assumption⟩
          · rintro V N B7 s₄ ⟨qs, dl2, xs2, m2, u13, u14, e1, rfl, rfl, hx2, h92, hfold, hq3⟩ le7 c
            cases qs with
            | cons q qs => cases e1
            | nil =>
              simp only [List.foldl_nil] at hfold
              subst hfold
              have c := c.sub (N' := [(da, listObj xs2 m2)] ++ L) (.cons _ (.cons _ (.cons _ (List.Sublist.refl _))))
              simp only [List.cons_append, List.nil_append] at c
              repeat kcf_m
              one_place
              exact ⟨_, _, _, ⟨cs, _, xs2, m2, _, _, _, _, _, _, _, _, _, _, rfl, rfl, rfl, hx2, h92, hfin⟩, by kln_le, c⟩
  · rintro V N B' s₄ ⟨cs, dl, xs, m, v1, v2, v3, v4, v5, v6, v7, v8, v9, v10, e1, rfl, rfl, hx, h9, hfin⟩ le c
    cases cs with
    | cons k cs => cases e1
    | nil =>
      simp only [List.foldl_nil] at hfin
      subst hfin
      obtain ⟨B1, lef, hB1, c⟩ := c.freeze' Del.head
      repeat kcf_m
      one_place
      exact h _ _ _ _ _ c.ret hB1 hx.reps
end
end
section
open PySem PySem.Calls PyProof.Rows

noncomputable def listD (l : List Int) : D := .list (l.map .int)
noncomputable def forBody : Stmt → List Stmt
  | .For _ _ b _ _ => b
  | _ => []
noncomputable def rowBody : List Stmt := match (dn 24).body.drop 8 with | st :: _ => forBody st | _ => []
noncomputable def wordBody : List Stmt := match rowBody.drop 2 with | st :: _ => forBody st | _ => []
noncomputable def toldBody : List Stmt := match rowBody.drop 7 with | st :: _ => forBody st | _ => []
noncomputable def kOf (dr : List (List Int)) (j : Nat) : Nat := ((dr.getD (j / 3) []).getD (j % 3) 0).toNat
noncomputable def codeOf (dr : List (List Int)) (c1 : Int) (j : Nat) : Nat := ((withinGo (rowP (kOf dr j)) ((1001 * ((j : Int) + 1) + c1) % total (rowP (kOf dr j)))).getD 0).toNat
noncomputable def marks : List (List UInt8) := [[92], [36], [93, 40]]
noncomputable def wordOf (dr : List (List Int)) (c1 : Int) (mark : List UInt8) (j : Nat) : List UInt8 := if j % 2 = 1 then mark ++ apW 6 (codeOf dr c1 j) else apW 6 (codeOf dr c1 j)
theorem codeOf_ok {dr : List (List Int)} {c1 : Int} {j : Nat} (hk : kOf dr j < 7) : withinGo (rowP (kOf dr j)) ((1001 * ((j : Int) + 1) + c1) % total (rowP (kOf dr j))) = some ((codeOf dr c1 j : Nat) : Int) ∧ 32 ≤ codeOf dr c1 j ∧ codeOf dr c1 j ≤ 1114111 ∧ ∀ i, i < 7 → tells i (codeOf dr c1 j) = (i == kOf dr j) := by
  obtain ⟨x, h1, h2, h3, h4⟩ := (code_ok hk).2.2 (1001 * ((j : Int) + 1) + c1)
  have e : codeOf dr c1 j = x := by
    unfold codeOf
    rw [h1]; simp
  rw [e]
  exact ⟨h1, h2, h3, h4⟩
end
section
open PySem PySem.Calls PyProof.Rows


theorem pick_map {α β : Type} (f : α → β) (l : List α) (lo hi st : Option Int) : pick (l.map f) lo hi st = (pick l lo hi st).map f := by
  unfold pick
  rw [List.length_map]
  generalize sliceRange (sliceBounds lo hi st l.length).1 (sliceBounds lo hi st l.length).2.1 (sliceBounds lo hi st l.length).2.2 = js
  induction js with
  | nil => rfl
  | cons j js ih =>
    simp only [List.getElem?_map] at ih
    simp only [List.filterMap_cons, List.getElem?_map]
    cases l[j]? with
    | none => exact ih
    | some x => simp only [Option.map_some, List.map_cons, ih]
noncomputable def sumFrom (ns : List Int) (i : Int) : Int := (pick ns (some i) none (some 4)).sum
noncomputable def big : Int := 1001001001001001001001001
noncomputable def startsL : List Int := [14001018007022011005020003, 0, 2101, 103747]
noncomputable def bigs : List Int := [big, 1, 1, 1]
noncomputable def cellD4 (ns : List Int) : D → D
  | .tuple [.int i, .int st] => .int (st + bigs.getD i.toNat 0 * sumFrom ns i)
  | d => d
noncomputable def cellsOf (ns : List Int) : List Int := [14001018007022011005020003 + big * sumFrom ns 0, 0 + 1 * sumFrom ns 1, 2101 + 1 * sumFrom ns 2, 103747 + 1 * sumFrom ns 3]
theorem cells_eq (ns : List Int) : (enumD 0 (startsL.map .int)).map (cellD4 ns) = (cellsOf ns).map .int := rfl

section
variable {prog : Program} {w : World} {ad : Ad} {A : Around} {E : Value → Shared → Prop} {s s₀ : Shared} {B B₀ : Ph} {env : Env} {sa : Addr} {xs : List Value} {ns : List Int} {n m : Nat}

set_option maxRecDepth 100000 in
set_option maxHeartbeats 4000000 in
theorem law_cells {Q : Flow → Shared → Prop} (hes : env.scope = (dn 24).scope) (hA1 : AOk (n + 1) A) (hB : B sa = some (listObj xs m)) (hx : IntsAre xs ns) (hl : ns.length ≤ 63) (hbits : ∀ i ∈ ns, Builtin.Int.intBits i ≤ 2 ^ 20)
    (c : Cx w ad s₀ B₀ env (Sc.mk ["script", "starts", "at", "cells", "tables", "runs", "many", "drawn", "lists", "row", "mark", "words", "code", "word", "flags", "told", "letter", "sign", "due", "answers", "colours", "down", "on", "ranks", "dealt", "twice"] ["enumerate", "in_table_b1", "in_table_c11", "in_table_c4", "in_table_c6", "in_table_c7", "in_table_c8", "in_table_c9", "_law_runs", "range", "_law_three", "_law_within", "Int2AP", "isinstance", "bytes", "_law_word", "ParseFlags", "_law_reply", "tuple", "_law_nothing", "len", "chr", "indexOf", "_law_refused", "_law_dealt", "is_not", "delitem", "contains", "set"]) [some (.ref sa), none, none, none, none, none, none, none, none, none, none, none, none, none, none, none, none, none, none, none, none, none, none, none, none, none] [] B s)
    (h : ∀ (B' : Ph) (s' : Shared) (ca : Addr) (cv : List Value) (nc : Nat) (v1 : Option Value), B.le B' → B' ca = some (listObj cv nc) → IntsAre cv (cellsOf ns) →
      Cx w ad s₀ B₀ env (Sc.mk ["script", "starts", "at", "cells", "tables", "runs", "many", "drawn", "lists", "row", "mark", "words", "code", "word", "flags", "told", "letter", "sign", "due", "answers", "colours", "down", "on", "ranks", "dealt", "twice"] ["enumerate", "in_table_b1", "in_table_c11", "in_table_c4", "in_table_c6", "in_table_c7", "in_table_c8", "in_table_c9", "_law_runs", "range", "_law_three", "_law_within", "Int2AP", "isinstance", "bytes", "_law_word", "ParseFlags", "_law_reply", "tuple", "_law_nothing", "len", "chr", "indexOf", "_law_refused", "_law_dealt", "is_not", "delitem", "contains", "set"]) [some (.ref sa), v1, none, some (.ref ca), none, none, none, none, none, none, none, none, none, none, none, none, none, none, none, none, none, none, none, none, none, none] [] B' s' →
      wpAny (model prog w) A (execs ((dn 24).body.drop 2) env) Q E s') :
    wpAny (model prog w) A (execs (dn 24).body env) Q E s := by
  one_place
  refine @s_enterL _ _ _ _ _ _ _ _ _ _ _ _ _ _ _ _ (by assumption) ?_; intro Q' hQ' V_ C_ S_ c_
  repeat kcf_m
  refine x_list Cx.stab (by assumption) ?_
  repeat kcf_m
  refine ⟨_, by assumption, len_ok rfl, fun a1 s' B1 le1 hB1 c => ?_⟩
  repeat kcf_m
  refine @s_assign _ _ _ _ _ _ _ _ _ _ _ (sw_comp hes (by decide +kernel)) ?_
  refine x_comp (p := fun z_ => true) (f := cellD4 ns) (tg := ["at", "start"]) (fr := ["script"]) (gs := ["sum"]) hA1.handled (by assumption) (by rw [hes]; decide +kernel) rfl (fun z_ => rfl) ?_
  repeat kcf_m
  rename Cx _ _ _ _ _ _ _ _ _ _ => c2
  refine b_enum (ds := startsL.map .int) c2 hB1 (.cons (.int _ _) (.cons (.int _ _) (.cons (.int _ _) (.cons (.int _ _) .nil)))) fun e L s' hM c => ?_
  have leS : Ph.le B B1 := le1
  refine goE c (by first | exact hB1 | exact (Cx.ret (by assumption)).le _ _ hB1) hM (CompOk.pair (.cons (by kd_p) .nil) (len_ok rfl) (fun d hd => ?_) ?_ ?_)
  · have key : enumD 0 (startsL.map .int) = [.tuple [.int 0, .int 14001018007022011005020003], .tuple [.int 1, .int 0], .tuple [.int 2, .int 2101], .tuple [.int 3, .int 103747]] := rfl
    rw [key] at hd
    simp only [List.mem_cons, List.not_mem_nil, or_false] at hd
    rcases hd with rfl | rfl | rfl | rfl <;> exact ⟨_, _, rfl⟩
  · intro cenv K d1 d2 v1 v2 B' s E S hd le h1 h2 hK
    obtain ⟨i, st, rfl, rfl, hi0, hi4⟩ : ∃ i st : Int, d1 = .int i ∧ d2 = .int st ∧ 0 ≤ i ∧ i < 4 := by
      have key : enumD 0 (startsL.map .int) = [.tuple [.int 0, .int 14001018007022011005020003], .tuple [.int 1, .int 0], .tuple [.int 2, .int 2101], .tuple [.int 3, .int 103747]] := rfl
      rw [key] at hd
      simp only [List.mem_cons, List.not_mem_nil, or_false, D.tuple.injEq, List.cons.injEq, and_true] at hd
      rcases hd with ⟨rfl, rfl⟩ | ⟨rfl, rfl⟩ | ⟨rfl, rfl⟩ | ⟨rfl, rfl⟩ <;> exact ⟨_, _, rfl, rfl, by decide, by decide⟩
    have leX : Ph.le B B' := Ph.le_trans leS le
    obtain ⟨t1, rfl⟩ := Rep.isInt h1
    obtain ⟨t2, rfl⟩ := Rep.isInt h2
    repeat kcf_m
    refine x_list S (by assumption) ?_
    repeat kcf_m
    refine ⟨_, by assumption, len_ok rfl, fun a7 s' B7 le7 hB7 hK => ?_⟩
    repeat kcf_m
    obtain ⟨bv, hB7', hbl⟩ : ∃ bv, B7 a7 = some (listObj bv) ∧ IntsAre bv bigs := ⟨_, hB7, .cons _ _ (.cons _ _ (.cons _ _ (.cons _ _ .nil)))⟩
    obtain ⟨tb, hb⟩ := ints_get hbl (i := i.toNat) (d := bigs.getD i.toNat 0) (by
      have : i.toNat < bigs.length := by show _ < 4; lia
      simp [this])
    have hmul : IntMulOk (bigs.getD i.toNat 0) (pick ns (some i) none (some 4)).sum := by
      refine mul_big ?_ (Nat.le_trans (pick_bits hi0 hi4 hl hbits) (by decide))
      have : i = 0 ∨ i = 1 ∨ i = 2 ∨ i = 3 := by lia
      rcases this with rfl | rfl | rfl | rfl <;> decide +kernel
    refine x_itemV rfl (S.isList (by assumption) hB7') hi0 (by lia) hb ?_
    repeat kcf_m
    refine x_sliceP S (by assumption) (fun z_ z_1 => ⟨_, rfl⟩) (by kd_p) (by tb_rel) (by tb_rel) (by tb_rel) (Ph.le_trans leX le7 _ _ hB) (by decide) (Nat.le_trans (by rw [hx.length]; exact hl) (len_ok rfl)) fun b8 s' B8 le8 hB8 hK => ?_
    repeat kcf_m
    have hps : IntsAre (pick xs (some i) none (some 4)) (pick ns (some i) none (some 4)) := by
      have := (reps_ints (B := B) hx).pick (some i) none (some 4)
      rw [pick_map] at this
      exact this.ints
    refine b_sum S (by assumption) hA1.handled (S.isList (by assumption) hB8) hps ?_
    intro _ _ _
    refine x_mul S (by assumption) hmul ?_
    intro _ _ _
    repeat kcf_m
    exact ⟨_, Ph.le_trans le7 le8, .int _ _, by assumption⟩
  · intro Dc nc cv B3 le3 hcv s' c
    obtain ⟨B4, lef, hB4, c⟩ := c.freeze' Del.head
    rw [cells_eq] at hcv
    refine y_store c (by kd_p1) fun s' c => ?_
    one_place
    exact h _ _ _ _ _ _ (by kln_le) hB4 (hcv.mono lef).ints c

noncomputable def tablesV (ad : Ad) : List Value := [.ref (ad.fn 9), .ref (ad.fn 10), .ref (ad.fn 11), .ref (ad.fn 12), .ref (ad.fn 13), .ref (ad.fn 14), .ref (ad.fn 15)]
set_option maxRecDepth 100000 in
set_option maxHeartbeats 4000000 in
theorem law_tables {Q : Flow → Shared → Prop} {ca : Addr} {cv : List Value} {nc : Nat} {v0 v1 : Option Value} {c0 c1 c2 c3 : Int} (hes : env.scope = (dn 24).scope) (hA1 : AOk (n + 1) A) (hB : B ca = some (listObj cv nc)) (hx : IntsAre cv [c0, c1, c2, c3])
    (c : Cx w ad s₀ B₀ env (Sc.mk ["script", "starts", "at", "cells", "tables", "runs", "many", "drawn", "lists", "row", "mark", "words", "code", "word", "flags", "told", "letter", "sign", "due", "answers", "colours", "down", "on", "ranks", "dealt", "twice"] ["enumerate", "in_table_b1", "in_table_c11", "in_table_c4", "in_table_c6", "in_table_c7", "in_table_c8", "in_table_c9", "_law_runs", "range", "_law_three", "_law_within", "Int2AP", "isinstance", "bytes", "_law_word", "ParseFlags", "_law_reply", "tuple", "_law_nothing", "len", "chr", "indexOf", "_law_refused", "_law_dealt", "is_not", "delitem", "contains", "set"]) [v0, v1, none, some (.ref ca), none, none, none, none, none, none, none, none, none, none, none, none, none, none, none, none, none, none, none, none, none, none] [] B s)
    (h : ∀ (B' : Ph) (s' : Shared) (ta dra : Addr) (rv : Value) (t : Tok), B.le B' → B' ta = some (listObj (tablesV ad)) → Rep B' rv (.list (runsP.map rowD)) →
      Cx w ad s₀ B₀ env (Sc.mk ["script", "starts", "at", "cells", "tables", "runs", "many", "drawn", "lists", "row", "mark", "words", "code", "word", "flags", "told", "letter", "sign", "due", "answers", "colours", "down", "on", "ranks", "dealt", "twice"] ["enumerate", "in_table_b1", "in_table_c11", "in_table_c4", "in_table_c6", "in_table_c7", "in_table_c8", "in_table_c9", "_law_runs", "range", "_law_three", "_law_within", "Int2AP", "isinstance", "bytes", "_law_word", "ParseFlags", "_law_reply", "tuple", "_law_nothing", "len", "chr", "indexOf", "_law_refused", "_law_dealt", "is_not", "delitem", "contains", "set"]) [v0, v1, none, some (.ref ca), some (.ref ta), some rv, some (.int (c2 % 5 + 3) t), some (.ref dra), none, none, none, none, none, none, none, none, none, none, none, none, none, none, none, none, none, none] [(dra, listObj [])] B' s' →
      wpAny (model prog w) A (execs ((dn 24).body.drop 6) env) Q E s') :
    wpAny (model prog w) A (execs ((dn 24).body.drop 2) env) Q E s := by
  one_place
  refine @s_enterL _ _ _ _ _ _ _ _ _ _ _ _ _ _ _ _ (by assumption) ?_; intro Q' hQ' V_ C_ S_ c_
  repeat kcf_m
  refine x_list Cx.stab (by assumption) ?_
  repeat kcf_m
  refine ⟨_, by assumption, len_ok rfl, fun ta s' B1 le1 hB1 c => ?_⟩
  repeat kcf_m
  refine x_cdef0 Cx.stab (by assumption) (by decide) ?_
  rename Cx _ _ _ _ _ _ _ _ _ _ => c6
  refine f_runs (n := n) c6.rd.wd c6.rd.keep hA1 fun rv s' B2 rt hrv => ?_
  have c7 := c6.go rt
  have le2 : Ph.le B1 B2 := rt.le
  clear c6
  repeat kcf_m
  obtain ⟨t2, h2⟩ := ints_get hx (i := 2) (d := c2) rfl
  refine x_itemV rfl (Stab.isList Cx.stab (by assumption) (le2 _ _ (le1 _ _ hB))) (by decide) (by decide) h2 ?_
  repeat kcf_m
  refine x_listO (by assumption) ?_
  repeat kcf_m
  refine ⟨_, _, _, by assumption, len_ok rfl, fun dra s' c => ?_⟩
  refine y_store c (by kd_p1) fun s' c => ?_
  one_place
  exact h _ _ _ _ _ _ (Ph.le_trans le1 le2) (le2 _ _ hB1) hrv c
end
end
section
open PySem PySem.Calls PyProof.Rows

noncomputable def drawAt (c0 c3 : Int) (m : Nat) (at' : Int) : List Int := drawnOf (c0 / 1000 ^ at'.toNat % 1000) c3 m
noncomputable def drawnAll (c0 c3 : Int) (m : Nat) : List (List Int) := [0, 1, 2, 3, 4, 5, 6, 7, 8].map (drawAt c0 c3 m)
inductive DrInv (v0 v1 v3 v4 v5 v6 : Option Value) (dra : Addr) (f : Int → List Int) (all : List (List Int)) (ds : List D) (V : List (Option Value)) (N : List (Addr × Obj)) (B : Ph) : Prop
  | mk (ats : List Int) (dd : List (List Int)) (xs : List Value) (m : Nat) (va : Option Value) (h1 : ds = ats.map .int) (h2 : V = [v0, v1, va, v3, v4, v5, v6, some (.ref dra), none, none, none, none, none, none, none, none, none, none, none, none, none, none, none, none, none, none]) (h3 : N = [(dra, listObj xs m)]) (h4 : Reps B xs (dd.map listD)) (h5 : dd ++ ats.map f = all) (h6 : (∀ i ∈ ats, 0 ≤ i ∧ i < 9)) (h7 : dd.length + ats.length = 9) : DrInv v0 v1 v3 v4 v5 v6 dra f all ds V N B
noncomputable def modD (c3 : Int) : D → D
  | .int x => .int ((x + c3) % 7)
  | d => d

section
variable {prog : Program} {w : World} {ad : Ad} {A : Around} {E : Value → Shared → Prop} {s s₀ : Shared} {B B₀ : Ph} {env : Env} {n : Nat}
set_option maxRecDepth 100000 in
set_option maxHeartbeats 4000000 in
theorem law_drawn {Q : Flow → Shared → Prop} {ca dra : Addr} {cv : List Value} {nc m : Nat} {v0 v1 v4 v5 : Option Value} {c0 c1 c2 c3 : Int} {t : Tok} (hes : env.scope = (dn 24).scope) (hA1 : AOk (n + 1) A) (hB : B ca = some (listObj cv nc)) (hx : IntsAre cv [c0, c1, c2, c3]) (hm3 : 3 ≤ m) (hm7 : m ≤ 7)
    (c : Cx w ad s₀ B₀ env (Sc.mk ["script", "starts", "at", "cells", "tables", "runs", "many", "drawn", "lists", "row", "mark", "words", "code", "word", "flags", "told", "letter", "sign", "due", "answers", "colours", "down", "on", "ranks", "dealt", "twice"] ["enumerate", "in_table_b1", "in_table_c11", "in_table_c4", "in_table_c6", "in_table_c7", "in_table_c8", "in_table_c9", "_law_runs", "range", "_law_three", "_law_within", "Int2AP", "isinstance", "bytes", "_law_word", "ParseFlags", "_law_reply", "tuple", "_law_nothing", "len", "chr", "indexOf", "_law_refused", "_law_dealt", "is_not", "delitem", "contains", "set"]) [v0, v1, none, some (.ref ca), v4, v5, some (.int (m : Int) t), some (.ref dra), none, none, none, none, none, none, none, none, none, none, none, none, none, none, none, none, none, none] [(dra, listObj [])] B s)
    (h : ∀ (B' : Ph) (s' : Shared) (dv : List Value) (nd : Nat) (v2 : Option Value), B.le B' → B' dra = some (listObj dv nd) → Reps B' dv ((drawnAll c0 c3 m).map listD) →
      Cx w ad s₀ B₀ env (Sc.mk ["script", "starts", "at", "cells", "tables", "runs", "many", "drawn", "lists", "row", "mark", "words", "code", "word", "flags", "told", "letter", "sign", "due", "answers", "colours", "down", "on", "ranks", "dealt", "twice"] ["enumerate", "in_table_b1", "in_table_c11", "in_table_c4", "in_table_c6", "in_table_c7", "in_table_c8", "in_table_c9", "_law_runs", "range", "_law_three", "_law_within", "Int2AP", "isinstance", "bytes", "_law_word", "ParseFlags", "_law_reply", "tuple", "_law_nothing", "len", "chr", "indexOf", "_law_refused", "_law_dealt", "is_not", "delitem", "contains", "set"]) [v0, v1, v2, some (.ref ca), v4, v5, some (.int (m : Int) t), some (.ref dra), none, none, none, none, none, none, none, none, none, none, none, none, none, none, none, none, none, none] [] B' s' →
      wpAny (model prog w) A (execs ((dn 24).body.drop 7) env) Q E s') :
    wpAny (model prog w) A (execs ((dn 24).body.drop 6) env) Q E s := by
  one_place
  refine @s_enterL _ _ _ _ _ _ _ _ _ _ _ _ _ _ _ _ (by assumption) ?_; intro Q' hQ' V_ C_ S_ c_
  refine x_for (fun z_ => rfl) (fun R hRR => ?_)
  repeat kcf_m
  refine x_iterR (m := 9) (by assumption) (by assumption) (by decide +kernel) (by decide +kernel) ?_
  intro I M L s₃ It hM c
  refine f_loop (DrInv v0 v1 (some (.ref ca)) v4 v5 (some (.int (m : Int) t)) dra (drawAt c0 c3 m) (drawnAll c0 c3 m)) (.inl ⟨_, _, rfl⟩) It hM hA1.handled
    ⟨[0, 1, 2, 3, 4, 5, 6, 7, 8], [], [], 0, _, rfl, rfl, rfl, .nil, rfl, by decide, rfl⟩ (Ph.le_refl _) c ?_ ?_
  · rintro d ds V N B' s₄ L v ⟨ats, dd, xs, m2, va, e1, rfl, rfl, hr2, hall, hat, hlen⟩ le hr c Qb Eb hQb
    cases ats with
    | nil => cases e1
    | cons i ats =>
      simp only [List.map_cons, List.cons.injEq] at e1
      obtain ⟨rfl, rfl⟩ := e1
      obtain ⟨hi0, hi9⟩ := hat i (.head _)
      obtain ⟨ti, rfl⟩ := Rep.isInt hr
      simp only [List.cons_append, List.nil_append] at c
      repeat kcf_m
      have leX : Ph.le B B' := (by kln_le)
      have hp : (0 : Int) < 1000 ^ i.toNat := Int.pow_pos (by decide)
      have hlog : ((1000 : Int) ^ i.toNat).natAbs.log2 < 9000 := by
        have key : ∀ j : Nat, j ≤ 9 → ((1000 : Int) ^ j).natAbs.log2 < 9000 := by decide +kernel
        exact key _ (by lia)
      have hbits : (Builtin.Int.intBits 1000 : Int) * i ≤ 2 ^ 27 := by
        have : (Builtin.Int.intBits 1000 : Int) = 10 := by decide +kernel
        rw [this]; lia
      obtain ⟨t0, h0⟩ := ints_get hx (i := 0) (d := c0) rfl
      obtain ⟨t3, h3⟩ := ints_get hx (i := 3) (d := c3) rfl
      have hf0 := Int.emod_nonneg (c0 / 1000 ^ i.toNat) (show (1000 : Int) ≠ 0 by decide)
      have hf1 := Int.emod_lt_of_pos (c0 / 1000 ^ i.toNat) (show (0 : Int) < 1000 by decide)
      rename Cx _ _ _ _ _ _ _ _ _ _ => c7
      refine s_append (a := dra) (xs := xs) (n := m2) c7 (by kd_p) (.head _) rfl rfl rfl rfl ?_
      intro s7 c7
      refine x_comp (p := fun z_ => true) (f := modD c3) (tg := ["colour"]) (fr := ["cells"]) (gs := []) hA1.handled c7 (by rw [hes]; decide +kernel) rfl (fun z_ => rfl) ?_
      repeat kcf_m
      refine x_cdef Cx.stab (by assumption) (by decide) (by got_up) (fun Qc hQc => ?_)
      repeat kcf_m
      refine x_itemV rfl (Stab.isList Cx.stab (by assumption) (leX _ _ hB)) (by decide) (by decide) h0 ?_
      repeat kcf_m
      refine x_pow Cx.stab (by assumption) hi0 hbits ?_
      intro _ _ _
      repeat kcf_m
      rename Cx _ _ _ _ _ _ _ _ _ _ => c8
      refine callNow (by assumption) c8 (f_three (n := n) c8.rd.wd c8.rd.keep hA1 hm3 (by lia) fun a8 s' B8 tv n8 rt hB8 htv => ?_)
      have c9 := c8.go rt
      have le8 : Ph.le B' B8 := rt.le
      refine goL c9 hB8 (reps_ints htv) (CompOk.name (.cons (by kd_p) .nil) ?_ ?_ ?_)
      · obtain ⟨x1, x2, x3, e3, _⟩ := three_ok hm3 hm7 hf0 hf1
        rw [e3]
        exact len_ok rfl
      · intro cenv K d v B9 s E S hd le9 hr hK
        obtain ⟨x, hx', rfl⟩ := List.mem_map.mp hd
        obtain ⟨tx, rfl⟩ := Rep.isInt hr
        repeat kcf_m
        refine x_itemV rfl (S.isList (by assumption) (Ph.le_trans le8 le9 _ _ (leX _ _ hB))) (by decide) (by decide) h3 ?_
        repeat kcf_m
        exact ⟨_, Ph.le_refl _, .int _ _, by assumption⟩
      · intro Dl nl lvv B9 le9 hlv s' c
        obtain ⟨B10, lef, hB10, c⟩ := c.freeze' Del.head
        refine ⟨_, _, _, _, _, _, c, Sel.head, ?_, fun s' c => ?_⟩
        · rw [hr2.length, List.length_map]; exact Nat.le_trans (by lia : dd.length ≤ 9) (len_ok rfl)
        one_item
        refine @s_nil _ _ _ _ _ _ _ ?_
        one_place
        refine ⟨_, _, _, ⟨ats, dd ++ [drawAt c0 c3 m i], xs ++ [.ref Dl], m2 + 1, _, rfl, rfl, rfl, ?_, ?_, fun j hj => hat j (.tail _ hj), ?_⟩, ?_, c⟩
        · rw [List.map_append]
          have e9 : (List.map (modD c3) (List.map D.int (three 3 (c0 / 1000 ^ i.toNat % 1000) (upto m)))) = (drawAt c0 c3 m i).map .int := by
            unfold drawAt drawnOf
            rw [List.map_map, List.map_map]; rfl
          rw [e9] at hlv
          exact (hr2.mono (Ph.le_trans le8 (Ph.le_trans le9 lef))).snoc (.list Dl nl lvv _ hB10 (hlv.mono lef))
        · rw [← hall]; simp
        · rw [List.length_append]; simp only [List.length_cons, List.length_nil] at hlen ⊢; lia
        · exact Ph.le_trans le8 (Ph.le_trans le9 lef)
  · rintro V N B' s₄ ⟨ats, dd, xs, m2, va, e1, rfl, rfl, hr2, hall, hat, hlen⟩ le c
    cases ats with
    | cons i ats => cases e1
    | nil =>
      rw [List.map_nil, List.append_nil] at hall
      subst hall
      obtain ⟨B1, lef, hB1, c⟩ := c.freeze' Del.head
      one_item
      refine @s_nil _ _ _ _ _ _ _ ?_
      one_place
      exact h _ _ _ _ _ (by kln_le) hB1 (hr2.mono lef) c
end
end
section
open PySem PySem.Calls PyProof.Rows

section
variable {prog : Program} {w : World} {ad : Ad} {A : Around} {E : Value → Shared → Prop} {s : Shared} {B Bm : Ph} {env : Env} {sc : Sc} {V : List (Option Value)} {s₀ : Shared} {B₀ : Ph} {N L : List (Addr × Obj)} {pos p' : Pos} {a b I : Addr} {xs ys : List Value} {n m : Nat} {ds : List D} {t : Tok} {l : List UInt8} {ls ms : List (List UInt8)}

noncomputable def byteD (b : UInt8) : D := .int (b.toNat : Int)
noncomputable def BytesM (I : Addr) (l : List UInt8) (t : Tok) : List D → List (Addr × Obj) → Prop := fun ds L => ∃ o i, L = [(I, o)] ∧ o.cls = .type "bytes_iterator" ∧ o.data = .fields #[.bytes l.toArray t, .int (i : Nat) 0] ∧ ds = (l.drop i).map byteD
theorem Iter.bytes : Iter prog w ad s₀ B₀ env sc Bm I (BytesM I l t) where
  item := by
    rintro A E Q s V N B L d ds hh ⟨o, i, rfl, hc, hd, e⟩ le c hQ
    have hit : W.KBw.IsBytesIter s.heap I l.toArray t i := ⟨o, c.own _ (List.mem_append_right _ (.head _)), hc, hd⟩
    cases hx : l.drop i with
    | nil => rw [hx] at e; cases e
    | cons x r' =>
      have hi : l[i]? = some x := by rw [← List.head?_drop, hx]; rfl
      have hr : l.drop (i + 1) = r' := by rw [← List.drop_drop, hx]; rfl
      rw [hx] at e
      simp only [List.map_cons, List.cons.injEq] at e
      obtain ⟨rfl, rfl⟩ := e
      refine W.KBw.next_item hit (c := x) (by simpa using hi) fun h' ⟨o', ho', hc', hd'⟩ hs' => ?_
      refine hQ _ [(I, o')] _ ⟨o', i + 1, rfl, hc', hd', by rw [hr]⟩ (.int _ _) (c.turn (L' := [(I, o')]) (t := s.toks + 1) rfl (fun b o hb e => (hs'.2 b (fun z => hb (by simp [z]))).trans e) fun p hp => ?_)
      cases List.mem_singleton.mp hp; exact ho'
  goT := by
    rintro A E Q s V N B L v ds elts k p ⟨o, i, rfl, hc, hd, r⟩ c hQ
    exact go_plain (c.own _ (List.mem_append_right _ (.head _))) hc hd (by decide) hQ
  done := by
    rintro A E Q s V N B L hh ⟨o, i, rfl, hc, hd, e⟩ le c hQ
    have hit : W.KBw.IsBytesIter s.heap I l.toArray t i := ⟨o, c.own _ (List.mem_append_right _ (.head _)), hc, hd⟩
    have hx : l.toArray[i]? = none := by
      generalize hz : l.drop i = z at e
      cases z with
      | nil => simpa using hz
      | cons _ _ => cases e
    exact W.KBw.next_end hh hit hx fun h' he => hQ _ (c.drop (t := s.toks) fun b o hb e => he b o (fun z => hb (by simp [z])) e)
  self := by
    rintro A E Q s V N B L ds ⟨o, i, rfl, hc, hd, r⟩ c hQ
    exact W.KBw.pyIter_self ⟨o, c.own _ (List.mem_append_right _ (.head _)), hc, hd⟩ hQ
theorem x_iterB {Q : Value → Shared → Prop} (c : Cx w ad s₀ B₀ env sc V N B s) (h : ∀ I M L s', Iter prog w ad s₀ B₀ env sc B I M → M (l.map byteD) L → Cx w ad s₀ B₀ env sc V (N ++ L) B s' → Q (.ref I) s') :
    wpAny (model prog w) A (pyIter (.bytes l.toArray t)) Q E s :=
  W.KBw.pyIter_bytes (h _ (BytesM _ l t) [(_, _)] _ Iter.bytes ⟨_, 0, rfl, rfl, rfl, rfl⟩ ((c.alloc (t := s.toks) _ rfl).perm (perm_last _ _)))

theorem x_sliceN {C : Ph → Shared → Prop} {value : Expr} {lo hi st : Option Expr} {p : Pos} {Q : Value → Shared → Prop} (S : Stab w ad env sc V C) (_c : C B s) (hs : ∀ a b, ∃ ops, subscripted (.Slice lo hi st p) false (.ref a) (.ref b) = operate ops (getItem (.ref a) (.ref b)))
    (h : wpAny (model prog w) A (eval value env) (fun o s₁ => wpAny (model prog w) A (evalPart lo env) (fun vl s₂ => wpAny (model prog w) A (evalPart hi env) (fun vu s₃ => wpAny (model prog w) A (evalPart st env) (fun vk s₄ =>
      ∃ a xs l u k B₁, o = .ref a ∧ C B₁ s₄ ∧ s₄.heap.IsList a xs.toArray ∧ IsPart vl l ∧ IsPart vu u ∧ IsPart vk k ∧ k ≠ some 0 ∧ xs.length ≤ sizeLine ∧ ∀ b s' B', B₁.le B' → B' b = some (listObj (pick xs l u k)) → s₄.heap.get? b = none → C B' s' → Q (.ref b) s') E s₃) E s₂) E s₁) E s) :
    wpAny (model prog w) A (eval (.Subscript value (.Slice lo hi st p) pos) env) Q E s := by
  refine x_index (wpAny_mono h (fun o s₁ h₁ => wpAny_Slice (wpAny_mono h₁ (fun vl s₂ h₂ => wpAny_mono h₂ (fun vu s₃ h₃ => wpAny_mono h₃ (fun vk s₄ h₄ => ?_) fun z_ z_1 x => x) fun z_ z_1 x => x) fun z_ z_1 x => x)) fun z_ z_1 x => x)
  obtain ⟨a, xs, l, u, k, B₁, rfl, c, hl, pl, pu, pk, h0, hsz, hQ⟩ := h₄
  obtain ⟨ops, hs⟩ := hs a s₄.heap.objs.size
  refine tail_any (T := "list") (hl.push _).typeIs slot_list_getitem.lookup (wpAny_getItem_list_slice (hl.push _) (Heap.IsSliceOf.new ..) pl pu pk h0 ?_ (by simpa using hsz)) hs
  have c1 := S.grow c (h := s₄.heap.push { cls := .type "slice", data := .fields #[vl, vu, vk] }) (t := s₄.toks) (fun z_ z_1 e => Heap.get?_push_of_some _ e)
  have c2 := S.new c1 (listObj (pick xs l u k)) rfl (t := s₄.toks)
  rw [slicePick_eq]
  refine hQ _ _ _ (S.newle c1 _) Ph.put_self ?_ c2
  cases q : s₄.heap.get? (s₄.heap.push { cls := .type "slice", dict := none, data := .fields #[vl, vu, vk] }).objs.size with
  | none => rfl
  | some o => have := Heap.lt_size q; rw [Heap.size_push] at this; exact absurd (Nat.lt_trans (Nat.lt_succ_self _) this) (Nat.lt_irrefl _)

theorem bytes_drop (l : List UInt8) {k : Int} (h0 : 0 ≤ k) : W.KBy.picked l.toArray (some k) none = (l.drop k.toNat).toArray := by
  obtain ⟨j, rfl⟩ := Int.eq_ofNat_of_zero_le h0
  rw [W.KBc.picked_eq]
  simp only [Option.elim, List.size_toArray, clipAt_nat, Int.toNat_natCast]
  congr 1
  by_cases h : j ≤ l.length
  · rw [Nat.min_eq_left h, List.take_of_length_le (by rw [List.length_drop]; lia)]
  · rw [Nat.min_eq_right (by lia), List.drop_of_length_le (by lia), List.drop_of_length_le (by lia), List.take_nil]

theorem bytes_all {ls ms : List (List UInt8)} (h : ls.length = ms.length) : (List.range ls.length).all (fun j => ls.getD j [] == ms.getD j []) = decide (ls = ms) := by
  rw [Bool.eq_iff_iff]
  simp only [List.all_eq_true, List.mem_range, beq_iff_eq, decide_eq_true_eq]
  constructor
  · intro hh
    refine List.ext_getElem h fun i h1 h2 => ?_
    have := hh i h1
    rw [List.getD_eq_getElem?_getD, List.getD_eq_getElem?_getD, List.getElem?_eq_getElem h1, List.getElem?_eq_getElem h2] at this
    exact this
  · rintro rfl _ _
    rfl
theorem eqGives_bytes (x y : List UInt8) (t u : Tok) : MeetsSeq.EqGives (.bytes x.toArray t) (.bytes y.toArray u) (x == y) := by
  intro prog w A E s Q h
  unfold eqBool
  refine wpAny_holding ?_
  refine wpAny_ite_split (fun hab => ?_) (fun hab => ?_)
  · have e : x.toArray = y.toArray := by have := eq_of_beq hab; injection this
    have e : x = y := by simpa using e
    subst e
    exact wpAny_bind (wpAny_rule (wpAny_pure (by simpa using h)))
  · exact wpAny_bind (richCompare_gives (W.typeIs_bytes s _ t) (W.typeIs_bytes s _ u) W.FB.slot_bytes_eq W.FB.entry_bytes_eq (W.FB.args_bytes_eq_2 _ _) (W.gives_bytes_eq _ _ t u) (by simp [Made.takes]) (wpAny_truthy_bool (by simpa using h)))
theorem bytes_eqAt (hx : BytesAre xs ls) (hy : BytesAre ys ms) (j : Nat) (h1 : j < xs.toArray.size) (h2 : j < ys.toArray.size) : SeqAt.EqAt A s xs.toArray[j] ys.toArray[j] (ls.getD j [] == ms.getD j []) := by
  have l1 : j < ls.length := by rw [← hx.length]; simpa using h1
  have l2 : j < ms.length := by rw [← hy.length]; simpa using h2
  obtain ⟨t, e1⟩ := hx.get l1
  obtain ⟨u, e2⟩ := hy.get l2
  have e1' : xs.toArray[j] = .bytes (ls.getD j []).toArray t := by simpa using (List.getElem?_eq_some_iff.mp e1).2
  have e2' : ys.toArray[j] = .bytes (ms.getD j []).toArray u := by simpa using (List.getElem?_eq_some_iff.mp e2).2
  rw [e1', e2']
  exact (eqGives_bytes _ _ t u).at A s
theorem x_neTB {Q : Value → Shared → Prop} (hl : IsTup s.heap a xs.toArray) (hb : IsTup s.heap b ys.toArray) (hx : BytesAre xs ls) (hy : BytesAre ys ms) (hu : A.units < cLine) (h : Q (.bool (!decide (ls = ms))) s) : wpAny (model prog w) A (compareOp .NotEq (.ref a) (.ref b)) Q E s := by
  refine SeqAt.RcNeAt.tuples (e := fun j => ls.getD j [] == ms.getD j []) hl hb hu (fun j h1 h2 => bytes_eqAt hx hy j h1 h2) prog w E Q ?_
  have e : (!((List.range (min xs.toArray.size ys.toArray.size)).all (fun j => ls.getD j [] == ms.getD j []) && xs.toArray.size == ys.toArray.size)) = !decide (ls = ms) := by
    by_cases hz : ls.length = ms.length
    · have hs : xs.toArray.size = ls.length := by simp [hx.length]
      have hs2 : ys.toArray.size = ls.length := by simp [hy.length, hz]
      rw [hs, hs2, Nat.min_self, bytes_all hz]
      simp
    · have hs : (xs.toArray.size == ys.toArray.size) = false := by simp [hx.length, hy.length, hz]
      have : ls ≠ ms := fun z => hz (by rw [z])
      rw [hs]; simp [this]
  rw [e]
  exact h
end
end
section
open PySem PySem.Calls PyProof.Rows

theorem letter_ok : ∀ n, n < 256 → 65 ≤ n → n < 81 → (UInt8.ofNat n ≠ 41 ∧ UInt8.ofNat n ≠ 83 ∧ Builtin.Bytes.isSpace (UInt8.ofNat n) = false) := by decide +kernel
theorem apW_wordOk {n : Nat} (h0 : 0 < n) (hn : n < 16 ^ 6) : WordOk (apW 6 n) := ⟨apW_ne 6 n h0 hn, fun b hb => by
  have h := apW_letters 6 n b hb
  have := letter_ok b.toNat b.toNat_lt h.1 h.2
  simpa using this⟩
theorem mark_ok : ∀ m ∈ marks, ∀ b ∈ m, b ≠ 41 ∧ b ≠ 83 ∧ Builtin.Bytes.isSpace b = false := by decide
theorem mark_len : ∀ m ∈ marks, m.length ≤ 2 := by decide
theorem mark_wordOk {m w : List UInt8} (hm : m ∈ marks) (hw : WordOk w) : WordOk (m ++ w) := ⟨fun e => hw.1 (List.append_eq_nil_iff.mp e).2, fun b hb => (List.mem_append.mp hb).elim (mark_ok m hm b) (hw.2 b)⟩
theorem word_ok {dr : List (List Int)} {c1 : Int} {mark : List UInt8} {j : Nat} (hm : mark ∈ marks) (hk : kOf dr j < 7) : WordOk (wordOf dr c1 mark j) ∧ (wordOf dr c1 mark j).length ≤ 10 := by
  obtain ⟨_, h1, h2, _⟩ := codeOf_ok (c1 := c1) hk
  have e : (16 : Nat) ^ 6 = 16777216 := by decide
  have h := apW_wordOk (n := codeOf dr c1 j) (by lia) (by lia)
  have hl := apW_len 6 (codeOf dr c1 j)
  have hl2 := mark_len mark hm
  unfold wordOf
  split
  · exact ⟨mark_wordOk hm h, by rw [List.length_append]; lia⟩
  · exact ⟨h, by lia⟩
theorem parsed_reply9 {row dress : Int} {ws : List (List UInt8)} (h9 : ws.length = 9) (hw : ∀ w ∈ ws, WordOk w) : parsed (reply row ws dress) = ws := by
  revert hw
  exact nine (P := fun ws => (∀ w ∈ ws, WordOk w) → parsed (reply row ws dress) = ws) h9 fun _ _ _ _ _ _ _ _ _ hw => parsed_reply hw
theorem line_len {g : List UInt8} {ws : List (List UInt8)} (hg : g.length ≤ 2) (hw : ∀ x ∈ ws, x.length ≤ 10) : ∀ (is : List Int) (l : List UInt8), (is.foldl (lineStep g ws) l).length ≤ l.length + 12 * is.length
  | [], l => by simp
  | i :: is, l => by
    rw [List.foldl_cons]
    have h := line_len hg hw is (lineStep g ws l i)
    have h1 : ([[32], g].getD (i % 2).toNat []).length ≤ 2 := getD_len (fun x hx => by
      simp only [List.mem_cons, List.not_mem_nil, or_false] at hx
      rcases hx with rfl | rfl
      · decide
      · exact hg)
    have h2 : (ws.getD i.toNat []).length ≤ 10 := getD_len hw
    have h3 : (lineStep g ws l i).length = l.length + ([[32], g].getD (i % 2).toNat []).length + (ws.getD i.toNat []).length := by
      unfold lineStep
      rw [List.length_append, List.length_append]
    rw [List.length_cons]
    lia
theorem spaces_len : ∀ x ∈ spaces, x.length ≤ 2 := by decide
theorem aheads_len : ∀ x ∈ aheads, x.length ≤ 30 := by decide
theorem behinds_len : ∀ x ∈ behinds, x.length ≤ 30 := by decide
theorem reply_len {row dress : Int} {ws : List (List UInt8)} (hw : ∀ x ∈ ws, x.length ≤ 10) : 8 ≤ (reply row ws dress).length ∧ (reply row ws dress).length ≤ 1000000 := by
  have hg : (gapOf dress row).length ≤ 2 := getD_len spaces_len
  have h1 : (aheadOf dress row).length ≤ 30 := getD_len aheads_len
  have h2 : (behindOf dress row).length ≤ 30 := getD_len behinds_len
  have h3 : (edgeOf (gapOf dress row) row).length ≤ 2 := getD_len (fun x hx => by
    simp only [List.mem_cons, List.not_mem_nil, or_false] at hx
    rcases hx with rfl | rfl | rfl
    · decide
    · decide
    · exact hg)
  have h4 : (lineOf (gapOf dress row) ws).length ≤ 106 := by
    have := line_len hg hw [1, 2, 3, 4, 5, 6, 7, 8] (ws.getD 0 [])
    have h0 : (ws.getD 0 []).length ≤ 10 := getD_len hw
    unfold lineOf
    simp only [List.length_cons, List.length_nil] at this
    lia
  have h5 : flagsAt.length = 7 := rfl
  unfold reply
  simp only [List.length_append, List.length_cons, List.length_nil, h5]
  lia
theorem nothing_len {wd : List UInt8} (h0 : wd ≠ []) (h10 : wd.length ≤ 10) (dress : Int) : 8 ≤ (nothing wd dress).length ∧ (nothing wd dress).length ≤ 1000000 := by
  have h1 := Int.emod_nonneg dress (show (6 : Int) ≠ 0 by decide)
  have h2 := Int.emod_lt_of_pos dress (show (0 : Int) < 6 by decide)
  have hp := List.length_pos_iff.mpr h0
  have key : ∀ T ∈ nothings wd, 8 ≤ T.length ∧ T.length ≤ 1000000 := by
    intro T hT
    simp only [nothings, List.mem_cons, List.not_mem_nil, or_false] at hT
    rcases hT with rfl | rfl | rfl | rfl | rfl | rfl <;> simp only [List.length_append, List.length_cons, List.length_nil] <;> lia
  exact key _ (getD_in (by show _ < 6; lia))
end
section
open PySem PySem.Calls PyProof.Rows

theorem getD_ints {l : List Int} {i : Nat} (h : i < l.length) : (l.map D.int)[i]? = some (.int (l.getD i 0)) := by
  rw [List.getElem?_map, List.getD_eq_getElem?_getD, List.getElem?_eq_getElem h]; rfl

section
variable {prog : Program} {w : World} {ad : Ad} {A : Around} {E : Value → Shared → Prop} {s s₀ : Shared} {B B₀ : Ph} {env : Env} {n : Nat}
set_option maxRecDepth 100000 in
set_option maxHeartbeats 4000000 in
theorem law_word2 {Q : Flow → Shared → Prop} {wa : Addr} {xs : List Value} {m j : Nat} {mark : List UInt8} {v0 v1 v3 v4 v5 v6 v7 v8 v9 v14 v15 v16 v17 v18 v19 v20 v21 v22 v23 v24 v25 : Option Value} {c1 : Int} {t tm tc tw : Tok} {dr : List (List Int)} {N1 : List (Addr × Obj)}
    (hA1 : AOk (n + 1) A) (hk : kOf dr j < 7) (hml : mark.length ≤ 10) (hxs : xs.length ≤ 100)
    (c : Cx w ad s₀ B₀ env (Sc.mk ["script", "starts", "at", "cells", "tables", "runs", "many", "drawn", "lists", "row", "mark", "words", "code", "word", "flags", "told", "letter", "sign", "due", "answers", "colours", "down", "on", "ranks", "dealt", "twice"] ["enumerate", "in_table_b1", "in_table_c11", "in_table_c4", "in_table_c6", "in_table_c7", "in_table_c8", "in_table_c9", "_law_runs", "range", "_law_three", "_law_within", "Int2AP", "isinstance", "bytes", "_law_word", "ParseFlags", "_law_reply", "tuple", "_law_nothing", "len", "chr", "indexOf", "_law_refused", "_law_dealt", "is_not", "delitem", "contains", "set"]) [v0, v1, some (.int (j : Int) t), v3, v4, v5, v6, v7, v8, v9, some (.bytes mark.toArray tm), some (.ref wa), some (.int ((codeOf dr c1 j : Nat) : Int) tc), some (.bytes (apW 6 (codeOf dr c1 j)).toArray tw), v14, v15, v16, v17, v18, v19, v20, v21, v22, v23, v24, v25] ((wa, listObj xs m) :: N1) B s)
    (h : ∀ (s' : Shared) (tw' : Tok),
      Cx w ad s₀ B₀ env (Sc.mk ["script", "starts", "at", "cells", "tables", "runs", "many", "drawn", "lists", "row", "mark", "words", "code", "word", "flags", "told", "letter", "sign", "due", "answers", "colours", "down", "on", "ranks", "dealt", "twice"] ["enumerate", "in_table_b1", "in_table_c11", "in_table_c4", "in_table_c6", "in_table_c7", "in_table_c8", "in_table_c9", "_law_runs", "range", "_law_three", "_law_within", "Int2AP", "isinstance", "bytes", "_law_word", "ParseFlags", "_law_reply", "tuple", "_law_nothing", "len", "chr", "indexOf", "_law_refused", "_law_dealt", "is_not", "delitem", "contains", "set"]) [v0, v1, some (.int (j : Int) t), v3, v4, v5, v6, v7, v8, v9, some (.bytes mark.toArray tm), some (.ref wa), some (.int ((codeOf dr c1 j : Nat) : Int) tc), some (.bytes (apW 6 (codeOf dr c1 j)).toArray tw), v14, v15, v16, v17, v18, v19, v20, v21, v22, v23, v24, v25] ((wa, listObj (xs ++ [.bytes (wordOf dr c1 mark j).toArray tw']) (m + 1)) :: N1) B s' → Q .next s') :
    wpAny (model prog w) A (execs (wordBody.drop 2) env) Q E s := by
  obtain ⟨_, h32, hmx, _⟩ := codeOf_ok (c1 := c1) hk
  have h16 : codeOf dr c1 j < 16 ^ 6 := Nat.lt_of_le_of_lt hmx (by decide)
  have elw := law_word h16
  have hlen := apW_len 6 (codeOf dr c1 j)
  one_place
  refine @s_enterL _ _ _ _ _ _ _ _ _ _ _ _ _ _ _ _ (by assumption) ?_; intro Q' hQ' V_ C_ S_ c_
  repeat kcf_m
  refine x_or1 ?_; intro Q_
  repeat kcf_m
  refine x_itn (x_itt ?_)
  refine x_or1 ?_; intro Q_
  repeat kcf_m
  refine x_cdef Cx.stab (by assumption) (by decide) (by got_up) (fun Qc hQc => ?_)
  repeat kcf_m
  rename Cx _ _ _ _ _ _ _ _ _ _ => k1
  refine callNow (by assumption) k1 (f_word (n := n) k1.rd.wd k1.rd.keep hA1 fun t5 s' rt => ?_)
  have k2 := k1.go rt
  clear k1
  rw [elw]
  repeat kcf_m
  refine x_iten (fun hn => absurd rfl hn) (fun z_ => ?_)
  repeat kcf_m
  refine x_itf ?_
  repeat kcf_m
  rename Cx _ _ _ _ _ _ _ _ _ _ => k3
  refine s_append (a := wa) (xs := xs) (n := m) k3 (by kd_p) (.head _) rfl rfl rfl rfl ?_
  clear k3
  intro s7 k4
  repeat kcf_m
  refine x_ite (fun ho => ?_) (fun ho => ?_)
  · have e : mark ++ apW 6 (codeOf dr c1 j) = wordOf dr c1 mark j := (if_pos (by lia)).symm
    repeat kcf_m
    refine x_addB Cx.stab (by assumption) (by lia) ?_
    intro t9 s9 k5
    rw [e]
    refine ⟨_, _, _, _, _, _, k5, Sel.head, Nat.le_trans hxs (len_ok rfl), fun s' k6 => ?_⟩
    one_item
    refine @s_nil _ _ _ _ _ _ _ ?_
    one_place
    exact h _ _ k6
  · have e : apW 6 (codeOf dr c1 j) = wordOf dr c1 mark j := (if_neg (by lia)).symm
    repeat kcf_m
    refine ⟨_, _, _, _, _, _, by assumption, Sel.head, Nat.le_trans hxs (len_ok rfl), fun s' k6 => ?_⟩
    one_item
    refine @s_nil _ _ _ _ _ _ _ ?_
    rw [← e] at h
    one_place
    exact h _ _ k6

set_option maxRecDepth 100000 in
set_option maxHeartbeats 4000000 in
theorem law_word1 {Q : Flow → Shared → Prop} {ca dra wa : Addr} {cv dv xs : List Value} {nc nd m j : Nat} {rv : Value} {mark : List UInt8} {v0 v1 v4 v6 v8 v9 v12 v13 v14 v15 v16 v17 v18 v19 v20 v21 v22 v23 v24 v25 : Option Value} {c0 c1 c2 c3 : Int} {t tm : Tok} {dr : List (List Int)} {N1 : List (Addr × Obj)}
    (hA1 : AOk (n + 1) A) (hB : B ca = some (listObj cv nc)) (hx : IntsAre cv [c0, c1, c2, c3]) (hD : B dra = some (listObj dv nd)) (hdr : Reps B dv (dr.map listD)) (hrv : Rep B rv (.list (runsP.map rowD)))
    (hj : j / 3 < dr.length) (hj2 : j % 3 < (dr.getD (j / 3) []).length) (hk0 : 0 ≤ (dr.getD (j / 3) []).getD (j % 3) 0) (hk : kOf dr j < 7) (hj27 : j < 27) (hml : mark.length ≤ 10) (hxs : xs.length ≤ 100)
    (c : Cx w ad s₀ B₀ env (Sc.mk ["script", "starts", "at", "cells", "tables", "runs", "many", "drawn", "lists", "row", "mark", "words", "code", "word", "flags", "told", "letter", "sign", "due", "answers", "colours", "down", "on", "ranks", "dealt", "twice"] ["enumerate", "in_table_b1", "in_table_c11", "in_table_c4", "in_table_c6", "in_table_c7", "in_table_c8", "in_table_c9", "_law_runs", "range", "_law_three", "_law_within", "Int2AP", "isinstance", "bytes", "_law_word", "ParseFlags", "_law_reply", "tuple", "_law_nothing", "len", "chr", "indexOf", "_law_refused", "_law_dealt", "is_not", "delitem", "contains", "set"]) [v0, v1, some (.int (j : Int) t), some (.ref ca), v4, some rv, v6, some (.ref dra), v8, v9, some (.bytes mark.toArray tm), some (.ref wa), v12, v13, v14, v15, v16, v17, v18, v19, v20, v21, v22, v23, v24, v25] ((wa, listObj xs m) :: N1) B s)
    (h : ∀ (B' : Ph) (s' : Shared) (u12 u13 : Option Value) (tw : Tok), B.le B' →
      Cx w ad s₀ B₀ env (Sc.mk ["script", "starts", "at", "cells", "tables", "runs", "many", "drawn", "lists", "row", "mark", "words", "code", "word", "flags", "told", "letter", "sign", "due", "answers", "colours", "down", "on", "ranks", "dealt", "twice"] ["enumerate", "in_table_b1", "in_table_c11", "in_table_c4", "in_table_c6", "in_table_c7", "in_table_c8", "in_table_c9", "_law_runs", "range", "_law_three", "_law_within", "Int2AP", "isinstance", "bytes", "_law_word", "ParseFlags", "_law_reply", "tuple", "_law_nothing", "len", "chr", "indexOf", "_law_refused", "_law_dealt", "is_not", "delitem", "contains", "set"]) [v0, v1, some (.int (j : Int) t), some (.ref ca), v4, some rv, v6, some (.ref dra), v8, v9, some (.bytes mark.toArray tm), some (.ref wa), u12, u13, v14, v15, v16, v17, v18, v19, v20, v21, v22, v23, v24, v25] ((wa, listObj (xs ++ [.bytes (wordOf dr c1 mark j).toArray tw]) (m + 1)) :: N1) B' s' → Q .next s') :
    wpAny (model prog w) A (execs wordBody env) Q E s := by
  one_place
  refine @s_enterL _ _ _ _ _ _ _ _ _ _ _ _ _ _ _ _ (by assumption) ?_; intro Q' hQ' V_ C_ S_ c_
  repeat kcf_m
  refine x_cdef Cx.stab (by assumption) (by decide) (by got_up) (fun Qc hQc => ?_)
  obtain ⟨ra, nr, rvs, rfl, hBr, rr⟩ := Rep.isList hrv
  have hd1 : (dr.map listD)[j / 3]? = some (listD (dr.getD (j / 3) [])) := by simp [hj]
  have hd2 : ((dr.getD (j / 3) []).map D.int)[j % 3]? = some (.int ((dr.getD (j / 3) []).getD (j % 3) 0)) := getD_ints hj2
  have hd3 : (runsP.map rowD)[kOf dr j]? = some (rowD (rowP (kOf dr j))) := by
    have : kOf dr j < runsP.length := hk
    unfold rowP
    simp [this]
  obtain ⟨c1t, hc1⟩ := ints_get hx (i := 1) (d := c1) rfl
  obtain ⟨hcode, h32, hmx, _⟩ := codeOf_ok (c1 := c1) hk
  repeat kcf_m
  refine x_index ?_
  repeat kcf_m
  refine x_item rfl (Stab.isList Cx.stab (by assumption) hD) hdr (by lia) (by lia) (d := listD (dr.getD (j / 3) [])) (by rw [← hd1]; congr 1) fun x1 hx1 => ?_
  obtain ⟨a3, n3, xs3, rfl, hB3, r3⟩ := Rep.isList hx1
  repeat kcf_m
  refine x_item rfl (Stab.isList Cx.stab (by assumption) hB3) r3 (by lia) (by lia) (d := .int ((dr.getD (j / 3) []).getD (j % 3) 0)) (by rw [← hd2]; congr 1) fun x2 hx2 => ?_
  obtain ⟨t2, rfl⟩ := Rep.isInt hx2
  refine x_item rfl (Stab.isList Cx.stab (by assumption) hBr) rr hk0 (by unfold kOf at hk; lia) hd3 fun x3 hx3 => ?_
  repeat kcf_m
  try ((with_reducible refine x_mul Cx.stab (by assumption) (IntMulOk.of_left (by decide +kernel)) ?_); intro _ _ _; repeat kcf_m)
  refine x_itemV rfl (Stab.isList Cx.stab (by assumption) hB) (by decide) (by decide) hc1 ?_
  repeat kcf_m
  rename Cx _ _ _ _ _ _ _ _ _ _ => c7
  obtain ⟨hk1, hk2, _⟩ := code_ok hk
  have h16 : codeOf dr c1 j < 16 ^ 6 := Nat.lt_of_le_of_lt hmx (by decide)
  have elw := law_word h16
  refine callNow (by assumption) c7 (f_within (n := n) (ps := rowP (kOf dr j)) (r := ((codeOf dr c1 j : Nat) : Int)) c7.rd.wd c7.rd.keep hA1 hx3 hk1 hk2 hcode fun tc s' rt => ?_)
  have c8 := c7.go rt
  clear c7
  repeat kcf_m
  refine x_ite (fun ho => ?_) (fun ho => ?_)
  · repeat kcf_m
    refine x_cdef Cx.stab (by assumption) (by decide) (by got_up) (fun Qc hQc => ?_)
    repeat kcf_m
    rename Cx _ _ _ _ _ _ _ _ _ _ => c9
    refine callNow (by assumption) c9 (f_int2ap (n := n) c9.rd.wd c9.rd.keep hA1 (by lia) fun tw s' rt2 => ?_)
    have ena : (-((codeOf dr c1 j : Nat) : Int)).natAbs = codeOf dr c1 j := by lia
    rw [ena]
    have c10 := c9.go rt2
    clear c9
    refine y_store c10 (by kd_p1) fun s' c11 => ?_
    one_place
    exact law_word2 hA1 hk hml hxs c11 fun s' tw' c12 => h _ _ _ _ _ rt.le c12
  · repeat kcf_m
    refine x_cdef Cx.stab (by assumption) (by decide) (by got_up) (fun Qc hQc => ?_)
    repeat kcf_m
    rename Cx _ _ _ _ _ _ _ _ _ _ => c9
    refine callNow (by assumption) c9 (f_int2ap (n := n) c9.rd.wd c9.rd.keep hA1 (by lia) fun tw s' rt2 => ?_)
    have ena : (((codeOf dr c1 j : Nat) : Int)).natAbs = codeOf dr c1 j := by lia
    rw [ena]
    have c10 := c9.go rt2
    clear c9
    refine y_store c10 (by kd_p1) fun s' c11 => ?_
    one_place
    exact law_word2 hA1 hk hml hxs c11 fun s' tw' c12 => h _ _ _ _ _ rt.le c12
end
end
section
open PySem PySem.Calls PyProof.Rows

noncomputable def DrOk (dr : List (List Int)) : Prop := dr.length = 9 ∧ ∀ i, i < 9 → ∃ a b c : Int, dr.getD i [] = [a, b, c] ∧ (0 ≤ a ∧ a < 7) ∧ (0 ≤ b ∧ b < 7) ∧ (0 ≤ c ∧ c < 7)
theorem DrOk.at {dr : List (List Int)} (h : DrOk dr) {j : Nat} (hj : j < 27) : j / 3 < dr.length ∧ j % 3 < (dr.getD (j / 3) []).length ∧ 0 ≤ (dr.getD (j / 3) []).getD (j % 3) 0 ∧ kOf dr j < 7 := by
  obtain ⟨h9, h⟩ := h
  obtain ⟨a, b, c, e, ha, hb, hc⟩ := h (j / 3) (by lia)
  unfold kOf
  rw [e]
  have : j % 3 = 0 ∨ j % 3 = 1 ∨ j % 3 = 2 := by lia
  rcases this with q | q | q <;> rw [q] <;> simp <;> lia
theorem steps9 {r : Nat} (h : r < 3) : steps (9 * (r : Int)) 1 9 = ([9 * r, 9 * r + 1, 9 * r + 2, 9 * r + 3, 9 * r + 4, 9 * r + 5, 9 * r + 6, 9 * r + 7, 9 * r + 8] : List Nat).map fun (j : Nat) => (j : Int) := by
  have : r = 0 ∨ r = 1 ∨ r = 2 := by lia
  rcases this with rfl | rfl | rfl <;> rfl
theorem nines_lt {r j : Nat} (hr : r < 3) (hj : j ∈ [9 * r, 9 * r + 1, 9 * r + 2, 9 * r + 3, 9 * r + 4, 9 * r + 5, 9 * r + 6, 9 * r + 7, 9 * r + 8]) : j < 27 := by
  have hj : j ∈ (List.range 9).map (9 * r + ·) := hj
  obtain ⟨i, hi, rfl⟩ := List.mem_map.mp hj
  have := List.mem_range.mp hi
  lia
theorem range9 : ∀ r : Nat, r < 3 → Builtin.Range.small (9 * (r : Int)) (9 * (r : Int) + 9) 1 = true ∧ Builtin.Range.rangeSize (9 * (r : Int)) (9 * (r : Int) + 9) 1 = 9 := by decide +kernel
noncomputable def wordsOf (dr : List (List Int)) (c1 : Int) (mark : List UInt8) (r : Nat) : List (List UInt8) := [9 * r, 9 * r + 1, 9 * r + 2, 9 * r + 3, 9 * r + 4, 9 * r + 5, 9 * r + 6, 9 * r + 7, 9 * r + 8].map (wordOf dr c1 mark)
inductive WdInv (dr : List (List Int)) (c1 : Int) (mark : List UInt8) (v0 v1 v3 v4 v5 v6 v7 v8 v9 v10 v14 v15 v16 v17 v18 v19 v20 v21 v22 v23 v24 v25 : Option Value) (wa : Addr) (N1 : List (Addr × Obj)) (all : List (List UInt8)) (ds : List D) (V : List (Option Value)) (N : List (Addr × Obj)) (_B : Ph) : Prop
  | mk (js : List Nat) (ws : List (List UInt8)) (xs : List Value) (m : Nat) (va v12 v13 : Option Value) (h1 : ds = (js.map fun (j : Nat) => (j : Int)).map .int) (h2 : V = [v0, v1, va, v3, v4, v5, v6, v7, v8, v9, v10, some (.ref wa), v12, v13, v14, v15, v16, v17, v18, v19, v20, v21, v22, v23, v24, v25]) (h3 : N = (wa, listObj xs m) :: N1) (h4 : BytesAre xs ws) (h5 : ws ++ js.map (wordOf dr c1 mark) = all) (h6 : (∀ j ∈ js, j < 27)) (h7 : ws.length + js.length = 9) : WdInv dr c1 mark v0 v1 v3 v4 v5 v6 v7 v8 v9 v10 v14 v15 v16 v17 v18 v19 v20 v21 v22 v23 v24 v25 wa N1 all ds V N _B

section
variable {prog : Program} {w : World} {ad : Ad} {A : Around} {E : Value → Shared → Prop} {s s₀ : Shared} {B B₀ : Ph} {env : Env} {n : Nat}
set_option maxRecDepth 100000 in
set_option maxHeartbeats 4000000 in
theorem law_words {Q : Flow → Shared → Prop} {ca dra : Addr} {cv dv : List Value} {nc nd r : Nat} {rv : Value} {mark : List UInt8} {v0 v1 v2 v4 v6 v8 v11 v12 v13 v14 v15 v16 v17 v18 v19 v20 v21 v22 v23 v24 v25 : Option Value} {c0 c1 c2 c3 : Int} {tr tm : Tok} {dr : List (List Int)} {N1 : List (Addr × Obj)}
    (hA1 : AOk (n + 1) A) (hB : B ca = some (listObj cv nc)) (hx : IntsAre cv [c0, c1, c2, c3]) (hD : B dra = some (listObj dv nd)) (hdr : Reps B dv (dr.map listD)) (hrv : Rep B rv (.list (runsP.map rowD)))
    (hok : DrOk dr) (hr3 : r < 3) (hm : mark ∈ marks)
    (c : Cx w ad s₀ B₀ env (Sc.mk ["script", "starts", "at", "cells", "tables", "runs", "many", "drawn", "lists", "row", "mark", "words", "code", "word", "flags", "told", "letter", "sign", "due", "answers", "colours", "down", "on", "ranks", "dealt", "twice"] ["enumerate", "in_table_b1", "in_table_c11", "in_table_c4", "in_table_c6", "in_table_c7", "in_table_c8", "in_table_c9", "_law_runs", "range", "_law_three", "_law_within", "Int2AP", "isinstance", "bytes", "_law_word", "ParseFlags", "_law_reply", "tuple", "_law_nothing", "len", "chr", "indexOf", "_law_refused", "_law_dealt", "is_not", "delitem", "contains", "set"]) [v0, v1, v2, some (.ref ca), v4, some rv, v6, some (.ref dra), v8, some (.int (r : Int) tr), some (.bytes mark.toArray tm), v11, v12, v13, v14, v15, v16, v17, v18, v19, v20, v21, v22, v23, v24, v25] N1 B s)
    (h : ∀ (B' : Ph) (s' : Shared) (wa : Addr) (wv : List Value) (nw : Nat) (u2 u12 u13 : Option Value), B.le B' → B' wa = some (listObj wv nw) → BytesAre wv (wordsOf dr c1 mark r) →
      Cx w ad s₀ B₀ env (Sc.mk ["script", "starts", "at", "cells", "tables", "runs", "many", "drawn", "lists", "row", "mark", "words", "code", "word", "flags", "told", "letter", "sign", "due", "answers", "colours", "down", "on", "ranks", "dealt", "twice"] ["enumerate", "in_table_b1", "in_table_c11", "in_table_c4", "in_table_c6", "in_table_c7", "in_table_c8", "in_table_c9", "_law_runs", "range", "_law_three", "_law_within", "Int2AP", "isinstance", "bytes", "_law_word", "ParseFlags", "_law_reply", "tuple", "_law_nothing", "len", "chr", "indexOf", "_law_refused", "_law_dealt", "is_not", "delitem", "contains", "set"]) [v0, v1, u2, some (.ref ca), v4, some rv, v6, some (.ref dra), v8, some (.int (r : Int) tr), some (.bytes mark.toArray tm), some (.ref wa), u12, u13, v14, v15, v16, v17, v18, v19, v20, v21, v22, v23, v24, v25] N1 B' s' →
      wpAny (model prog w) A (execs (rowBody.drop 3) env) Q E s') :
    wpAny (model prog w) A (execs (rowBody.drop 1) env) Q E s := by
  one_place
  refine @s_enterL _ _ _ _ _ _ _ _ _ _ _ _ _ _ _ _ (by assumption) ?_; intro Q' hQ' V_ C_ S_ c_
  repeat kcf_m
  refine x_listO (by assumption) ?_
  repeat kcf_m
  refine ⟨_, _, _, by assumption, len_ok rfl, fun wa s' k1 => ?_⟩
  refine y_store k1 (by kd_p1) fun s' k2 => ?_
  one_place
  refine @s_enterL _ _ _ _ _ _ _ _ _ _ _ _ _ _ _ _ (by assumption) ?_; intro Q' hQ' V_ C_ S_ c_
  refine x_for (fun z_ => rfl) (fun R hRR => ?_)
  repeat kcf_m
  try ((with_reducible refine x_mul Cx.stab (by assumption) (IntMulOk.of_left (by decide +kernel)) ?_); intro _ _ _; repeat kcf_m)
  try ((with_reducible refine x_mul Cx.stab (by assumption) (IntMulOk.of_left (by decide +kernel)) ?_); intro _ _ _; repeat kcf_m)
  refine x_iterR (m := 9) (by assumption) (by assumption) (range9 r hr3).1 (range9 r hr3).2 ?_
  intro I M L s₃ It hM k3
  rw [steps9 hr3] at hM
  refine f_loop (WdInv dr c1 mark v0 v1 (some (.ref ca)) v4 (some rv) v6 (some (.ref dra)) v8 (some (.int (r : Int) tr)) (some (.bytes mark.toArray tm)) v14 v15 v16 v17 v18 v19 v20 v21 v22 v23 v24 v25 wa N1 (wordsOf dr c1 mark r)) (.inl ⟨_, _, rfl⟩) It hM hA1.handled
    ⟨[9 * r, 9 * r + 1, 9 * r + 2, 9 * r + 3, 9 * r + 4, 9 * r + 5, 9 * r + 6, 9 * r + 7, 9 * r + 8], [], [], 0, _, _, _, rfl, rfl, rfl, .nil, rfl, ?_, rfl⟩ (Ph.le_refl _) k3 ?_ ?_
  · exact fun j hj => nines_lt hr3 hj
  · rintro d ds V N B' s₄ L v ⟨js, ws, xs, m, va, u12, u13, e1, rfl, rfl, hxs, hall, h27, h9⟩ le hr k4 Qb Eb hQb
    cases js with
    | nil => cases e1
    | cons j js =>
      simp only [List.map_cons, List.cons.injEq] at e1
      obtain ⟨rfl, rfl⟩ := e1
      obtain ⟨tj, rfl⟩ := Rep.isInt hr
      obtain ⟨q1, q2, q3, q4⟩ := hok.at (h27 j (.head _))
      have leX : Ph.le B B' := (by kln_le)
      simp only [List.cons_append] at k4
      refine wpAny_assign_Name ?_
      refine y_store k4 (by kd_p1) fun s' k5 => ?_
      have hl := hxs.length
      one_place
      refine law_word1 hA1 (leX _ _ hB) hx (leX _ _ hD) (hdr.mono leX) (hrv.mono leX) q1 q2 q3 q4 (h27 j (.head _)) (Nat.le_trans (mark_len mark hm) (by decide)) (by lia) k5 fun B2 s2 w12 w13 tw le2 k6 => ?_
      one_place
      refine ⟨_, _, B2, ⟨js, ws ++ [wordOf dr c1 mark j], _, _, _, _, _, rfl, rfl, rfl, hxs.append (.cons _ _ .nil), ?_, fun i hi => h27 i (.tail _ hi), ?_⟩, le2, k6⟩
      · rw [← hall]; simp
      · rw [List.length_append]; simp only [List.length_cons, List.length_nil] at h9 ⊢; lia
  · rintro V N B' s₄ ⟨js, ws, xs, m, va, u12, u13, e1, rfl, rfl, hxs, hall, h27, h9⟩ le k4
    cases js with
    | cons i js => cases e1
    | nil =>
      rw [List.map_nil, List.append_nil] at hall
      subst hall
      obtain ⟨B1, lef, hB1, k5⟩ := k4.freeze' Del.head
      one_item
      refine @s_nil _ _ _ _ _ _ _ ?_
      one_place
      exact h _ _ _ _ _ _ _ _ (by kln_le) hB1 hxs k5
end
end
section
open PySem PySem.Calls PyProof.Rows

section
variable {prog : Program} {w : World} {ad : Ad} {A : Around} {E : Value → Shared → Prop} {s s₀ : Shared} {B B₀ : Ph} {env : Env} {n : Nat}
theorem BytesAre.nil' {vs : List Value} (h : BytesAre vs []) : vs = [] := by cases h; rfl
theorem Reps.nil' {B : Ph} {vs : List Value} (h : Reps B vs []) : vs = [] := by cases h; rfl
theorem mem_bytes {ws : List (List UInt8)} {d : D} (h : d ∈ ws.map D.bytes) : ∃ l, d = .bytes l := by
  obtain ⟨l, _, e⟩ := List.mem_map.mp h
  exact ⟨l, e.symm⟩

set_option maxRecDepth 100000 in
set_option maxHeartbeats 4000000 in
theorem law_flags1 {Q : Flow → Shared → Prop} {ca wa : Addr} {cv wv : List Value} {nc nw r : Nat} {v0 v1 v2 v4 v5 v6 v7 v8 v10 v12 v13 v14 v15 v16 v17 v18 v19 v20 v21 v22 v23 v24 v25 : Option Value} {c0 c1 c2 c3 : Int} {tr : Tok} {N1 : List (Addr × Obj)} {ws : List (List UInt8)}
    (hA1 : AOk (n + 1) A) (hB : B ca = some (listObj cv nc)) (hx : IntsAre cv [c0, c1, c2, c3]) (hr3 : r < 3) (hW : B wa = some (listObj wv nw)) (hwv : BytesAre wv ws) (h9 : ws.length = 9) (hwok : ∀ x ∈ ws, WordOk x) (hw10 : ∀ x ∈ ws, x.length ≤ 10)
    (c : Cx w ad s₀ B₀ env (Sc.mk ["script", "starts", "at", "cells", "tables", "runs", "many", "drawn", "lists", "row", "mark", "words", "code", "word", "flags", "told", "letter", "sign", "due", "answers", "colours", "down", "on", "ranks", "dealt", "twice"] ["enumerate", "in_table_b1", "in_table_c11", "in_table_c4", "in_table_c6", "in_table_c7", "in_table_c8", "in_table_c9", "_law_runs", "range", "_law_three", "_law_within", "Int2AP", "isinstance", "bytes", "_law_word", "ParseFlags", "_law_reply", "tuple", "_law_nothing", "len", "chr", "indexOf", "_law_refused", "_law_dealt", "is_not", "delitem", "contains", "set"]) [v0, v1, v2, some (.ref ca), v4, v5, v6, v7, v8, some (.int (r : Int) tr), v10, some (.ref wa), v12, v13, v14, v15, v16, v17, v18, v19, v20, v21, v22, v23, v24, v25] N1 B s)
    (h : ∀ (B' : Ph) (s' : Shared) (fa : Addr) (fv : List Value), B.le B' → B' fa = some (tupObj fv) → BytesAre fv ws →
      Cx w ad s₀ B₀ env (Sc.mk ["script", "starts", "at", "cells", "tables", "runs", "many", "drawn", "lists", "row", "mark", "words", "code", "word", "flags", "told", "letter", "sign", "due", "answers", "colours", "down", "on", "ranks", "dealt", "twice"] ["enumerate", "in_table_b1", "in_table_c11", "in_table_c4", "in_table_c6", "in_table_c7", "in_table_c8", "in_table_c9", "_law_runs", "range", "_law_three", "_law_within", "Int2AP", "isinstance", "bytes", "_law_word", "ParseFlags", "_law_reply", "tuple", "_law_nothing", "len", "chr", "indexOf", "_law_refused", "_law_dealt", "is_not", "delitem", "contains", "set"]) [v0, v1, v2, some (.ref ca), v4, v5, v6, v7, v8, some (.int (r : Int) tr), v10, some (.ref wa), v12, v13, some (.ref fa), v15, v16, v17, v18, v19, v20, v21, v22, v23, v24, v25] N1 B' s' →
      wpAny (model prog w) A (execs (rowBody.drop 4) env) Q E s') :
    wpAny (model prog w) A (execs (rowBody.drop 3) env) Q E s := by
  obtain ⟨t3, hc3⟩ := ints_get hx (i := 3) (d := c3) rfl
  one_place
  refine @s_enterL _ _ _ _ _ _ _ _ _ _ _ _ _ _ _ _ (by assumption) ?_; intro Q' hQ' V_ C_ S_ c_
  repeat kcf_m
  refine x_cdef Cx.stab (by assumption) (by decide) (by got_up) (fun Qc hQc => ?_)
  repeat kcf_m
  refine x_cdef Cx.stab (by assumption) (by decide) (by got_up) (fun Qc hQc => ?_)
  repeat kcf_m
  refine x_itemV rfl (Stab.isList Cx.stab (by assumption) hB) (by decide) (by decide) hc3 ?_
  repeat kcf_m
  rename Cx _ _ _ _ _ _ _ _ _ _ => k1
  refine callNow (by assumption) k1 (f_reply (n := n) k1.rd.wd k1.rd.keep hA1 (by lia) (by lia) (Rep.list wa nw wv _ hW hwv.reps) h9 hw10 fun t s' rt => ?_)
  have k2 := k1.go rt
  have le2 : Ph.le B _ := rt.le
  clear k1
  repeat kcf_m
  refine callNow (by assumption) k2 (f_parse (n := n) k2.rd.wd k2.rd.keep hA1 (reply_len hw10).1 (reply_len hw10).2 fun fa s' B2 fv rt2 hBf hfv => ?_)
  rw [parsed_reply9 h9 hwok] at hfv
  have k3 := k2.go rt2
  clear k2
  refine y_store k3 (by kd_p1) fun s' k4 => ?_
  one_place
  exact h _ _ _ _ (Ph.le_trans le2 rt2.le) hBf hfv k4

set_option maxRecDepth 100000 in
set_option maxHeartbeats 4000000 in
theorem law_flags2 {Q : Flow → Shared → Prop} {wa fa : Addr} {wv fv : List Value} {nw : Nat} {v0 v1 v2 v3 v4 v5 v6 v7 v8 v9 v10 v12 v13 v15 v16 v17 v18 v19 v20 v21 v22 v23 v24 v25 : Option Value} {N1 : List (Addr × Obj)} {ws : List (List UInt8)}
    (hes : env.scope = (dn 24).scope) (hA1 : AOk (n + 1) A) (hW : B wa = some (listObj wv nw)) (hwv : BytesAre wv ws) (hF : B fa = some (tupObj fv)) (hfv : BytesAre fv ws) (h9 : ws.length = 9)
    (c : Cx w ad s₀ B₀ env (Sc.mk ["script", "starts", "at", "cells", "tables", "runs", "many", "drawn", "lists", "row", "mark", "words", "code", "word", "flags", "told", "letter", "sign", "due", "answers", "colours", "down", "on", "ranks", "dealt", "twice"] ["enumerate", "in_table_b1", "in_table_c11", "in_table_c4", "in_table_c6", "in_table_c7", "in_table_c8", "in_table_c9", "_law_runs", "range", "_law_three", "_law_within", "Int2AP", "isinstance", "bytes", "_law_word", "ParseFlags", "_law_reply", "tuple", "_law_nothing", "len", "chr", "indexOf", "_law_refused", "_law_dealt", "is_not", "delitem", "contains", "set"]) [v0, v1, v2, v3, v4, v5, v6, v7, v8, v9, v10, some (.ref wa), v12, v13, some (.ref fa), v15, v16, v17, v18, v19, v20, v21, v22, v23, v24, v25] N1 B s)
    (h : ∀ (B' : Ph) (s' : Shared), B.le B' →
      Cx w ad s₀ B₀ env (Sc.mk ["script", "starts", "at", "cells", "tables", "runs", "many", "drawn", "lists", "row", "mark", "words", "code", "word", "flags", "told", "letter", "sign", "due", "answers", "colours", "down", "on", "ranks", "dealt", "twice"] ["enumerate", "in_table_b1", "in_table_c11", "in_table_c4", "in_table_c6", "in_table_c7", "in_table_c8", "in_table_c9", "_law_runs", "range", "_law_three", "_law_within", "Int2AP", "isinstance", "bytes", "_law_word", "ParseFlags", "_law_reply", "tuple", "_law_nothing", "len", "chr", "indexOf", "_law_refused", "_law_dealt", "is_not", "delitem", "contains", "set"]) [v0, v1, v2, v3, v4, v5, v6, v7, v8, v9, v10, some (.ref wa), v12, v13, some (.ref fa), v15, v16, v17, v18, v19, v20, v21, v22, v23, v24, v25] N1 B' s' →
      wpAny (model prog w) A (execs (rowBody.drop 5) env) Q E s') :
    wpAny (model prog w) A (execs (rowBody.drop 4) env) Q E s := by
  one_place
  refine @s_enterL _ _ _ _ _ _ _ _ _ _ _ _ _ _ _ _ (by assumption) ?_; intro Q' hQ' V_ C_ S_ c_
  repeat kcf_m
  refine x_or1 ?_; intro Q_
  repeat kcf_m
  refine b_tuple Cx.stab (by assumption) (Stab.isList Cx.stab (by assumption) hW) (by rw [hwv.length, h9]; exact len_ok rfl) fun ta s' B3 le3 hB3 k1 => ?_
  repeat kcf_m
  refine x_neTB (Stab.isTup Cx.stab k1 (le3 _ _ hF)) (Stab.isTup Cx.stab k1 hB3) hfv hwv hA1.unit ?_
  repeat kcf_m
  refine x_iten (fun hn => absurd rfl hn) (fun z_ => ?_)
  refine x_or1 ?_; intro Q_
  repeat kcf_m
  refine x_comp (p := fun z_ => false) (f := id) (tg := ["flag"]) (fr := []) (gs := ["isinstance", "bytes"]) hA1.handled k1 (by rw [hes]; decide +kernel) rfl (fun z_ => rfl) ?_
  repeat kcf_m
  refine goT k1 (le3 _ _ hF) hfv.reps (CompOk.nameIf .nil (by rw [List.length_map, h9]; exact len_ok rfl) ?_ ?_)
  · intro cenv K d v B' s E S hd le hr hK
    obtain ⟨l, rfl⟩ := mem_bytes hd
    obtain ⟨tb, rfl⟩ := Rep.isBytes hr
    repeat kcf_m
    exact ⟨rfl, _, Ph.le_refl _, by assumption, fun hp => nomatch hp⟩
  · intro Dc n1 xs1 B4 le4 hxs s' k2
    have e0 : (List.filter (fun z_ => false) (List.map D.bytes ws)).map id = [] := by simp
    rw [e0] at hxs
    cases hxs
    obtain ⟨B5, lef, hB5, k3⟩ := k2.freeze' Del.head
    repeat kcf_m
    refine x_list Cx.stab (by assumption) ?_
    repeat kcf_m
    refine ⟨_, by assumption, len_ok rfl, fun e s' B6 le6 hB6 k4 => ?_⟩
    refine x_neLI (Stab.isList Cx.stab k4 (le6 _ _ hB5)) (Stab.isList Cx.stab k4 hB6) .nil .nil hA1.unit ?_
    repeat kcf_m
    refine x_iten (fun hn => absurd rfl hn) (fun z_ => ?_)
    refine x_or0 ?_
    refine x_itf ?_
    one_item
    refine @s_nil _ _ _ _ _ _ _ ?_
    one_place
    exact h _ _ (Ph.le_trans le3 (Ph.le_trans le4 (Ph.le_trans lef le6))) k4

set_option maxRecDepth 100000 in
set_option maxHeartbeats 4000000 in
theorem law_flags3 {Q : Flow → Shared → Prop} {ca wa : Addr} {cv wv : List Value} {nc nw r : Nat} {v0 v1 v2 v4 v5 v6 v7 v8 v10 v12 v13 v14 v15 v16 v17 v18 v19 v20 v21 v22 v23 v24 v25 : Option Value} {c0 c1 c2 c3 : Int} {tr : Tok} {N1 : List (Addr × Obj)} {ws : List (List UInt8)}
    (hA1 : AOk (n + 1) A) (hB : B ca = some (listObj cv nc)) (hx : IntsAre cv [c0, c1, c2, c3]) (hW : B wa = some (listObj wv nw)) (hwv : BytesAre wv ws) (h9 : ws.length = 9) (hwok : ∀ x ∈ ws, WordOk x) (hw10 : ∀ x ∈ ws, x.length ≤ 10)
    (c : Cx w ad s₀ B₀ env (Sc.mk ["script", "starts", "at", "cells", "tables", "runs", "many", "drawn", "lists", "row", "mark", "words", "code", "word", "flags", "told", "letter", "sign", "due", "answers", "colours", "down", "on", "ranks", "dealt", "twice"] ["enumerate", "in_table_b1", "in_table_c11", "in_table_c4", "in_table_c6", "in_table_c7", "in_table_c8", "in_table_c9", "_law_runs", "range", "_law_three", "_law_within", "Int2AP", "isinstance", "bytes", "_law_word", "ParseFlags", "_law_reply", "tuple", "_law_nothing", "len", "chr", "indexOf", "_law_refused", "_law_dealt", "is_not", "delitem", "contains", "set"]) [v0, v1, v2, some (.ref ca), v4, v5, v6, v7, v8, some (.int (r : Int) tr), v10, some (.ref wa), v12, v13, v14, v15, v16, v17, v18, v19, v20, v21, v22, v23, v24, v25] N1 B s)
    (h : ∀ (B' : Ph) (s' : Shared), B.le B' →
      Cx w ad s₀ B₀ env (Sc.mk ["script", "starts", "at", "cells", "tables", "runs", "many", "drawn", "lists", "row", "mark", "words", "code", "word", "flags", "told", "letter", "sign", "due", "answers", "colours", "down", "on", "ranks", "dealt", "twice"] ["enumerate", "in_table_b1", "in_table_c11", "in_table_c4", "in_table_c6", "in_table_c7", "in_table_c8", "in_table_c9", "_law_runs", "range", "_law_three", "_law_within", "Int2AP", "isinstance", "bytes", "_law_word", "ParseFlags", "_law_reply", "tuple", "_law_nothing", "len", "chr", "indexOf", "_law_refused", "_law_dealt", "is_not", "delitem", "contains", "set"]) [v0, v1, v2, some (.ref ca), v4, v5, v6, v7, v8, some (.int (r : Int) tr), v10, some (.ref wa), v12, v13, v14, v15, v16, v17, v18, v19, v20, v21, v22, v23, v24, v25] N1 B' s' →
      wpAny (model prog w) A (execs (rowBody.drop 6) env) Q E s') :
    wpAny (model prog w) A (execs (rowBody.drop 5) env) Q E s := by
  obtain ⟨t3, hc3⟩ := ints_get hx (i := 3) (d := c3) rfl
  have hw0 : ws.getD 0 [] ∈ ws := getD_in (by lia)
  have hok0 := hwok _ hw0
  have hl0 := hw10 _ hw0
  one_place
  refine @s_enterL _ _ _ _ _ _ _ _ _ _ _ _ _ _ _ _ (by assumption) ?_; intro Q' hQ' V_ C_ S_ c_
  repeat kcf_m
  refine x_cdef Cx.stab (by assumption) (by decide) (by got_up) (fun Qc hQc => ?_)
  repeat kcf_m
  refine x_cdef Cx.stab (by assumption) (by decide) (by got_up) (fun Qc hQc => ?_)
  repeat kcf_m
  refine x_itemB rfl (Stab.isList Cx.stab (by assumption) hW) hwv (by decide) (by rw [h9]; decide) (by decide) fun t0 => ?_
  repeat kcf_m
  refine x_itemV rfl (Stab.isList Cx.stab (by assumption) hB) (by decide) (by decide) hc3 ?_
  repeat kcf_m
  rename Cx _ _ _ _ _ _ _ _ _ _ => k1
  refine callNow (by assumption) k1 (f_nothing (n := n) k1.rd.wd k1.rd.keep hA1 (Nat.le_trans hl0 (by decide)) fun t s' rt => ?_)
  have k2 := k1.go rt
  clear k1
  repeat kcf_m
  refine callNow (by assumption) k2 (f_parse (n := n) k2.rd.wd k2.rd.keep hA1 (nothing_len hok0.1 hl0 _).1 (nothing_len hok0.1 hl0 _).2 fun fa s' B2 fv rt2 hBf hfv => ?_)
  change BytesAre fv (parsed (nothing (ws.getD 0 []) (c3 / 7 + (r : Int)))) at hfv
  rw [parsed_nothing hok0] at hfv
  cases hfv
  have k3 := k2.go rt2
  clear k2
  repeat kcf_m
  refine ⟨_, by assumption, len_ok rfl, fun e s' B6 le6 hB6 k4 => ?_⟩
  repeat kcf_m
  refine x_neTB (Stab.isTup Cx.stab k4 (le6 _ _ hBf)) (Stab.isTup Cx.stab k4 hB6) .nil .nil hA1.unit ?_
  repeat kcf_m
  refine x_iten (fun hn => absurd rfl hn) (fun z_ => ?_)
  one_item
  refine @s_nil _ _ _ _ _ _ _ ?_
  one_place
  exact h _ _ (Ph.le_trans rt.le (Ph.le_trans rt2.le le6)) k4
end
end
section
open PySem PySem.Calls PyProof.Rows

noncomputable def codeStep (c : Int) (l : UInt8) : Int := 16 * c + (l.toNat : Int) - 65
theorem word_drop {dr : List (List Int)} {c1 : Int} {mark : List UInt8} {r j : Nat} : (wordOf dr c1 mark (9 * r + j)).drop ((mark.length : Int) * (((r : Int) + (j : Int)) % 2)).toNat = apW 6 (codeOf dr c1 (9 * r + j)) := by
  unfold wordOf
  by_cases h : (9 * r + j) % 2 = 1
  · have e : ((r : Int) + (j : Int)) % 2 = 1 := by lia
    rw [if_pos h, e, Int.mul_one, Int.toNat_natCast, List.drop_left]
  · have e : ((r : Int) + (j : Int)) % 2 = 0 := by lia
    rw [if_neg h, e, Int.mul_zero]
    rfl
theorem words_get {dr : List (List Int)} {c1 : Int} {mark : List UInt8} {r j : Nat} (hj : j < 9) : ((wordsOf dr c1 mark r).map D.bytes)[j]? = some (.bytes (wordOf dr c1 mark (9 * r + j))) := by
  exact lt9 (P := fun j => ((wordsOf dr c1 mark r).map D.bytes)[j]? = some (.bytes (wordOf dr c1 mark (9 * r + j)))) rfl rfl rfl rfl rfl rfl rfl rfl rfl hj
inductive LtInv (v0 v1 v2 v3 v4 v5 v6 v7 v8 v9 v10 v11 v13 v14 v15 v17 v18 v19 v20 v21 v22 v23 v24 v25 : Option Value) (N1 : List (Addr × Obj)) (fin : Int) (ds : List D) (V : List (Option Value)) (N : List (Addr × Obj)) (_B : Ph) : Prop
  | mk (ls : List UInt8) (acc : Int) (t : Tok) (u16 : Option Value) (h1 : ds = ls.map byteD) (h2 : V = [v0, v1, v2, v3, v4, v5, v6, v7, v8, v9, v10, v11, some (.int acc t), v13, v14, v15, u16, v17, v18, v19, v20, v21, v22, v23, v24, v25]) (h3 : N = N1) (h4 : ls.foldl codeStep acc = fin) : LtInv v0 v1 v2 v3 v4 v5 v6 v7 v8 v9 v10 v11 v13 v14 v15 v17 v18 v19 v20 v21 v22 v23 v24 v25 N1 fin ds V N _B

section
variable {prog : Program} {w : World} {ad : Ad} {A : Around} {E : Value → Shared → Prop} {s s₀ : Shared} {B B₀ : Ph} {env : Env} {n : Nat}
set_option maxRecDepth 100000 in
set_option maxHeartbeats 4000000 in
theorem law_code {Q : Flow → Shared → Prop} {fa : Addr} {fv : List Value} {r j : Nat} {mark : List UInt8} {v0 v1 v3 v4 v5 v6 v7 v8 v11 v12 v13 v15 v16 v17 v18 v19 v20 v21 v22 v23 v24 v25 : Option Value} {c1 : Int} {tj tr tm : Tok} {dr : List (List Int)} {N1 : List (Addr × Obj)}
    (hA1 : AOk (n + 1) A) (hF : B fa = some (tupObj fv)) (hfv : BytesAre fv (wordsOf dr c1 mark r)) (hok : DrOk dr) (hr3 : r < 3) (hj : j < 9) (hm : mark ∈ marks)
    (c : Cx w ad s₀ B₀ env (Sc.mk ["script", "starts", "at", "cells", "tables", "runs", "many", "drawn", "lists", "row", "mark", "words", "code", "word", "flags", "told", "letter", "sign", "due", "answers", "colours", "down", "on", "ranks", "dealt", "twice"] ["enumerate", "in_table_b1", "in_table_c11", "in_table_c4", "in_table_c6", "in_table_c7", "in_table_c8", "in_table_c9", "_law_runs", "range", "_law_three", "_law_within", "Int2AP", "isinstance", "bytes", "_law_word", "ParseFlags", "_law_reply", "tuple", "_law_nothing", "len", "chr", "indexOf", "_law_refused", "_law_dealt", "is_not", "delitem", "contains", "set"]) [v0, v1, some (.int (j : Int) tj), v3, v4, v5, v6, v7, v8, some (.int (r : Int) tr), some (.bytes mark.toArray tm), v11, v12, v13, some (.ref fa), v15, v16, v17, v18, v19, v20, v21, v22, v23, v24, v25] N1 B s)
    (h : ∀ (B' : Ph) (s' : Shared) (t' : Tok) (u16 : Option Value), B.le B' →
      Cx w ad s₀ B₀ env (Sc.mk ["script", "starts", "at", "cells", "tables", "runs", "many", "drawn", "lists", "row", "mark", "words", "code", "word", "flags", "told", "letter", "sign", "due", "answers", "colours", "down", "on", "ranks", "dealt", "twice"] ["enumerate", "in_table_b1", "in_table_c11", "in_table_c4", "in_table_c6", "in_table_c7", "in_table_c8", "in_table_c9", "_law_runs", "range", "_law_three", "_law_within", "Int2AP", "isinstance", "bytes", "_law_word", "ParseFlags", "_law_reply", "tuple", "_law_nothing", "len", "chr", "indexOf", "_law_refused", "_law_dealt", "is_not", "delitem", "contains", "set"]) [v0, v1, some (.int (j : Int) tj), v3, v4, v5, v6, v7, v8, some (.int (r : Int) tr), some (.bytes mark.toArray tm), v11, some (.int ((codeOf dr c1 (9 * r + j) : Nat) : Int) t'), v13, some (.ref fa), v15, u16, v17, v18, v19, v20, v21, v22, v23, v24, v25] N1 B' s' →
      wpAny (model prog w) A (execs (toldBody.drop 2) env) Q E s') :
    wpAny (model prog w) A (execs toldBody env) Q E s := by
  obtain ⟨q1, q2, q3, hk⟩ := hok.at (show 9 * r + j < 27 by lia)
  obtain ⟨_, h32, hmx, _⟩ := codeOf_ok (c1 := c1) hk
  have h16 : codeOf dr c1 (9 * r + j) < 16 ^ 6 := Nat.lt_of_le_of_lt hmx (by decide)
  have hback : (apW 6 (codeOf dr c1 (9 * r + j))).foldl codeStep 0 = ((codeOf dr c1 (9 * r + j) : Nat) : Int) := apW_back 6 _ h16
  have hl2 := mark_len mark hm
  have hwl := (word_ok (c1 := c1) hm hk).2
  one_place
  refine @s_enterL _ _ _ _ _ _ _ _ _ _ _ _ _ _ _ _ (by assumption) ?_; intro Q' hQ' V_ C_ S_ c_
  repeat kcf_m
  refine x_for (fun z_ => rfl) (fun R hRR => ?_)
  refine x_sliceB Cx.stab (by assumption) (fun v b => ⟨_, rfl⟩) ?_
  repeat kcf_m
  refine x_itemT rfl (Stab.isTup Cx.stab (by assumption) hF) (hfv.reps (B := B)) (by lia) (by lia) (d := .bytes (wordOf dr c1 mark (9 * r + j))) (by rw [← words_get hj, Int.toNat_natCast]) fun x hx => ?_
  obtain ⟨tb, rfl⟩ := Rep.isBytes hx
  repeat kcf_m
  refine x_lenB Cx.stab (by assumption) (Nat.le_trans hl2 (by decide)) ?_
  intro _ _ _
  repeat kcf_m
  refine x_mul Cx.stab (by assumption) (IntMulOk.of_left (intBits_le_64 (by lia) (by lia))) ?_
  intro _ _ _
  repeat kcf_m
  refine ⟨_, _, _, none, _, rfl, by assumption, .int _ _, .none, ?_, fun t5 s5 k1 => ?_⟩
  · rw [List.size_toArray]
    exact Nat.le_trans hwl (len_ok rfl)
  rw [bytes_drop (l := wordOf dr c1 mark (9 * r + j)) (Int.mul_nonneg (by lia) (by lia)), word_drop]
  refine x_iterB k1 ?_
  intro I M L s₃ It hM k2
  refine f_loop (LtInv v0 v1 (some (.int (j : Int) tj)) v3 v4 v5 v6 v7 v8 (some (.int (r : Int) tr)) (some (.bytes mark.toArray tm)) v11 v13 (some (.ref fa)) v15 v17 v18 v19 v20 v21 v22 v23 v24 v25 N1 ((codeOf dr c1 (9 * r + j) : Nat) : Int)) (.inl ⟨_, _, rfl⟩) It hM hA1.handled
    ⟨_, 0, _, _, rfl, rfl, rfl, hback⟩ (Ph.le_refl _) k2 ?_ ?_
  · rintro d ds V N B' s₄ L v ⟨ls, acc, ta, u16, e1, rfl, rfl, hfin⟩ le hr k4 Qb Eb hQb
    cases ls with
    | nil => cases e1
    | cons l ls =>
      simp only [List.map_cons, List.cons.injEq] at e1
      obtain ⟨rfl, rfl⟩ := e1
      obtain ⟨tl, rfl⟩ := Rep.isInt hr
      repeat kcf_m
      try ((with_reducible refine x_mul Cx.stab (by assumption) (IntMulOk.of_left (by decide +kernel)) ?_); intro _ _ _; repeat kcf_m)
      one_place
      exact ⟨_, _, B', ⟨ls, codeStep acc l, _, _, rfl, rfl, rfl, hfin⟩, Ph.le_refl _, by assumption⟩
  · rintro V N B' s₄ ⟨ls, acc, ta, u16, e1, rfl, rfl, hfin⟩ le k4
    cases ls with
    | cons i js => cases e1
    | nil =>
      have hfin : acc = _ := hfin
      subst hfin
      one_item
      refine @s_nil _ _ _ _ _ _ _ ?_
      one_place
      exact h _ _ _ _ le k4
end
end
section
open PySem PySem.Calls PyProof.Rows

theorem Wd.inj {w : World} {ad : Ad} {B : Ph} (hw : Wd w ad B) {i j : Nat} (hi : i < 25) (hj : j < 25) (e : ad.fn i = ad.fn j) : (dn i).name = (dn j).name := by
  obtain ⟨_, _, _, h1, _⟩ := hw.fn i hi
  obtain ⟨_, _, _, h2, _⟩ := hw.fn j hj
  rw [e, h2] at h1
  have h3 := congrArg (fun (o : Option Obj) => match o with | some o => (match o.data with | .func fd => fd.name | _ => Str.empty) | none => Str.empty) h1
  exact h3.symm
theorem names_apart : ∀ i, i < 7 → ∀ j, j < 7 → (dn (9 + i)).name = (dn (9 + j)).name → i = j := by decide +kernel
noncomputable def tabIx (ad : Ad) (a : Addr) : Nat := @dite _ (∃ i, i < 7 ∧ a = ad.fn (9 + i)) (Classical.propDecidable _) (fun h => h.choose) fun _ => 7
theorem tabIx_eq {w : World} {ad : Ad} {B : Ph} (hw : Wd w ad B) {i : Nat} (hi : i < 7) : tabIx ad (ad.fn (9 + i)) = i := by
  have key : ∀ j, j < 7 → ad.fn (9 + i) = ad.fn (9 + j) → i = j := fun j hj e => names_apart i hi j hj (hw.inj (Nat.lt_of_lt_of_le (Nat.add_lt_add_left hi 9) (by decide)) (Nat.lt_of_lt_of_le (Nat.add_lt_add_left hj 9) (by decide)) e)
  have h : ∃ j, j < 7 ∧ ad.fn (9 + i) = ad.fn (9 + j) := ⟨i, hi, rfl⟩
  unfold tabIx
  rw [dif_pos h]
  exact (key h.choose h.choose_spec.1 h.choose_spec.2).symm
noncomputable def ansD (ad : Ad) (code : Nat) : D → D
  | .ref a => .bool (tells (tabIx ad a) code)
  | d => d
noncomputable def tabD (ad : Ad) : List D := [.ref (ad.fn 9), .ref (ad.fn 10), .ref (ad.fn 11), .ref (ad.fn 12), .ref (ad.fn 13), .ref (ad.fn 14), .ref (ad.fn 15)]
theorem tab_mem {ad : Ad} {d : D} (h : d ∈ tabD ad) : ∃ i, i < 7 ∧ d = .ref (ad.fn (9 + i)) := by
  have h : d ∈ (List.range 7).map (fun i => D.ref (ad.fn (9 + i))) := h
  obtain ⟨i, hi, rfl⟩ := List.mem_map.mp h
  exact ⟨i, List.mem_range.mp hi, rfl⟩
noncomputable def answ (k : Nat) : List Bool := [0 == k, 1 == k, 2 == k, 3 == k, 4 == k, 5 == k, 6 == k]
theorem ans_eq {w : World} {ad : Ad} {B : Ph} (hw : Wd w ad B) {code k : Nat} (h : ∀ i, i < 7 → tells i code = (i == k)) : (tabD ad).map (ansD ad code) = (answ k).map D.bool := by
  show ((List.range 7).map (fun i => D.ref (ad.fn (9 + i)))).map (ansD ad code) = ((List.range 7).map (fun i => i == k)).map D.bool
  rw [List.map_map, List.map_map]
  refine List.map_congr_left fun i hi => ?_
  have hi := List.mem_range.mp hi
  show D.bool (tells (tabIx ad (ad.fn (9 + i))) code) = _
  rw [tabIx_eq hw hi, h i hi]
  rfl
theorem tab_reps {ad : Ad} {B : Ph} : Reps B (tablesV ad) (tabD ad) := .cons (.ref _) (.cons (.ref _) (.cons (.ref _) (.cons (.ref _) (.cons (.ref _) (.cons (.ref _) (.cons (.ref _) .nil))))))

section
variable {prog : Program} {w : World} {ad : Ad} {A : Around} {E : Value → Shared → Prop} {s s₀ : Shared} {B B₀ : Ph} {env : Env} {n : Nat}
set_option maxRecDepth 100000 in
set_option maxHeartbeats 4000000 in
theorem law_sign {Q : Flow → Shared → Prop} {dra : Addr} {dv : List Value} {nd r j code : Nat} {v0 v1 v3 v4 v5 v6 v8 v10 v11 v13 v14 v15 v16 v17 v18 v19 v20 v21 v22 v23 v24 v25 : Option Value} {tj tr tc : Tok} {dr : List (List Int)} {N1 : List (Addr × Obj)}
    (hD : B dra = some (listObj dv nd)) (hdr : Reps B dv (dr.map listD)) (hok : DrOk dr) (hr3 : r < 3) (hj : j < 9) (hmx : code ≤ 1114111)
    (c : Cx w ad s₀ B₀ env (Sc.mk ["script", "starts", "at", "cells", "tables", "runs", "many", "drawn", "lists", "row", "mark", "words", "code", "word", "flags", "told", "letter", "sign", "due", "answers", "colours", "down", "on", "ranks", "dealt", "twice"] ["enumerate", "in_table_b1", "in_table_c11", "in_table_c4", "in_table_c6", "in_table_c7", "in_table_c8", "in_table_c9", "_law_runs", "range", "_law_three", "_law_within", "Int2AP", "isinstance", "bytes", "_law_word", "ParseFlags", "_law_reply", "tuple", "_law_nothing", "len", "chr", "indexOf", "_law_refused", "_law_dealt", "is_not", "delitem", "contains", "set"]) [v0, v1, some (.int (j : Int) tj), v3, v4, v5, v6, some (.ref dra), v8, some (.int (r : Int) tr), v10, v11, some (.int (code : Int) tc), v13, v14, v15, v16, v17, v18, v19, v20, v21, v22, v23, v24, v25] N1 B s)
    (h : ∀ (s' : Shared) (t17 t18 : Tok),
      Cx w ad s₀ B₀ env (Sc.mk ["script", "starts", "at", "cells", "tables", "runs", "many", "drawn", "lists", "row", "mark", "words", "code", "word", "flags", "told", "letter", "sign", "due", "answers", "colours", "down", "on", "ranks", "dealt", "twice"] ["enumerate", "in_table_b1", "in_table_c11", "in_table_c4", "in_table_c6", "in_table_c7", "in_table_c8", "in_table_c9", "_law_runs", "range", "_law_three", "_law_within", "Int2AP", "isinstance", "bytes", "_law_word", "ParseFlags", "_law_reply", "tuple", "_law_nothing", "len", "chr", "indexOf", "_law_refused", "_law_dealt", "is_not", "delitem", "contains", "set"]) [v0, v1, some (.int (j : Int) tj), v3, v4, v5, v6, some (.ref dra), v8, some (.int (r : Int) tr), v10, v11, some (.int (code : Int) tc), v13, v14, v15, v16, some (.str ⟨#[code]⟩ t17), some (.int ((kOf dr (9 * r + j) : Nat) : Int) t18), v19, v20, v21, v22, v23, v24, v25] N1 B s' →
      wpAny (model prog w) A (execs (toldBody.drop 4) env) Q E s') :
    wpAny (model prog w) A (execs (toldBody.drop 2) env) Q E s := by
  obtain ⟨q1, q2, q3, hk⟩ := hok.at (show 9 * r + j < 27 by lia)
  have e1 : (9 * r + j) / 3 = 3 * r + j / 3 := by lia
  have e2 : (9 * r + j) % 3 = j % 3 := by lia
  rw [e1] at q1 q2 q3
  rw [e2] at q2 q3
  have ek : (dr.getD (3 * r + j / 3) []).getD (j % 3) 0 = ((kOf dr (9 * r + j) : Nat) : Int) := by
    unfold kOf
    rw [e1, e2]
    lia
  have hd1 : (dr.map listD)[3 * r + j / 3]? = some (listD (dr.getD (3 * r + j / 3) [])) := by simp [q1]
  have hd2 : ((dr.getD (3 * r + j / 3) []).map D.int)[j % 3]? = some (.int ((kOf dr (9 * r + j) : Nat) : Int)) := by rw [← ek]; exact getD_ints q2
  one_place
  refine @s_enterL _ _ _ _ _ _ _ _ _ _ _ _ _ _ _ _ (by assumption) ?_; intro Q' hQ' V_ C_ S_ c_
  repeat kcf_m
  refine b_chr Cx.stab (by assumption) (by lia) (by lia) ?_
  intro t17 s1 k1
  rw [Int.toNat_natCast]
  repeat kcf_m
  try ((with_reducible refine x_mul Cx.stab (by assumption) (IntMulOk.of_left (by decide +kernel)) ?_); intro _ _ _; repeat kcf_m)
  refine x_item rfl (Stab.isList Cx.stab (by assumption) hD) hdr (by lia) (by lia) (d := listD (dr.getD (3 * r + j / 3) [])) (by rw [← hd1]; congr 1) fun x1 hx1 => ?_
  obtain ⟨a3, n3, xs3, rfl, hB3, r3⟩ := Rep.isList hx1
  repeat kcf_m
  refine x_item rfl (Stab.isList Cx.stab (by assumption) hB3) r3 (by lia) (by lia) (d := .int ((kOf dr (9 * r + j) : Nat) : Int)) (by rw [← hd2]; congr 1) fun x2 hx2 => ?_
  obtain ⟨t2, rfl⟩ := Rep.isInt hx2
  refine y_store (by assumption) (by kd_p1) fun s' k5 => ?_
  one_place
  exact h _ _ _ k5

set_option maxRecDepth 100000 in
set_option maxHeartbeats 4000000 in
theorem law_answers {Q : Flow → Shared → Prop} {ta : Addr} {nt k code : Nat} {v0 v1 v2 v3 v5 v6 v7 v8 v9 v10 v11 v12 v13 v14 v15 v16 v18 v19 v20 v21 v22 v23 v24 v25 : Option Value} {t17 : Tok} {N1 : List (Addr × Obj)}
    (hes : env.scope = (dn 24).scope) (hA1 : AOk (n + 1) A) (hT : B ta = some (listObj (tablesV ad) nt)) (htell : ∀ i, i < 7 → tells i code = (i == k))
    (c : Cx w ad s₀ B₀ env (Sc.mk ["script", "starts", "at", "cells", "tables", "runs", "many", "drawn", "lists", "row", "mark", "words", "code", "word", "flags", "told", "letter", "sign", "due", "answers", "colours", "down", "on", "ranks", "dealt", "twice"] ["enumerate", "in_table_b1", "in_table_c11", "in_table_c4", "in_table_c6", "in_table_c7", "in_table_c8", "in_table_c9", "_law_runs", "range", "_law_three", "_law_within", "Int2AP", "isinstance", "bytes", "_law_word", "ParseFlags", "_law_reply", "tuple", "_law_nothing", "len", "chr", "indexOf", "_law_refused", "_law_dealt", "is_not", "delitem", "contains", "set"]) [v0, v1, v2, v3, some (.ref ta), v5, v6, v7, v8, v9, v10, v11, v12, v13, v14, v15, v16, some (.str ⟨#[code]⟩ t17), v18, v19, v20, v21, v22, v23, v24, v25] N1 B s)
    (h : ∀ (B' : Ph) (s' : Shared) (aa : Addr) (av : List Value) (na : Nat), B.le B' → B' aa = some (listObj av na) → Reps B' av ((answ k).map .bool) →
      Cx w ad s₀ B₀ env (Sc.mk ["script", "starts", "at", "cells", "tables", "runs", "many", "drawn", "lists", "row", "mark", "words", "code", "word", "flags", "told", "letter", "sign", "due", "answers", "colours", "down", "on", "ranks", "dealt", "twice"] ["enumerate", "in_table_b1", "in_table_c11", "in_table_c4", "in_table_c6", "in_table_c7", "in_table_c8", "in_table_c9", "_law_runs", "range", "_law_three", "_law_within", "Int2AP", "isinstance", "bytes", "_law_word", "ParseFlags", "_law_reply", "tuple", "_law_nothing", "len", "chr", "indexOf", "_law_refused", "_law_dealt", "is_not", "delitem", "contains", "set"]) [v0, v1, v2, v3, some (.ref ta), v5, v6, v7, v8, v9, v10, v11, v12, v13, v14, v15, v16, some (.str ⟨#[code]⟩ t17), v18, some (.ref aa), v20, v21, v22, v23, v24, v25] N1 B' s' →
      wpAny (model prog w) A (execs (toldBody.drop 5) env) Q E s') :
    wpAny (model prog w) A (execs (toldBody.drop 4) env) Q E s := by
  one_place
  refine @s_enterL _ _ _ _ _ _ _ _ _ _ _ _ _ _ _ _ (by assumption) ?_; intro Q' hQ' V_ C_ S_ c_
  refine @s_assign _ _ _ _ _ _ _ _ _ _ _ (sw_comp hes (by decide +kernel)) ?_
  refine x_comp (p := fun z_ => true) (f := ansD ad code) (tg := ["table"]) (fr := ["sign"]) (gs := []) hA1.handled c (by rw [hes]; decide +kernel) rfl (fun z_ => rfl) ?_
  repeat kcf_m
  refine goL c hT tab_reps (CompOk.name (.cons (by kd_p) .nil) (len_ok rfl) ?_ ?_)
  · intro cenv K d v B9 s E S hd le9 hr hK
    obtain ⟨i, hi, rfl⟩ := tab_mem hd
    obtain rfl := Rep.isRef hr
    repeat kcf_m
    refine x_cdef S (by assumption) (by lia) (by got_up) (fun Qc hQc => ?_)
    repeat kcf_m
    refine callNow (by assumption) hK (f_table (n := n) hi (S.rd hK).wd (S.rd hK).keep hA1 fun s' rt => ?_)
    refine ⟨_, Ph.le_refl _, ?_, S.ret hK rt⟩
    show Rep _ _ (.bool (tells (tabIx ad (ad.fn (9 + i))) code))
    rw [tabIx_eq c.rd.wd hi]
    exact .bool _
  · intro Dl nl lvv B9 le9 hlv s' c1
    rw [ans_eq c.rd.wd htell] at hlv
    obtain ⟨B10, lef, hB10, c2⟩ := c1.freeze' Del.head
    refine y_store c2 (by kd_p1) fun s' c3 => ?_
    one_place
    exact h _ _ _ _ _ (Ph.le_trans le9 lef) hB10 (hlv.mono lef) c3
end
end
section
open PySem PySem.Calls PyProof.Rows

noncomputable def natI : D → Nat
  | .int i => i.toNat
  | _ => 0
theorem answ_get {k i : Nat} (hi : i < 7) : ((answ k).map D.bool)[i]? = some (.bool (i == k)) := by
  have : i = 0 ∨ i = 1 ∨ i = 2 ∨ i = 3 ∨ i = 4 ∨ i = 5 ∨ i = 6 := by lia
  rcases this with rfl | rfl | rfl | rfl | rfl | rfl | rfl <;> rfl
theorem steps7 {d : D} (h : d ∈ (steps 0 1 7).map D.int) : ∃ i : Nat, i < 7 ∧ d = .int (i : Int) := by
  simp only [steps, List.map_cons, List.map_nil, List.mem_cons, List.not_mem_nil, or_false] at h
  rcases h with rfl | rfl | rfl | rfl | rfl | rfl | rfl
  · exact ⟨0, by decide, rfl⟩
  · exact ⟨1, by decide, rfl⟩
  · exact ⟨2, by decide, rfl⟩
  · exact ⟨3, by decide, rfl⟩
  · exact ⟨4, by decide, rfl⟩
  · exact ⟨5, by decide, rfl⟩
  · exact ⟨6, by decide, rfl⟩
theorem likes_bools {B : Ph} {c : Bool} : ∀ bs : List Bool, Likes B (.bool c) (bs.map D.bool) (bs.map (· == c))
  | [] => .nil
  | b :: bs => .cons (fun B' z_ v hv => by cases hv; exact like_bool B' b c) (likes_bools bs)
theorem first_true : ∀ k, k < 7 → ∀ i, i < 14 → ((answ k ++ answ k).map (· == true)).getD i false = true → (∀ l, l < i → ((answ k ++ answ k).map (· == true)).getD l false = false) → i = k := by decide +kernel
theorem not_all : ∀ k, k < 7 → ((answ k ++ answ k).map (· == true)).getD k false = true := by decide +kernel

section
variable {prog : Program} {w : World} {ad : Ad} {A : Around} {E : Value → Shared → Prop} {s s₀ : Shared} {B B₀ : Ph} {env : Env} {n : Nat}
set_option maxRecDepth 100000 in
set_option maxHeartbeats 4000000 in
theorem law_places {Q : Flow → Shared → Prop} {aa : Addr} {av : List Value} {na k : Nat} {v0 v1 v2 v3 v4 v5 v6 v7 v8 v9 v10 v11 v12 v13 v14 v15 v16 v17 v20 v21 v22 v23 v24 v25 : Option Value} {t18 : Tok} {N1 : List (Addr × Obj)}
    (hes : env.scope = (dn 24).scope) (hA1 : AOk (n + 1) A) (hV : B aa = some (listObj av na)) (hav : Reps B av ((answ k).map .bool))
    (c : Cx w ad s₀ B₀ env (Sc.mk ["script", "starts", "at", "cells", "tables", "runs", "many", "drawn", "lists", "row", "mark", "words", "code", "word", "flags", "told", "letter", "sign", "due", "answers", "colours", "down", "on", "ranks", "dealt", "twice"] ["enumerate", "in_table_b1", "in_table_c11", "in_table_c4", "in_table_c6", "in_table_c7", "in_table_c8", "in_table_c9", "_law_runs", "range", "_law_three", "_law_within", "Int2AP", "isinstance", "bytes", "_law_word", "ParseFlags", "_law_reply", "tuple", "_law_nothing", "len", "chr", "indexOf", "_law_refused", "_law_dealt", "is_not", "delitem", "contains", "set"]) [v0, v1, v2, v3, v4, v5, v6, v7, v8, v9, v10, v11, v12, v13, v14, v15, v16, v17, some (.int (k : Int) t18), some (.ref aa), v20, v21, v22, v23, v24, v25] N1 B s)
    (h : ∀ (B' : Ph) (s' : Shared), B.le B' →
      Cx w ad s₀ B₀ env (Sc.mk ["script", "starts", "at", "cells", "tables", "runs", "many", "drawn", "lists", "row", "mark", "words", "code", "word", "flags", "told", "letter", "sign", "due", "answers", "colours", "down", "on", "ranks", "dealt", "twice"] ["enumerate", "in_table_b1", "in_table_c11", "in_table_c4", "in_table_c6", "in_table_c7", "in_table_c8", "in_table_c9", "_law_runs", "range", "_law_three", "_law_within", "Int2AP", "isinstance", "bytes", "_law_word", "ParseFlags", "_law_reply", "tuple", "_law_nothing", "len", "chr", "indexOf", "_law_refused", "_law_dealt", "is_not", "delitem", "contains", "set"]) [v0, v1, v2, v3, v4, v5, v6, v7, v8, v9, v10, v11, v12, v13, v14, v15, v16, v17, some (.int (k : Int) t18), some (.ref aa), v20, v21, v22, v23, v24, v25] N1 B' s' →
      wpAny (model prog w) A (execs (toldBody.drop 6) env) Q E s') :
    wpAny (model prog w) A (execs (toldBody.drop 5) env) Q E s := by
  one_place
  refine @s_enterL _ _ _ _ _ _ _ _ _ _ _ _ _ _ _ _ (by assumption) ?_; intro Q' hQ' V_ C_ S_ c_
  repeat kcf_m
  refine x_comp (p := fun z_ => false) (f := id) (tg := ["place"]) (fr := ["answers", "due"]) (gs := ["is_not"]) hA1.handled c (by rw [hes]; decide +kernel) rfl (fun z_ => rfl) ?_
  repeat kcf_m
  refine goR (m := 7) (by assumption) (by assumption) (by decide +kernel) (by decide +kernel) (CompOk.nameIf (.cons (by kd_p) (.cons (by kd_p) .nil)) (len_ok rfl) ?_ ?_)
  · intro cenv K d v B9 s E S hd le9 hr hK
    obtain ⟨i, hi, rfl⟩ := steps7 hd
    have leX : Ph.le B B9 := (by kln_le)
    obtain ⟨tp, rfl⟩ := Rep.isInt hr
    repeat kcf_m
    refine x_cdef S (by assumption) (by decide) (by got_up) (fun Qc hQc => ?_)
    repeat kcf_m
    refine x_item rfl (S.isList (by assumption) (leX _ _ hV)) (hav.mono leX) (by lia) (by lia) (d := .bool (i == k)) (by rw [← answ_get hi, Int.toNat_natCast]) fun x hx => ?_
    obtain rfl := Rep.isBool hx
    repeat kcf_m
    refine callNow (by assumption) (by assumption) (f_isnot_bool (n := n) (S.rd hK).wd (S.rd hK).keep hA1 fun s' rt => ?_)
    have e : ((i == k) != decide ((i : Int) = (k : Int))) = false := by
      by_cases h : i = k
      · subst h; simp
      · have h2 : ¬ (i : Int) = (k : Int) := by lia
        rw [decide_eq_false h2, beq_eq_false_iff_ne.mpr h]; rfl
    have hK2 := S.ret hK rt
    repeat kcf_m
    exact ⟨e, _, Ph.le_refl _, hK2, fun hp => nomatch hp⟩
  · intro Dc n1 xs1 B4 le4 hxs s' k2
    have e0 : (List.filter (fun z_ => false) (List.map D.int (steps 0 1 7))).map id = [] := by simp
    rw [e0] at hxs
    cases hxs
    obtain ⟨B5, lef, hB5, k3⟩ := k2.freeze' Del.head
    repeat kcf_m
    refine x_list Cx.stab (by assumption) ?_
    repeat kcf_m
    refine ⟨_, by assumption, len_ok rfl, fun e s' B6 le6 hB6 k4 => ?_⟩
    refine x_neLI (Stab.isList Cx.stab k4 (le6 _ _ hB5)) (Stab.isList Cx.stab k4 hB6) .nil .nil hA1.unit ?_
    repeat kcf_m
    refine x_iten (fun hn => absurd rfl hn) (fun z_ => ?_)
    one_item
    refine @s_nil _ _ _ _ _ _ _ ?_
    one_place
    exact h _ _ (by kln_le) k4

set_option maxRecDepth 100000 in
set_option maxHeartbeats 4000000 in
theorem law_told1 {Q : Flow → Shared → Prop} {aa ta : Addr} {av xs : List Value} {na k m : Nat} {v0 v1 v2 v3 v4 v5 v6 v7 v8 v9 v10 v11 v12 v13 v14 v16 v17 v18 v20 v21 v22 v23 v24 v25 : Option Value} {N1 : List (Addr × Obj)}
    (hA1 : AOk (n + 1) A) (hfr : A.frames = some [env]) (hf : env.frame = some env.locals) (hV : B aa = some (listObj av na)) (hav : Reps B av ((answ k).map .bool)) (hk : k < 7) (hxs : xs.length ≤ 100)
    (c : Cx w ad s₀ B₀ env (Sc.mk ["script", "starts", "at", "cells", "tables", "runs", "many", "drawn", "lists", "row", "mark", "words", "code", "word", "flags", "told", "letter", "sign", "due", "answers", "colours", "down", "on", "ranks", "dealt", "twice"] ["enumerate", "in_table_b1", "in_table_c11", "in_table_c4", "in_table_c6", "in_table_c7", "in_table_c8", "in_table_c9", "_law_runs", "range", "_law_three", "_law_within", "Int2AP", "isinstance", "bytes", "_law_word", "ParseFlags", "_law_reply", "tuple", "_law_nothing", "len", "chr", "indexOf", "_law_refused", "_law_dealt", "is_not", "delitem", "contains", "set"]) [v0, v1, v2, v3, v4, v5, v6, v7, v8, v9, v10, v11, v12, v13, v14, some (.ref ta), v16, v17, v18, some (.ref aa), v20, v21, v22, v23, v24, v25] ((ta, listObj xs m) :: N1) B s)
    (h : ∀ (B' : Ph) (s' : Shared) (t : Tok), B.le B' →
      Cx w ad s₀ B₀ env (Sc.mk ["script", "starts", "at", "cells", "tables", "runs", "many", "drawn", "lists", "row", "mark", "words", "code", "word", "flags", "told", "letter", "sign", "due", "answers", "colours", "down", "on", "ranks", "dealt", "twice"] ["enumerate", "in_table_b1", "in_table_c11", "in_table_c4", "in_table_c6", "in_table_c7", "in_table_c8", "in_table_c9", "_law_runs", "range", "_law_three", "_law_within", "Int2AP", "isinstance", "bytes", "_law_word", "ParseFlags", "_law_reply", "tuple", "_law_nothing", "len", "chr", "indexOf", "_law_refused", "_law_dealt", "is_not", "delitem", "contains", "set"]) [v0, v1, v2, v3, v4, v5, v6, v7, v8, v9, v10, v11, v12, v13, v14, some (.ref ta), v16, v17, v18, some (.ref aa), v20, v21, v22, v23, v24, v25] ((ta, listObj (xs ++ [.int (k : Int) t]) (m + 1)) :: N1) B' s' →
      Q .next s') :
    wpAny (model prog w) A (execs (toldBody.drop 6) env) Q E s := by
  one_place
  refine @s_enterL _ _ _ _ _ _ _ _ _ _ _ _ _ _ _ _ (by assumption) ?_; intro Q' hQ' V_ C_ S_ c_
  refine s_append (a := ta) (xs := xs) (n := m) c (by kd_p) (.head _) rfl rfl rfl rfl ?_
  clear c
  intro s1 k1
  repeat kcf_m
  refine x_cdef Cx.stab (by assumption) (by decide) (by got_up) (fun Qc hQc => ?_)
  repeat kcf_m
  have hl9 : av.length = 7 := by rw [hav.length]; rfl
  refine x_addL Cx.stab (by assumption) (Stab.isList Cx.stab (by assumption) hV) (Stab.isList Cx.stab (by assumption) hV) (by rw [hl9]; exact len_ok rfl) fun e s2 B2 le2 hB2 k2 => ?_
  repeat kcf_m
  have hr2 : Reps B2 (av ++ av) ((answ k ++ answ k).map D.bool) := by
    rw [List.map_append]
    exact (hav.mono le2).append (hav.mono le2)
  refine callNow (by assumption) k2 (f_indexOf (n := n) k2.rd.wd k2.rd.keep hA1 hfr (k2.funFrames1 hf) hB2 hr2 (likes_bools _) (fun r t s' B3 rt hr hyes hfst => ?_) (fun hno => ?_))
  · have hlen : ((answ k ++ answ k).map (· == true)).length = 14 := rfl
    rw [hlen] at hr
    have e := first_true k hk r hr hyes hfst
    subst e
    have k3 := k2.go rt
    refine ⟨_, _, _, _, _, _, k3, Sel.head, Nat.le_trans hxs (len_ok rfl), fun s' k6 => ?_⟩
    one_item
    refine @s_nil _ _ _ _ _ _ _ ?_
    one_place
    exact h _ _ _ (Ph.le_trans le2 rt.le) k6
  · have := hno k
    rw [not_all k hk] at this
    cases this
end
end
section
open PySem PySem.Calls PyProof.Rows

noncomputable def toldOf (dr : List (List Int)) (r : Nat) : List Int := [0, 1, 2, 3, 4, 5, 6, 7, 8].map fun j => ((kOf dr (9 * r + j) : Nat) : Int)
inductive TdInv (dr : List (List Int)) (r : Nat) (v0 v1 v3 v4 v5 v6 v7 v8 v9 v10 v11 v13 v14 v20 v21 v22 v23 v24 v25 : Option Value) (toa : Addr) (N1 : List (Addr × Obj)) (ds : List D) (V : List (Option Value)) (N : List (Addr × Obj)) (_B : Ph) : Prop
  | mk (js : List Nat) (ns : List Int) (xs : List Value) (m : Nat) (u2 u12 u16 u17 u18 u19 : Option Value) (h1 : ds = (js.map fun (j : Nat) => (j : Int)).map .int) (h2 : V = [v0, v1, u2, v3, v4, v5, v6, v7, v8, v9, v10, v11, u12, v13, v14, some (.ref toa), u16, u17, u18, u19, v20, v21, v22, v23, v24, v25]) (h3 : N = (toa, listObj xs m) :: N1) (h4 : IntsAre xs ns) (h5 : ns ++ js.map (fun j => ((kOf dr (9 * r + j) : Nat) : Int)) = toldOf dr r) (h6 : (∀ j ∈ js, j < 9)) (h7 : ns.length + js.length = 9) : TdInv dr r v0 v1 v3 v4 v5 v6 v7 v8 v9 v10 v11 v13 v14 v20 v21 v22 v23 v24 v25 toa N1 ds V N _B

section
variable {prog : Program} {w : World} {ad : Ad} {A : Around} {E : Value → Shared → Prop} {s s₀ : Shared} {B B₀ : Ph} {env : Env} {n : Nat}
set_option maxRecDepth 100000 in
set_option maxHeartbeats 4000000 in
theorem law_told {Q : Flow → Shared → Prop} {ta dra fa : Addr} {dv fv : List Value} {nt nd r : Nat} {mark : List UInt8} {v0 v1 v2 v3 v5 v6 v8 v11 v12 v13 v15 v16 v17 v18 v19 v20 v21 v22 v23 v24 v25 : Option Value} {c1 : Int} {tr tm : Tok} {dr : List (List Int)} {N1 : List (Addr × Obj)}
    (hes : env.scope = (dn 24).scope) (hA1 : AOk (n + 1) A) (hfr : A.frames = some [env]) (hf : env.frame = some env.locals) (hT : B ta = some (listObj (tablesV ad) nt)) (hD : B dra = some (listObj dv nd)) (hdr : Reps B dv (dr.map listD))
    (hF : B fa = some (tupObj fv)) (hfv : BytesAre fv (wordsOf dr c1 mark r)) (hok : DrOk dr) (hr3 : r < 3) (hm : mark ∈ marks)
    (c : Cx w ad s₀ B₀ env (Sc.mk ["script", "starts", "at", "cells", "tables", "runs", "many", "drawn", "lists", "row", "mark", "words", "code", "word", "flags", "told", "letter", "sign", "due", "answers", "colours", "down", "on", "ranks", "dealt", "twice"] ["enumerate", "in_table_b1", "in_table_c11", "in_table_c4", "in_table_c6", "in_table_c7", "in_table_c8", "in_table_c9", "_law_runs", "range", "_law_three", "_law_within", "Int2AP", "isinstance", "bytes", "_law_word", "ParseFlags", "_law_reply", "tuple", "_law_nothing", "len", "chr", "indexOf", "_law_refused", "_law_dealt", "is_not", "delitem", "contains", "set"]) [v0, v1, v2, v3, some (.ref ta), v5, v6, some (.ref dra), v8, some (.int (r : Int) tr), some (.bytes mark.toArray tm), v11, v12, v13, some (.ref fa), v15, v16, v17, v18, v19, v20, v21, v22, v23, v24, v25] N1 B s)
    (h : ∀ (B' : Ph) (s' : Shared) (toa : Addr) (tv : List Value) (nto : Nat) (u2 u12 u16 u17 u18 u19 : Option Value), B.le B' → B' toa = some (listObj tv nto) → IntsAre tv (toldOf dr r) →
      Cx w ad s₀ B₀ env (Sc.mk ["script", "starts", "at", "cells", "tables", "runs", "many", "drawn", "lists", "row", "mark", "words", "code", "word", "flags", "told", "letter", "sign", "due", "answers", "colours", "down", "on", "ranks", "dealt", "twice"] ["enumerate", "in_table_b1", "in_table_c11", "in_table_c4", "in_table_c6", "in_table_c7", "in_table_c8", "in_table_c9", "_law_runs", "range", "_law_three", "_law_within", "Int2AP", "isinstance", "bytes", "_law_word", "ParseFlags", "_law_reply", "tuple", "_law_nothing", "len", "chr", "indexOf", "_law_refused", "_law_dealt", "is_not", "delitem", "contains", "set"]) [v0, v1, u2, v3, some (.ref ta), v5, v6, some (.ref dra), v8, some (.int (r : Int) tr), some (.bytes mark.toArray tm), v11, u12, v13, some (.ref fa), some (.ref toa), u16, u17, u18, u19, v20, v21, v22, v23, v24, v25] N1 B' s' →
      wpAny (model prog w) A (execs (rowBody.drop 8) env) Q E s') :
    wpAny (model prog w) A (execs (rowBody.drop 6) env) Q E s := by
  one_place
  refine @s_enterL _ _ _ _ _ _ _ _ _ _ _ _ _ _ _ _ (by assumption) ?_; intro Q' hQ' V_ C_ S_ c_
  repeat kcf_m
  refine x_listO (by assumption) ?_
  repeat kcf_m
  refine ⟨_, _, _, by assumption, len_ok rfl, fun toa s' k1 => ?_⟩
  refine y_store k1 (by kd_p1) fun s' k2 => ?_
  one_place
  refine @s_enterL _ _ _ _ _ _ _ _ _ _ _ _ _ _ _ _ (by assumption) ?_; intro Q' hQ' V_ C_ S_ c_
  refine x_for (fun z_ => rfl) (fun R hRR => ?_)
  repeat kcf_m
  refine x_iterR (m := 9) (by assumption) (by assumption) (by decide +kernel) (by decide +kernel) ?_
  intro I M L s₃ It hM k3
  refine f_loop (TdInv dr r v0 v1 v3 (some (.ref ta)) v5 v6 (some (.ref dra)) v8 (some (.int (r : Int) tr)) (some (.bytes mark.toArray tm)) v11 v13 (some (.ref fa)) v20 v21 v22 v23 v24 v25 toa N1) (.inl ⟨_, _, rfl⟩) It hM hA1.handled
    ⟨[0, 1, 2, 3, 4, 5, 6, 7, 8], [], [], 0, _, _, _, _, _, _, rfl, rfl, rfl, .nil, rfl, by decide, rfl⟩ (Ph.le_refl _) k3 ?_ ?_
  · rintro d ds V N B' s₄ L v ⟨js, ns, xs, m, u2, u12, u16, u17, u18, u19, e1, rfl, rfl, hxs, hall, h9, hlen⟩ le hr k4 Qb Eb hQb
    cases js with
    | nil => cases e1
    | cons j js =>
      simp only [List.map_cons, List.cons.injEq] at e1
      obtain ⟨rfl, rfl⟩ := e1
      obtain ⟨tj, rfl⟩ := Rep.isInt hr
      have hj := h9 j (.head _)
      have hl := hxs.length
      have leX : Ph.le B B' := (by kln_le)
      obtain ⟨q1, q2, q3, hk⟩ := hok.at (show 9 * r + j < 27 by lia)
      obtain ⟨_, h32, hmx, htell⟩ := codeOf_ok (c1 := c1) hk
      simp only [List.cons_append] at k4
      refine wpAny_assign_Name ?_
      refine y_store k4 (by kd_p1) fun s' k5 => ?_
      one_place
      refine law_code (n := n) hA1 (leX _ _ hF) hfv hok hr3 hj hm k5 fun B1 s1 t1 w16 le1 k6 => ?_
      have le01 := Ph.le_trans leX le1
      one_place
      refine law_sign (le01 _ _ hD) (hdr.mono le01) hok hr3 hj hmx k6 fun s2 t17 t18 k7 => ?_
      one_place
      refine law_answers (n := n) hes hA1 (le01 _ _ hT) htell k7 fun B2 s3 aa av na le2 haa hav k8 => ?_
      one_place
      refine law_places (n := n) hes hA1 haa hav k8 fun B3 s4 le3 k9 => ?_
      one_place
      refine law_told1 (n := n) hA1 hfr hf (le3 _ _ haa) (hav.mono le3) hk (by lia) k9 fun B4 s5 t5 le4 k10 => ?_
      one_place
      refine ⟨_, _, B4, ⟨js, ns ++ [((kOf dr (9 * r + j) : Nat) : Int)], _, _, _, _, _, _, _, _, rfl, rfl, rfl, hxs.append (.cons _ _ .nil), ?_, fun i hi => h9 i (.tail _ hi), ?_⟩, Ph.le_trans le1 (Ph.le_trans le2 (Ph.le_trans le3 le4)), k10⟩
      · rw [← hall]; simp
      · rw [List.length_append]; simp only [List.length_cons, List.length_nil] at hlen ⊢; lia
  · rintro V N B' s₄ ⟨js, ns, xs, m, u2, u12, u16, u17, u18, u19, e1, rfl, rfl, hxs, hall, h9, hlen⟩ le k4
    cases js with
    | cons i js => cases e1
    | nil =>
      rw [List.map_nil, List.append_nil] at hall
      subst hall
      obtain ⟨B1, lef, hB1, k5⟩ := k4.freeze' Del.head
      one_item
      refine @s_nil _ _ _ _ _ _ _ ?_
      one_place
      exact h _ _ _ _ _ _ _ _ _ _ _ (by kln_le) hB1 hxs k5
end
end
section
open PySem PySem.Calls PyProof.Rows

theorem row_list {dr : List (List Int)} (hok : DrOk dr) {i : Nat} (hi : i < 9) : dr.getD i [] = [((kOf dr (3 * i) : Nat) : Int), ((kOf dr (3 * i + 1) : Nat) : Int), ((kOf dr (3 * i + 2) : Nat) : Int)] := by
  obtain ⟨a, b, c, e, ha, hb, hc⟩ := hok.2 i hi
  have e0 : 3 * i / 3 = i ∧ 3 * i % 3 = 0 := by lia
  have e1 : (3 * i + 1) / 3 = i ∧ (3 * i + 1) % 3 = 1 := by lia
  have e2 : (3 * i + 2) / 3 = i ∧ (3 * i + 2) % 3 = 2 := by lia
  unfold kOf
  rw [e0.1, e0.2, e1.1, e1.2, e2.1, e2.2, e]
  simp only [List.getD_cons_zero, List.getD_cons_succ]
  rw [Int.toNat_of_nonneg ha.1, Int.toNat_of_nonneg hb.1, Int.toNat_of_nonneg hc.1]
theorem take_row {dr : List (List Int)} (h : dr.length = 9) {r : Nat} (hr : r < 3) : dr.take (3 * (r + 1)) = dr.take (3 * r) ++ [dr.getD (3 * r) [], dr.getD (3 * r + 1) [], dr.getD (3 * r + 2) []] := by
  have : r = 0 ∨ r = 1 ∨ r = 2 := by lia
  rcases this with rfl | rfl | rfl <;> exact nine (P := fun dr => dr.take _ = dr.take _ ++ [dr.getD _ [], dr.getD _ [], dr.getD _ []]) h fun _ _ _ _ _ _ _ _ _ => rfl
theorem told_pick0 {α : Type} (a b c d e f g h i : α) : pick [a, b, c, d, e, f, g, h, i] none (some 3) none = [a, b, c] := rfl
theorem told_pick1 {α : Type} (a b c d e f g h i : α) : pick [a, b, c, d, e, f, g, h, i] (some 3) (some 6) none = [d, e, f] := rfl
theorem told_pick2 {α : Type} (a b c d e f g h i : α) : pick [a, b, c, d, e, f, g, h, i] (some 6) none none = [g, h, i] := by
  have e : sliceRange (sliceBounds (some 6) none none 9).1 (sliceBounds (some 6) none none 9).2.1 (sliceBounds (some 6) none none 9).2.2 = [6, 7, 8] := by decide +kernel
  unfold pick
  show List.filterMap _ (sliceRange (sliceBounds (some 6) none none 9).1 (sliceBounds (some 6) none none 9).2.1 (sliceBounds (some 6) none none 9).2.2) = _
  rw [e]
  rfl

section
variable {prog : Program} {w : World} {ad : Ad} {A : Around} {E : Value → Shared → Prop} {s s₀ : Shared} {B B₀ : Ph} {env : Env} {n : Nat}
set_option maxRecDepth 100000 in
set_option maxHeartbeats 4000000 in
theorem law_extend {Q : Flow → Shared → Prop} {la toa : Addr} {ls tv : List Value} {nto nl r : Nat} {v0 v1 v2 v3 v4 v5 v6 v7 v9 v10 v11 v12 v13 v14 v16 v17 v18 v19 v20 v21 v22 v23 v24 v25 : Option Value} {dr : List (List Int)} {N1 : List (Addr × Obj)}
    (hT : B toa = some (listObj tv nto)) (htv : IntsAre tv (toldOf dr r)) (hok : DrOk dr) (hr3 : r < 3) (hls : Reps B ls ((dr.take (3 * r)).map listD))
    (c : Cx w ad s₀ B₀ env (Sc.mk ["script", "starts", "at", "cells", "tables", "runs", "many", "drawn", "lists", "row", "mark", "words", "code", "word", "flags", "told", "letter", "sign", "due", "answers", "colours", "down", "on", "ranks", "dealt", "twice"] ["enumerate", "in_table_b1", "in_table_c11", "in_table_c4", "in_table_c6", "in_table_c7", "in_table_c8", "in_table_c9", "_law_runs", "range", "_law_three", "_law_within", "Int2AP", "isinstance", "bytes", "_law_word", "ParseFlags", "_law_reply", "tuple", "_law_nothing", "len", "chr", "indexOf", "_law_refused", "_law_dealt", "is_not", "delitem", "contains", "set"]) [v0, v1, v2, v3, v4, v5, v6, v7, some (.ref la), v9, v10, v11, v12, v13, v14, some (.ref toa), v16, v17, v18, v19, v20, v21, v22, v23, v24, v25] ((la, listObj ls nl) :: N1) B s)
    (h : ∀ (B' : Ph) (s' : Shared) (ls' : List Value) (nl' : Nat), B.le B' → Reps B' ls' ((dr.take (3 * (r + 1))).map listD) →
      Cx w ad s₀ B₀ env (Sc.mk ["script", "starts", "at", "cells", "tables", "runs", "many", "drawn", "lists", "row", "mark", "words", "code", "word", "flags", "told", "letter", "sign", "due", "answers", "colours", "down", "on", "ranks", "dealt", "twice"] ["enumerate", "in_table_b1", "in_table_c11", "in_table_c4", "in_table_c6", "in_table_c7", "in_table_c8", "in_table_c9", "_law_runs", "range", "_law_three", "_law_within", "Int2AP", "isinstance", "bytes", "_law_word", "ParseFlags", "_law_reply", "tuple", "_law_nothing", "len", "chr", "indexOf", "_law_refused", "_law_dealt", "is_not", "delitem", "contains", "set"]) [v0, v1, v2, v3, v4, v5, v6, v7, some (.ref la), v9, v10, v11, v12, v13, v14, some (.ref toa), v16, v17, v18, v19, v20, v21, v22, v23, v24, v25] ((la, listObj ls' nl') :: N1) B' s' →
      Q .next s') :
    wpAny (model prog w) A (execs (rowBody.drop 8) env) Q E s := by
  have hr0 := reps_ints (B := B) htv
  have hl9 : tv.length = 9 := htv.length
  have e0 : pick ((toldOf dr r).map D.int) none (some 3) none = (dr.getD (3 * r) []).map D.int := by
    rw [row_list hok (by lia)]
    show pick [_, _, _, _, _, _, _, _, _] none (some 3) none = _
    rw [told_pick0]
    simp only [List.map_cons, List.map_nil, show 3 * (3 * r) = 9 * r by lia, Nat.add_zero]
  have e1 : pick ((toldOf dr r).map D.int) (some 3) (some 6) none = (dr.getD (3 * r + 1) []).map D.int := by
    rw [row_list hok (by lia)]
    show pick [_, _, _, _, _, _, _, _, _] (some 3) (some 6) none = _
    rw [told_pick1]
    simp only [List.map_cons, List.map_nil, show 3 * (3 * r + 1) = 9 * r + 3 by lia]
  have e2 : pick ((toldOf dr r).map D.int) (some 6) none none = (dr.getD (3 * r + 2) []).map D.int := by
    rw [row_list hok (by lia)]
    show pick [_, _, _, _, _, _, _, _, _] (some 6) none none = _
    rw [told_pick2]
    simp only [List.map_cons, List.map_nil, show 3 * (3 * r + 2) = 9 * r + 6 by lia]
  have hp0 := hr0.pick none (some 3) none
  have hp1 := hr0.pick (some 3) (some 6) none
  have hp2 := hr0.pick (some 6) none none
  rw [e0] at hp0
  rw [e1] at hp1
  rw [e2] at hp2
  have hls9 : ls.length ≤ 9 := by rw [hls.length, List.length_map, List.length_take]; have := hok.1; lia
  one_place
  refine @s_enterL _ _ _ _ _ _ _ _ _ _ _ _ _ _ _ _ (by assumption) ?_; intro Q' hQ' V_ C_ S_ c_
  refine s_extend (a := la) (xs := ls) (n := nl) c (by kd_p) (.head _) rfl rfl rfl rfl ?_
  clear c
  intro s1 k1
  refine x_list Cx.stab k1 ?_
  repeat kcf_m
  refine x_sliceP Cx.stab k1 (fun z_ z_1 => ⟨_, rfl⟩) (by kd_p) (by tb_rel) (by tb_rel) (by tb_rel) hT (by decide) (by rw [hl9]; exact len_ok rfl) fun b0 s2 B2 le2 hb0 k2 => ?_
  repeat kcf_m
  refine x_sliceP Cx.stab k2 (fun z_ z_1 => ⟨_, rfl⟩) (by kd_p) (by tb_rel) (by tb_rel) (by tb_rel) (le2 _ _ hT) (by decide) (by rw [hl9]; exact len_ok rfl) fun b1 s3 B3 le3 hb1 k3 => ?_
  repeat kcf_m
  refine x_sliceP Cx.stab k3 (fun z_ z_1 => ⟨_, rfl⟩) (by kd_p) (by tb_rel) (by tb_rel) (by tb_rel) (le3 _ _ (le2 _ _ hT)) (by decide) (by rw [hl9]; exact len_ok rfl) fun b2 s4 B4 le4 hb2 k4 => ?_
  repeat kcf_m
  refine ⟨_, by assumption, len_ok rfl, fun e s5 B5 le5 hB5 k5 => ?_⟩
  refine ⟨_, _, _, ls, nl, e, _, _, rfl, k5, .head _, hB5, ?_, fun n' N'' s6 P k6 => ?_⟩
  · simp only [List.length_cons, List.length_nil]
    exact Nat.le_trans (show ls.length + 3 ≤ 12 by lia) (len_ok rfl)
  · have le0 : Ph.le B B5 := Ph.le_trans le2 (Ph.le_trans le3 (Ph.le_trans le4 le5))
    have hnew : Reps B5 (ls ++ [.ref b0, .ref b1, .ref b2]) ((dr.take (3 * (r + 1))).map listD) := by
      rw [take_row hok.1 hr3, List.map_append]
      exact (hls.mono le0).append (.cons (.list _ _ _ _ (le5 _ _ (le4 _ _ (le3 _ _ hb0))) (hp0.mono le0)) (.cons (.list _ _ _ _ (le5 _ _ (le4 _ _ hb1)) (hp1.mono le0)) (.cons (.list _ _ _ _ (le5 _ _ hb2) (hp2.mono le0)) .nil)))
    cases P with
    | head =>
      one_item
      refine @s_nil _ _ _ _ _ _ _ ?_
      one_place
      exact h _ _ _ _ le0 hnew k6
    | tail P =>
      exact absurd (List.mem_map_of_mem (f := (·.1)) P.mem) (List.nodup_cons.mp k5.sepN).1
end
end
section
open PySem PySem.Calls PyProof.Rows

theorem marks_get {r : Nat} (h : r < 3) : marks.getD ((r : Int)).toNat [] ∈ marks := by
  rw [Int.toNat_natCast]
  exact getD_in (by show r < 3; exact h)
theorem words_ok {dr : List (List Int)} {c1 : Int} {mark : List UInt8} {r : Nat} (hok : DrOk dr) (hr3 : r < 3) (hm : mark ∈ marks) : ∀ x ∈ wordsOf dr c1 mark r, WordOk x ∧ x.length ≤ 10 := fun x hx => by
  obtain ⟨j, hj, rfl⟩ := List.mem_map.mp hx
  exact word_ok hm (hok.at (nines_lt hr3 hj)).2.2.2
inductive RwInv (dr : List (List Int)) (v0 v1 v3 v4 v5 v6 v7 v20 v21 v22 v23 v24 v25 : Option Value) (la : Addr) (N1 : List (Addr × Obj)) (ds : List D) (V : List (Option Value)) (N : List (Addr × Obj)) (B : Ph) : Prop
  | mk (js : List Nat) (k : Nat) (xs : List Value) (m : Nat) (u2 u9 u10 u11 u12 u13 u14 u15 u16 u17 u18 u19 : Option Value) (h1 : ds = (js.map fun (j : Nat) => (j : Int)).map .int) (h2 : V = [v0, v1, u2, v3, v4, v5, v6, v7, some (.ref la), u9, u10, u11, u12, u13, u14, u15, u16, u17, u18, u19, v20, v21, v22, v23, v24, v25]) (h3 : N = (la, listObj xs m) :: N1) (h4 : Reps B xs ((dr.take (3 * k)).map listD)) (h5 : [0, 1, 2].drop k = js) (h6 : k ≤ 3) : RwInv dr v0 v1 v3 v4 v5 v6 v7 v20 v21 v22 v23 v24 v25 la N1 ds V N B

section
variable {prog : Program} {w : World} {ad : Ad} {A : Around} {E : Value → Shared → Prop} {s s₀ : Shared} {B B₀ : Ph} {env : Env} {n : Nat}
set_option maxRecDepth 100000 in
set_option maxHeartbeats 4000000 in
theorem law_row {Q : Flow → Shared → Prop} {ca ta dra la : Addr} {cv dv ls : List Value} {nc nt nd nl r : Nat} {rv : Value} {v0 v1 v2 v6 v10 v11 v12 v13 v14 v15 v16 v17 v18 v19 v20 v21 v22 v23 v24 v25 : Option Value} {c0 c1 c2 c3 : Int} {tr : Tok} {dr : List (List Int)} {N1 : List (Addr × Obj)}
    (hes : env.scope = (dn 24).scope) (hA1 : AOk (n + 1) A) (hfr : A.frames = some [env]) (hf : env.frame = some env.locals) (hB : B ca = some (listObj cv nc)) (hx : IntsAre cv [c0, c1, c2, c3]) (hT : B ta = some (listObj (tablesV ad) nt)) (hrv : Rep B rv (.list (runsP.map rowD))) (hD : B dra = some (listObj dv nd)) (hdr : Reps B dv (dr.map listD))
    (hok : DrOk dr) (hr3 : r < 3) (hls : Reps B ls ((dr.take (3 * r)).map listD))
    (c : Cx w ad s₀ B₀ env (Sc.mk ["script", "starts", "at", "cells", "tables", "runs", "many", "drawn", "lists", "row", "mark", "words", "code", "word", "flags", "told", "letter", "sign", "due", "answers", "colours", "down", "on", "ranks", "dealt", "twice"] ["enumerate", "in_table_b1", "in_table_c11", "in_table_c4", "in_table_c6", "in_table_c7", "in_table_c8", "in_table_c9", "_law_runs", "range", "_law_three", "_law_within", "Int2AP", "isinstance", "bytes", "_law_word", "ParseFlags", "_law_reply", "tuple", "_law_nothing", "len", "chr", "indexOf", "_law_refused", "_law_dealt", "is_not", "delitem", "contains", "set"]) [v0, v1, v2, some (.ref ca), some (.ref ta), some rv, v6, some (.ref dra), some (.ref la), some (.int (r : Int) tr), v10, v11, v12, v13, v14, v15, v16, v17, v18, v19, v20, v21, v22, v23, v24, v25] ((la, listObj ls nl) :: N1) B s)
    (h : ∀ (B' : Ph) (s' : Shared) (ls' : List Value) (nl' : Nat) (u2 u10 u11 u12 u13 u14 u15 u16 u17 u18 u19 : Option Value), B.le B' → Reps B' ls' ((dr.take (3 * (r + 1))).map listD) →
      Cx w ad s₀ B₀ env (Sc.mk ["script", "starts", "at", "cells", "tables", "runs", "many", "drawn", "lists", "row", "mark", "words", "code", "word", "flags", "told", "letter", "sign", "due", "answers", "colours", "down", "on", "ranks", "dealt", "twice"] ["enumerate", "in_table_b1", "in_table_c11", "in_table_c4", "in_table_c6", "in_table_c7", "in_table_c8", "in_table_c9", "_law_runs", "range", "_law_three", "_law_within", "Int2AP", "isinstance", "bytes", "_law_word", "ParseFlags", "_law_reply", "tuple", "_law_nothing", "len", "chr", "indexOf", "_law_refused", "_law_dealt", "is_not", "delitem", "contains", "set"]) [v0, v1, u2, some (.ref ca), some (.ref ta), some rv, v6, some (.ref dra), some (.ref la), some (.int (r : Int) tr), u10, u11, u12, u13, u14, u15, u16, u17, u18, u19, v20, v21, v22, v23, v24, v25] ((la, listObj ls' nl') :: N1) B' s' →
      Q .next s') :
    wpAny (model prog w) A (execs rowBody env) Q E s := by
  have hm := marks_get hr3
  one_place
  refine @s_enterL _ _ _ _ _ _ _ _ _ _ _ _ _ _ _ _ (by assumption) ?_; intro Q' hQ' V_ C_ S_ c_
  repeat kcf_m
  refine x_list Cx.stab (by assumption) ?_
  repeat kcf_m
  refine ⟨_, by assumption, len_ok rfl, fun a1 s1 B1 le1 hB1 k1 => ?_⟩
  repeat kcf_m
  refine x_itemB (ls := marks) rfl (Stab.isList Cx.stab k1 hB1) (.cons _ _ (.cons _ _ (.cons _ _ .nil))) (by lia) (by show _ < 3; lia) (by lia) fun t0 => ?_
  refine y_store k1 (by kd_p1) fun s2 k2 => ?_
  generalize marks.getD ((r : Int)).toNat [] = mark at hm k2
  have wok := words_ok (c1 := c1) hok hr3 hm
  have w9 : (wordsOf dr c1 mark r).length = 9 := rfl
  one_place
  refine law_words (n := n) hA1 (le1 _ _ hB) hx (le1 _ _ hD) (hdr.mono le1) (hrv.mono le1) hok hr3 hm k2 fun B2 s3 wa wv nw u2 u12 u13 le2 hW hwv k3 => ?_
  have l2 := Ph.le_trans le1 le2
  one_place
  refine law_flags1 (n := n) hA1 (l2 _ _ hB) hx hr3 hW hwv w9 (fun x hx => (wok x hx).1) (fun x hx => (wok x hx).2) k3 fun B3 s4 fa fv le3 hF hfv k4 => ?_
  have l3 := Ph.le_trans l2 le3
  one_place
  refine law_flags2 (n := n) hes hA1 (le3 _ _ hW) hwv hF hfv w9 k4 fun B4 s5 le4 k5 => ?_
  have l4 := Ph.le_trans l3 le4
  one_place
  refine law_flags3 (n := n) hA1 (l4 _ _ hB) hx (le4 _ _ (le3 _ _ hW)) hwv w9 (fun x hx => (wok x hx).1) (fun x hx => (wok x hx).2) k5 fun B5 s6 le5 k6 => ?_
  have l5 := Ph.le_trans l4 le5
  one_place
  refine law_told (n := n) hes hA1 hfr hf (l5 _ _ hT) (l5 _ _ hD) (hdr.mono l5) (le5 _ _ (le4 _ _ hF)) hfv hok hr3 hm k6 fun B6 s7 toa tv nto u2' u12' u16 u17 u18 u19 le6 hto htv k7 => ?_
  have l6 := Ph.le_trans l5 le6
  one_place
  refine law_extend hto htv hok hr3 (hls.mono l6) k7 fun B7 s8 ls' nl' le7 hls' k8 => ?_
  one_place
  exact h _ _ _ _ _ _ _ _ _ _ _ _ _ _ _ (Ph.le_trans l6 le7) hls' k8

set_option maxRecDepth 100000 in
set_option maxHeartbeats 4000000 in
theorem law_rows {Q : Flow → Shared → Prop} {ca ta dra : Addr} {cv dv : List Value} {nc nt nd : Nat} {rv : Value} {v0 v1 v2 v6 v8 v9 v10 v11 v12 v13 v14 v15 v16 v17 v18 v19 v20 v21 v22 v23 v24 v25 : Option Value} {c0 c1 c2 c3 : Int} {dr : List (List Int)} {N1 : List (Addr × Obj)}
    (hes : env.scope = (dn 24).scope) (hA1 : AOk (n + 1) A) (hfr : A.frames = some [env]) (hf : env.frame = some env.locals) (hB : B ca = some (listObj cv nc)) (hx : IntsAre cv [c0, c1, c2, c3]) (hT : B ta = some (listObj (tablesV ad) nt)) (hrv : Rep B rv (.list (runsP.map rowD))) (hD : B dra = some (listObj dv nd)) (hdr : Reps B dv (dr.map listD))
    (hok : DrOk dr)
    (c : Cx w ad s₀ B₀ env (Sc.mk ["script", "starts", "at", "cells", "tables", "runs", "many", "drawn", "lists", "row", "mark", "words", "code", "word", "flags", "told", "letter", "sign", "due", "answers", "colours", "down", "on", "ranks", "dealt", "twice"] ["enumerate", "in_table_b1", "in_table_c11", "in_table_c4", "in_table_c6", "in_table_c7", "in_table_c8", "in_table_c9", "_law_runs", "range", "_law_three", "_law_within", "Int2AP", "isinstance", "bytes", "_law_word", "ParseFlags", "_law_reply", "tuple", "_law_nothing", "len", "chr", "indexOf", "_law_refused", "_law_dealt", "is_not", "delitem", "contains", "set"]) [v0, v1, v2, some (.ref ca), some (.ref ta), some rv, v6, some (.ref dra), v8, v9, v10, v11, v12, v13, v14, v15, v16, v17, v18, v19, v20, v21, v22, v23, v24, v25] N1 B s)
    (h : ∀ (B' : Ph) (s' : Shared) (la : Addr) (lv : List Value) (nl : Nat) (u2 u9 u10 u11 u12 u13 u14 u15 u16 u17 u18 u19 : Option Value), B.le B' → B' la = some (listObj lv nl) → Reps B' lv (dr.map listD) →
      Cx w ad s₀ B₀ env (Sc.mk ["script", "starts", "at", "cells", "tables", "runs", "many", "drawn", "lists", "row", "mark", "words", "code", "word", "flags", "told", "letter", "sign", "due", "answers", "colours", "down", "on", "ranks", "dealt", "twice"] ["enumerate", "in_table_b1", "in_table_c11", "in_table_c4", "in_table_c6", "in_table_c7", "in_table_c8", "in_table_c9", "_law_runs", "range", "_law_three", "_law_within", "Int2AP", "isinstance", "bytes", "_law_word", "ParseFlags", "_law_reply", "tuple", "_law_nothing", "len", "chr", "indexOf", "_law_refused", "_law_dealt", "is_not", "delitem", "contains", "set"]) [v0, v1, u2, some (.ref ca), some (.ref ta), some rv, v6, some (.ref dra), some (.ref la), u9, u10, u11, u12, u13, u14, u15, u16, u17, u18, u19, v20, v21, v22, v23, v24, v25] N1 B' s' →
      wpAny (model prog w) A (execs ((dn 24).body.drop 9) env) Q E s') :
    wpAny (model prog w) A (execs ((dn 24).body.drop 7) env) Q E s := by
  one_place
  refine @s_enterL _ _ _ _ _ _ _ _ _ _ _ _ _ _ _ _ (by assumption) ?_; intro Q' hQ' V_ C_ S_ c_
  repeat kcf_m
  refine x_listO (by assumption) ?_
  repeat kcf_m
  refine ⟨_, _, _, by assumption, len_ok rfl, fun la s' k1 => ?_⟩
  refine y_store k1 (by kd_p1) fun s' k2 => ?_
  one_place
  refine @s_enterL _ _ _ _ _ _ _ _ _ _ _ _ _ _ _ _ (by assumption) ?_; intro Q' hQ' V_ C_ S_ c_
  refine x_for (fun z_ => rfl) (fun R hRR => ?_)
  repeat kcf_m
  refine x_iterR (m := 3) (by assumption) (by assumption) (by decide +kernel) (by decide +kernel) ?_
  intro I M L s₃ It hM k3
  refine f_loop (RwInv dr v0 v1 (some (.ref ca)) (some (.ref ta)) (some rv) v6 (some (.ref dra)) v20 v21 v22 v23 v24 v25 la N1) (.inl ⟨_, _, rfl⟩) It hM hA1.handled
    ⟨[0, 1, 2], 0, [], 0, _, _, _, _, _, _, _, _, _, _, _, _, rfl, rfl, rfl, .nil, rfl, by decide⟩ (Ph.le_refl _) k3 ?_ ?_
  · rintro d ds V N B' s₄ L v ⟨js, k, xs, m, u2, u9, u10, u11, u12, u13, u14, u15, u16, u17, u18, u19, e1, rfl, rfl, hxs, hdp, hk3⟩ le hr k4 Qb Eb hQb
    cases js with
    | nil => cases e1
    | cons j js =>
      simp only [List.map_cons, List.cons.injEq] at e1
      obtain ⟨rfl, rfl⟩ := e1
      have hk : j = k ∧ k < 3 ∧ [0, 1, 2].drop (k + 1) = js := by
        have : k = 0 ∨ k = 1 ∨ k = 2 ∨ k = 3 := by lia
        rcases this with rfl | rfl | rfl | rfl
        · cases hdp; exact ⟨rfl, by decide, rfl⟩
        · cases hdp; exact ⟨rfl, by decide, rfl⟩
        · cases hdp; exact ⟨rfl, by decide, rfl⟩
        · cases hdp
      obtain ⟨rfl, hj3, hdp'⟩ := hk
      obtain ⟨tj, rfl⟩ := Rep.isInt hr
      have leX : Ph.le B B' := (by kln_le)
      simp only [List.cons_append] at k4
      refine wpAny_assign_Name ?_
      refine y_store k4 (by kd_p1) fun s' k5 => ?_
      one_place
      refine law_row (n := n) hes hA1 hfr hf (leX _ _ hB) hx (leX _ _ hT) (hrv.mono leX) (leX _ _ hD) (hdr.mono leX) hok hj3 hxs k5 fun B1 s1 ls' nl' w2 w10 w11 w12 w13 w14 w15 w16 w17 w18 w19 le1 hls k6 => ?_
      one_place
      exact ⟨_, _, B1, ⟨js, j + 1, ls', nl', _, _, _, _, _, _, _, _, _, _, _, _, rfl, rfl, rfl, hls, hdp', hj3⟩, le1, k6⟩
  · rintro V N B' s₄ ⟨js, k, xs, m, u2, u9, u10, u11, u12, u13, u14, u15, u16, u17, u18, u19, e1, rfl, rfl, hxs, hdp, hk3⟩ le k4
    cases js with
    | cons i js => cases e1
    | nil =>
      have hk : k = 3 := by
        have := List.drop_eq_nil_iff.mp hdp
        simp only [List.length_cons, List.length_nil] at this
        lia
      subst hk
      rw [List.take_of_length_le (by rw [hok.1]; decide)] at hxs
      obtain ⟨B1, lef, hB1, k5⟩ := k4.freeze' Del.head
      one_item
      refine @s_nil _ _ _ _ _ _ _ ?_
      one_place
      exact h _ _ _ _ _ _ _ _ _ _ _ _ _ _ _ _ _ (by kln_le) hB1 (hxs.mono lef) k5
end
end
section
open PySem PySem.Calls PyProof.Rows

theorem likes_none {B : Ph} : ∀ ls : List (List Int), Likes B .none (ls.map listD) (ls.map fun z_ => false)
  | [] => .nil
  | l :: ls => .cons (fun B' z_ v hv => by
      cases hv with
      | list a n xs _ hB r => exact like_none hB) (likes_none ls)
theorem none_false (ls : List (List Int)) (k : Nat) : (ls.map fun z_ => false).getD k false = false := by
  rw [List.getD_eq_getElem?_getD, List.getElem?_map]
  cases ls[k]? <;> rfl
theorem likes_ints {B : Ph} {a : Addr} {xs : List Value} {l8 : List Int} {m : Nat} (hB : B a = some (listObj xs m)) (hx : IntsAre xs l8) : ∀ ls : List (List Int), Likes B (.ref a) (ls.map listD) (ls.map fun l => decide (l = l8))
  | [] => .nil
  | l :: ls => .cons (fun B' le v hv => by
      cases hv with
      | list a2 n ys _ hB2 r => exact like_ints hB2 (le _ _ hB) r.ints hx) (likes_ints hB hx ls)
noncomputable def eq8 (dr : List (List Int)) : D → Bool
  | .int i => decide (dr.getD i.toNat [] = dr.getD 8 [])
  | _ => false
theorem first_split {α : Type} {f : α → Bool} {pre post : List α} {x : α} (h0 : ∀ y ∈ pre, f y = false) (h1 : f x = true) : ((pre ++ x :: post).filter f)[0]? = some x := by
  rw [List.filter_append, List.filter_eq_nil_iff.mpr (fun y hy => by rw [h0 y hy]; exact Bool.false_ne_true), List.filter_cons_of_pos h1]
  rfl
noncomputable def natD (k : Nat) : D := .int (k : Int)
theorem first_filter {f : D → Bool} {r : Nat} (hr : r < 9) (h1 : f (.int (r : Int)) = true) (h0 : ∀ k : Nat, k < r → f (.int (k : Int)) = false) : ((List.map D.int (steps 0 1 9)).filter f)[0]? = some (.int (r : Int)) := by
  have e : List.map D.int (steps 0 1 9) = (List.range r).map natD ++ natD r :: (List.range' (r + 1) (8 - r)).map natD := lt9 (P := fun r => List.map D.int (steps 0 1 9) = (List.range r).map natD ++ natD r :: (List.range' (r + 1) (8 - r)).map natD) rfl rfl rfl rfl rfl rfl rfl rfl rfl hr
  rw [e]
  exact first_split (fun y hy => by obtain ⟨k, hk, rfl⟩ := List.mem_map.mp hy; exact h0 k (List.mem_range.mp hk)) h1
theorem steps9D {d : D} (h : d ∈ (steps 0 1 9).map D.int) : ∃ i : Nat, i < 9 ∧ d = .int (i : Int) := by
  have h : d ∈ (List.range 9).map natD := h
  obtain ⟨i, hi, rfl⟩ := List.mem_map.mp h
  exact ⟨i, List.mem_range.mp hi, rfl⟩
theorem dr_get {dr : List (List Int)} (h9 : dr.length = 9) {i : Nat} (hi : i < 9) : (dr.map listD)[i]? = some (listD (dr.getD i [])) := by
  rw [List.getElem?_map, List.getD_eq_getElem?_getD, List.getElem?_eq_getElem (by lia)]; rfl
theorem es_get {dr : List (List Int)} (h9 : dr.length = 9) {i : Nat} (hi : i < 9) : (dr.map fun l => decide (l = dr.getD 8 [])).getD i false = decide (dr.getD i [] = dr.getD 8 []) := by
  rw [List.getD_eq_getElem?_getD, List.getElem?_map, List.getElem?_eq_getElem (by lia)]
  have : dr.getD i [] = dr[i]'(by lia) := by rw [List.getD_eq_getElem?_getD, List.getElem?_eq_getElem (by lia)]; rfl
  rw [this]; rfl

section
variable {prog : Program} {w : World} {ad : Ad} {A : Around} {E : Value → Shared → Prop} {s s₀ : Shared} {B B₀ : Ph} {env : Env} {n : Nat}
set_option maxRecDepth 100000 in
set_option maxHeartbeats 4000000 in
theorem law_refused {Q : Flow → Shared → Prop} {la : Addr} {lv : List Value} {nl : Nat} {v0 v1 v2 v3 v4 v5 v6 v7 v9 v10 v11 v12 v13 v14 v15 v16 v17 v18 v19 v20 v21 v22 v23 v24 v25 : Option Value} {dr : List (List Int)}
    (hA2 : AOk (n + 2) A) (hfr : A.frames = some [env]) (hf : env.frame = some env.locals) (hL : B la = some (listObj lv nl)) (hlv : Reps B lv (dr.map listD)) (h9 : dr.length = 9)
    (c : Cx w ad s₀ B₀ env (Sc.mk ["script", "starts", "at", "cells", "tables", "runs", "many", "drawn", "lists", "row", "mark", "words", "code", "word", "flags", "told", "letter", "sign", "due", "answers", "colours", "down", "on", "ranks", "dealt", "twice"] ["enumerate", "in_table_b1", "in_table_c11", "in_table_c4", "in_table_c6", "in_table_c7", "in_table_c8", "in_table_c9", "_law_runs", "range", "_law_three", "_law_within", "Int2AP", "isinstance", "bytes", "_law_word", "ParseFlags", "_law_reply", "tuple", "_law_nothing", "len", "chr", "indexOf", "_law_refused", "_law_dealt", "is_not", "delitem", "contains", "set"]) [v0, v1, v2, v3, v4, v5, v6, v7, some (.ref la), v9, v10, v11, v12, v13, v14, v15, v16, v17, v18, v19, v20, v21, v22, v23, v24, v25] [] B s)
    (h : ∀ (B' : Ph) (s' : Shared), B.le B' →
      Cx w ad s₀ B₀ env (Sc.mk ["script", "starts", "at", "cells", "tables", "runs", "many", "drawn", "lists", "row", "mark", "words", "code", "word", "flags", "told", "letter", "sign", "due", "answers", "colours", "down", "on", "ranks", "dealt", "twice"] ["enumerate", "in_table_b1", "in_table_c11", "in_table_c4", "in_table_c6", "in_table_c7", "in_table_c8", "in_table_c9", "_law_runs", "range", "_law_three", "_law_within", "Int2AP", "isinstance", "bytes", "_law_word", "ParseFlags", "_law_reply", "tuple", "_law_nothing", "len", "chr", "indexOf", "_law_refused", "_law_dealt", "is_not", "delitem", "contains", "set"]) [v0, v1, v2, v3, v4, v5, v6, v7, some (.ref la), v9, v10, v11, v12, v13, v14, v15, v16, v17, v18, v19, v20, v21, v22, v23, v24, v25] [] B' s' →
      wpAny (model prog w) A (execs ((dn 24).body.drop 10) env) Q E s') :
    wpAny (model prog w) A (execs ((dn 24).body.drop 9) env) Q E s := by
  one_place
  refine @s_enterL _ _ _ _ _ _ _ _ _ _ _ _ _ _ _ _ (by assumption) ?_; intro Q' hQ' V_ C_ S_ c_
  repeat kcf_m
  refine x_cdef Cx.stab (by assumption) (by decide) (by got_up) (fun Qc hQc => ?_)
  repeat kcf_m
  obtain ⟨m0, cm0, hns, _⟩ := c.rd.store
  obtain ⟨oL, hoL, hnf⟩ := ns_data hns
  refine callNow (by assumption) c (f_refused (n := n) c.rd.wd c.rd.keep hA2 hfr hf (by rw [c.rd.ok.kind]; decide) hoL hnf (c.fresh env.locals (.head _)).2 hL hlv (likes_none dr) (none_false dr) (by rw [hlv.length, List.length_map, h9]) fun a' s' s₁ B' n' t1 t2 t3 st rt hB' => ?_)
  have k1 := (c.slotTurn st).go rt
  repeat kcf_m
  refine x_list Cx.stab (by assumption) ?_
  repeat kcf_m
  refine ⟨_, by assumption, len_ok rfl, fun e s' B6 le6 hB6 k4 => ?_⟩
  repeat kcf_m
  refine x_neLI (ns := [1, 2, 3]) (ms := [1, 2, 3]) (Stab.isList Cx.stab k4 (le6 _ _ hB')) (Stab.isList Cx.stab k4 hB6) (.cons _ _ (.cons _ _ (.cons _ _ .nil))) (.cons _ _ (.cons _ _ (.cons _ _ .nil))) hA2.unit ?_
  repeat kcf_m
  refine x_iten (fun hn => absurd rfl hn) (fun z_ => ?_)
  one_item
  refine @s_nil _ _ _ _ _ _ _ ?_
  one_place
  exact h _ _ (Ph.le_trans rt.le le6) k4

set_option maxRecDepth 100000 in
set_option maxHeartbeats 4000000 in
theorem law_index {Q : Flow → Shared → Prop} {la dra : Addr} {lv dv : List Value} {nl nd : Nat} {v0 v1 v2 v3 v4 v5 v6 v9 v10 v11 v12 v13 v14 v15 v16 v17 v18 v19 v20 v21 v22 v23 v24 v25 : Option Value} {dr : List (List Int)}
    (hes : env.scope = (dn 24).scope) (hA1 : AOk (n + 1) A) (hfr : A.frames = some [env]) (hf : env.frame = some env.locals) (hL : B la = some (listObj lv nl)) (hlv : Reps B lv (dr.map listD)) (hD : B dra = some (listObj dv nd)) (hdr : Reps B dv (dr.map listD)) (h9 : dr.length = 9)
    (c : Cx w ad s₀ B₀ env (Sc.mk ["script", "starts", "at", "cells", "tables", "runs", "many", "drawn", "lists", "row", "mark", "words", "code", "word", "flags", "told", "letter", "sign", "due", "answers", "colours", "down", "on", "ranks", "dealt", "twice"] ["enumerate", "in_table_b1", "in_table_c11", "in_table_c4", "in_table_c6", "in_table_c7", "in_table_c8", "in_table_c9", "_law_runs", "range", "_law_three", "_law_within", "Int2AP", "isinstance", "bytes", "_law_word", "ParseFlags", "_law_reply", "tuple", "_law_nothing", "len", "chr", "indexOf", "_law_refused", "_law_dealt", "is_not", "delitem", "contains", "set"]) [v0, v1, v2, v3, v4, v5, v6, some (.ref dra), some (.ref la), v9, v10, v11, v12, v13, v14, v15, v16, v17, v18, v19, v20, v21, v22, v23, v24, v25] [] B s)
    (h : ∀ (B' : Ph) (s' : Shared), B.le B' →
      Cx w ad s₀ B₀ env (Sc.mk ["script", "starts", "at", "cells", "tables", "runs", "many", "drawn", "lists", "row", "mark", "words", "code", "word", "flags", "told", "letter", "sign", "due", "answers", "colours", "down", "on", "ranks", "dealt", "twice"] ["enumerate", "in_table_b1", "in_table_c11", "in_table_c4", "in_table_c6", "in_table_c7", "in_table_c8", "in_table_c9", "_law_runs", "range", "_law_three", "_law_within", "Int2AP", "isinstance", "bytes", "_law_word", "ParseFlags", "_law_reply", "tuple", "_law_nothing", "len", "chr", "indexOf", "_law_refused", "_law_dealt", "is_not", "delitem", "contains", "set"]) [v0, v1, v2, v3, v4, v5, v6, some (.ref dra), some (.ref la), v9, v10, v11, v12, v13, v14, v15, v16, v17, v18, v19, v20, v21, v22, v23, v24, v25] [] B' s' →
      wpAny (model prog w) A (execs ((dn 24).body.drop 11) env) Q E s') :
    wpAny (model prog w) A (execs ((dn 24).body.drop 10) env) Q E s := by
  one_place
  refine @s_enterL _ _ _ _ _ _ _ _ _ _ _ _ _ _ _ _ (by assumption) ?_; intro Q' hQ' V_ C_ S_ c_
  repeat kcf_m
  refine x_cdef Cx.stab (by assumption) (by decide) (by got_up) (fun Qc hQc => ?_)
  repeat kcf_m
  refine x_item rfl (Stab.isList Cx.stab (by assumption) hD) hdr (by decide) (by decide) (d := listD (dr.getD 8 [])) (dr_get h9 (by decide)) fun x hx => ?_
  obtain ⟨a8, n8, xs8, rfl, hB8, r8⟩ := Rep.isList hx
  repeat kcf_m
  rename Cx _ _ _ _ _ _ _ _ _ _ => k1
  refine callNow (by assumption) k1 (f_indexOf (n := n) k1.rd.wd k1.rd.keep hA1 hfr (k1.funFrames1 hf) hL hlv (likes_ints hB8 r8.ints dr) (fun r t s' B3 rt hr hyes hfst => ?_) (fun hno => ?_))
  · rw [List.length_map, h9] at hr
    rw [es_get h9 hr] at hyes
    have hfst' : ∀ k : Nat, k < r → eq8 dr (.int (k : Int)) = false := fun k hk => by
      have := hfst k hk
      rw [es_get h9 (by lia)] at this
      exact this
    have hff := first_filter hr (f := eq8 dr) hyes hfst'
    have k2 := k1.go rt
    have le3 : Ph.le B B3 := rt.le
    clear k1
    repeat kcf_m
    refine x_comp (p := eq8 dr) (f := id) (tg := ["at"]) (fr := ["drawn"]) (gs := []) hA1.handled k2 (by rw [hes]; decide +kernel) rfl (fun z_ => rfl) ?_
    repeat kcf_m
    refine goR (m := 9) (by assumption) (by assumption) (by decide +kernel) (by decide +kernel) (CompOk.nameIf (.cons (by kd_p) .nil) (len_ok rfl) ?_ ?_)
    · intro cenv K d v B9 s E S hd le9 hr hK
      obtain ⟨i, hi, rfl⟩ := steps9D hd
      have leX : Ph.le B B9 := (by kln_le)
      obtain ⟨tp, rfl⟩ := Rep.isInt hr
      repeat kcf_m
      refine x_item rfl (S.isList (by assumption) (leX _ _ hD)) (hdr.mono leX) (by lia) (by lia) (d := listD (dr.getD i [])) (by rw [Int.toNat_natCast]; exact dr_get h9 hi) fun x hx => ?_
      obtain ⟨ai, ni, xsi, rfl, hBi, ri⟩ := Rep.isList hx
      repeat kcf_m
      refine x_item rfl (S.isList (by assumption) (leX _ _ hD)) (hdr.mono leX) (by decide) (by decide) (d := listD (dr.getD 8 [])) (dr_get h9 (by decide)) fun x hx => ?_
      obtain ⟨aj, nj, xsj, rfl, hBj, rj⟩ := Rep.isList hx
      repeat kcf_m
      refine x_eqLI (S.isList (by assumption) hBi) (S.isList (by assumption) hBj) ri.ints rj.ints hA1.unit ?_
      repeat kcf_m
      refine ⟨rfl, _, Ph.le_refl _, by assumption, fun hp => ?_⟩
      repeat kcf_m
      exact ⟨_, Ph.le_refl _, .int _ _, by assumption⟩
    · intro Dc n1 xs1 B4 le4 hxs s' k4
      rw [List.map_id] at hxs
      obtain ⟨B5, lef, hB5, k5⟩ := k4.freeze' Del.head
      repeat kcf_m
      refine x_item rfl (Stab.isList Cx.stab (by assumption) hB5) (hxs.mono lef) (by decide) (by decide) (d := .int (r : Int)) hff fun x hx => ?_
      obtain ⟨tx, rfl⟩ := Rep.isInt hx
      repeat kcf_m
      refine x_iten (fun hn => absurd rfl hn) (fun z_ => ?_)
      one_item
      refine @s_nil _ _ _ _ _ _ _ ?_
      rename Cx _ _ _ _ _ _ _ _ _ _ => k6
      one_place
      exact h _ _ (by kln_le) k6
  · have := hno 8
    rw [es_get h9 (by decide)] at this
    exact absurd rfl (of_decide_eq_false this)
end
end
section
open PySem PySem.Calls PyProof.Rows

noncomputable def colD (c2 c3 : Int) (m : Nat) : D → D
  | .int x => .int (((c2 / 5 + x) % (m : Int) + c3) % 7)
  | d => d
theorem col_map (c2 c3 : Int) (m : Nat) : ((steps 0 1 m).map D.int).map (colD c2 c3 m) = (coloursOf (c2 / 5) c3 m).map D.int := by
  unfold coloursOf upto
  rw [List.map_map, List.map_map]; rfl
theorem range_m : ∀ m : Nat, m ≤ 7 → Builtin.Range.small 0 (m : Int) 1 = true ∧ Builtin.Range.rangeSize 0 (m : Int) 1 = m := by decide +kernel
noncomputable def dwN (c2 : Int) : Nat := (c2 / 35 % 2).toNat
noncomputable def onN (c2 : Int) : Nat := (c2 / 70 % 2).toNat
noncomputable def shN (c2 : Int) : Nat := (c2 / 140 % 3).toNat
noncomputable def ranksL (c2 : Int) : List Nat := ranksOf (dwN c2 + 1) (onN c2 + 1) (shN c2)
noncomputable def rankD (c2 : Int) : D → D
  | .int x => .int (((c2 / 35 % 2 + 1) * (x / 3) + (c2 / 70 % 2 + 1) * (x % 3) + c2 / 140) % 3)
  | d => d
theorem rank_map (c2 : Int) : ((steps 0 1 9).map D.int).map (rankD c2) = ((ranksL c2).map fun (r : Nat) => (r : Int)).map D.int := by
  have h1 : c2 / 35 % 2 + 1 = ((dwN c2 + 1 : Nat) : Int) := by unfold dwN; lia
  have h2 : c2 / 70 % 2 + 1 = ((onN c2 + 1 : Nat) : Int) := by unfold onN; lia
  have h3 : ∀ y : Int, (y + c2 / 140) % 3 = (y + ((shN c2 : Nat) : Int)) % 3 := fun y => by unfold shN; rw [Int.toNat_of_nonneg (Int.emod_nonneg _ (by decide)), Int.add_comm y, Int.add_comm y, Int.emod_add_emod]
  have key : ∀ x : Nat, rankD c2 (.int (x : Int)) = .int ((((dwN c2 + 1) * (x / 3) + (onN c2 + 1) * (x % 3) + shN c2) % 3 : Nat) : Int) := fun x => by
    show D.int (((c2 / 35 % 2 + 1) * ((x : Int) / 3) + (c2 / 70 % 2 + 1) * ((x : Int) % 3) + c2 / 140) % 3) = _
    rw [h1, h2, h3]
    congr 1
  have e : (steps 0 1 9).map D.int = ([0, 1, 2, 3, 4, 5, 6, 7, 8] : List Nat).map fun x => D.int ((x : Nat) : Int) := rfl
  rw [e, List.map_map, List.map_map]
  unfold ranksL ranksOf
  rw [List.map_map]
  exact List.map_congr_left fun x z_ => key x

section
variable {prog : Program} {w : World} {ad : Ad} {A : Around} {E : Value → Shared → Prop} {s s₀ : Shared} {B B₀ : Ph} {env : Env} {n : Nat}
set_option maxRecDepth 100000 in
set_option maxHeartbeats 4000000 in
theorem law_colours {Q : Flow → Shared → Prop} {ca : Addr} {cv : List Value} {nc m : Nat} {v0 v1 v2 v4 v5 v7 v8 v9 v10 v11 v12 v13 v14 v15 v16 v17 v18 v19 v20 v21 v22 v23 v24 v25 : Option Value} {c0 c1 c2 c3 : Int} {t6 : Tok}
    (hes : env.scope = (dn 24).scope) (hA1 : AOk (n + 1) A) (hB : B ca = some (listObj cv nc)) (hx : IntsAre cv [c0, c1, c2, c3]) (hm3 : 3 ≤ m) (hm7 : m ≤ 7)
    (c : Cx w ad s₀ B₀ env (Sc.mk ["script", "starts", "at", "cells", "tables", "runs", "many", "drawn", "lists", "row", "mark", "words", "code", "word", "flags", "told", "letter", "sign", "due", "answers", "colours", "down", "on", "ranks", "dealt", "twice"] ["enumerate", "in_table_b1", "in_table_c11", "in_table_c4", "in_table_c6", "in_table_c7", "in_table_c8", "in_table_c9", "_law_runs", "range", "_law_three", "_law_within", "Int2AP", "isinstance", "bytes", "_law_word", "ParseFlags", "_law_reply", "tuple", "_law_nothing", "len", "chr", "indexOf", "_law_refused", "_law_dealt", "is_not", "delitem", "contains", "set"]) [v0, v1, v2, some (.ref ca), v4, v5, some (.int (m : Int) t6), v7, v8, v9, v10, v11, v12, v13, v14, v15, v16, v17, v18, v19, v20, v21, v22, v23, v24, v25] [] B s)
    (h : ∀ (B' : Ph) (s' : Shared) (coa : Addr) (cov : List Value) (nco : Nat) (t21 t22 : Tok), B.le B' → B' coa = some (listObj cov nco) → IntsAre cov (coloursOf (c2 / 5) c3 m) →
      Cx w ad s₀ B₀ env (Sc.mk ["script", "starts", "at", "cells", "tables", "runs", "many", "drawn", "lists", "row", "mark", "words", "code", "word", "flags", "told", "letter", "sign", "due", "answers", "colours", "down", "on", "ranks", "dealt", "twice"] ["enumerate", "in_table_b1", "in_table_c11", "in_table_c4", "in_table_c6", "in_table_c7", "in_table_c8", "in_table_c9", "_law_runs", "range", "_law_three", "_law_within", "Int2AP", "isinstance", "bytes", "_law_word", "ParseFlags", "_law_reply", "tuple", "_law_nothing", "len", "chr", "indexOf", "_law_refused", "_law_dealt", "is_not", "delitem", "contains", "set"]) [v0, v1, v2, some (.ref ca), v4, v5, some (.int (m : Int) t6), v7, v8, v9, v10, v11, v12, v13, v14, v15, v16, v17, v18, v19, some (.ref coa), some (.int (c2 / 35 % 2 + 1) t21), some (.int (c2 / 70 % 2 + 1) t22), v23, v24, v25] [] B' s' →
      wpAny (model prog w) A (execs ((dn 24).body.drop 14) env) Q E s') :
    wpAny (model prog w) A (execs ((dn 24).body.drop 11) env) Q E s := by
  obtain ⟨t2, h2⟩ := ints_get hx (i := 2) (d := c2) rfl
  obtain ⟨t3, h3⟩ := ints_get hx (i := 3) (d := c3) rfl
  one_place
  refine @s_enterL _ _ _ _ _ _ _ _ _ _ _ _ _ _ _ _ (by assumption) ?_; intro Q' hQ' V_ C_ S_ c_
  refine s_comp (p := fun z_ => true) (f := colD c2 c3 m) (tg := ["at"]) (fr := ["cells", "many"]) (gs := []) hA1.handled c (by rw [hes]; decide +kernel) rfl (fun z_ => rfl) (sw_comp hes (by decide +kernel)) ?_
  repeat kcf_m
  refine goR (m := m) (by assumption) (by assumption) (range_m m hm7).1 (range_m m hm7).2 (CompOk.name (.cons (by kd_p) (.cons (by kd_p) .nil)) (by rw [List.length_map, steps_length]; exact Nat.le_trans hm7 (len_ok rfl)) ?_ ?_)
  · intro cenv K d v B9 s E S hd le9 hr hK
    obtain ⟨x, _, rfl⟩ := List.mem_map.mp hd
    have leX : Ph.le B B9 := (by kln_le)
    obtain ⟨tx, rfl⟩ := Rep.isInt hr
    repeat kcf_m
    refine x_itemV rfl (S.isList (by assumption) (leX _ _ hB)) (by decide) (by decide) h2 ?_
    repeat kcf_m
    refine x_itemV rfl (S.isList (by assumption) (leX _ _ hB)) (by decide) (by decide) h3 ?_
    repeat kcf_m
    exact ⟨_, Ph.le_refl _, .int _ _, by assumption⟩
  · intro Dc n1 xs1 B4 le4 hxs
    refine ⟨_, by kd_p1, fun s' k4 => ?_⟩
    rw [col_map] at hxs
    obtain ⟨B5, lef, hB5, k5⟩ := k4.freeze' Del.head
    have le5 : Ph.le B B5 := (by kln_le)
    repeat kcf_m
    refine x_itemV rfl (Stab.isList Cx.stab (by assumption) (le5 _ _ hB)) (by decide) (by decide) h2 ?_
    repeat kcf_m
    refine x_itemV rfl (Stab.isList Cx.stab (by assumption) (le5 _ _ hB)) (by decide) (by decide) h2 ?_
    iterate 7 kcf_m
    rename Cx _ _ _ _ _ _ _ _ _ _ => k6
    one_place
    exact h _ _ _ _ _ _ _ le5 hB5 (hxs.mono lef).ints k6

set_option maxRecDepth 100000 in
set_option maxHeartbeats 4000000 in
theorem law_ranks {Q : Flow → Shared → Prop} {ca : Addr} {cv : List Value} {nc : Nat} {v0 v1 v2 v4 v5 v6 v7 v8 v9 v10 v11 v12 v13 v14 v15 v16 v17 v18 v19 v20 v23 v24 v25 : Option Value} {c0 c1 c2 c3 : Int} {t21 t22 : Tok}
    (hes : env.scope = (dn 24).scope) (hA1 : AOk (n + 1) A) (hB : B ca = some (listObj cv nc)) (hx : IntsAre cv [c0, c1, c2, c3])
    (c : Cx w ad s₀ B₀ env (Sc.mk ["script", "starts", "at", "cells", "tables", "runs", "many", "drawn", "lists", "row", "mark", "words", "code", "word", "flags", "told", "letter", "sign", "due", "answers", "colours", "down", "on", "ranks", "dealt", "twice"] ["enumerate", "in_table_b1", "in_table_c11", "in_table_c4", "in_table_c6", "in_table_c7", "in_table_c8", "in_table_c9", "_law_runs", "range", "_law_three", "_law_within", "Int2AP", "isinstance", "bytes", "_law_word", "ParseFlags", "_law_reply", "tuple", "_law_nothing", "len", "chr", "indexOf", "_law_refused", "_law_dealt", "is_not", "delitem", "contains", "set"]) [v0, v1, v2, some (.ref ca), v4, v5, v6, v7, v8, v9, v10, v11, v12, v13, v14, v15, v16, v17, v18, v19, v20, some (.int (c2 / 35 % 2 + 1) t21), some (.int (c2 / 70 % 2 + 1) t22), v23, v24, v25] [] B s)
    (h : ∀ (B' : Ph) (s' : Shared) (ra : Addr) (rv : List Value) (nr : Nat), B.le B' → B' ra = some (listObj rv nr) → IntsAre rv ((ranksL c2).map fun (r : Nat) => (r : Int)) →
      Cx w ad s₀ B₀ env (Sc.mk ["script", "starts", "at", "cells", "tables", "runs", "many", "drawn", "lists", "row", "mark", "words", "code", "word", "flags", "told", "letter", "sign", "due", "answers", "colours", "down", "on", "ranks", "dealt", "twice"] ["enumerate", "in_table_b1", "in_table_c11", "in_table_c4", "in_table_c6", "in_table_c7", "in_table_c8", "in_table_c9", "_law_runs", "range", "_law_three", "_law_within", "Int2AP", "isinstance", "bytes", "_law_word", "ParseFlags", "_law_reply", "tuple", "_law_nothing", "len", "chr", "indexOf", "_law_refused", "_law_dealt", "is_not", "delitem", "contains", "set"]) [v0, v1, v2, some (.ref ca), v4, v5, v6, v7, v8, v9, v10, v11, v12, v13, v14, v15, v16, v17, v18, v19, v20, some (.int (c2 / 35 % 2 + 1) t21), some (.int (c2 / 70 % 2 + 1) t22), some (.ref ra), v24, v25] [] B' s' →
      wpAny (model prog w) A (execs ((dn 24).body.drop 15) env) Q E s') :
    wpAny (model prog w) A (execs ((dn 24).body.drop 14) env) Q E s := by
  obtain ⟨t2, h2⟩ := ints_get hx (i := 2) (d := c2) rfl
  one_place
  refine @s_enterL _ _ _ _ _ _ _ _ _ _ _ _ _ _ _ _ (by assumption) ?_; intro Q' hQ' V_ C_ S_ c_
  refine s_comp (p := fun z_ => true) (f := rankD c2) (tg := ["at"]) (fr := ["down", "on", "cells"]) (gs := []) hA1.handled c (by rw [hes]; decide +kernel) rfl (fun z_ => rfl) (sw_comp hes (by decide +kernel)) ?_
  repeat kcf_m
  refine goR (m := 9) (by assumption) (by assumption) (by decide +kernel) (by decide +kernel) (CompOk.name (.cons (by kd_p) (.cons (by kd_p) (.cons (by kd_p) .nil))) (len_ok rfl) ?_ ?_)
  · intro cenv K d v B9 s E S hd le9 hr hK
    obtain ⟨i, hi, rfl⟩ := steps9D hd
    have leX : Ph.le B B9 := (by kln_le)
    obtain ⟨tx, rfl⟩ := Rep.isInt hr
    repeat kcf_m
    refine x_mul S (by assumption) (IntMulOk.of_left (intBits_le_64 (by lia) (by lia))) ?_
    intro _ _ _
    repeat kcf_m
    refine x_mul S (by assumption) (IntMulOk.of_left (intBits_le_64 (by lia) (by lia))) ?_
    intro _ _ _
    repeat kcf_m
    refine x_itemV rfl (S.isList (by assumption) (leX _ _ hB)) (by decide) (by decide) h2 ?_
    repeat kcf_m
    exact ⟨_, Ph.le_refl _, .int _ _, by assumption⟩
  · intro Dc n1 xs1 B4 le4 hxs
    refine ⟨_, by kd_p1, fun s' k4 => ?_⟩
    rw [rank_map] at hxs
    obtain ⟨B5, lef, hB5, k5⟩ := k4.freeze' Del.head
    one_place
    exact h _ _ _ _ _ (by kln_le) hB5 (hxs.mono lef).ints k5
end
end
section
open PySem PySem.Calls PyProof.Rows

structure DealOk (dr : List (List Int)) (dl : List Int) : Prop where
  len : dl.length = 9
  own : ∀ i, i < 9 → dl.getD i 0 ∈ dr.getD i []
  row : ∀ r, r < 3 → ∀ c, c < 3 → ∀ c', c' < 3 → c ≠ c' → dl.getD (3 * r + c) 0 ≠ dl.getD (3 * r + c') 0
  col : ∀ c, c < 3 → ∀ r, r < 3 → ∀ r', r' < 3 → r ≠ r' → dl.getD (3 * r + c) 0 ≠ dl.getD (3 * r' + c) 0
theorem deal_ok {dr : List (List Int)} {cols : List Int} {ranks : List Nat} (h : rankOk ranks = true) (nd : cols.Nodup) (hl : ∀ i, i < 9 → ∃ a b c, dr.getD i [] = [a, b, c] ∧ a ≠ b ∧ a ≠ c ∧ b ≠ c ∧ a ∈ cols ∧ b ∈ cols ∧ c ∈ cols) :
    ∃ dl, DealOk dr dl ∧ ∀ t, (dealtOf dr cols ranks t).map optI = dl.map D.int := by
  obtain ⟨h9, hown, hrow, hcol⟩ := galvin (lists := dr) (ranks := ranks) (turn := 0) h nd hl
  have hany : ∀ t, dealtOf dr cols ranks t = dealtOf dr cols ranks 0 := fun t => dealt_any h cols t 0
  generalize dealtOf dr cols ranks 0 = d at *
  have get : ∀ i, i < 9 → (d.map fun o => o.getD 0).getD i 0 = (d.getD i none).getD 0 := fun i hi => by
    rw [List.getD_eq_getElem?_getD, List.getD_eq_getElem?_getD, List.getElem?_map]
    rw [List.getElem?_eq_getElem (by lia)]; rfl
  have some9 : ∀ i, i < 9 → d.getD i none = some ((d.map fun o => o.getD 0).getD i 0) := fun i hi => by
    obtain ⟨k, hk, _⟩ := hown i hi
    rw [get i hi, hk]; rfl
  refine ⟨d.map fun o => o.getD 0, ⟨by rw [List.length_map, h9], fun i hi => ?_, fun r hr c hc c' hc' hne e => ?_, fun c hc r hr r' hr' hne e => ?_⟩, fun t => ?_⟩
  · obtain ⟨k, hk, hm⟩ := hown i hi
    rw [get i hi, hk]; exact hm
  · refine hrow r hr c hc c' hc' hne ?_
    rw [some9 _ (by lia), some9 _ (by lia), e]
  · refine hcol c hc r hr r' hr' hne ?_
    rw [some9 _ (by lia), some9 _ (by lia), e]
  · rw [hany t, List.map_map]
    refine List.map_congr_left fun o ho => ?_
    obtain ⟨i, hi, e⟩ := List.mem_iff_getElem.mp ho
    obtain ⟨k, hk, _⟩ := hown i (by lia)
    rw [List.getD_eq_getElem?_getD, List.getElem?_eq_getElem hi, e] at hk
    have : o = some k := hk
    subst this
    rfl

section
variable {prog : Program} {w : World} {ad : Ad} {A : Around} {E : Value → Shared → Prop} {s s₀ : Shared} {B B₀ : Ph} {env : Env} {n : Nat}
set_option maxRecDepth 100000 in
set_option maxHeartbeats 4000000 in
theorem law_deal {Q : Flow → Shared → Prop} {ca la coa ra : Addr} {cv lv cov rv : List Value} {nc nl nco nr : Nat} {v0 v1 v2 v4 v5 v6 v7 v9 v10 v11 v12 v13 v14 v15 v16 v17 v18 v19 v21 v22 v24 v25 : Option Value} {c0 c1 c2 c3 : Int} {dr : List (List Int)} {cols dl : List Int} {ranks : List Nat}
    (hA2 : AOk (n + 2) A) (hB : B ca = some (listObj cv nc)) (hx : IntsAre cv [c0, c1, c2, c3]) (hL : B la = some (listObj lv nl)) (hlv : Reps B lv (dr.map listD)) (h9 : dr.length = 9) (hC : B coa = some (listObj cov nco)) (hcov : IntsAre cov cols) (hR : B ra = some (listObj rv nr)) (hrv : IntsAre rv (ranks.map fun (r : Nat) => (r : Int))) (hrl : ranks.length = 9)
    (hdl : ∀ t, (dealtOf dr cols ranks t).map optI = dl.map D.int) (hd9 : dl.length = 9)
    (c : Cx w ad s₀ B₀ env (Sc.mk ["script", "starts", "at", "cells", "tables", "runs", "many", "drawn", "lists", "row", "mark", "words", "code", "word", "flags", "told", "letter", "sign", "due", "answers", "colours", "down", "on", "ranks", "dealt", "twice"] ["enumerate", "in_table_b1", "in_table_c11", "in_table_c4", "in_table_c6", "in_table_c7", "in_table_c8", "in_table_c9", "_law_runs", "range", "_law_three", "_law_within", "Int2AP", "isinstance", "bytes", "_law_word", "ParseFlags", "_law_reply", "tuple", "_law_nothing", "len", "chr", "indexOf", "_law_refused", "_law_dealt", "is_not", "delitem", "contains", "set"]) [v0, v1, v2, some (.ref ca), v4, v5, v6, v7, some (.ref la), v9, v10, v11, v12, v13, v14, v15, v16, v17, v18, v19, some (.ref coa), v21, v22, some (.ref ra), v24, v25] [] B s)
    (h : ∀ (B' : Ph) (s' : Shared) (da : Addr) (dv : List Value) (nd : Nat), B.le B' → B' da = some (listObj dv nd) → IntsAre dv dl →
      Cx w ad s₀ B₀ env (Sc.mk ["script", "starts", "at", "cells", "tables", "runs", "many", "drawn", "lists", "row", "mark", "words", "code", "word", "flags", "told", "letter", "sign", "due", "answers", "colours", "down", "on", "ranks", "dealt", "twice"] ["enumerate", "in_table_b1", "in_table_c11", "in_table_c4", "in_table_c6", "in_table_c7", "in_table_c8", "in_table_c9", "_law_runs", "range", "_law_three", "_law_within", "Int2AP", "isinstance", "bytes", "_law_word", "ParseFlags", "_law_reply", "tuple", "_law_nothing", "len", "chr", "indexOf", "_law_refused", "_law_dealt", "is_not", "delitem", "contains", "set"]) [v0, v1, v2, some (.ref ca), v4, v5, v6, v7, some (.ref la), v9, v10, v11, v12, v13, v14, v15, v16, v17, v18, v19, some (.ref coa), v21, v22, some (.ref ra), some (.ref da), v25] [] B' s' →
      wpAny (model prog w) A (execs ((dn 24).body.drop 17) env) Q E s') :
    wpAny (model prog w) A (execs ((dn 24).body.drop 15) env) Q E s := by
  obtain ⟨t2, h2⟩ := ints_get hx (i := 2) (d := c2) rfl
  have et : c2 / 420 % 5 + 1 = (((c2 / 420 % 5 + 1).toNat : Nat) : Int) := by lia
  one_place
  refine @s_enterL _ _ _ _ _ _ _ _ _ _ _ _ _ _ _ _ (by assumption) ?_; intro Q' hQ' V_ C_ S_ c_
  repeat kcf_m
  refine x_cdef Cx.stab (by assumption) (by decide) (by got_up) (fun Qc hQc => ?_)
  repeat kcf_m
  rename Cx _ _ _ _ _ _ _ _ _ _ => k1
  refine callNow (by assumption) k1 (f_dealt (n := n) (turn := 0) k1.rd.wd k1.rd.keep hA2 hL hlv h9 hC hcov hR hrv hrl (by decide) fun da s' B1 xs nx rt hB1 hxs => ?_)
  rw [hdl] at hxs
  have hxi := hxs.ints
  have hl : xs.length = 9 := by rw [hxi.length, hd9]
  have le1 : Ph.le B B1 := rt.le
  have k2 := k1.go rt
  clear k1
  refine y_store k2 (by kd_p1) fun s' k3 => ?_
  one_place
  refine @s_enterL _ _ _ _ _ _ _ _ _ _ _ _ _ _ _ _ (by assumption) ?_; intro Q' hQ' V_ C_ S_ c_
  repeat kcf_m
  refine x_or1 ?_; intro Q_
  repeat kcf_m
  refine x_lenL Cx.stab (by assumption) (Stab.isList Cx.stab (by assumption) hB1) (by rw [hl]; decide) ?_
  intro _ _ _
  rw [hl]
  repeat kcf_m
  refine x_iten (fun hn => absurd rfl hn) (fun z_ => ?_)
  refine x_or1 ?_; intro Q_
  repeat kcf_m
  refine x_cdef Cx.stab (by assumption) (by decide) (by got_up) (fun Qc hQc => ?_)
  repeat kcf_m
  refine x_itemV rfl (Stab.isList Cx.stab (by assumption) (le1 _ _ hB)) (by decide) (by decide) h2 ?_
  repeat kcf_m
  rename Cx _ _ _ _ _ _ _ _ _ _ => k4
  rw [et]
  refine callNow (by assumption) k4 (f_dealt (n := n) (turn := (c2 / 420 % 5 + 1).toNat) k4.rd.wd k4.rd.keep hA2 (le1 _ _ hL) (hlv.mono le1) h9 (le1 _ _ hC) hcov (le1 _ _ hR) hrv hrl (by lia) fun da2 s' B2 ys ny rt2 hB2 hys => ?_)
  rw [hdl] at hys
  have k5 := k4.go rt2
  clear k4
  refine x_neLI (Stab.isList Cx.stab k5 (rt2.le _ _ hB1)) (Stab.isList Cx.stab k5 hB2) hxi hys.ints hA2.unit ?_
  repeat kcf_m
  refine x_iten (fun hn => absurd rfl hn) (fun z_ => ?_)
  refine x_or0 ?_
  refine x_itf ?_
  one_item
  refine @s_nil _ _ _ _ _ _ _ ?_
  one_place
  exact h _ _ _ _ _ (Ph.le_trans le1 rt2.le) (rt2.le _ _ hB1) hxi k5
end
end
section
open PySem PySem.Calls PyProof.Rows

theorem deal_pick1 {α : Type} (a b c d e f g h i : α) : pick [a, b, c, d, e, f, g, h, i] none (some 1) none = [a] := rfl
theorem deal_pick2 {α : Type} (a b c d e f g h i : α) : pick [a, b, c, d, e, f, g, h, i] (some 2) none none = [c, d, e, f, g, h, i] := by
  have e : sliceRange (sliceBounds (some 2) none none 9).1 (sliceBounds (some 2) none none 9).2.1 (sliceBounds (some 2) none none 9).2.2 = [2, 3, 4, 5, 6, 7, 8] := by decide +kernel
  unfold pick
  show List.filterMap _ (sliceRange (sliceBounds (some 2) none none 9).1 (sliceBounds (some 2) none none 9).2.1 (sliceBounds (some 2) none none 9).2.2) = _
  rw [e]
  rfl
theorem twice_eq {dl : List Int} (h : dl.length = 9) : (dl ++ dl).eraseIdx 10 = dl ++ pick dl none (some 1) none ++ pick dl (some 2) none none := by
  exact nine (P := fun dl => (dl ++ dl).eraseIdx 10 = dl ++ pick dl none (some 1) none ++ pick dl (some 2) none none) h fun a b c d e f g h i => by rw [deal_pick1, deal_pick2]; rfl
theorem ints_pick {xs : List Value} {ns : List Int} (h : IntsAre xs ns) (lo hi st : Option Int) : IntsAre (pick xs lo hi st) (pick ns lo hi st) := by
  have := (reps_ints (B := fun z_ => none) h).pick lo hi st
  rw [pick_map] at this
  exact this.ints
theorem pick_len {dl : List Int} (h : dl.length = 9) : (pick dl none (some 1) none).length = 1 ∧ (pick dl (some 2) none none).length = 7 := by
  exact nine (P := fun dl => (pick dl none (some 1) none).length = 1 ∧ (pick dl (some 2) none none).length = 7) h fun a b c d e f g h i => by rw [deal_pick1, deal_pick2]; exact ⟨rfl, rfl⟩

section
variable {prog : Program} {w : World} {ad : Ad} {A : Around} {E : Value → Shared → Prop} {s s₀ : Shared} {B B₀ : Ph} {env : Env} {n : Nat}
set_option maxRecDepth 100000 in
set_option maxHeartbeats 4000000 in
theorem law_twice {Q : Flow → Shared → Prop} {da : Addr} {dv : List Value} {nd : Nat} {v0 v1 v2 v3 v4 v5 v6 v7 v8 v9 v10 v11 v12 v13 v14 v15 v16 v17 v18 v19 v20 v21 v22 v23 v25 : Option Value} {dl : List Int}
    (hA1 : AOk (n + 1) A) (hD : B da = some (listObj dv nd)) (hdv : IntsAre dv dl) (hd9 : dl.length = 9)
    (c : Cx w ad s₀ B₀ env (Sc.mk ["script", "starts", "at", "cells", "tables", "runs", "many", "drawn", "lists", "row", "mark", "words", "code", "word", "flags", "told", "letter", "sign", "due", "answers", "colours", "down", "on", "ranks", "dealt", "twice"] ["enumerate", "in_table_b1", "in_table_c11", "in_table_c4", "in_table_c6", "in_table_c7", "in_table_c8", "in_table_c9", "_law_runs", "range", "_law_three", "_law_within", "Int2AP", "isinstance", "bytes", "_law_word", "ParseFlags", "_law_reply", "tuple", "_law_nothing", "len", "chr", "indexOf", "_law_refused", "_law_dealt", "is_not", "delitem", "contains", "set"]) [v0, v1, v2, v3, v4, v5, v6, v7, v8, v9, v10, v11, v12, v13, v14, v15, v16, v17, v18, v19, v20, v21, v22, v23, some (.ref da), v25] [] B s)
    (h : ∀ (B' : Ph) (s' : Shared) (u25 : Option Value), B.le B' →
      Cx w ad s₀ B₀ env (Sc.mk ["script", "starts", "at", "cells", "tables", "runs", "many", "drawn", "lists", "row", "mark", "words", "code", "word", "flags", "told", "letter", "sign", "due", "answers", "colours", "down", "on", "ranks", "dealt", "twice"] ["enumerate", "in_table_b1", "in_table_c11", "in_table_c4", "in_table_c6", "in_table_c7", "in_table_c8", "in_table_c9", "_law_runs", "range", "_law_three", "_law_within", "Int2AP", "isinstance", "bytes", "_law_word", "ParseFlags", "_law_reply", "tuple", "_law_nothing", "len", "chr", "indexOf", "_law_refused", "_law_dealt", "is_not", "delitem", "contains", "set"]) [v0, v1, v2, v3, v4, v5, v6, v7, v8, v9, v10, v11, v12, v13, v14, v15, v16, v17, v18, v19, v20, v21, v22, v23, some (.ref da), u25] [] B' s' →
      wpAny (model prog w) A (execs ((dn 24).body.drop 19) env) Q E s') :
    wpAny (model prog w) A (execs ((dn 24).body.drop 17) env) Q E s := by
  have hl9 : dv.length = 9 := by rw [hdv.length, hd9]
  one_place
  refine @s_enterL _ _ _ _ _ _ _ _ _ _ _ _ _ _ _ _ (by assumption) ?_; intro Q' hQ' V_ C_ S_ c_
  repeat kcf_m
  refine x_addLO (by assumption) (Stab.isList Cx.stab (by assumption) hD) (Stab.isList Cx.stab (by assumption) hD) (by rw [hl9]; exact len_ok rfl) fun tw s1 k1 => ?_
  refine y_store k1 (by kd_p1) fun s' k2 => ?_
  one_place
  refine @s_enterL _ _ _ _ _ _ _ _ _ _ _ _ _ _ _ _ (by assumption) ?_; intro Q' hQ' V_ C_ S_ c_
  repeat kcf_m
  refine x_or1 ?_; intro Q_
  repeat kcf_m
  refine x_cdef Cx.stab (by assumption) (by decide) (by got_up) (fun Qc hQc => ?_)
  repeat kcf_m
  refine x_cdef Cx.stab (by assumption) (by decide) (by got_up) (fun Qc hQc => ?_)
  repeat kcf_m
  refine x_sliceN Cx.stab k2 (fun z_ z_1 => ⟨_, rfl⟩) ?_
  repeat kcf_m
  refine ⟨da, dv, none, none, none, _, rfl, by assumption, Stab.isList Cx.stab (by assumption) hD, .none, .none, .none, by decide, by rw [hl9]; exact len_ok rfl, fun b1 s3 B3 le3 hb1 hnew k3 => ?_⟩
  repeat kcf_m
  have hab : da ≠ b1 := fun e => by
    have := k2.rd.keep _ _ hD
    rw [e] at this
    rw [hnew] at this
    cases this
  refine callNow (by assumption) k3 (f_isnot_other (n := n) k3.rd.wd k3.rd.keep hA1 hab (k3.rd.keep _ _ (le3 _ _ hD)) (k3.rd.keep _ _ hb1) (by simp [listObj]) fun s' rt => ?_)
  have k4 := k3.go rt
  clear k3
  repeat kcf_m
  refine callNow (by assumption) k4 (f_isnot_bool (n := n) k4.rd.wd k4.rd.keep hA1 fun s' rt2 => ?_)
  have k5 := k4.go rt2
  clear k4
  repeat kcf_m
  refine x_itf ?_
  refine x_or1 ?_; intro Q_
  repeat kcf_m
  refine x_cdefR (by decide) (by got_up) ?_
  repeat kcf_m
  refine x_cdef Cx.stab (by assumption) (by decide) (by got_up) (fun Qc hQc => ?_)
  repeat kcf_m
  rename Cx _ _ _ _ _ _ _ _ _ _ => k6
  refine callNow (by assumption) k6 (f_delitem (n := n) (j := 10) k6.rd.wd k6.rd.keep hA1 (k6.own _ (.head _)) (k6.offB (.head _)) (by decide +kernel) (by rw [List.length_append, hl9]; decide +kernel) (by rw [List.length_append, hl9]; exact len_ok rfl) fun s' rt => ?_)
  have k8 := k6.back Sel.head rfl rt
  clear k6
  repeat kcf_m
  refine ⟨_, k8.rd.wd, k8.rd.keep, is_not_none (n := n) k8.rd.wd k8.rd.keep hA1 fun s' rt => ?_⟩
  have k9 := k8.go rt
  clear k8
  repeat kcf_m
  refine x_itf ?_
  refine x_or1 ?_; intro Q_
  repeat kcf_m
  have hD3 := le3 _ _ hD
  refine x_sliceP Cx.stab k9 (fun z_ z_1 => ⟨_, rfl⟩) (by kd_p) (by tb_rel) (by tb_rel) (by tb_rel) hD3 (by decide) (by rw [hl9]; exact len_ok rfl) fun b4 s4 B4 le4 hb4 m4 => ?_
  repeat kcf_m
  have hp1 := ints_pick hdv none (some 1) none
  have hp2 := ints_pick hdv (some 2) none none
  obtain ⟨z1, z2⟩ := pick_len hd9
  have y1 : (pick dv none (some 1) none).length = 1 := by rw [hp1.length, z1]
  have y2 : (pick dv (some 2) none none).length = 7 := by rw [hp2.length, z2]
  refine x_addL Cx.stab m4 (Stab.isList Cx.stab m4 (le4 _ _ hD3)) (Stab.isList Cx.stab m4 hb4) (by rw [hl9, y1]; exact len_ok rfl) fun b5 s5 B5 le5 hb5 m5 => ?_
  refine x_sliceP Cx.stab m5 (fun z_ z_1 => ⟨_, rfl⟩) (by kd_p) (by tb_rel) (by tb_rel) (by tb_rel) (le5 _ _ (le4 _ _ hD3)) (by decide) (by rw [hl9]; exact len_ok rfl) fun b6 s6 B6 le6 hb6 m6 => ?_
  refine x_addL Cx.stab m6 (Stab.isList Cx.stab m6 (le6 _ _ hb5)) (Stab.isList Cx.stab m6 hb6) (by rw [List.length_append, hl9, y1, y2]; exact len_ok rfl) fun b7 s7 B7 le7 hb7 m7 => ?_
  have ht := twice_eq hd9
  refine x_neLI (m7.isList (.head _)) (Stab.isList Cx.stab m7 hb7) (ints_erase (hdv.append hdv) 10) ((hdv.append hp1).append hp2) hA1.unit ?_
  rw [ht]
  repeat kcf_m
  refine x_iten (fun hn => absurd rfl hn) (fun z_ => ?_)
  refine x_or0 ?_
  refine x_itf ?_
  one_item
  refine @s_nil _ _ _ _ _ _ _ ?_
  one_place
  exact h _ _ _ (Ph.le_trans le3 (Ph.le_trans le4 (Ph.le_trans le5 (Ph.le_trans le6 le7)))) (m7.sub (List.sublist_cons_self _ _))
end
end
section
open PySem PySem.Calls PyProof.Rows

theorem any_of_mem {l : List Int} {k : Int} (h : k ∈ l) : l.any (· == k) = true := List.any_eq_true.mpr ⟨k, h, by simp⟩
theorem no_seven {dr : List (List Int)} (hok : DrOk dr) {i : Nat} (hi : i < 9) : (dr.getD i []).any (· == 7) = false := by
  obtain ⟨a, b, c, e, ha, hb, hc⟩ := hok.2 i hi
  rw [e]
  have h1 : (a == 7) = false := beq_eq_false_iff_ne.mpr (by lia)
  have h2 : (b == 7) = false := beq_eq_false_iff_ne.mpr (by lia)
  have h3 : (c == 7) = false := beq_eq_false_iff_ne.mpr (by lia)
  simp [h1, h2, h3]
theorem pick_idx {α : Type} {l : List α} {lo hi st : Option Int} {js : List Nat} (h : sliceRange (sliceBounds lo hi st l.length).1 (sliceBounds lo hi st l.length).2.1 (sliceBounds lo hi st l.length).2.2 = js) : pick l lo hi st = js.filterMap (l[·]?) := by
  unfold pick; rw [h]
theorem fm3 {dl : List Int} {i j k : Nat} (hi : i < dl.length) (hj : j < dl.length) (hk : k < dl.length) : [i, j, k].filterMap (dl[·]?) = [dl.getD i 0, dl.getD j 0, dl.getD k 0] := by
  have e : ∀ m, m < dl.length → dl[m]? = some (dl.getD m 0) := fun m hm => by rw [List.getD_eq_getElem?_getD, List.getElem?_eq_getElem hm]; rfl
  rw [List.filterMap_cons_some (e i hi), List.filterMap_cons_some (e j hj), List.filterMap_cons_some (e k hk), List.filterMap_nil]
theorem row_idx : ∀ r : Nat, r < 3 → sliceRange (sliceBounds (some (3 * (r : Int))) (some (3 * (r : Int) + 3)) none 9).1 (sliceBounds (some (3 * (r : Int))) (some (3 * (r : Int) + 3)) none 9).2.1 (sliceBounds (some (3 * (r : Int))) (some (3 * (r : Int) + 3)) none 9).2.2 = [3 * r, 3 * r + 1, 3 * r + 2] := by decide +kernel
theorem col_idx : ∀ r : Nat, r < 3 → sliceRange (sliceBounds (some (r : Int)) none (some 3) 9).1 (sliceBounds (some (r : Int)) none (some 3) 9).2.1 (sliceBounds (some (r : Int)) none (some 3) 9).2.2 = [r, 3 + r, 6 + r] := by decide +kernel
theorem row_pick {dl : List Int} (h9 : dl.length = 9) {r : Nat} (hr : r < 3) : pick dl (some (3 * (r : Int))) (some (3 * (r : Int) + 3)) none = [dl.getD (3 * r) 0, dl.getD (3 * r + 1) 0, dl.getD (3 * r + 2) 0] := by
  rw [pick_idx (js := [3 * r, 3 * r + 1, 3 * r + 2]) (by rw [h9]; exact row_idx r hr), fm3 (by lia) (by lia) (by lia)]
theorem col_pick {dl : List Int} (h9 : dl.length = 9) {r : Nat} (hr : r < 3) : pick dl (some (r : Int)) none (some 3) = [dl.getD r 0, dl.getD (3 + r) 0, dl.getD (6 + r) 0] := by
  rw [pick_idx (js := [r, 3 + r, 6 + r]) (by rw [h9]; exact col_idx r hr), fm3 (by lia) (by lia) (by lia)]
theorem met3 {a b c : Int} (hab : a ≠ b) (hac : a ≠ c) (hbc : b ≠ c) : (firstMet (fun i => [a, b, c].getD i 0) 3).length = 3 := by
  have e1 : (a == b) = false := beq_eq_false_iff_ne.mpr hab
  have e2 : (a == c) = false := beq_eq_false_iff_ne.mpr hac
  have e3 : (b == c) = false := beq_eq_false_iff_ne.mpr hbc
  rw [firstMet_succ, firstMet_succ, firstMet_succ, firstMet_zero]
  simp [step_dedup, e1, e2, e3]
noncomputable def ownBody : List Stmt := match (dn 24).body.drop 19 with | st :: _ => forBody st | _ => []
noncomputable def fairBody : List Stmt := match (dn 24).body.drop 20 with | st :: _ => forBody st | _ => []
inductive AtInv (b : Nat) (v0 v1 v3 v4 v5 v6 v7 v8 v9 v10 v11 v12 v13 v14 v15 v16 v17 v18 v19 v20 v21 v22 v23 v24 v25 : Option Value) (ds : List D) (V : List (Option Value)) (N : List (Addr × Obj)) (_B : Ph) : Prop
  | mk (js : List Nat) (u2 : Option Value) (h1 : ds = (js.map fun (j : Nat) => (j : Int)).map .int) (h2 : V = [v0, v1, u2, v3, v4, v5, v6, v7, v8, v9, v10, v11, v12, v13, v14, v15, v16, v17, v18, v19, v20, v21, v22, v23, v24, v25]) (h3 : N = []) (h4 : ∀ j ∈ js, j < b) : AtInv b v0 v1 v3 v4 v5 v6 v7 v8 v9 v10 v11 v12 v13 v14 v15 v16 v17 v18 v19 v20 v21 v22 v23 v24 v25 ds V N _B

section
variable {prog : Program} {w : World} {ad : Ad} {A : Around} {E : Value → Shared → Prop} {s s₀ : Shared} {B B₀ : Ph} {env : Env} {n : Nat}
theorem b_set {sc : Sc} {V : List (Option Value)} {C : Ph → Shared → Prop} {a : Addr} {xs : List Value} {ns : List Int} {Q : Value → Shared → Prop} (S : Stab w ad env sc V C) (c : C B s) (hA : A.handled = none) (hl : s.heap.IsList a xs.toArray) (r : IntsAre xs ns) (hb : xs.length + 1 < scanBound)
    (h : ∀ b s', C B s' → (∃ o es ep t, s'.heap.get? b = some o ∧ o.ExactSet ∧ o.data = .set es ep t ∧ t.fits es.size = true ∧ es.size = (firstMet (fun i => ns.getD i 0) xs.length).length) → Q (.ref b) s') : wpAny (model prog w) A (call (.type "set") [.ref a]) Q E s := by
  refine PySem.call_set_list (items := xs.toArray) (ns := ns) hA hl (by simpa using r) (by simpa using hb) fun h' tk hS hk => ?_
  rw [List.size_toArray] at hS
  obtain ⟨o, es, ep, t, ho, hex, hd, hel, hmem, hlt, hf, hn⟩ := hS
  one_place
  exact h _ _ (S.grow c (t := tk) fun b o q => hk b o (Heap.lt_size q) q) ⟨o, es, ep, t, ho, hex, hd, hf, hn⟩
theorem b_lenS {sc : Sc} {V : List (Option Value)} {C : Ph → Shared → Prop} {b : Addr} {m : Nat} {Q : Value → Shared → Prop} (S : Stab w ad env sc V C) (c : C B s) (hm : m < 1000) (hb : ∃ o es ep t, s.heap.get? b = some o ∧ o.ExactSet ∧ o.data = .set es ep t ∧ t.fits es.size = true ∧ es.size = m)
    (h : ∀ t s', C B s' → Q (.int m t) s') : wpAny (model prog w) A (call (.builtin "len") [.ref b]) Q E s := by
  obtain ⟨o, es, ep, t, ho, hex, hd, hf, hn⟩ := hb
  refine PySem.call_len_set ho hex hd hf (by lia) ?_
  rw [hn]
  one_place
  exact h _ _ (S.tok c _)

set_option maxRecDepth 100000 in
set_option maxHeartbeats 4000000 in
theorem law_own1 {Q : Flow → Shared → Prop} {da dra : Addr} {dv ev : List Value} {nd ne i : Nat} {v0 v1 v3 v4 v5 v6 v8 v9 v10 v11 v12 v13 v14 v15 v16 v17 v18 v19 v20 v21 v22 v23 v25 : Option Value} {ti : Tok} {dl : List Int} {dr : List (List Int)} {N : List (Addr × Obj)}
    (hA1 : AOk (n + 1) A) (hD : B da = some (listObj dv nd)) (hdv : IntsAre dv dl) (hR : B dra = some (listObj ev ne)) (hev : Reps B ev (dr.map listD)) (hok : DrOk dr) (hdl : DealOk dr dl) (hi : i < 9)
    (c : Cx w ad s₀ B₀ env (Sc.mk ["script", "starts", "at", "cells", "tables", "runs", "many", "drawn", "lists", "row", "mark", "words", "code", "word", "flags", "told", "letter", "sign", "due", "answers", "colours", "down", "on", "ranks", "dealt", "twice"] ["enumerate", "in_table_b1", "in_table_c11", "in_table_c4", "in_table_c6", "in_table_c7", "in_table_c8", "in_table_c9", "_law_runs", "range", "_law_three", "_law_within", "Int2AP", "isinstance", "bytes", "_law_word", "ParseFlags", "_law_reply", "tuple", "_law_nothing", "len", "chr", "indexOf", "_law_refused", "_law_dealt", "is_not", "delitem", "contains", "set"]) [v0, v1, some (.int (i : Int) ti), v3, v4, v5, v6, some (.ref dra), v8, v9, v10, v11, v12, v13, v14, v15, v16, v17, v18, v19, v20, v21, v22, v23, some (.ref da), v25] N B s)
    (h : ∀ (s' : Shared), Cx w ad s₀ B₀ env (Sc.mk ["script", "starts", "at", "cells", "tables", "runs", "many", "drawn", "lists", "row", "mark", "words", "code", "word", "flags", "told", "letter", "sign", "due", "answers", "colours", "down", "on", "ranks", "dealt", "twice"] ["enumerate", "in_table_b1", "in_table_c11", "in_table_c4", "in_table_c6", "in_table_c7", "in_table_c8", "in_table_c9", "_law_runs", "range", "_law_three", "_law_within", "Int2AP", "isinstance", "bytes", "_law_word", "ParseFlags", "_law_reply", "tuple", "_law_nothing", "len", "chr", "indexOf", "_law_refused", "_law_dealt", "is_not", "delitem", "contains", "set"]) [v0, v1, some (.int (i : Int) ti), v3, v4, v5, v6, some (.ref dra), v8, v9, v10, v11, v12, v13, v14, v15, v16, v17, v18, v19, v20, v21, v22, v23, some (.ref da), v25] N B s' → Q .next s') :
    wpAny (model prog w) A (execs ownBody env) Q E s := by
  obtain ⟨td, hdi⟩ := ints_get hdv (i := i) (d := dl.getD i 0) (by rw [List.getD_eq_getElem?_getD, List.getElem?_eq_getElem (by rw [hdl.len]; exact hi)]; rfl)
  have hany := any_of_mem (hdl.own i hi)
  have h7 := no_seven hok hi
  have hdg := dr_get hok.1 hi
  have hdi' : dv[((i : Nat) : Int).toNat]? = some (.int (dl.getD i 0) td) := by rw [Int.toNat_natCast]; exact hdi
  have hdg' : (dr.map listD)[((i : Nat) : Int).toNat]? = some (listD (dr.getD i [])) := by rw [Int.toNat_natCast]; exact hdg
  one_place
  refine @s_enterL _ _ _ _ _ _ _ _ _ _ _ _ _ _ _ _ (by assumption) ?_; intro Q' hQ' V_ C_ S_ c_
  repeat kcf_m
  refine x_or1 ?_; intro Q_
  repeat kcf_m
  refine x_itemV rfl (Stab.isList Cx.stab (by assumption) hD) (by lia) (by lia) hdi' ?_
  repeat kcf_m
  refine x_item rfl (Stab.isList Cx.stab (by assumption) hR) hev (by lia) (by lia) hdg' fun x hx => ?_
  obtain ⟨al, nl2, lxs, rfl, hBl, rl⟩ := Rep.isList hx
  refine x_notinL (Stab.isList Cx.stab (by assumption) hBl) rl.ints ?_
  rw [hany]
  repeat kcf_m
  refine x_itf ?_
  refine x_or1 ?_; intro Q_
  repeat kcf_m
  refine x_cdef Cx.stab (by assumption) (by decide) (by got_up) (fun Qc hQc => ?_)
  repeat kcf_m
  refine x_cdef Cx.stab (by assumption) (by decide) (by got_up) (fun Qc hQc => ?_)
  repeat kcf_m
  refine x_item rfl (Stab.isList Cx.stab (by assumption) hR) hev (by lia) (by lia) hdg' fun x hx => ?_
  obtain ⟨al2, nl3, lxs2, rfl, hBl2, rl2⟩ := Rep.isList hx
  repeat kcf_m
  refine x_itemV rfl (Stab.isList Cx.stab (by assumption) hD) (by lia) (by lia) hdi' ?_
  repeat kcf_m
  rename Cx _ _ _ _ _ _ _ _ _ _ => k1
  refine callNow (by assumption) k1 (f_contains (n := n) k1.rd.wd k1.rd.keep hA1 (k1.rd.keep _ _ hBl2) rl2.ints fun s' rt => ?_)
  rw [hany]
  have k2 := k1.go rt
  clear k1
  repeat kcf_m
  refine callNow (by assumption) k2 (f_isnot_bool (n := n) k2.rd.wd k2.rd.keep hA1 fun s' rt2 => ?_)
  have k3 := k2.go rt2
  clear k2
  repeat kcf_m
  refine x_itf ?_
  refine x_or1 ?_; intro Q_
  repeat kcf_m
  refine x_cdef Cx.stab (by assumption) (by decide) (by got_up) (fun Qc hQc => ?_)
  repeat kcf_m
  refine x_cdef Cx.stab (by assumption) (by decide) (by got_up) (fun Qc hQc => ?_)
  repeat kcf_m
  refine x_item rfl (Stab.isList Cx.stab (by assumption) hR) hev (by lia) (by lia) hdg' fun x hx => ?_
  obtain ⟨al3, nl4, lxs3, rfl, hBl3, rl3⟩ := Rep.isList hx
  repeat kcf_m
  rename Cx _ _ _ _ _ _ _ _ _ _ => k4
  refine callNow (by assumption) k4 (f_contains (n := n) k4.rd.wd k4.rd.keep hA1 (k4.rd.keep _ _ hBl3) rl3.ints fun s' rt3 => ?_)
  rw [h7]
  have k5 := k4.go rt3
  clear k4
  repeat kcf_m
  refine callNow (by assumption) k5 (f_isnot_bool (n := n) k5.rd.wd k5.rd.keep hA1 fun s' rt4 => ?_)
  have k6 := k5.go rt4
  clear k5
  repeat kcf_m
  refine x_itf ?_
  refine x_or0 ?_
  refine x_itf ?_
  one_item
  refine @s_nil _ _ _ _ _ _ _ ?_
  one_item
  refine @s_nil _ _ _ _ _ _ _ ?_
  one_place
  exact h _ k6

set_option maxRecDepth 100000 in
set_option maxHeartbeats 4000000 in
theorem law_own {Q : Flow → Shared → Prop} {da dra : Addr} {dv ev : List Value} {nd ne : Nat} {v0 v1 v2 v3 v4 v5 v6 v8 v9 v10 v11 v12 v13 v14 v15 v16 v17 v18 v19 v20 v21 v22 v23 v25 : Option Value} {dl : List Int} {dr : List (List Int)}
    (hA1 : AOk (n + 1) A) (hD : B da = some (listObj dv nd)) (hdv : IntsAre dv dl) (hR : B dra = some (listObj ev ne)) (hev : Reps B ev (dr.map listD)) (hok : DrOk dr) (hdl : DealOk dr dl)
    (c : Cx w ad s₀ B₀ env (Sc.mk ["script", "starts", "at", "cells", "tables", "runs", "many", "drawn", "lists", "row", "mark", "words", "code", "word", "flags", "told", "letter", "sign", "due", "answers", "colours", "down", "on", "ranks", "dealt", "twice"] ["enumerate", "in_table_b1", "in_table_c11", "in_table_c4", "in_table_c6", "in_table_c7", "in_table_c8", "in_table_c9", "_law_runs", "range", "_law_three", "_law_within", "Int2AP", "isinstance", "bytes", "_law_word", "ParseFlags", "_law_reply", "tuple", "_law_nothing", "len", "chr", "indexOf", "_law_refused", "_law_dealt", "is_not", "delitem", "contains", "set"]) [v0, v1, v2, v3, v4, v5, v6, some (.ref dra), v8, v9, v10, v11, v12, v13, v14, v15, v16, v17, v18, v19, v20, v21, v22, v23, some (.ref da), v25] [] B s)
    (h : ∀ (B' : Ph) (s' : Shared) (u2 : Option Value), B.le B' → Cx w ad s₀ B₀ env (Sc.mk ["script", "starts", "at", "cells", "tables", "runs", "many", "drawn", "lists", "row", "mark", "words", "code", "word", "flags", "told", "letter", "sign", "due", "answers", "colours", "down", "on", "ranks", "dealt", "twice"] ["enumerate", "in_table_b1", "in_table_c11", "in_table_c4", "in_table_c6", "in_table_c7", "in_table_c8", "in_table_c9", "_law_runs", "range", "_law_three", "_law_within", "Int2AP", "isinstance", "bytes", "_law_word", "ParseFlags", "_law_reply", "tuple", "_law_nothing", "len", "chr", "indexOf", "_law_refused", "_law_dealt", "is_not", "delitem", "contains", "set"]) [v0, v1, u2, v3, v4, v5, v6, some (.ref dra), v8, v9, v10, v11, v12, v13, v14, v15, v16, v17, v18, v19, v20, v21, v22, v23, some (.ref da), v25] [] B' s' → wpAny (model prog w) A (execs ((dn 24).body.drop 20) env) Q E s') :
    wpAny (model prog w) A (execs ((dn 24).body.drop 19) env) Q E s := by
  one_place
  refine @s_enterL _ _ _ _ _ _ _ _ _ _ _ _ _ _ _ _ (by assumption) ?_; intro Q' hQ' V_ C_ S_ c_
  refine x_for (fun z_ => rfl) (fun R hRR => ?_)
  repeat kcf_m
  refine x_iterR (m := 9) (by assumption) (by assumption) (by decide +kernel) (by decide +kernel) ?_
  intro I M L s₃ It hM k3
  refine f_loop (AtInv 9 v0 v1 v3 v4 v5 v6 (some (.ref dra)) v8 v9 v10 v11 v12 v13 v14 v15 v16 v17 v18 v19 v20 v21 v22 v23 (some (.ref da)) v25) (.inl ⟨_, _, rfl⟩) It hM hA1.handled
    ⟨[0, 1, 2, 3, 4, 5, 6, 7, 8], _, rfl, rfl, rfl, by decide⟩ (Ph.le_refl _) k3 ?_ ?_
  · rintro d ds V N B' s₄ L v ⟨js, u2, e1, rfl, rfl, h9⟩ le hr k4 Qb Eb hQb
    cases js with
    | nil => cases e1
    | cons j js =>
      simp only [List.map_cons, List.cons.injEq] at e1
      obtain ⟨rfl, rfl⟩ := e1
      obtain ⟨tj, rfl⟩ := Rep.isInt hr
      have leX : Ph.le B B' := (by kln_le)
      refine wpAny_assign_Name ?_
      refine y_store k4 (by kd_p1) fun s' k5 => ?_
      one_place
      refine law_own1 (n := n) hA1 (leX _ _ hD) hdv (leX _ _ hR) (hev.mono leX) hok hdl (h9 j (.head _)) k5 fun s1 k6 => ?_
      one_place
      exact ⟨_, _, B', ⟨js, _, rfl, rfl, rfl, fun i hi => h9 i (.tail _ hi)⟩, Ph.le_refl _, k6⟩
  · rintro V N B' s₄ ⟨js, u2, e1, rfl, rfl, h9⟩ le k4
    cases js with
    | cons i js => cases e1
    | nil =>
      one_item
      refine @s_nil _ _ _ _ _ _ _ ?_
      one_place
      exact h _ _ _ (by kln_le) k4
end
end
section
open PySem PySem.Calls PyProof.Rows

section
variable {prog : Program} {w : World} {ad : Ad} {A : Around} {E : Value → Shared → Prop} {s s₀ : Shared} {B B₀ : Ph} {env : Env} {n : Nat}
set_option maxRecDepth 100000 in
set_option maxHeartbeats 4000000 in
theorem law_fair1 {Q : Flow → Shared → Prop} {da : Addr} {dv : List Value} {nd i : Nat} {v0 v1 v3 v4 v5 v6 v7 v8 v9 v10 v11 v12 v13 v14 v15 v16 v17 v18 v19 v20 v21 v22 v23 v25 : Option Value} {ti : Tok} {dl : List Int} {dr : List (List Int)} {N : List (Addr × Obj)}
    (hA1 : AOk (n + 1) A) (hD : B da = some (listObj dv nd)) (hdv : IntsAre dv dl) (hdl : DealOk dr dl) (hi : i < 3)
    (c : Cx w ad s₀ B₀ env (Sc.mk ["script", "starts", "at", "cells", "tables", "runs", "many", "drawn", "lists", "row", "mark", "words", "code", "word", "flags", "told", "letter", "sign", "due", "answers", "colours", "down", "on", "ranks", "dealt", "twice"] ["enumerate", "in_table_b1", "in_table_c11", "in_table_c4", "in_table_c6", "in_table_c7", "in_table_c8", "in_table_c9", "_law_runs", "range", "_law_three", "_law_within", "Int2AP", "isinstance", "bytes", "_law_word", "ParseFlags", "_law_reply", "tuple", "_law_nothing", "len", "chr", "indexOf", "_law_refused", "_law_dealt", "is_not", "delitem", "contains", "set"]) [v0, v1, some (.int (i : Int) ti), v3, v4, v5, v6, v7, v8, v9, v10, v11, v12, v13, v14, v15, v16, v17, v18, v19, v20, v21, v22, v23, some (.ref da), v25] N B s)
    (h : ∀ (B' : Ph) (s' : Shared), B.le B' → Cx w ad s₀ B₀ env (Sc.mk ["script", "starts", "at", "cells", "tables", "runs", "many", "drawn", "lists", "row", "mark", "words", "code", "word", "flags", "told", "letter", "sign", "due", "answers", "colours", "down", "on", "ranks", "dealt", "twice"] ["enumerate", "in_table_b1", "in_table_c11", "in_table_c4", "in_table_c6", "in_table_c7", "in_table_c8", "in_table_c9", "_law_runs", "range", "_law_three", "_law_within", "Int2AP", "isinstance", "bytes", "_law_word", "ParseFlags", "_law_reply", "tuple", "_law_nothing", "len", "chr", "indexOf", "_law_refused", "_law_dealt", "is_not", "delitem", "contains", "set"]) [v0, v1, some (.int (i : Int) ti), v3, v4, v5, v6, v7, v8, v9, v10, v11, v12, v13, v14, v15, v16, v17, v18, v19, v20, v21, v22, v23, some (.ref da), v25] N B' s' → Q .next s') :
    wpAny (model prog w) A (execs fairBody env) Q E s := by
  have hl9 : dv.length = 9 := by rw [hdv.length, hdl.len]
  have hp1 := ints_pick hdv (some (3 * (i : Int))) (some (3 * (i : Int) + 3)) none
  rw [row_pick hdl.len hi] at hp1
  have hp2 := ints_pick hdv (some (i : Int)) none (some 3)
  rw [col_pick hdl.len hi] at hp2
  have m1 : (firstMet (fun j => [dl.getD (3 * i) 0, dl.getD (3 * i + 1) 0, dl.getD (3 * i + 2) 0].getD j 0) 3).length = 3 :=
    met3 (hdl.row i hi 0 (by decide) 1 (by decide) (by decide)) (hdl.row i hi 0 (by decide) 2 (by decide) (by decide)) (hdl.row i hi 1 (by decide) 2 (by decide) (by decide))
  have m2 : (firstMet (fun j => [dl.getD i 0, dl.getD (3 + i) 0, dl.getD (6 + i) 0].getD j 0) 3).length = 3 := by
    have h01 := hdl.col i hi 0 (by decide) 1 (by decide) (by decide)
    have h02 := hdl.col i hi 0 (by decide) 2 (by decide) (by decide)
    have h12 := hdl.col i hi 1 (by decide) 2 (by decide) (by decide)
    rw [show 3 * 0 + i = i by lia, show 3 * 1 + i = 3 + i by lia] at h01
    rw [show 3 * 0 + i = i by lia, show 3 * 2 + i = 6 + i by lia] at h02
    rw [show 3 * 1 + i = 3 + i by lia, show 3 * 2 + i = 6 + i by lia] at h12
    exact met3 h01 h02 h12
  have sb : 3 + 1 < scanBound := by decide
  one_place
  refine @s_enterL _ _ _ _ _ _ _ _ _ _ _ _ _ _ _ _ (by assumption) ?_; intro Q' hQ' V_ C_ S_ c_
  repeat kcf_m
  refine x_or1 ?_; intro Q_
  repeat kcf_m
  refine x_sliceP Cx.stab (by assumption) (fun z_ z_1 => ⟨_, rfl⟩) (by kd_p) (by tb_rel) (by tb_rel) (by tb_rel) hD (by decide) (by rw [hl9]; exact len_ok rfl) fun b1 s1 B1 le1 hb1 k1 => ?_
  repeat kcf_m
  refine b_set Cx.stab k1 hA1.handled (Stab.isList Cx.stab k1 hb1) hp1 (by rw [hp1.length]; exact sb) fun e1 s2 k2 hs2 => ?_
  rw [show (pick dv (some (3 * (i : Int))) (some (3 * (i : Int) + 3)) none).length = 3 from hp1.length, m1] at hs2
  repeat kcf_m
  refine b_lenS Cx.stab k2 (by decide) hs2 ?_
  intro _ _ _
  repeat kcf_m
  refine x_iten (fun hn => absurd rfl hn) (fun z_ => ?_)
  refine x_or1 ?_; intro Q_
  repeat kcf_m
  refine x_sliceP Cx.stab (by assumption) (fun z_ z_1 => ⟨_, rfl⟩) (by kd_p) (by tb_rel) (by tb_rel) (by tb_rel) (le1 _ _ hD) (by decide) (by rw [hl9]; exact len_ok rfl) fun b3 s3 B3 le3 hb3 k3 => ?_
  repeat kcf_m
  refine b_set Cx.stab k3 hA1.handled (Stab.isList Cx.stab k3 hb3) hp2 (by rw [hp2.length]; exact sb) fun e4 s4 k4 hs4 => ?_
  rw [show (pick dv (some (i : Int)) none (some 3)).length = 3 from hp2.length, m2] at hs4
  repeat kcf_m
  refine b_lenS Cx.stab k4 (by decide) hs4 ?_
  intro _ _ _
  repeat kcf_m
  refine x_iten (fun hn => absurd rfl hn) (fun z_ => ?_)
  refine x_or0 ?_
  refine x_itf ?_
  one_item
  refine @s_nil _ _ _ _ _ _ _ ?_
  one_item
  refine @s_nil _ _ _ _ _ _ _ ?_
  rename Cx _ _ _ _ _ _ _ _ _ _ => k5
  one_place
  exact h _ _ (Ph.le_trans le1 le3) k5

set_option maxRecDepth 100000 in
set_option maxHeartbeats 4000000 in
theorem law_fair {Q : Flow → Shared → Prop} {da : Addr} {dv : List Value} {nd : Nat} {v0 v1 v2 v3 v4 v5 v6 v7 v8 v9 v10 v11 v12 v13 v14 v15 v16 v17 v18 v19 v20 v21 v22 v23 v25 : Option Value} {dl : List Int} {dr : List (List Int)}
    (hA1 : AOk (n + 1) A) (hD : B da = some (listObj dv nd)) (hdv : IntsAre dv dl) (hdl : DealOk dr dl)
    (c : Cx w ad s₀ B₀ env (Sc.mk ["script", "starts", "at", "cells", "tables", "runs", "many", "drawn", "lists", "row", "mark", "words", "code", "word", "flags", "told", "letter", "sign", "due", "answers", "colours", "down", "on", "ranks", "dealt", "twice"] ["enumerate", "in_table_b1", "in_table_c11", "in_table_c4", "in_table_c6", "in_table_c7", "in_table_c8", "in_table_c9", "_law_runs", "range", "_law_three", "_law_within", "Int2AP", "isinstance", "bytes", "_law_word", "ParseFlags", "_law_reply", "tuple", "_law_nothing", "len", "chr", "indexOf", "_law_refused", "_law_dealt", "is_not", "delitem", "contains", "set"]) [v0, v1, v2, v3, v4, v5, v6, v7, v8, v9, v10, v11, v12, v13, v14, v15, v16, v17, v18, v19, v20, v21, v22, v23, some (.ref da), v25] [] B s)
    (h : ∀ (B' : Ph) (s' : Shared) (u2 : Option Value), B.le B' → Cx w ad s₀ B₀ env (Sc.mk ["script", "starts", "at", "cells", "tables", "runs", "many", "drawn", "lists", "row", "mark", "words", "code", "word", "flags", "told", "letter", "sign", "due", "answers", "colours", "down", "on", "ranks", "dealt", "twice"] ["enumerate", "in_table_b1", "in_table_c11", "in_table_c4", "in_table_c6", "in_table_c7", "in_table_c8", "in_table_c9", "_law_runs", "range", "_law_three", "_law_within", "Int2AP", "isinstance", "bytes", "_law_word", "ParseFlags", "_law_reply", "tuple", "_law_nothing", "len", "chr", "indexOf", "_law_refused", "_law_dealt", "is_not", "delitem", "contains", "set"]) [v0, v1, u2, v3, v4, v5, v6, v7, v8, v9, v10, v11, v12, v13, v14, v15, v16, v17, v18, v19, v20, v21, v22, v23, some (.ref da), v25] [] B' s' → Q (.ret (.bool true)) s') :
    wpAny (model prog w) A (execs ((dn 24).body.drop 20) env) Q E s := by
  one_place
  refine @s_enterL _ _ _ _ _ _ _ _ _ _ _ _ _ _ _ _ (by assumption) ?_; intro Q' hQ' V_ C_ S_ c_
  refine x_for (fun z_ => rfl) (fun R hRR => ?_)
  repeat kcf_m
  refine x_iterR (m := 3) (by assumption) (by assumption) (by decide +kernel) (by decide +kernel) ?_
  intro I M L s₃ It hM k3
  refine f_loop (AtInv 3 v0 v1 v3 v4 v5 v6 v7 v8 v9 v10 v11 v12 v13 v14 v15 v16 v17 v18 v19 v20 v21 v22 v23 (some (.ref da)) v25) (.inl ⟨_, _, rfl⟩) It hM hA1.handled
    ⟨[0, 1, 2], _, rfl, rfl, rfl, by decide⟩ (Ph.le_refl _) k3 ?_ ?_
  · rintro d ds V N B' s₄ L v ⟨js, u2, e1, rfl, rfl, h9⟩ le hr k4 Qb Eb hQb
    cases js with
    | nil => cases e1
    | cons j js =>
      simp only [List.map_cons, List.cons.injEq] at e1
      obtain ⟨rfl, rfl⟩ := e1
      obtain ⟨tj, rfl⟩ := Rep.isInt hr
      have leX : Ph.le B B' := (by kln_le)
      refine wpAny_assign_Name ?_
      refine y_store k4 (by kd_p1) fun s' k5 => ?_
      one_place
      refine law_fair1 (n := n) hA1 (leX _ _ hD) hdv hdl (h9 j (.head _)) k5 fun B1 s1 le1 k6 => ?_
      one_place
      exact ⟨_, _, B1, ⟨js, _, rfl, rfl, rfl, fun i hi => h9 i (.tail _ hi)⟩, le1, k6⟩
  · rintro V N B' s₄ ⟨js, u2, e1, rfl, rfl, h9⟩ le k4
    cases js with
    | cons i js => cases e1
    | nil =>
      one_item
      refine @s_nil _ _ _ _ _ _ _ ?_
      one_place
      refine @s_enterL _ _ _ _ _ _ _ _ _ _ _ _ _ _ _ _ (by assumption) ?_; intro Q' hQ' V_ C_ S_ c_
      repeat kcf_m
      one_place
      exact h _ _ _ (by kln_le) k4
end
end
section
open PySem PySem.Calls PyProof.Rows

theorem drawn_get {c0 c3 : Int} {m i : Nat} (hi : i < 9) : (drawnAll c0 c3 m).getD i [] = drawnOf (c0 / 1000 ^ i % 1000) c3 m := by
  exact lt9 (P := fun i => (drawnAll c0 c3 m).getD i [] = drawnOf (c0 / 1000 ^ i % 1000) c3 m) rfl rfl rfl rfl rfl rfl rfl rfl rfl hi
theorem drawn_all {c0 c3 : Int} {m : Nat} (h3 : 3 ≤ m) (h7 : m ≤ 7) (q : Int) {i : Nat} (hi : i < 9) :
    ∃ a b c, (drawnAll c0 c3 m).getD i [] = [a, b, c] ∧ a ≠ b ∧ a ≠ c ∧ b ≠ c ∧ (a ∈ coloursOf q c3 m ∧ 0 ≤ a ∧ a < 7) ∧ (b ∈ coloursOf q c3 m ∧ 0 ≤ b ∧ b < 7) ∧ (c ∈ coloursOf q c3 m ∧ 0 ≤ c ∧ c < 7) := by
  rw [drawn_get hi]
  exact drawn_ok h3 h7 (Int.emod_nonneg _ (by decide)) (Int.emod_lt_of_pos _ (by decide)) q c3
theorem drawn_dr {c0 c3 : Int} {m : Nat} (h3 : 3 ≤ m) (h7 : m ≤ 7) : DrOk (drawnAll c0 c3 m) := ⟨rfl, fun i hi => by
  obtain ⟨a, b, c, e, _, _, _, ha, hb, hc⟩ := drawn_all (c0 := c0) (c3 := c3) h3 h7 0 hi
  exact ⟨a, b, c, e, ha.2, hb.2, hc.2⟩⟩
theorem ranksL_ok (c2 : Int) : rankOk (ranksL c2) = true := ranks_ok _ (by unfold dwN; lia) _ (by unfold onN; lia) _ (by unfold shN; lia)

set_option maxRecDepth 100000 in
set_option maxHeartbeats 4000000 in
theorem law_ok : LawOk := by
  intro w ad s B a xs ns n E Q hw hkeep hB hx hl hbits hQ
  have hA : AOk (5 + 1) callerA := ⟨rfl, by decide +kernel, by decide +kernel⟩
  refine def_callX (d := dn 24) (ps := ["script"]) (rest := ["starts", "at", "cells", "tables", "runs", "many", "drawn", "lists", "row", "mark", "words", "code", "word", "flags", "told", "letter", "sign", "due", "answers", "colours", "down", "on", "ranks", "dealt", "twice"]) (xs := ["script", "starts", "at", "cells", "tables", "runs", "many", "drawn", "lists", "row", "mark", "words", "code", "word", "flags", "told", "letter", "sign", "due", "answers", "colours", "down", "on", "ranks", "dealt", "twice"]) (V0 := [some _, none, none, none, none, none, none, none, none, none, none, none, none, none, none, none, none, none, none, none, none, none, none, none, none, none]) (gs := ["enumerate", "in_table_b1", "in_table_c11", "in_table_c4", "in_table_c6", "in_table_c7", "in_table_c8", "in_table_c9", "_law_runs", "range", "_law_three", "_law_within", "Int2AP", "isinstance", "bytes", "_law_word", "ParseFlags", "_law_reply", "tuple", "_law_nothing", "len", "chr", "indexOf", "_law_refused", "_law_dealt", "is_not", "delitem", "contains", "set"]) hw hkeep (hw.fn 24 (by decide)) hA rfl rfl rfl (by decide +kernel) rfl rfl rfl (fun z_ z_1 z_2 => rfl) ?_
  intro env s' hes hf c
  have hA2 : AOk (3 + 2) (callerA.deeper env) := hA.deeper env
  have hA1 : AOk (4 + 1) (callerA.deeper env) := hA2
  have hfr : (callerA.deeper env).frames = some [env] := Around.frames_deeper rfl
  one_place
  refine law_cells (n := 4) hes hA1 hB hx hl hbits c fun B1 s1 ca cv nc v1 le1 hca hcv k1 => ?_
  clear c
  unfold cellsOf at hcv
  generalize 14001018007022011005020003 + big * sumFrom ns 0 = c0 at hcv
  generalize 0 + 1 * sumFrom ns 1 = c1 at hcv
  generalize 2101 + 1 * sumFrom ns 2 = c2 at hcv
  generalize 103747 + 1 * sumFrom ns 3 = c3 at hcv
  one_place
  refine law_tables (n := 4) hes hA1 hca hcv k1 fun B2 s2 ta dra rv t6 le2 hta hrv k2 => ?_
  clear k1
  have hm : c2 % 5 + 3 = (((c2 % 5 + 3).toNat : Nat) : Int) := by lia
  rw [hm] at k2
  have hm3 : 3 ≤ (c2 % 5 + 3).toNat := by lia
  have hm7 : (c2 % 5 + 3).toNat ≤ 7 := by lia
  generalize (c2 % 5 + 3).toNat = m at k2 hm3 hm7
  one_place
  refine law_drawn (n := 4) hes hA1 (le2 _ _ hca) hcv hm3 hm7 k2 fun B3 s3 dv nd v2 le3 hdra hdv k3 => ?_
  clear k2
  have l3 : Ph.le B1 B3 := Ph.le_trans le2 le3
  have hok : DrOk (drawnAll c0 c3 m) := drawn_dr hm3 hm7
  obtain ⟨dl, hdl, hall⟩ := deal_ok (ranksL_ok c2) (col_ok hm3 hm7 (c2 / 5) c3).1 (dr := drawnAll c0 c3 m) fun i hi => by
    obtain ⟨a, b, c, e, h1, h2, h3, ha, hb, hc⟩ := drawn_all (c0 := c0) (c3 := c3) hm3 hm7 (c2 / 5) hi
    exact ⟨a, b, c, e, h1, h2, h3, ha.1, hb.1, hc.1⟩
  generalize drawnAll c0 c3 m = dr at hdv hok hdl hall
  one_place
  refine law_rows (n := 4) hes hA1 hfr hf (l3 _ _ hca) hcv (le3 _ _ hta) (hrv.mono le3) hdra hdv hok k3 fun B4 s4 la lv nl u2 u9 u10 u11 u12 u13 u14 u15 u16 u17 u18 u19 le4 hla hlv k4 => ?_
  clear k3
  one_place
  refine law_refused (n := 3) hA2 hfr hf hla hlv hok.1 k4 fun B5 s5 le5 k5 => ?_
  clear k4
  have l5 : Ph.le B3 B5 := Ph.le_trans le4 le5
  one_place
  refine law_index (n := 4) hes hA1 hfr hf (le5 _ _ hla) (hlv.mono le5) (l5 _ _ hdra) (hdv.mono l5) hok.1 k5 fun B6 s6 le6 k6 => ?_
  clear k5
  have l6 : Ph.le B1 B6 := Ph.le_trans l3 (Ph.le_trans l5 le6)
  one_place
  refine law_colours (n := 4) hes hA1 (l6 _ _ hca) hcv hm3 hm7 k6 fun B7 s7 coa cov nco t21 t22 le7 hco hcov k7 => ?_
  clear k6
  have l7 : Ph.le B1 B7 := Ph.le_trans l6 le7
  one_place
  refine law_ranks (n := 4) hes hA1 (l7 _ _ hca) hcv k7 fun B8 s8 ra rrv nr le8 hra hrrv k8 => ?_
  clear k7
  have l8 : Ph.le B1 B8 := Ph.le_trans l7 le8
  have l58 : Ph.le B5 B8 := Ph.le_trans le6 (Ph.le_trans le7 le8)
  one_place
  refine law_deal (n := 3) hA2 (l8 _ _ hca) hcv (l58 _ _ (le5 _ _ hla)) (hlv.mono (Ph.le_trans le5 l58)) hok.1 (le8 _ _ hco) hcov hra hrrv rfl hall hdl.len k8 fun B9 s9 da dlv nda le9 hda hdlv k9 => ?_
  clear k8
  one_place
  refine law_twice (n := 4) hA1 hda hdlv hdl.len k9 fun B10 s10 u25 le10 k10 => ?_
  clear k9
  have l310 : Ph.le B3 B10 := Ph.le_trans l5 (Ph.le_trans l58 (Ph.le_trans le9 le10))
  one_place
  refine law_own (n := 4) hA1 (le10 _ _ hda) hdlv (l310 _ _ hdra) (hdv.mono l310) hok hdl k10 fun B11 s11 w2 le11 k11 => ?_
  clear k10
  one_place
  refine law_fair (n := 4) hA1 (le11 _ _ (le10 _ _ hda)) hdlv hdl k11 fun B12 s12 w2' le12 k12 => ?_
  exact hQ _ _ k12.ret
end
section
open PySem PySem.Calls PyProof.Rows PySem.W

theorem bare_none : (["vars", "dir", "locals"] : List Str).filter (readsOut pw pw.main.body) = [] := by kernel_rfl
theorem road_ok : noRoadLSs { strict := !(importedModules pw.main.body).all cThrough.contains, foot := none, bare := (["vars", "dir", "locals"] : List Str).filter (readsOut pw pw.main.body) } pw.main.body = true :=
  (congrArg (fun z_ => noRoadLSs { strict := !(importedModules pw.main.body).all cThrough.contains, foot := none, bare := z_ } pw.main.body) bare_none).trans (by kernel_rfl)
theorem resolve_ok : namesResolve pw = true := by kernel_rfl
theorem attrs_ok : namesMeet pw pw.main.body (fun _ n => attrL n) = true := by kernel_rfl
theorem looks_ok : looksOpen pw = true :=
  look_both (look_both (look_both (look_both (look_both (by kernel_rfl) (by kernel_rfl)) resolve_ok) (by kernel_rfl)) road_ok) attrs_ok
theorem part_ok : rw0.row.partSaid = true := by
  delta OpenRow.partSaid
  repeat' with_reducible apply look_both
  · exact looks_ok
  all_goals kernel_rfl
theorem foot_road : noRoadLSs { strict := true, foot := some rw0.bound', writes := rw0.writes, may := rw0.may } rw0.footing = true := by kernel_rfl
theorem names_bound : rw0.bound'.all (fun n => !builtinNamed n || rw0.about == [n] || !rw0.reads n) = true := by kernel_rfl
theorem meet_ok : (namesMeet rw0.prog rw0.footing fun sc n => sc.kind == .module || sc.names.lookup n != some .globalExplicit) = true := by kernel_rfl
theorem said0 : rw0.wellSaid = true := by
  delta OpenLaw.wellSaid
  repeat' with_reducible apply look_both
  · exact look_both (look_both part_ok (by kernel_rfl)) (by kernel_rfl)
  all_goals with_reducible first | exact foot_road | exact names_bound | exact meet_ok | kernel_rfl
end
end Mine
open PySem PySem.W PyProof.Rows
set_option maxRecDepth 100000 in
set_option maxHeartbeats 8000000 in
theorem PySem.Challenge.cw_kl0203_01_holds : PySem.Challenge.rw_kl0203_01.Holds :=
  holds_law Mine.said0 fun said => ⟨said, ⟨[.list []], by decide +kernel, by decide +kernel⟩, Mine.holds0 Mine.law_ok⟩
