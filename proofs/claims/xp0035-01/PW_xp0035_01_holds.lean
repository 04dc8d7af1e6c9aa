import PyProof.Rows.All
import Wide.All
import OpenK.AllK
import Wide.FinOn
import PySem.Challenge.RW_xp0035_01
-- part HeadTop
section
open PySem PySem.W PyProof.Rows
set_option Elab.async false
namespace Mine
set_option maxRecDepth 100000 in
set_option maxHeartbeats 8000000 in
open_top hd for PySem.Challenge.rw_xp0035_01
end Mine
end
-- part Abs1
open PySem
set_option Elab.async false
namespace Mine

/-! data by value -/
inductive D where
  | none
  | bool (b : Bool)
  | int (i : Int)
  | str (x : Str)
  | list (ds : List D)
  | tup (ds : List D)
  | dic (kvs : List (Str × Int))
  | fn (f : Str)
  | cls
  | re
  | inst (d : D)

structure Cx where
  prog : Program
  w : World
  mg : Str → Option Value
  mb : Str → Option Value
  defs : Str → Option DefRec
  K : PySem.W.Frag
  TC : Addr
  RE : Addr

abbrev Keep (h h' : Heap) : Prop := ∀ b o, h.get? b = some o → h'.get? b = some o
/-- this text's own word: the heap keeps what stood, all else but the token count is as it was -/
def Keeps (s s' : Shared) : Prop := ∃ h' tk, s' = { s with heap := h', toks := tk } ∧ Keep s.heap h'

structure Base (C : Cx) (h : Heap) : Prop where
  g : h.Ns mainGlobals C.mg
  b : h.Ns builtinsNs C.mb
  lim : h.NoLimit
  fns : ∀ f d, C.defs f = some d → ∃ a o pm cd doc, C.mg f = some (.ref a) ∧ h.get? a = some o ∧ o.data = .func (Calls.docDef d.name d.params d.body d.scope pm cd doc) ∧ h.CodeRec cd d.name
  K : C.K.In h

theorem Base.keeps {C : Cx} {h h' : Heap} (B : Base C h) (hk : Keep h h') : Base C h' where
  g := B.g.keeps hk
  b := B.b.keeps hk
  lim := B.lim.keeps hk
  fns := fun f d e => let ⟨a, o, pm, cd, doc, h1, h2, h3, h4⟩ := B.fns f d e; ⟨a, o, pm, cd, doc, h1, hk _ _ h2, h3, h4.keeps hk⟩
  K := B.K.keeps hk

def IntsOf (kvs : List (Str × Value)) (ks : List (Str × Int)) : Prop := Paired (fun p q => p.1 = q.1 ∧ ∃ t, p.2 = Value.int q.2 t) kvs ks

mutual
inductive Rp (C : Cx) (X : Addr → Prop) (h : Heap) : Value → D → Prop
  | none : Rp C X h .none .none
  | bool (b) : Rp C X h (.bool b) (.bool b)
  | int (i t) : Rp C X h (.int i t) (.int i)
  | str (x t) : Rp C X h (.str x t) (.str x)
  | list {a vs n ds} : ¬ X a → h.get? a = some { cls := .type "list", data := .seq vs n } → RpAll C X h vs.toList ds → Rp C X h (.ref a) (.list ds)
  | tup {a vs n ds} : ¬ X a → h.get? a = some { cls := .type "tuple", data := .seq vs n } → RpAll C X h vs.toList ds → Rp C X h (.ref a) (.tup ds)
  | dic {a kvs ks} : ¬ X a → (a == sysModules) = false → h.DictOf (strKind C.prog C.w) a kvs → IntsOf kvs ks → Rp C X h (.ref a) (.dic ks)
  | fn {f a} : C.mg f = some (.ref a) → Rp C X h (.ref a) (.fn f)
  | cls : Rp C X h (.ref C.TC) .cls
  | re : Rp C X h (.ref C.RE) .re
  | inst {a dx n t v d} : ¬ X a → ¬ X dx → h.get? a = some (PySem.W.instObj C.TC dx) →
      h.get? dx = some (PySem.W.dictOf [⟨PyData.keyHash C.w.params "comp_select_list", .str "comp_select_list" t, v⟩] n) → Rp C X h v d → Rp C X h (.ref a) (.inst d)
inductive RpAll (C : Cx) (X : Addr → Prop) (h : Heap) : List Value → List D → Prop
  | nil : RpAll C X h [] []
  | cons {v vs d ds} : Rp C X h v d → RpAll C X h vs ds → RpAll C X h (v :: vs) (d :: ds)
end

/-! one shape a time -/
section
variable {C : Cx} {X : Addr → Prop} {h : Heap}
theorem Rp.none_inv {v : Value} (r : Rp C X h v .none) : v = .none := by cases r; rfl
theorem Rp.intE {i : Int} {motive : (v : Value) → Rp C X h v (.int i) → Prop} (int : ∀ t, motive (.int i t) (.int i t)) {v : Value} (r : Rp C X h v (.int i)) : motive v r := by cases r; exact int _
theorem Rp.strE {x : Str} {motive : (v : Value) → Rp C X h v (.str x) → Prop} (str : ∀ t, motive (.str x t) (.str x t)) {v : Value} (r : Rp C X h v (.str x)) : motive v r := by cases r; exact str _
theorem Rp.boolE {b : Bool} {motive : (v : Value) → Rp C X h v (.bool b) → Prop} (bool : motive (.bool b) (.bool b)) {v : Value} (r : Rp C X h v (.bool b)) : motive v r := by cases r; exact bool
theorem Rp.listE {ds : List D} {motive : (v : Value) → Rp C X h v (.list ds) → Prop} (list : ∀ {a vs n} (hx : ¬ X a) (g : h.get? a = some { cls := .type "list", data := .seq vs n }) (r : RpAll C X h vs.toList ds), motive (.ref a) (.list hx g r)) {v : Value} (r : Rp C X h v (.list ds)) : motive v r := by cases r with | list hx g r => exact list hx g r
theorem Rp.tupE {ds : List D} {motive : (v : Value) → Rp C X h v (.tup ds) → Prop} (tup : ∀ {a vs n} (hx : ¬ X a) (g : h.get? a = some { cls := .type "tuple", data := .seq vs n }) (r : RpAll C X h vs.toList ds), motive (.ref a) (.tup hx g r)) {v : Value} (r : Rp C X h v (.tup ds)) : motive v r := by cases r with | tup hx g r => exact tup hx g r
theorem Rp.dicE {ks : List (Str × Int)} {motive : (v : Value) → Rp C X h v (.dic ks) → Prop} (dic : ∀ {a kvs} (hx : ¬ X a) (hs : (a == sysModules) = false) (g : h.DictOf (strKind C.prog C.w) a kvs) (q : IntsOf kvs ks), motive (.ref a) (.dic hx hs g q)) {v : Value} (r : Rp C X h v (.dic ks)) : motive v r := by cases r with | dic hx hs g q => exact dic hx hs g q
theorem RpAll.nilE {motive : (vs : List Value) → RpAll C X h vs [] → Prop} (nil : motive [] .nil) {vs : List Value} (r : RpAll C X h vs []) : motive vs r := by cases r; exact nil
theorem RpAll.consE {d : D} {ds : List D} {motive : (vs : List Value) → RpAll C X h vs (d :: ds) → Prop} (cons : ∀ {v vs} (a : Rp C X h v d) (r : RpAll C X h vs ds), motive (v :: vs) (.cons a r)) {vs : List Value} (r : RpAll C X h vs (d :: ds)) : motive vs r := by cases r with | cons a r => exact cons a r
end
section
variable {C : Cx} {X Y : Addr → Prop} {h h' : Heap}

theorem Rp.re2 (hk : ∀ b o, ¬ X b → h.get? b = some o → h'.get? b = some o ∧ ¬ Y b) {v : Value} {d : D} (r : Rp C X h v d) : Rp C Y h' v d :=
  Rp.rec (motive_1 := fun v d _ => Rp C Y h' v d) (motive_2 := fun vs ds _ => RpAll C Y h' vs ds) .none .bool .int .str
    (fun h1 h2 _ ih => .list (hk _ _ h1 h2).2 (hk _ _ h1 h2).1 ih) (fun h1 h2 _ ih => .tup (hk _ _ h1 h2).2 (hk _ _ h1 h2).1 ih)
    (fun h1 h2 h3 h4 => Exists.elim h3 fun o p => Exists.elim p fun es p => Exists.elim p fun ep p => .dic (hk _ _ h1 p.1).2 h2 ⟨o, es, ep, (hk _ _ h1 p.1).1, p.2⟩ h4)
    .fn .cls .re (fun h1 h2 h3 h4 _ ih => .inst (hk _ _ h1 h3).2 (hk _ _ h2 h4).2 (hk _ _ h1 h3).1 (hk _ _ h2 h4).1 ih) .nil (fun _ _ i1 i2 => .cons i1 i2) r
theorem RpAll.re2 (hk : ∀ b o, ¬ X b → h.get? b = some o → h'.get? b = some o ∧ ¬ Y b) {vs : List Value} {ds : List D} (r : RpAll C X h vs ds) : RpAll C Y h' vs ds := by
  induction ds generalizing vs with
  | nil => cases r using RpAll.nilE; exact .nil
  | cons d ds ih => cases r using RpAll.consE with | cons a r => exact .cons (a.re2 hk) (ih r)
theorem Rp.keeps (hk : Keep h h') {v : Value} {d : D} (r : Rp C X h v d) : Rp C X h' v d := r.re2 fun b o hb e => ⟨hk b o e, hb⟩
theorem RpAll.keeps (hk : Keep h h') {vs : List Value} {ds : List D} (r : RpAll C X h vs ds) : RpAll C X h' vs ds := r.re2 fun b o hb e => ⟨hk b o e, hb⟩
/-- the barred set grows by dead addresses only -/
theorem Rp.bar (hy : ∀ a, Y a → X a ∨ h.get? a = Option.none) {v : Value} {d : D} (r : Rp C X h v d) : Rp C Y h v d :=
  r.re2 fun b o hb e => ⟨e, fun y => (hy b y).elim hb fun q => by rw [e] at q; cases q⟩
theorem RpAll.bar (hy : ∀ a, Y a → X a ∨ h.get? a = Option.none) {vs : List Value} {ds : List D} (r : RpAll C X h vs ds) : RpAll C Y h vs ds :=
  r.re2 fun b o hb e => ⟨e, fun y => (hy b y).elim hb fun q => by rw [e] at q; cases q⟩

theorem RpAll.length {vs : List Value} {ds : List D} (r : RpAll C X h vs ds) : vs.length = ds.length := by
  induction ds generalizing vs with
  | nil => cases r using RpAll.nilE; rfl
  | cons d ds ih => cases r using RpAll.consE with | cons a r => rw [List.length_cons, List.length_cons, ih r]
theorem RpAll.append {vs ws : List Value} {ds es : List D} (r : RpAll C X h vs ds) (q : RpAll C X h ws es) : RpAll C X h (vs ++ ws) (ds ++ es) := by
  induction ds generalizing vs with
  | nil => cases r using RpAll.nilE; exact q
  | cons d ds ih => cases r using RpAll.consE with | cons a r => exact .cons a (ih r)
theorem RpAll.get {vs : List Value} {ds : List D} (r : RpAll C X h vs ds) : ∀ {i : Nat} {d : D}, ds[i]? = some d → ∃ v, vs[i]? = some v ∧ Rp C X h v d := by
  induction ds generalizing vs with
  | nil => intro i d e; exact absurd (List.getElem?_nil.symm.trans e) nofun
  | cons d ds ih =>
    cases r using RpAll.consE with
    | cons a r =>
      intro i d' e
      cases i with
      | zero => rw [List.getElem?_cons_zero] at e; cases e; exact ⟨_, List.getElem?_cons_zero, a⟩
      | succ i => rw [List.getElem?_cons_succ] at e ⊢; exact ih r e
theorem RpAll.get' {vs : List Value} {ds : List D} (r : RpAll C X h vs ds) : ∀ {i : Nat} {v : Value}, vs[i]? = some v → ∃ d, ds[i]? = some d ∧ Rp C X h v d := by
  induction ds generalizing vs with
  | nil => cases r using RpAll.nilE; intro i v e; exact absurd (List.getElem?_nil.symm.trans e) nofun
  | cons d ds ih =>
    cases r using RpAll.consE with
    | cons a r =>
      intro i v e
      cases i with
      | zero => rw [List.getElem?_cons_zero] at e; cases e; exact ⟨_, List.getElem?_cons_zero, a⟩
      | succ i => rw [List.getElem?_cons_succ] at e ⊢; exact ih r e
theorem RpAll.set (n : Nat) {vs : List Value} {ds : List D} {v : Value} {d : D} (r : RpAll C X h vs ds) (q : Rp C X h v d) : RpAll C X h (vs.set n v) (ds.set n d) := by
  induction ds generalizing vs n with
  | nil => cases r using RpAll.nilE; exact .nil
  | cons d ds ih =>
    cases r using RpAll.consE with
    | cons a r =>
      cases n with
      | zero => exact .cons q r
      | succ n => exact .cons a (ih n r)
end

/-! the local store -/
inductive LV where
  | dat (d : D)
  | own (d : D)
  | gl (d : D)
  | bi (v : Value)
  | unb
  | kn (ys : List Str)

def LV.slot : LV → Bool
  | .gl _ | .bi _ | .kn _ => false
  | _ => true

abbrev Store := List (Str × LV)

def Loc (env : Env) (h : Heap) (x : Str) (v : Value) : Prop :=
  (env.kindOf x = some .local ∧ ∃ m, h.Ns env.locals m ∧ m x = some v) ∨ (env.kindOf x = some .cell ∧ ∃ c, env.cells.lookup x = some c ∧ h.IsCell c (some v))
def Slo (env : Env) (x : Str) : Prop := env.kindOf x = some .local ∨ (env.kindOf x = some .cell ∧ ∃ c, env.cells.lookup x = some c)

theorem Loc.keeps {env : Env} {h h' : Heap} {x : Str} {v : Value} (l : Loc env h x v) (hk : Keep h h') : Loc env h' x v := by
  rcases l with ⟨a, m, n, e⟩ | ⟨a, c, e, q⟩
  · exact .inl ⟨a, m, n.keeps hk, e⟩
  · exact .inr ⟨a, c, e, q.keeps hk⟩

/-- what a statement of this frame may turn -/
def MM (env : Env) (ρ : Store) (adr : Str → Addr) (a : Addr) : Prop :=
  a = env.locals ∨ (∃ x, env.cells.lookup x = some a) ∨ ∃ x d, (x, LV.own d) ∈ ρ ∧ adr x = a
def XX (X : Addr → Prop) (env : Env) (ρ : Store) (adr : Str → Addr) (a : Addr) : Prop := X a ∨ MM env ρ adr a

def OwnAt (C : Cx) (X : Addr → Prop) (h : Heap) (a : Addr) : D → Prop
  | .list ds => ∃ vs, h.PlainList a vs ∧ RpAll C X h vs.toList ds
  | .dic ks => (a == sysModules) = false ∧ ∃ kvs, h.DictOf (strKind C.prog C.w) a kvs ∧ IntsOf kvs ks
  | _ => False

def Ent (C : Cx) (X : Addr → Prop) (env : Env) (h : Heap) (adr : Str → Addr) (x : Str) : LV → Prop
  | .dat d => ∃ v, Loc env h x v ∧ Rp C X h v d
  | .own d => Loc env h x (.ref (adr x)) ∧ OwnAt C X h (adr x) d
  | .gl d => env.kindOf x = some .globalImplicit ∧ ∃ v, C.mg x = some v ∧ ∀ X h, Rp C X h v d
  | .bi v => env.kindOf x = some .globalImplicit ∧ C.mg x = none ∧ C.mb x = some v
  | .unb => True
  | .kn ys => ∀ y ∈ ys, env.kindOf y = some .cell ∧ ∃ c, env.cells.lookup y = some c

structure RealE (C : Cx) (env : Env) (X : Addr → Prop) (ρ : Store) (adr : Str → Addr) (h : Heap) : Prop where
  base : Base C h
  ns : ∃ m, h.Ns env.locals m
  cells : ∀ x c, env.cells.lookup x = some c → ∃ v, h.IsCell c v
  ents : ∀ x lv, (x, lv) ∈ ρ → Ent C (XX X env ρ adr) env h adr x lv
  alive : ∀ a, X a → ∃ o, h.get? a = some o

structure RealS (C : Cx) (env : Env) (X : Addr → Prop) (hB : Heap) (ρ : Store) (adr : Str → Addr) (h : Heap) : Prop extends RealE C env X ρ adr h where
  nodup : (ρ.map (·.1)).Nodup
  inj : ∀ x y d e, (x, LV.own d) ∈ ρ → (y, LV.own e) ∈ ρ → adr x = adr y → x = y
  slots : ∀ x lv, (x, lv) ∈ ρ → lv.slot = true → Slo env x
  cellinj : ∀ x y c, env.cells.lookup x = some c → env.cells.lookup y = some c → x = y
  baseB : Base C hB
  keep : Keep hB h
  locB : hB.get? env.locals = none
  cellB : ∀ x c, env.cells.lookup x = some c → hB.get? c = none
  ownB : ∀ x d, (x, LV.own d) ∈ ρ → hB.get? (adr x) = none
  ownL : ∀ x d, (x, LV.own d) ∈ ρ → adr x ≠ env.locals ∧ ∀ y, env.cells.lookup y ≠ some (adr x)
  aliveB : ∀ a, X a → ∃ o, hB.get? a = some o

structure EnvOK (env : Env) : Prop where
  kind : env.scope.kind = .function
  glob : env.globals = mainGlobals
  blt : env.builtins = builtinsNs

structure Room (k : Nat) (A : Around) : Prop where
  hd : A.handled = none
  depth : A.depth + k ≤ 900
  units : A.units + 64 * k ≤ 9000

theorem OwnAt.keeps {C : Cx} {X : Addr → Prop} {h h' : Heap} {a : Addr} {d : D} (hk : Keep h h') (o : OwnAt C X h a d) : OwnAt C X h' a d := by
  cases d with
  | list ds => obtain ⟨vs, ⟨n, hp⟩, r⟩ := o; exact ⟨vs, ⟨n, hk _ _ hp⟩, r.keeps hk⟩
  | dic ks => obtain ⟨hs, kvs, r, q⟩ := o; exact ⟨hs, kvs, r.keep hk, q⟩
  | _ => exact o.elim
theorem Ent.keeps {C : Cx} {X : Addr → Prop} {env : Env} {h h' : Heap} {adr : Str → Addr} {x : Str} {lv : LV} (hk : Keep h h') (o : Ent C X env h adr x lv) : Ent C X env h' adr x lv := by
  cases lv with
  | dat d => obtain ⟨v, l, r⟩ := o; exact ⟨v, l.keeps hk, r.keeps hk⟩
  | own d => exact ⟨o.1.keeps hk, OwnAt.keeps hk o.2⟩
  | gl d => exact o
  | bi v => exact o
  | unb => exact o
  | kn ys => exact o
theorem RealE.keeps {C : Cx} {env : Env} {X : Addr → Prop} {ρ : Store} {adr : Str → Addr} {h h' : Heap} (R : RealE C env X ρ adr h) (hk : Keep h h') : RealE C env X ρ adr h' where
  base := R.base.keeps hk
  ns := let ⟨m, n⟩ := R.ns; ⟨m, n.keeps hk⟩
  cells := fun x c e => let ⟨v, q⟩ := R.cells x c e; ⟨v, q.keeps hk⟩
  ents := fun x lv hm => (R.ents x lv hm).keeps hk
  alive := fun a ha => let ⟨o, e⟩ := R.alive a ha; ⟨o, hk _ _ e⟩
theorem RealS.keeps {C : Cx} {env : Env} {X : Addr → Prop} {hB : Heap} {ρ : Store} {adr : Str → Addr} {h h' : Heap} (R : RealS C env X hB ρ adr h) (hk : Keep h h') : RealS C env X hB ρ adr h' :=
  { R with toRealE := R.toRealE.keeps hk, keep := fun b o e => hk b o (R.keep b o e) }

/-- every barred address is alive -/
theorem RealE.xx_alive {C : Cx} {env : Env} {X : Addr → Prop} {ρ : Store} {adr : Str → Addr} {h : Heap} (R : RealE C env X ρ adr h) {a : Addr} (ha : XX X env ρ adr a) : ∃ o, h.get? a = some o := by
  rcases ha with ha | rfl | ⟨x, ha⟩ | ⟨x, d, hm, rfl⟩
  · exact R.alive a ha
  · obtain ⟨m, o, es, ep, e, _⟩ := R.ns; exact ⟨o, e⟩
  · obtain ⟨v, o, e, _⟩ := R.cells x a ha; exact ⟨o, e⟩
  · have := (R.ents x _ hm).2
    cases d with
    | list ds => obtain ⟨vs, ⟨n, hp⟩, _⟩ := this; exact ⟨_, hp⟩
    | dic ks => obtain ⟨_, kvs, ⟨o, _, _, e, _⟩, _⟩ := this; exact ⟨o, e⟩
    | _ => exact this.elim
theorem RealE.fresh {C : Cx} {env : Env} {X : Addr → Prop} {ρ : Store} {adr : Str → Addr} {h : Heap} (R : RealE C env X ρ adr h) {a : Addr} (ha : h.get? a = none) : ¬ XX X env ρ adr a := fun q => by
  obtain ⟨o, e⟩ := R.xx_alive q; rw [ha] at e; cases e
theorem get_none {h : Heap} {a : Addr} (ha : h.objs.size ≤ a) : h.get? a = none := by
  cases e : h.get? a with
  | none => rfl
  | some o => exact absurd (Heap.lt_size e) (Nat.not_lt.mpr ha)

/-! the judgements -/
/-- an expression: nothing that stood turns; the value bears d -/
def EvE (C : Cx) (k : Nat) (ρ : Store) (e : Expr) (d : D) : Prop :=
  ∀ (A : Around) (env : Env) (X : Addr → Prop) (adr : Str → Addr) (s : Shared) (E : Value → Shared → Prop), Room k A → EnvOK env → RealE C env X ρ adr s.heap →
    wpAny (model C.prog C.w) A (eval e env) (fun v s' => Keeps s s' ∧ Rp C (XX X env ρ adr) s'.heap v d) E s
/-- a test -/
def EvT (C : Cx) (k : Nat) (ρ : Store) (e : Expr) (b : Bool) : Prop :=
  ∀ (A : Around) (env : Env) (X : Addr → Prop) (adr : Str → Addr) (s : Shared) (E : Value → Shared → Prop), Room k A → EnvOK env → RealE C env X ρ adr s.heap →
    wpAny (model C.prog C.w) A (isTrue e env (eval e env)) (fun b' s' => Keeps s s' ∧ b' = b) E s

inductive Out where
  | next (ρ : Store)
  | ret (d : D)
def OutOK (C : Cx) (env : Env) (X : Addr → Prop) (hB : Heap) (s : Shared) (f : Flow) (s' : Shared) : Out → Prop
  | .next ρ => f = .next ∧ ∃ h' tk, s' = { s with heap := h', toks := tk } ∧ ∃ adr, RealS C env X hB ρ adr h'
  | .ret d => ∃ v h' tk, f = .ret v ∧ s' = { s with heap := h', toks := tk } ∧ Keep hB h' ∧ Rp C X h' v d
def Ev1 (C : Cx) (k : Nat) (ρ : Store) (st : Stmt) (out : Out) : Prop :=
  ∀ (A : Around) (env : Env) (X : Addr → Prop) (hB : Heap) (adr : Str → Addr) (s : Shared) (E : Value → Shared → Prop), Room k A → EnvOK env → RealS C env X hB ρ adr s.heap →
    wpAny (model C.prog C.w) A (exec st env) (fun f s' => OutOK C env X hB s f s' out) E s
def EvS (C : Cx) (k : Nat) (ρ : Store) (ss : List Stmt) (out : Out) : Prop :=
  ∀ (A : Around) (env : Env) (X : Addr → Prop) (hB : Heap) (adr : Str → Addr) (s : Shared) (E : Value → Shared → Prop), Room k A → EnvOK env → RealS C env X hB ρ adr s.heap →
    wpAny (model C.prog C.w) A (execs ss env) (fun f s' => OutOK C env X hB s f s' out) E s
/-- a def's contract -/
def FnOK (C : Cx) (k : Nat) (f : Str) (ds : List D) (d : D) : Prop :=
  ∀ (A : Around) (X : Addr → Prop) (s : Shared) (fa : Addr) (vs : List Value), Room k A → Base C s.heap → (∀ a, X a → ∃ o, s.heap.get? a = some o) → C.mg f = some (.ref fa) → RpAll C X s.heap vs ds →
    codeAny (model C.prog C.w) A (.call (.ref fa) ⟨vs, []⟩) (fun r s' => ∃ v, r = .ok (.ret v) ∧ Keeps s s' ∧ Rp C X s'.heap v d) s
theorem len_1 {α : Type} {l : List α} (h : l.length = 1) : ∃ a, l = [a] := List.length_eq_one_iff.mp h
theorem len_2 {α : Type} {l : List α} (h : l.length = 2) : ∃ a b, l = [a, b] := by
  cases l with
  | nil => cases h
  | cons a l => obtain ⟨b, rfl⟩ := len_1 (Nat.succ.inj h); exact ⟨a, b, rfl⟩
theorem len_3 {α : Type} {l : List α} (h : l.length = 3) : ∃ a b c, l = [a, b, c] := by
  cases l with
  | nil => cases h
  | cons a l => obtain ⟨b, c, rfl⟩ := len_2 (Nat.succ.inj h); exact ⟨a, b, c, rfl⟩
theorem len_4 {α : Type} {l : List α} (h : l.length = 4) : ∃ a b c d, l = [a, b, c, d] := by
  cases l with
  | nil => cases h
  | cons a l => obtain ⟨b, c, d, rfl⟩ := len_3 (Nat.succ.inj h); exact ⟨a, b, c, d, rfl⟩
theorem memN {α : Type} {l : List α} {a : α} (n : Nat) (h : l[n]? = some a) : a ∈ l := List.mem_of_getElem? h
end Mine
-- part Abs2
open PySem
set_option Elab.async false
namespace Mine
variable {C : Cx} {k : Nat} {ρ : Store}

theorem Keeps.refl (s : Shared) : Keeps s s := ⟨s.heap, s.toks, rfl, fun _ _ e => e⟩
theorem Keeps.trans {s s' s'' : Shared} (a : Keeps s s') (b : Keeps s' s'') : Keeps s s'' := by
  obtain ⟨h1, t1, rfl, k1⟩ := a
  obtain ⟨h2, t2, rfl, k2⟩ := b
  exact ⟨h2, t2, rfl, fun b o e => k2 b o (k1 b o e)⟩
theorem Keeps.keep {s s' : Shared} (a : Keeps s s') : Keep s.heap s'.heap := by
  obtain ⟨h1, t1, rfl, k1⟩ := a; exact k1
theorem Keeps.mk' {s : Shared} {h : Heap} {tk : Nat} (k : Keep s.heap h) : Keeps s { s with heap := h, toks := tk } := ⟨h, tk, rfl, k⟩
theorem Keeps.tok {s : Shared} {tk : Nat} : Keeps s { s with toks := tk } := ⟨s.heap, tk, rfl, fun _ _ e => e⟩

theorem Room.up {k k' : Nat} {A : Around} (R : Room k' A) (h : k ≤ k') : Room k A := ⟨R.hd, by have := R.depth; lia, by have := R.units; lia⟩
theorem Room.in1 {A : Around} (R : Room (k + 1) A) : Room k A.in1 := ⟨R.hd, by have := R.depth; show A.depth + k ≤ 900; lia, by have := R.units; show A.units + 1 + 64 * k ≤ 9000; lia⟩
theorem Room.lim {A : Around} (R : Room k A) : A.depth < recursionLimit := by have := R.depth; show A.depth < 1000; lia

theorem EvE.up {k' : Nat} {e : Expr} {d : D} (h : EvE C k ρ e d) (hk : k ≤ k') : EvE C k' ρ e d := fun A env X adr s E R => h A env X adr s E (R.up hk)
theorem EvT.up {k' : Nat} {e : Expr} {b : Bool} (h : EvT C k ρ e b) (hk : k ≤ k') : EvT C k' ρ e b := fun A env X adr s E R => h A env X adr s E (R.up hk)
theorem Ev1.up {k' : Nat} {e : Stmt} {o : Out} (h : Ev1 C k ρ e o) (hk : k ≤ k') : Ev1 C k' ρ e o := fun A env X hB adr s E R => h A env X hB adr s E (R.up hk)
theorem EvS.up {k' : Nat} {e : List Stmt} {o : Out} (h : EvS C k ρ e o) (hk : k ≤ k') : EvS C k' ρ e o := fun A env X hB adr s E R => h A env X hB adr s E (R.up hk)
theorem FnOK.up {k' : Nat} {f : Str} {ds : List D} {d : D} (h : FnOK C k f ds d) (hk : k ≤ k') : FnOK C k' f ds d := fun A X s fa vs R => h A X s fa vs (R.up hk)

/-! names -/
theorem loc_load {M : Model} {A : Around} {env : Env} {s : Shared} {x : Str} {v : Value} {Q : Value → Shared → Prop} {E : Value → Shared → Prop} (o : EnvOK env) (l : Loc env s.heap x v) (h : Q v s) :
    wpAny M A (loadName env x) Q E s := by
  rcases l with ⟨a, m, n, e⟩ | ⟨a, c, e, q⟩
  · exact wpAny_loadName_local o.kind a n e h
  · exact wpAny_loadName_cell o.kind a e q h
theorem EvE.name {x : Str} {pos : Pos} {d : D} (hm : (x, LV.dat d) ∈ ρ) (hd : (x == ("__debug__" : Str)) = false := by decide) : EvE C k ρ (.Name x pos) d := by
  intro A env X adr s E R o r
  obtain ⟨v, l, rp⟩ := r.ents _ _ hm
  exact wpAny_Name (loc_load o l ⟨.refl s, rp⟩) hd
theorem EvE.gname {x : Str} {pos : Pos} {d : D} (hm : (x, LV.gl d) ∈ ρ) (hd : (x == ("__debug__" : Str)) = false := by decide) : EvE C k ρ (.Name x pos) d := by
  intro A env X adr s E R o r
  obtain ⟨hk, v, hv, rp⟩ := r.ents _ _ hm
  exact Calls.Name_function_global o.kind hk (Calls.loadGlobal_global (by rw [o.glob]; exact r.base.g) hv ⟨.refl s, rp _ _⟩) hd
theorem name_bi {x : Str} {pos : Pos} {v : Value} {A : Around} {env : Env} {X : Addr → Prop} {adr : Str → Addr} {s : Shared} {E : Value → Shared → Prop} {Q : Value → Shared → Prop}
    (hm : (x, LV.bi v) ∈ ρ) (o : EnvOK env) (r : RealE C env X ρ adr s.heap) (h : Q v s) (hd : (x == ("__debug__" : Str)) = false := by decide) : wpAny (model C.prog C.w) A (eval (.Name x pos) env) Q E s := by
  obtain ⟨hk, hg, hv⟩ := r.ents _ _ hm
  exact Calls.Name_function_global o.kind hk (Calls.loadGlobal_builtin (by rw [o.glob]; exact r.base.g) hg (by rw [o.blt]; exact r.base.b) hv h) hd

/-! constants -/
theorem EvE.cint {i : Int} {kd : Nat} {pos : Pos} : EvE C k ρ (.Constant (.int i) kd pos) (.int i) := fun _ _ _ _ _ _ _ _ _ => wpAny_Constant_int ⟨.tok, .int _ _⟩
theorem EvE.cstr {x : Str} {kd : Nat} {pos : Pos} : EvE C k ρ (.Constant (.str x) kd pos) (.str x) := fun _ _ _ _ _ _ _ _ _ => wpAny_Constant_str ⟨.tok, .str _ _⟩
theorem EvE.cbool {b : Bool} {kd : Nat} {pos : Pos} : EvE C k ρ (.Constant (.bool b) kd pos) (.bool b) := fun _ _ _ _ _ _ _ _ _ => wpAny_Constant_bool ⟨.refl _, .bool _⟩

/-! two-place operators -/
abbrev Alive (X : Addr → Prop) (h : Heap) : Prop := ∀ a, X a → ∃ o, h.get? a = some o
theorem Alive.fresh {X : Addr → Prop} {h : Heap} (al : Alive X h) {a : Addr} (ha : h.objs.size ≤ a) : ¬ X a := fun q => by
  obtain ⟨o, e⟩ := al a q; rw [get_none ha] at e; cases e

def BinOK (C : Cx) (k : Nat) (op : Operator) (a b d : D) : Prop :=
  ∀ (A : Around) (X : Addr → Prop) (s : Shared) (E : Value → Shared → Prop) (va vb : Value), Room k A → Base C s.heap → Alive X s.heap → Rp C X s.heap va a → Rp C X s.heap vb b →
    wpAny (model C.prog C.w) A (binaryOp op va vb) (fun v s' => Keeps s s' ∧ Rp C X s'.heap v d) E s
theorem EvE.bin {l r : Expr} {op : Operator} {pos : Pos} {a b d : D} (hl : EvE C k ρ l a) (hr : EvE C k ρ r b) (ho : BinOK C k op a b d) : EvE C k ρ (.BinOp l op r pos) d := by
  intro A env X adr s E R o re
  refine wpAny_BinOp (wpAny_mono (hl A env X adr s E R o re) (fun va s₁ h₁ => wpAny_mono (hr A env X adr s₁ E R o (re.keeps h₁.1.keep)) (fun vb s₂ h₂ => ?_) fun _ _ e => e) fun _ _ e => e)
  have re2 := (re.keeps h₁.1.keep).keeps h₂.1.keep
  exact wpAny_mono (ho A _ s₂ E va vb R re2.base (fun a q => re2.xx_alive q) (h₁.2.keeps h₂.1.keep) h₂.2) (fun v s₃ h₃ => ⟨(h₁.1.trans h₂.1).trans h₃.1, h₃.2⟩) fun _ _ e => e

theorem BinOK.add {a b : Int} : BinOK C k .Add (.int a) (.int b) (.int (a + b)) := fun A X s E va vb _ _ _ h1 h2 => by
  (first | cases h1 using Rp.intE | cases h1 using Rp.strE | cases h1 using Rp.boolE | cases h1 using RpAll.nilE | cases h1); (first | cases h2 using Rp.intE | cases h2 using Rp.strE | cases h2 using Rp.boolE | cases h2 using RpAll.nilE | cases h2); exact P.add_int ⟨.tok, .int _ _⟩
theorem BinOK.sub {a b : Int} : BinOK C k .Sub (.int a) (.int b) (.int (a - b)) := fun A X s E va vb _ _ _ h1 h2 => by
  (first | cases h1 using Rp.intE | cases h1 using Rp.strE | cases h1 using Rp.boolE | cases h1 using RpAll.nilE | cases h1); (first | cases h2 using Rp.intE | cases h2 using Rp.strE | cases h2 using Rp.boolE | cases h2 using RpAll.nilE | cases h2); exact P.sub_int ⟨.tok, .int _ _⟩
theorem BinOK.mod {a b : Int} (hb : b ≠ 0) : BinOK C k .Mod (.int a) (.int b) (.int (a.fmod b)) := fun A X s E va vb _ _ _ h1 h2 => by
  (first | cases h1 using Rp.intE | cases h1 using Rp.strE | cases h1 using Rp.boolE | cases h1 using RpAll.nilE | cases h1); (first | cases h2 using Rp.intE | cases h2 using Rp.strE | cases h2 using Rp.boolE | cases h2 using RpAll.nilE | cases h2); exact PyProof.Rows.mod_int hb ⟨.tok, .int _ _⟩
theorem BinOK.fdiv {a b : Int} (hb : b ≠ 0) (hs : b.natAbs < 1073741824) : BinOK C k .FloorDiv (.int a) (.int b) (.int (a.fdiv b)) := fun A X s E va vb _ _ _ h1 h2 => by
  (first | cases h1 using Rp.intE | cases h1 using Rp.strE | cases h1 using Rp.boolE | cases h1 using RpAll.nilE | cases h1); (first | cases h2 using Rp.intE | cases h2 using Rp.strE | cases h2 using Rp.boolE | cases h2 using RpAll.nilE | cases h2); exact PyProof.Rows.floordiv_int hb ⟨.tok, .int _ _⟩ (Or.inl (PyProof.noPylong_small hs))
theorem BinOK.mul {a b : Int} (hm : IntMulOk a b) : BinOK C k .Mult (.int a) (.int b) (.int (a * b)) := fun A X s E va vb _ _ _ h1 h2 => by
  (first | cases h1 using Rp.intE | cases h1 using Rp.strE | cases h1 using Rp.boolE | cases h1 using RpAll.nilE | cases h1); (first | cases h2 using Rp.intE | cases h2 using Rp.strE | cases h2 using Rp.boolE | cases h2 using RpAll.nilE | cases h2); exact P.mul_int ⟨.tok, .int _ _⟩ hm
theorem BinOK.addBB {a b : Bool} : BinOK C k .Add (.bool a) (.bool b) (.int (PyProof.Rows.b2i a + PyProof.Rows.b2i b)) := fun A X s E va vb _ _ _ h1 h2 => by
  (first | cases h1 using Rp.intE | cases h1 using Rp.strE | cases h1 using Rp.boolE | cases h1 using RpAll.nilE | cases h1); (first | cases h2 using Rp.intE | cases h2 using Rp.strE | cases h2 using Rp.boolE | cases h2 using RpAll.nilE | cases h2); exact PyProof.Rows.add_bool ⟨.tok, .int _ _⟩
theorem BinOK.addIB {a : Int} {b : Bool} : BinOK C k .Add (.int a) (.bool b) (.int (a + PyProof.Rows.b2i b)) := fun A X s E va vb _ _ _ h1 h2 => by
  (first | cases h1 using Rp.intE | cases h1 using Rp.strE | cases h1 using Rp.boolE | cases h1 using RpAll.nilE | cases h1); (first | cases h2 using Rp.intE | cases h2 using Rp.strE | cases h2 using Rp.boolE | cases h2 using RpAll.nilE | cases h2); exact add_int_bool ⟨.tok, .int _ _⟩
theorem BinOK.addS {a b : Str} (hs : a.length + b.length ≤ sizeLine) : BinOK C k .Add (.str a) (.str b) (.str (a ++ b)) := fun A X s E va vb _ _ _ h1 h2 => by
  (first | cases h1 using Rp.intE | cases h1 using Rp.strE | cases h1 using Rp.boolE | cases h1 using RpAll.nilE | cases h1); (first | cases h2 using Rp.intE | cases h2 using Rp.strE | cases h2 using Rp.boolE | cases h2 using RpAll.nilE | cases h2); exact PyProof.Rows.add_str (fun _ _ => ⟨.tok, .str _ _⟩) hs
theorem BinOK.addL {a b : List D} (hs : a.length + b.length ≤ sizeLine) : BinOK C k .Add (.list a) (.list b) (.list (a ++ b)) := fun A X s E va vb _ _ al h1 h2 => by
  cases h1 using Rp.listE with
  | @list a1 vs1 n1 x1 g1 r1 => cases h2 using Rp.listE with
    | @list a2 vs2 n2 x2 g2 r2 =>
      refine P.add_list g1 g2 ⟨.mk' fun b o e => Heap.get?_push_of_some _ e, ?_⟩ (by have e1 := r1.length; have e2 := r2.length; simp at e1 e2; lia)
      refine .list (al.fresh (Nat.le_refl _)) (Heap.get?_push_size _ rfl) ?_
      rw [Array.toList_append]
      exact (r1.keeps fun b o e => Heap.get?_push_of_some _ e).append (r2.keeps fun b o e => Heap.get?_push_of_some _ e)
end Mine
-- part Abs3
open PySem
set_option Elab.async false
namespace Mine
variable {C : Cx} {k : Nat} {ρ : Store}

/-! data without dicts and code, as the library reads them -/
mutual
def toPy : D → PyData
  | .none => .none
  | .bool b => .bool b
  | .int i => .int i
  | .str x => .str x
  | .list ds => .list (toPys ds)
  | .tup ds => .tuple (toPys ds)
  | .dic _ => .none
  | .fn _ => .none
  | .cls => .none
  | .re => .none
  | .inst _ => .none
def toPys : List D → List PyData
  | [] => []
  | d :: ds => toPy d :: toPys ds
end
def okD : Nat → D → Bool
  | _, .none => true
  | _, .bool _ => true
  | _, .int _ => true
  | _, .str x => PyData.strOk x
  | n + 1, .list ds => ds.all (okD n)
  | n + 1, .tup ds => ds.all (okD n)
  | _, _ => false
theorem toPys_map : ∀ ds : List D, toPys ds = ds.map toPy
  | [] => by rw [toPys]; rfl
  | d :: ds => by rw [toPys, toPys_map ds]; rfl

theorem readsAll_of {X : Addr → Prop} {h : Heap} {n : Nat} (H : ∀ {v : Value} {d : D}, Rp C X h v d → okD n d = true → ∃ as, Reads h v (toPy d) as) {vs : List Value} {ds : List D} (r : RpAll C X h vs ds) (hk : ∀ d ∈ ds, okD n d = true) : ∃ as, ReadsAll h vs (toPys ds) as := by
  induction ds generalizing vs with
  | nil => cases r using RpAll.nilE; rw [toPys]; exact ⟨_, ReadsAll.nil⟩
  | cons d ds ih =>
    cases r using RpAll.consE with
    | cons a r =>
      have q := H a (hk _ (.head _))
      have p := ih r fun d hm => hk d (.tail _ hm)
      rw [toPys]
      exact q.elim fun _ q => p.elim fun _ p => ⟨_, ReadsAll.cons q p⟩
theorem Rp.reads {X : Addr → Prop} {h : Heap} {v : Value} {d : D} (n : Nat) (r : Rp C X h v d) (hk : okD n d = true) : ∃ as, Reads h v (toPy d) as := by
  induction n generalizing v d with
  | zero =>
    cases d with
    | none => rw [toPy, Rp.none_inv r]; exact ⟨_, Reads.none⟩
    | bool b => cases r using Rp.boolE; rw [toPy]; exact ⟨_, Reads.bool b⟩
    | int i => cases r using Rp.intE; rw [toPy]; exact ⟨_, Reads.int _ _⟩
    | str x => cases r using Rp.strE; rw [toPy]; exact ⟨_, Reads.str _ _⟩
    | list ds => exact absurd hk Bool.false_ne_true
    | tup ds => exact absurd hk Bool.false_ne_true
    | dic ks => exact absurd hk Bool.false_ne_true
    | fn f => exact absurd hk Bool.false_ne_true
    | cls => exact absurd hk Bool.false_ne_true
    | re => exact absurd hk Bool.false_ne_true
    | inst d => exact absurd hk Bool.false_ne_true
  | succ n ih =>
    cases d with
    | none => rw [toPy, Rp.none_inv r]; exact ⟨_, Reads.none⟩
    | bool b => cases r using Rp.boolE; rw [toPy]; exact ⟨_, Reads.bool b⟩
    | int i => cases r using Rp.intE; rw [toPy]; exact ⟨_, Reads.int _ _⟩
    | str x => cases r using Rp.strE; rw [toPy]; exact ⟨_, Reads.str _ _⟩
    | list ds =>
      cases r using Rp.listE with
      | list _ g r =>
        rw [toPy]
        exact (readsAll_of (fun a b => ih a b) r (List.all_eq_true.mp hk)).elim fun _ q => ⟨_, Reads.list g rfl rfl q⟩
    | tup ds =>
      cases r using Rp.tupE with
      | tup _ g r =>
        rw [toPy]
        exact (readsAll_of (fun a b => ih a b) r (List.all_eq_true.mp hk)).elim fun _ q => ⟨_, Reads.tuple g rfl rfl q⟩
    | dic ks => exact absurd hk Bool.false_ne_true
    | fn f => exact absurd hk Bool.false_ne_true
    | cls => exact absurd hk Bool.false_ne_true
    | re => exact absurd hk Bool.false_ne_true
    | inst d => exact absurd hk Bool.false_ne_true
theorem RpAll.reads {X : Addr → Prop} {h : Heap} {vs : List Value} {ds : List D} (n : Nat) (r : RpAll C X h vs ds) (hk : ∀ d ∈ ds, okD n d = true) : ∃ as, ReadsAll h vs (toPys ds) as := readsAll_of (fun a b => Rp.reads n a b) r hk
theorem okD_lay : ∀ (n : Nat) (d : D), okD n d = true → (toPy d).canLay0 = true ∧ (toPy d).depth ≤ n := by
  have all : ∀ (n : Nat), (∀ d, okD n d = true → (toPy d).canLay0 = true ∧ (toPy d).depth ≤ n) → ∀ ds : List D, (∀ d ∈ ds, okD n d = true) → PyData.canLayAll0 (toPys ds) = true ∧ PyData.depthAll (toPys ds) ≤ n := by
    intro n ih ds
    induction ds with
    | nil => intro _; simp [toPys, PyData.canLayAll0, PyData.depthAll]
    | cons d ds hi =>
      intro h
      have h1 := ih d (h d (.head _))
      have h2 := hi fun e he => h e (.tail _ he)
      simp only [toPys, PyData.canLayAll0, PyData.depthAll, h1.1, h2.1, Bool.and_self, true_and]
      have a1 := h1.2
      have a2 := h2.2
      lia
  intro n
  induction n with
  | zero =>
    intro d h
    cases d <;> simp_all [okD, toPy, PyData.canLay0, PyData.depth]
  | succ n ih =>
    intro d h
    cases d with
    | list ds =>
      have q := all n ih ds (by simpa [okD] using h)
      have q2 := q.2
      simp only [toPy, PyData.canLay0, PyData.depth, q.1, true_and]
      lia
    | tup ds =>
      have q := all n ih ds (by simpa [okD] using h)
      have q2 := q.2
      simp only [toPy, PyData.canLay0, PyData.depth, q.1, true_and]
      lia
    | str x => simp [okD] at h; simp [toPy, PyData.canLay0, PyData.depth, h]
    | none => simp [toPy, PyData.canLay0, PyData.depth]
    | bool b => simp [toPy, PyData.canLay0, PyData.depth]
    | int i => simp [toPy, PyData.canLay0, PyData.depth]
    | _ => simp [okD] at h

def deq (a b : D) : Bool := PyData.eqv (toPy a) (toPy b)

/-! comparisons -/
def CmpOK (C : Cx) (k : Nat) (op : CmpOp) (a b : D) (r : Bool) : Prop :=
  ∀ (A : Around) (X : Addr → Prop) (s : Shared) (E : Value → Shared → Prop) (va vb : Value), Room k A → Rp C X s.heap va a → Rp C X s.heap vb b →
    wpAny (model C.prog C.w) A (compareOp op va vb) (fun v s' => Keeps s s' ∧ v = .bool r) E s
theorem EvE.cmp {l r : Expr} {op : CmpOp} {pos : Pos} {a b : D} {c : Bool} (hl : EvE C k ρ l a) (hr : EvE C k ρ r b) (ho : CmpOK C k op a b c) (hm : behindInMarks op r = false := by with_unfolding_all rfl) :
    EvE C k ρ (.Compare l [op] [r] pos) (.bool c) := by
  intro A env X adr s E R o re
  refine wpAny_Compare1 (wpAny_mono (hl A env X adr s E R o re) (fun va s₁ h₁ => wpAny_mono (hr A env X adr s₁ E R o (re.keeps h₁.1.keep)) (fun vb s₂ h₂ => ?_) fun _ _ e => e) fun _ _ e => e) hm
  exact wpAny_mono (ho A _ s₂ E va vb R (h₁.2.keeps h₂.1.keep) h₂.2) (fun v s₃ h₃ => ⟨(h₁.1.trans h₂.1).trans h₃.1, h₃.2 ▸ .bool _⟩) fun _ _ e => e
theorem EvT.cmp {l r : Expr} {op : CmpOp} {pos : Pos} {a b : D} {c : Bool} (hl : EvE C k ρ l a) (hr : EvE C k ρ r b) (ho : CmpOK C k op a b c) (hm : behindInMarks op r = false := by with_unfolding_all rfl) :
    EvT C k ρ (.Compare l [op] [r] pos) c := by
  intro A env X adr s E R o re
  refine wpAny_isTrue_Compare1 (wpAny_mono (hl A env X adr s E R o re) (fun va s₁ h₁ => wpAny_mono (hr A env X adr s₁ E R o (re.keeps h₁.1.keep)) (fun vb s₂ h₂ => ?_) fun _ _ e => e) fun _ _ e => e) hm
  refine wpAny_mono (ho A _ s₂ E va vb R (h₁.2.keeps h₂.1.keep) h₂.2) (fun v s₃ h₃ => ?_) fun _ _ e => e
  rw [h₃.2]
  exact wpAny_truthy_bool ⟨(h₁.1.trans h₂.1).trans h₃.1, rfl⟩

theorem CmpOK.lt {a b : Int} : CmpOK C k .Lt (.int a) (.int b) (decide (a < b)) := fun A X s E va vb _ h1 h2 => by (first | cases h1 using Rp.intE | cases h1 using Rp.strE | cases h1 using Rp.boolE | cases h1 using RpAll.nilE | cases h1); (first | cases h2 using Rp.intE | cases h2 using Rp.strE | cases h2 using Rp.boolE | cases h2 using RpAll.nilE | cases h2); exact P.lt_int ⟨.refl s, rfl⟩
theorem CmpOK.gt {a b : Int} : CmpOK C k .Gt (.int a) (.int b) (decide (a > b)) := fun A X s E va vb _ h1 h2 => by (first | cases h1 using Rp.intE | cases h1 using Rp.strE | cases h1 using Rp.boolE | cases h1 using RpAll.nilE | cases h1); (first | cases h2 using Rp.intE | cases h2 using Rp.strE | cases h2 using Rp.boolE | cases h2 using RpAll.nilE | cases h2); exact P.gt_int ⟨.refl s, rfl⟩
theorem CmpOK.ge {a b : Int} : CmpOK C k .GtE (.int a) (.int b) (decide (a ≥ b)) := fun A X s E va vb _ h1 h2 => by (first | cases h1 using Rp.intE | cases h1 using Rp.strE | cases h1 using Rp.boolE | cases h1 using RpAll.nilE | cases h1); (first | cases h2 using Rp.intE | cases h2 using Rp.strE | cases h2 using Rp.boolE | cases h2 using RpAll.nilE | cases h2); exact P.ge_int ⟨.refl s, rfl⟩
theorem CmpOK.eqI {a b : Int} : CmpOK C k .Eq (.int a) (.int b) (a == b) := fun A X s E va vb _ h1 h2 => by (first | cases h1 using Rp.intE | cases h1 using Rp.strE | cases h1 using Rp.boolE | cases h1 using RpAll.nilE | cases h1); (first | cases h2 using Rp.intE | cases h2 using Rp.strE | cases h2 using Rp.boolE | cases h2 using RpAll.nilE | cases h2); exact P.eq_int ⟨.refl s, rfl⟩
theorem CmpOK.neI {a b : Int} : CmpOK C k .NotEq (.int a) (.int b) (a != b) := fun A X s E va vb _ h1 h2 => by (first | cases h1 using Rp.intE | cases h1 using Rp.strE | cases h1 using Rp.boolE | cases h1 using RpAll.nilE | cases h1); (first | cases h2 using Rp.intE | cases h2 using Rp.strE | cases h2 using Rp.boolE | cases h2 using RpAll.nilE | cases h2); exact P.ne_int ⟨.refl s, rfl⟩
theorem CmpOK.eqS {a b : Str} : CmpOK C k .Eq (.str a) (.str b) (a == b) := fun A X s E va vb _ h1 h2 => by (first | cases h1 using Rp.intE | cases h1 using Rp.strE | cases h1 using Rp.boolE | cases h1 using RpAll.nilE | cases h1); (first | cases h2 using Rp.intE | cases h2 using Rp.strE | cases h2 using Rp.boolE | cases h2 using RpAll.nilE | cases h2); exact PyProof.Rows.eq_str ⟨.refl s, rfl⟩
theorem CmpOK.neS {a b : Str} : CmpOK C k .NotEq (.str a) (.str b) (a != b) := fun A X s E va vb _ h1 h2 => by (first | cases h1 using Rp.intE | cases h1 using Rp.strE | cases h1 using Rp.boolE | cases h1 using RpAll.nilE | cases h1); (first | cases h2 using Rp.intE | cases h2 using Rp.strE | cases h2 using Rp.boolE | cases h2 using RpAll.nilE | cases h2); exact PyProof.Rows.ne_str ⟨.refl s, rfl⟩
theorem CmpOK.inS {a b : Str} : CmpOK C k .In (.str a) (.str b) (!(Builtin.Str.occurrences b a 0 b.length 1).isEmpty) := fun A X s E va vb _ h1 h2 => by (first | cases h1 using Rp.intE | cases h1 using Rp.strE | cases h1 using Rp.boolE | cases h1 using RpAll.nilE | cases h1); (first | cases h2 using Rp.intE | cases h2 using Rp.strE | cases h2 using Rp.boolE | cases h2 using RpAll.nilE | cases h2); exact PyProof.Rows.in_str ⟨.refl s, rfl⟩
theorem CmpOK.ninS {a b : Str} : CmpOK C k .NotIn (.str a) (.str b) (!(!(Builtin.Str.occurrences b a 0 b.length 1).isEmpty)) := fun A X s E va vb _ h1 h2 => by (first | cases h1 using Rp.intE | cases h1 using Rp.strE | cases h1 using Rp.boolE | cases h1 using RpAll.nilE | cases h1); (first | cases h2 using Rp.intE | cases h2 using Rp.strE | cases h2 using Rp.boolE | cases h2 using RpAll.nilE | cases h2); exact PyProof.Rows.notIn_str ⟨.refl s, rfl⟩
theorem room_min {A : Around} {n : Nat} {a b : Nat} (R : Room k A) (h : a ≤ n) (hn : n ≤ 64) : A.units + 1 + min a b < cLine := by
  have h1 := R.units
  have h2 : min a b ≤ a := Nat.min_le_left _ _
  show A.units + 1 + min a b < 9900
  lia
theorem CmpOK.eq {a b : D} (n : Nat) (ha : okD n a = true) (hb : okD n b = true) (hn : n ≤ 64 := by decide) : CmpOK C k .Eq a b (deq a b) := fun A X s E va vb R h1 h2 => by
  obtain ⟨as, r1⟩ := h1.reads n ha
  obtain ⟨bs, r2⟩ := h2.reads n hb
  exact SeqAt.compareEq_reads r1 r2 (okD_lay n a ha).1 (okD_lay n b hb).1 (by have := room_min R (b := (toPy b).depth) (okD_lay n a ha).2 hn; lia) ⟨.refl s, rfl⟩
theorem CmpOK.ne {a b : D} (n : Nat) (ha : okD n a = true) (hb : okD n b = true) (hn : n ≤ 64 := by decide) : CmpOK C k .NotEq a b (!deq a b) := fun A X s E va vb R h1 h2 => by
  obtain ⟨as, r1⟩ := h1.reads n ha
  obtain ⟨bs, r2⟩ := h2.reads n hb
  exact SeqAt.compareNe_reads r1 r2 (okD_lay n a ha).1 (okD_lay n b hb).1 (by have := room_min R (b := (toPy b).depth) (okD_lay n a ha).2 hn; lia) ⟨.refl s, rfl⟩

/-! a list as an operand: owned or not -/
def RpL (C : Cx) (X : Addr → Prop) (h : Heap) (v : Value) (ds : List D) : Prop := ∃ a vs n, v = .ref a ∧ h.get? a = some { cls := .type "list", data := .seq vs n } ∧ RpAll C X h vs.toList ds
theorem Rp.rpL {X : Addr → Prop} {h : Heap} {v : Value} {ds : List D} (r : Rp C X h v (.list ds)) : RpL C X h v ds := by
  cases r using Rp.listE with | list _ g r => exact ⟨_, _, _, rfl, g, r⟩
theorem RpL.keeps {X : Addr → Prop} {h h' : Heap} {v : Value} {ds : List D} (r : RpL C X h v ds) (hk : Keep h h') : RpL C X h' v ds := by
  obtain ⟨a, vs, n, e, g, r⟩ := r; exact ⟨a, vs, n, e, hk _ _ g, r.keeps hk⟩
def EvL (C : Cx) (k : Nat) (ρ : Store) (e : Expr) (ds : List D) : Prop :=
  ∀ (A : Around) (env : Env) (X : Addr → Prop) (adr : Str → Addr) (s : Shared) (E : Value → Shared → Prop), Room k A → EnvOK env → RealE C env X ρ adr s.heap →
    wpAny (model C.prog C.w) A (eval e env) (fun v s' => Keeps s s' ∧ RpL C (XX X env ρ adr) s'.heap v ds) E s
theorem EvE.evL {e : Expr} {ds : List D} (h : EvE C k ρ e (.list ds)) : EvL C k ρ e ds := fun A env X adr s E R o re => wpAny_mono (h A env X adr s E R o re) (fun _ _ q => ⟨q.1, q.2.rpL⟩) fun _ _ e => e
theorem EvL.own {x : Str} {pos : Pos} {ds : List D} (hm : (x, LV.own (.list ds)) ∈ ρ) (hd : (x == ("__debug__" : Str)) = false := by decide) : EvL C k ρ (.Name x pos) ds := by
  intro A env X adr s E R o r
  obtain ⟨l, vs, ⟨n, g⟩, rp⟩ := r.ents _ _ hm
  exact wpAny_Name (loc_load o l ⟨.refl s, _, _, _, rfl, g, rp⟩) hd

theorem RpL.reads {X : Addr → Prop} {h : Heap} {v : Value} {ds : List D} (n : Nat) (r : RpL C X h v ds) (hk : ds.all (okD n) = true) : ∃ as, Reads h v (.list (toPys ds)) as := by
  obtain ⟨a, vs, m, rfl, g, r⟩ := r
  obtain ⟨as, q⟩ := r.reads n (by simpa using hk)
  exact ⟨_, Reads.list g rfl rfl q⟩
def inL (d : D) (ds : List D) : Bool := ds.any fun y => deq y d
theorem any_toPys (d : D) : ∀ ds : List D, (toPys ds).any (fun y => PyData.eqv y (toPy d)) = inL d ds := fun ds => by
  rw [toPys_map, List.any_map]; rfl
theorem okDs_lay (n : Nat) {ds : List D} (h : ds.all (okD n) = true) : PyData.canLayAll0 (toPys ds) = true ∧ PyData.depthAll (toPys ds) ≤ n := by
  have q := okD_lay (n + 1) (.list ds) (by simpa [okD] using h)
  simp only [toPy, PyData.canLay0, PyData.depth] at q
  exact ⟨q.1, by lia⟩
theorem in_core {op : CmpOp} {neg : Bool} (n : Nat) {l r : Expr} {d : D} {ds : List D} (hl : EvE C k ρ l d) (hr : EvL C k ρ r ds) (h1 : okD n d = true) (h2 : ds.all (okD n) = true) (hop : (op = .In ∧ neg = false) ∨ (op = .NotIn ∧ neg = true)) (hn : n ≤ 60)
    (A : Around) (env : Env) (X : Addr → Prop) (adr : Str → Addr) (s : Shared) (E : Value → Shared → Prop) (Q : Value → Shared → Prop) (R : Room k A) (o : EnvOK env) (re : RealE C env X ρ adr s.heap)
    (hQ : ∀ s', Keeps s s' → Q (.bool (neg != inL d ds)) s') :
    wpAny (model C.prog C.w) A (eval l env) (fun a s₁ => wpAny (model C.prog C.w) A (eval r env) (fun b s₂ => wpAny (model C.prog C.w) A (compareOp op a b) Q E s₂) E s₁) E s := by
  refine wpAny_mono (hl A env X adr s E R o re) (fun va s₁ h₁ => wpAny_mono (hr A env X adr s₁ E R o (re.keeps h₁.1.keep)) (fun vb s₂ h₂ => ?_) fun _ _ e => e) fun _ _ e => e
  obtain ⟨as, rc⟩ := h₂.2.reads n h2
  obtain ⟨bs, rx⟩ := (h₁.2.keeps h₂.1.keep).reads n h1
  have hu : A.units + 1 + min (PyData.depthAll (toPys ds)) (toPy d).depth < cLine := room_min R (okDs_lay n h2).2 (by lia)
  have e : (toPys ds).any (fun y => PyData.eqv y (toPy d)) = inL d ds := any_toPys d ds
  rcases hop with ⟨rfl, rfl⟩ | ⟨rfl, rfl⟩
  · refine SeqAt.in_list_reads rc rx (okDs_lay n h2).1 (okD_lay n d h1).1 hu ?_
    rw [e]; simpa using hQ _ (h₁.1.trans h₂.1)
  · refine SeqAt.notIn_list_reads rc rx (okDs_lay n h2).1 (okD_lay n d h1).1 hu ?_
    rw [e]; simpa using hQ _ (h₁.1.trans h₂.1)
theorem EvT.isin (n : Nat) {l r : Expr} {pos : Pos} {d : D} {ds : List D} (hl : EvE C k ρ l d) (hr : EvL C k ρ r ds) (h1 : okD n d = true) (h2 : ds.all (okD n) = true) (hn : n ≤ 60 := by decide) (hm : behindInMarks .In r = false := by with_unfolding_all rfl) :
    EvT C k ρ (.Compare l [.In] [r] pos) (inL d ds) := fun A env X adr s E R o re =>
  wpAny_isTrue_Compare1 (in_core n hl hr h1 h2 (.inl ⟨rfl, rfl⟩) hn A env X adr s E _ R o re fun s' hk => wpAny_truthy_bool ⟨hk, by simp⟩) hm
theorem EvT.notin (n : Nat) {l r : Expr} {pos : Pos} {d : D} {ds : List D} (hl : EvE C k ρ l d) (hr : EvL C k ρ r ds) (h1 : okD n d = true) (h2 : ds.all (okD n) = true) (hn : n ≤ 60 := by decide) (hm : behindInMarks .NotIn r = false := by with_unfolding_all rfl) :
    EvT C k ρ (.Compare l [.NotIn] [r] pos) (!inL d ds) := fun A env X adr s E R o re =>
  wpAny_isTrue_Compare1 (in_core n hl hr h1 h2 (.inr ⟨rfl, rfl⟩) hn A env X adr s E _ R o re fun s' hk => wpAny_truthy_bool ⟨hk, by simp⟩) hm

/-! tests -/
def TruOK (C : Cx) (d : D) (b : Bool) : Prop :=
  ∀ (A : Around) (X : Addr → Prop) (s : Shared) (E : Value → Shared → Prop) (v : Value), Rp C X s.heap v d → wpAny (model C.prog C.w) A (truthy v) (fun b' s' => Keeps s s' ∧ b' = b) E s
theorem TruOK.bool {b : Bool} : TruOK C (.bool b) b := fun A X s E v h => by (first | cases h using Rp.intE | cases h using Rp.strE | cases h using Rp.boolE | cases h using RpAll.nilE | cases h); exact wpAny_truthy_bool ⟨.refl s, rfl⟩
theorem TruOK.int {i : Int} : TruOK C (.int i) (i != 0) := fun A X s E v h => by (first | cases h using Rp.intE | cases h using Rp.strE | cases h using Rp.boolE | cases h using RpAll.nilE | cases h); exact P.truthy_int ⟨.refl s, rfl⟩
theorem TruOK.none : TruOK C .none false := fun A X s E v h => by (first | cases h using Rp.intE | cases h using Rp.strE | cases h using Rp.boolE | cases h using RpAll.nilE | cases h); exact fun _ _ _ => ⟨.refl s, rfl⟩
theorem TruOK.str {x : Str} (hx : (x.length : Int) < 2 ^ 63) : TruOK C (.str x) ((x.length : Int) != 0) := fun A X s E v h => by (first | cases h using Rp.intE | cases h using Rp.strE | cases h using Rp.boolE | cases h using RpAll.nilE | cases h); exact P.truthy_str (by lia) ⟨.tok, rfl⟩
theorem EvT.val {e : Expr} {d : D} {b : Bool} (h : EvE C k ρ e d) (ht : TruOK C d b) (he : ∀ env whole, isTrue e env whole = (do let v ← whole; standAt e.pos; holding [v] (truthy v)) := by intro _ _; rfl) : EvT C k ρ e b := fun A env X adr s E R o re =>
  wpAny_isTrue_value (wpAny_mono (h A env X adr s E R o re) (fun v s₁ h₁ => wpAny_mono (ht A _ s₁ E v h₁.2) (fun b' s₂ h₂ => ⟨h₁.1.trans h₂.1, h₂.2⟩) fun _ _ e => e) fun _ _ e => e) (he env _)
theorem EvT.not {x : Expr} {pos : Pos} {b : Bool} (h : EvT C k ρ x b) : EvT C k ρ (.UnaryOp .Not x pos) (!b) := fun A env X adr s E R o re =>
  wpAny_isTrue_Not (wpAny_mono (h A env X adr s E R o re) (fun b' s₁ h₁ => ⟨h₁.1, by rw [h₁.2]⟩) fun _ _ e => e)
/-- and, or of tests, a list of them -/
inductive EvAnd (C : Cx) (k : Nat) (ρ : Store) : List Expr → Bool → Prop
  | nil : EvAnd C k ρ [] true
  | cons {x : Expr} {r : List Expr} {a b : Bool} : EvT C k ρ x a → (a = true → EvAnd C k ρ r b) → EvAnd C k ρ (x :: r) (a && b)
inductive EvOr (C : Cx) (k : Nat) (ρ : Store) : List Expr → Bool → Prop
  | nil : EvOr C k ρ [] false
  | cons {x : Expr} {r : List Expr} {a b : Bool} : EvT C k ρ x a → (a = false → EvOr C k ρ r b) → EvOr C k ρ (x :: r) (a || b)
theorem evAnd_wp {A : Around} {env : Env} {X : Addr → Prop} {adr : Str → Addr} (R : Room k A) (o : EnvOK env) {l : List Expr} {b : Bool} (q : EvAnd C k ρ l b) : ∀ (s : Shared) (E : Value → Shared → Prop), RealE C env X ρ adr s.heap →
    wpAny (model C.prog C.w) A (allTrue .And l env) (fun b' s' => Keeps s s' ∧ b' = b) E s := by
  induction q with
  | nil => exact fun s E re => wpAny_allTrue_And_nil ⟨.refl s, rfl⟩
  | @cons x r a b h _ ih =>
    intro s E re
    refine wpAny_allTrue_And_cons (wpAny_mono (h A env X adr s E R o re) (fun b' s₁ h₁ => ?_) fun _ _ e => e)
    rw [h₁.2]
    cases a with
    | false => exact ⟨h₁.1, rfl⟩
    | true => exact wpAny_mono (ih rfl s₁ E (re.keeps h₁.1.keep)) (fun b' s₂ h₂ => ⟨h₁.1.trans h₂.1, by rw [h₂.2]; rfl⟩) fun _ _ e => e
theorem evOr_wp {A : Around} {env : Env} {X : Addr → Prop} {adr : Str → Addr} (R : Room k A) (o : EnvOK env) {l : List Expr} {b : Bool} (q : EvOr C k ρ l b) : ∀ (s : Shared) (E : Value → Shared → Prop), RealE C env X ρ adr s.heap →
    wpAny (model C.prog C.w) A (allTrue .Or l env) (fun b' s' => Keeps s s' ∧ b' = b) E s := by
  induction q with
  | nil => exact fun s E re => wpAny_allTrue_Or_nil ⟨.refl s, rfl⟩
  | @cons x r a b h _ ih =>
    intro s E re
    refine wpAny_allTrue_Or_cons (wpAny_mono (h A env X adr s E R o re) (fun b' s₁ h₁ => ?_) fun _ _ e => e)
    rw [h₁.2]
    cases a with
    | true => exact ⟨h₁.1, rfl⟩
    | false => exact wpAny_mono (ih rfl s₁ E (re.keeps h₁.1.keep)) (fun b' s₂ h₂ => ⟨h₁.1.trans h₂.1, by rw [h₂.2]; rfl⟩) fun _ _ e => e
theorem EvT.and {l : List Expr} {pos : Pos} {b : Bool} (h : EvAnd C k ρ l b) : EvT C k ρ (.BoolOp .And l pos) b := fun _ _ _ _ s E R o re => wpAny_isTrue_BoolOp (evAnd_wp R o h s E re)
theorem EvT.or {l : List Expr} {pos : Pos} {b : Bool} (h : EvOr C k ρ l b) : EvT C k ρ (.BoolOp .Or l pos) b := fun _ _ _ _ s E R o re => wpAny_isTrue_BoolOp (evOr_wp R o h s E re)
/-- or of two bools, as a value -/
theorem EvE.or {x y : Expr} {pos : Pos} {a b : Bool} (hx : EvE C k ρ x (.bool a)) (hy : a = false → EvE C k ρ y (.bool b)) : EvE C k ρ (.BoolOp .Or [x, y] pos) (.bool (a || b)) := by
  intro A env X adr s E R o re
  refine wpAny_Or2 (wpAny_mono (hx A env X adr s E R o re) (fun v s₁ h₁ => ?_) fun _ _ e => e)
  obtain ⟨hk, r⟩ := h₁
  cases r using Rp.boolE with
  | bool =>
    refine wpAny_truthy_bool ?_
    cases a with
    | true => exact ⟨hk, .bool _⟩
    | false =>
      exact wpAny_mono (hy rfl A env X adr s₁ E R o (re.keeps hk.keep)) (fun v s₂ h₂ => ⟨hk.trans h₂.1, by simpa using h₂.2⟩) fun _ _ e => e
theorem EvE.neg {x : Expr} {pos : Pos} {a : Int} (hx : EvE C k ρ x (.int a)) : EvE C k ρ (.UnaryOp .USub x pos) (.int (-a)) := by
  intro A env X adr s E R o re
  refine wpAny_UnaryOp (wpAny_mono (hx A env X adr s E R o re) (fun v s₁ h₁ => ?_) fun _ _ e => e)
  obtain ⟨hk, r⟩ := h₁
  cases r using Rp.intE with
  | int _ => exact P.neg_int ⟨hk.trans .tok, .int _ _⟩
end Mine
-- part Abs4
open PySem
set_option Elab.async false
set_option linter.unusedVariables false
namespace Mine
variable {C : Cx} {k : Nat} {ρ : Store}

/-! lists of expressions -/
def PlainE (e : Expr) : Prop := ∀ (rest : List Expr) (env : Env), starEach (e :: rest) env = (false, eval e env) :: starEach rest env
inductive EvEs (C : Cx) (k : Nat) (ρ : Store) : List Expr → List D → Prop
  | nil : EvEs C k ρ [] []
  | cons {e : Expr} {d : D} {es : List Expr} {ds : List D} (h : EvE C k ρ e d) (r : EvEs C k ρ es ds) (hp : PlainE e := by intro _ _; rfl) : EvEs C k ρ (e :: es) (d :: ds)
theorem EvEs.wp {A : Around} {env : Env} {X : Addr → Prop} {adr : Str → Addr} {pos : Pos} (R : Room k A) (o : EnvOK env) {es : List Expr} {ds : List D} (l : EvEs C k ρ es ds) : ∀ (s : Shared) (E : Value → Shared → Prop), RealE C env X ρ adr s.heap →
    wpAny (model C.prog C.w) A (spliced (backTo pos (starEach es env))) (fun vs s' => Keeps s s' ∧ RpAll C (XX X env ρ adr) s'.heap vs ds) E s := by
  induction l with
  | nil => exact fun s E re => wpAny_items_nil ⟨.refl s, .nil⟩
  | cons h r hp ih =>
    exact fun s E re => wpAny_items_cons (wpAny_mono (h A env X adr s E R o re) (fun v s₁ h₁ => wpAny_mono (ih s₁ E (re.keeps h₁.1.keep)) (fun vs s₂ h₂ =>
      ⟨h₁.1.trans h₂.1, .cons (h₁.2.keeps h₂.1.keep) h₂.2⟩) fun _ _ e => e) fun _ _ e => e) (hp _ _)
theorem EvEs.plain {es : List Expr} {ds : List D} (h : EvEs C k ρ es ds) (pos : Pos) (env : Env) : (backTo pos (starEach es env)).any (·.1) = false := by
  induction h with
  | nil => rfl
  | cons _ _ hp ih => rw [hp]; exact ih

/-! displays -/
theorem EvE.tup {es : List Expr} {ds : List D} {kd : Nat} {pos : Pos} (h : EvEs C k ρ es ds) (hs : ds.length ≤ sizeLine := by decide) : EvE C k ρ (.Tuple es kd pos) (.tup ds) := by
  intro A env X adr s E R o re
  refine wpAny_Tuple (wpAny_mono (h.wp R o s E re) (fun vs s₁ h₁ => ⟨by rw [h₁.2.length]; exact hs, h₁.1.trans (.mk' fun b o e => Heap.get?_push_of_some _ e), ?_⟩) fun _ _ e => e)
  exact .tup ((re.keeps h₁.1.keep).fresh (get_none (Nat.le_refl _))) (Heap.get?_push_size _ rfl) (by simpa using h₁.2.keeps fun b o e => Heap.get?_push_of_some _ e)
theorem EvE.lst {es : List Expr} {ds : List D} {pos : Pos} (h : EvEs C k ρ es ds) (hs : ds.length ≤ sizeLine := by decide) : EvE C k ρ (.List es pos) (.list ds) := by
  intro A env X adr s E R o re
  refine wpAny_List (wpAny_mono (h.wp R o s E re) (fun vs s₁ h₁ => ⟨by rw [h₁.2.length]; exact hs, h₁.1.trans (.mk' fun b o e => Heap.get?_push_of_some _ e), ?_⟩) fun _ _ e => e)
  exact .list ((re.keeps h₁.1.keep).fresh (get_none (Nat.le_refl _))) (Heap.get?_push_size _ rfl) (by simpa using h₁.2.keeps fun b o e => Heap.get?_push_of_some _ e)

/-! calls of the text's defs -/
theorem wpAny_Call_Name {M : Model} {A : Around} {E : Value → Shared → Prop} {s : Shared} {env : Env} {x : Str} {p pos : Pos} {args : List Expr} {Q : Value → Shared → Prop}
    (h : wpAny M A (eval (.Name x p) env) (fun f s₁ => wpAny M A (callWith pos f [] (backTo pos (starEach args env)) []) Q E s₁) E s) : wpAny M A (eval (.Call (.Name x p) args [] pos) env) Q E s := wpAny_bind h
theorem fn_at {h : Heap} {f : Str} {fa : Addr} (B : Base C h) (hf : C.mg f = some (.ref fa)) (hd : ∃ d, C.defs f = some d) : ∃ o fd, h.get? fa = some o ∧ o.data = .func fd := by
  obtain ⟨d, hd⟩ := hd
  obtain ⟨a, o, pm, cd, doc, h1, h2, h3, _⟩ := B.fns f d hd
  rw [hf] at h1
  (first | cases h1 using Rp.intE | cases h1 using Rp.strE | cases h1 using Rp.boolE | cases h1 using RpAll.nilE | cases h1)
  exact ⟨o, _, h2, h3⟩
theorem EvE.call {x : Str} {p pos : Pos} {f : Str} {e : Expr} {es : List Expr} {ds : List D} {d : D} (hx : EvE C k ρ (.Name x p) (.fn f)) (ha : EvEs C k ρ (e :: es) ds) (hf : FnOK C k f ds d) (hd : ∃ d, C.defs f = some d) :
    EvE C k ρ (.Call (.Name x p) (e :: es) [] pos) d := by
  intro A env X adr s E R o re
  refine wpAny_Call_Name (wpAny_mono (hx A env X adr s E R o re) (fun v s₁ h₁ => ?_) fun _ _ e => e)
  obtain ⟨hk, r⟩ := h₁
  have re1 := re.keeps hk.keep
  cases r with
  | @fn _ fa hfa =>
    obtain ⟨ob, fd, ho, hdat⟩ := fn_at re1.base hfa hd
    have hp : PlainE e := by cases ha with | cons _ _ hp => exact hp
    refine PyProof.Rows.callWith_def hdat (wpAny_mono (ha.wp R o s₁ E re1) (fun vs s₂ h₂ => ⟨h₂.1.keep _ _ ho, ?_⟩) fun _ _ e => e) (hp _ _)
    have re2 := re1.keeps h₂.1.keep
    refine wpAny_call (codeAny_mono (hf A (XX X env ρ adr) s₂ fa vs R re2.base (fun a q => re2.xx_alive q) hfa h₂.2) fun r s' hr => ?_)
    obtain ⟨v, rfl, hk3, rv⟩ := hr
    exact ⟨(hk.trans h₂.1).trans hk3, rv⟩

/-! built-in functions -/
def BiOK (C : Cx) (k : Nat) (id : String) (ds : List D) (d : D) : Prop :=
  ∀ (A : Around) (X : Addr → Prop) (s : Shared) (E : Value → Shared → Prop) (vs : List Value), Room k A → Alive X s.heap → RpAll C X s.heap vs ds →
    wpAny (model C.prog C.w) A (call (.builtin id) vs) (fun v s' => Keeps s s' ∧ Rp C X s'.heap v d) E s
theorem EvE.bi {x : Str} {p pos : Pos} {id : String} {e : Expr} {es : List Expr} {ds : List D} {d : D} (hx : (x, LV.bi (.builtin id)) ∈ ρ) (ha : EvEs C k ρ (e :: es) ds) (hf : BiOK C k id ds d)
    (hd : (x == ("__debug__" : Str)) = false := by decide) : EvE C k ρ (.Call (.Name x p) (e :: es) [] pos) d := by
  intro A env X adr s E R o re
  refine wpAny_Call_Name (name_bi hx o re ?_ hd)
  have hp : PlainE e ∧ ∃ ds', EvEs C k ρ es ds' := by cases ha with | cons _ r hp => exact ⟨hp, _, r⟩
  obtain ⟨hp, ds', hr⟩ := hp
  refine PyProof.Rows.callWith_builtin1 (wpAny_mono (ha.wp R o s E re) (fun vs s₂ h₂ => ?_) fun _ _ e => e) (hp _ _) (hr.plain _ _)
  have re2 := re.keeps h₂.1.keep
  exact wpAny_mono (hf A _ s₂ E vs R (fun a q => re2.xx_alive q) h₂.2) (fun v s₃ h₃ => ⟨h₂.1.trans h₃.1, h₃.2⟩) fun _ _ e => e

theorem BiOK.lenL {ds : List D} (hs : (ds.length : Int) < 2 ^ 63) : BiOK C k "len" [.list ds] (.int ds.length) := by
  intro A X s E vs R al r
  cases r using RpAll.consE with
  | cons h1 h2 => (first | cases h2 using Rp.intE | cases h2 using Rp.strE | cases h2 using Rp.boolE | cases h2 using RpAll.nilE | cases h2); cases h1 using Rp.listE with
    | @list a vs n x g r =>
      have e : vs.size = ds.length := by rw [← r.length]; simp
      refine Calls.call_len_list ⟨_, g, rfl, n, rfl⟩ (by rw [e]; exact hs) ⟨.tok, ?_⟩
      rw [e]; exact .int _ _
theorem BiOK.lenT {ds : List D} (hs : (ds.length : Int) < 2 ^ 63) : BiOK C k "len" [.tup ds] (.int ds.length) := by
  intro A X s E vs R al r
  cases r using RpAll.consE with
  | cons h1 h2 => (first | cases h2 using Rp.intE | cases h2 using Rp.strE | cases h2 using Rp.boolE | cases h2 using RpAll.nilE | cases h2); cases h1 using Rp.tupE with
    | @tup a vs n x g r =>
      have e : vs.size = ds.length := by rw [← r.length]; simp
      refine P.len_tuple g (by rw [e]; lia) ⟨.tok, ?_⟩
      rw [e]; exact .int _ _
theorem BiOK.lenS {x : Str} (hs : (x.length : Int) < 2 ^ 63) : BiOK C k "len" [.str x] (.int x.length) := by
  intro A X s E vs R al r
  cases r using RpAll.consE with
  | cons h1 h2 => (first | cases h2 using Rp.intE | cases h2 using Rp.strE | cases h2 using Rp.boolE | cases h2 using RpAll.nilE | cases h2); (first | cases h1 using Rp.intE | cases h1 using Rp.strE | cases h1 using Rp.boolE | cases h1 using RpAll.nilE | cases h1); exact PyProof.Rows.len_str (by lia) ⟨.tok, .int _ _⟩
theorem BiOK.abs {a : Int} : BiOK C k "abs" [.int a] (.int (if a < 0 then -a else a)) := by
  intro A X s E vs R al r
  cases r using RpAll.consE with
  | cons h1 h2 => (first | cases h2 using Rp.intE | cases h2 using Rp.strE | cases h2 using Rp.boolE | cases h2 using RpAll.nilE | cases h2); (first | cases h1 using Rp.intE | cases h1 using Rp.strE | cases h1 using Rp.boolE | cases h1 using RpAll.nilE | cases h1); exact PyProof.Rows.call_abs_int fun u tk => ⟨.tok, .int _ _⟩
theorem BiOK.min2 {a b : Int} : BiOK C k "min" [.int a, .int b] (.int (if b < a then b else a)) := by
  intro A X s E vs R al r
  cases r using RpAll.consE with
  | cons h1 h2 => cases h2 using RpAll.consE with
    | cons h2 h3 =>
      (first | cases h3 using Rp.intE | cases h3 using Rp.strE | cases h3 using Rp.boolE | cases h3 using RpAll.nilE | cases h3); (first | cases h1 using Rp.intE | cases h1 using Rp.strE | cases h1 using Rp.boolE | cases h1 using RpAll.nilE | cases h1); (first | cases h2 using Rp.intE | cases h2 using Rp.strE | cases h2 using Rp.boolE | cases h2 using RpAll.nilE | cases h2)
      refine min_two_ints R.hd fun h' tk hk => ⟨.mk' hk, ?_⟩
      split <;> exact .int _ _
theorem BiOK.max2 {a b : Int} : BiOK C k "max" [.int a, .int b] (.int (if b > a then b else a)) := by
  intro A X s E vs R al r
  cases r using RpAll.consE with
  | cons h1 h2 => cases h2 using RpAll.consE with
    | cons h2 h3 =>
      (first | cases h3 using Rp.intE | cases h3 using Rp.strE | cases h3 using Rp.boolE | cases h3 using RpAll.nilE | cases h3); (first | cases h1 using Rp.intE | cases h1 using Rp.strE | cases h1 using Rp.boolE | cases h1 using RpAll.nilE | cases h1); (first | cases h2 using Rp.intE | cases h2 using Rp.strE | cases h2 using Rp.boolE | cases h2 using RpAll.nilE | cases h2)
      refine max_two_ints R.hd fun h' tk hk => ⟨.mk' hk, ?_⟩
      split <;> exact .int _ _

/-- the ints of a list -/
theorem RpAll.intItems {X : Addr → Prop} {h : Heap} {ns : List Int} {vs : List Value} (r : RpAll C X h vs (ns.map D.int)) : ∃ xs : List (Int × Tok), vs = (PySem.intItems xs.toArray).toList ∧ xs.map (·.1) = ns := by
  induction ns generalizing vs with
  | nil => cases r using RpAll.nilE; exact ⟨[], by simp [PySem.intItems], rfl⟩
  | cons n ns ih =>
    cases r using RpAll.consE with
    | cons a r =>
      obtain ⟨xs, e, q⟩ := ih r
      cases a using Rp.intE with
      | int t => exact ⟨(n, t) :: xs, by simp [PySem.intItems, e], by simp [q]⟩
theorem numAt_eq (xs : List (Int × Tok)) (i : Nat) : numAt xs.toArray i = ((xs.map (·.1))[i]?).getD 0 := by
  simp [numAt]
theorem preSum_eq (val : Nat → Int) : ∀ n, preSum val n = ((List.range n).map val).sum
  | 0 => rfl
  | n + 1 => by rw [preSum, preSum_eq val n, List.range_succ, List.map_append, List.sum_append]; simp
theorem map_range_get (ns : List Int) : (List.range ns.length).map (fun i => (ns[i]?).getD 0) = ns := by
  apply List.ext_getElem
  · simp
  · intro i h1 h2
    simp [h2]
theorem BiOK.sumI {ns : List Int} (hb : ∀ x ∈ ns, -(2 ^ 40) ≤ x ∧ x ≤ 2 ^ 40) (hn : ns.length ≤ 2 ^ 20) : BiOK C k "sum" [.list (ns.map D.int)] (.int ns.sum) := by
  intro A X s E vs R al r
  cases r using RpAll.consE with
  | cons h1 h2 => (first | cases h2 using Rp.intE | cases h2 using Rp.strE | cases h2 using Rp.boolE | cases h2 using RpAll.nilE | cases h2); cases h1 using Rp.listE with
    | @list a vs n x g r =>
      obtain ⟨xs, e, q⟩ := r.intItems
      have e' : vs = PySem.intItems xs.toArray := by rw [← Array.toList_inj]; exact e
      subst e'
      have hl : xs.length = ns.length := by rw [← q]; simp
      have hfit := PyProof.Rows.sumFits_small hb hn
      have hv : numAt xs.toArray = fun i => (ns[i]?).getD 0 := by funext i; rw [numAt_eq, q]
      refine sum_intList R.hd ⟨_, g, rfl, n, rfl⟩ (fun j hj => ?_) fun h' tk t' hk => ⟨.mk' hk, ?_⟩
      · have hj' : j < ns.length := by rw [← hl]; simpa using hj
        have := hfit j hj'
        rw [hv]
        refine ⟨by simpa using this.1, ?_⟩
        rw [preSum_eq]
        have e2 : (List.range (j + 1)).map (fun i => (ns[i]?).getD 0) = ns.take (j + 1) := by
          have e3 := map_range_get (ns.take (j + 1))
          have e4 : (ns.take (j + 1)).length = j + 1 := by rw [List.length_take]; lia
          rw [e4] at e3
          rw [← e3]
          apply List.map_congr_left
          intro i hi
          have : i < j + 1 := List.mem_range.mp hi
          rw [List.getElem?_take_of_lt this]
        rw [e2]; exact this.2
      · rw [preSum_eq, hv]
        have : xs.toArray.size = ns.length := by simpa using hl
        rw [this, map_range_get]
        exact .int _ _
def lmin (ns : List Int) : Int := (intsBest (fun a b => decide (a < b)) ns)
  where intsBest (f : Int → Int → Bool) (ns : List Int) : Int := (ns[argBest (fun i j => f ((ns[i]?).getD 0) ((ns[j]?).getD 0)) (ns.length - 1)]?).getD 0
def lmax (ns : List Int) : Int := (lmin.intsBest (fun a b => decide (a > b)) ns)
theorem BiOK.minL {ns : List Int} (hn : 0 < ns.length) : BiOK C k "min" [.list (ns.map D.int)] (.int (lmin ns)) := by
  intro A X s E vs R al r
  cases r using RpAll.consE with
  | cons h1 h2 => (first | cases h2 using Rp.intE | cases h2 using Rp.strE | cases h2 using Rp.boolE | cases h2 using RpAll.nilE | cases h2); cases h1 using Rp.listE with
    | @list a vs n x g r =>
      obtain ⟨xs, e, q⟩ := r.intItems
      have e' : vs = PySem.intItems xs.toArray := by rw [← Array.toList_inj]; exact e
      subst e'
      have hl : xs.length = ns.length := by rw [← q]; simp
      have hv : numAt xs.toArray = fun i => (ns[i]?).getD 0 := by funext i; rw [numAt_eq, q]
      refine min_intList R.hd ⟨_, g, rfl, n, rfl⟩ (by simpa using hl ▸ hn) fun v h' tk hP hk => ⟨.mk' hk, ?_⟩
      obtain ⟨t, rfl⟩ := intItems_at hP
      have : xs.toArray.size = ns.length := by simpa using hl
      rw [this, hv]
      exact .int _ _
theorem BiOK.maxL {ns : List Int} (hn : 0 < ns.length) : BiOK C k "max" [.list (ns.map D.int)] (.int (lmax ns)) := by
  intro A X s E vs R al r
  cases r using RpAll.consE with
  | cons h1 h2 => (first | cases h2 using Rp.intE | cases h2 using Rp.strE | cases h2 using Rp.boolE | cases h2 using RpAll.nilE | cases h2); cases h1 using Rp.listE with
    | @list a vs n x g r =>
      obtain ⟨xs, e, q⟩ := r.intItems
      have e' : vs = PySem.intItems xs.toArray := by rw [← Array.toList_inj]; exact e
      subst e'
      have hl : xs.length = ns.length := by rw [← q]; simp
      have hv : numAt xs.toArray = fun i => (ns[i]?).getD 0 := by funext i; rw [numAt_eq, q]
      refine max_intList R.hd ⟨_, g, rfl, n, rfl⟩ (by simpa using hl ▸ hn) fun v h' tk hP hk => ⟨.mk' hk, ?_⟩
      obtain ⟨t, rfl⟩ := intItems_at hP
      have : xs.toArray.size = ns.length := by simpa using hl
      rw [this, hv]
      exact .int _ _
end Mine
-- part Abs5
open PySem
set_option Elab.async false
set_option linter.unusedVariables false
namespace Mine
variable {C : Cx} {k : Nat} {ρ : Store}

/-! an item -/
def NoSlice (slice : Expr) : Prop := ∀ o i : Value, subscripted slice false o i = operate [o, i] (getItem o i)
theorem wpAny_sub {value slice : Expr} {pos : Pos} {A : Around} {env : Env} {X : Addr → Prop} {adr : Str → Addr} {s : Shared} {E : Value → Shared → Prop} {i : Int} {Q : Value → Shared → Prop} {P : Value → Heap → Prop}
    (hv : wpAny (model C.prog C.w) A (eval value env) (fun v s' => Keeps s s' ∧ P v s'.heap) E s) (hP : ∀ v h h', P v h → Keep h h' → P v h') (hi : EvE C k ρ slice (.int i)) (R : Room k A) (o : EnvOK env) (re : RealE C env X ρ adr s.heap)
    (h : ∀ v t s', Keeps s s' → P v s'.heap → wpAny (model C.prog C.w) A (PyProof.Rows.subscriptTail value slice v (.int i t)) Q E s') : wpAny (model C.prog C.w) A (eval (.Subscript value slice pos) env) Q E s := by
  refine PyProof.Rows.Subscript_ (wpAny_mono hv (fun v s₁ h₁ => wpAny_mono (hi A env X adr s₁ E R o (re.keeps h₁.1.keep)) (fun iv s₂ h₂ => ?_) fun _ _ e => e) fun _ _ e => e)
  obtain ⟨hk, r⟩ := h₂
  cases r using Rp.intE with
  | int t => exact h v t s₂ (h₁.1.trans hk) (hP _ _ _ h₁.2 hk.keep)
theorem seqIdx_lt {i : Int} {n j : Nat} (h : seqIndex? i n = some j) : j < n := by
  unfold seqIndex? at h
  simp only [Option.ite_none_right_eq_some, Option.some.injEq] at h
  split at h <;> (try split at h) <;> simp_all <;> lia
theorem EvE.item {value slice : Expr} {pos : Pos} {ds : List D} {i : Int} {j : Nat} {d : D} (hv : EvL C k ρ value ds) (hi : EvE C k ρ slice (.int i)) (hj : seqIndex? i ds.length = some j) (hd : ds[j]? = some d)
    (hr : -(2 ^ 63) ≤ i ∧ i < 2 ^ 63) (hs : NoSlice slice := by intro _ _; rfl) : EvE C k ρ (.Subscript value slice pos) d := by
  intro A env X adr s E R o re
  refine wpAny_sub (P := fun v h => RpL C (XX X env ρ adr) h v ds) (hv A env X adr s E R o re) (fun v h h' r hk => r.keeps hk) hi R o re fun v t s' hk r => ?_
  obtain ⟨a, vs, n, rfl, g, r⟩ := r
  obtain ⟨v, hv', rv⟩ := r.get hd
  have hl : s'.heap.IsList a vs := ⟨_, g, rfl, n, rfl⟩
  have hsz : vs.size = ds.length := by rw [← r.length]; simp
  refine PyProof.Rows.tail_any hl.typeIs slot_list_getitem.lookup ?_ (hs _ _)
  by_cases h0 : 0 ≤ i
  · have : j = i.toNat := by
      have := seqIndex_of h0 (n := ds.length) (by have := seqIdx_lt hj; unfold seqIndex? at hj; revert hj; simp [h0]; lia)
      rw [this] at hj; exact (Option.some.inj hj).symm
    subst this
    exact wpAny_getItem_list hl h0 hr.2 (by simpa using hv') ⟨hk, rv⟩
  · have h1 : -(ds.length : Int) ≤ i := by
      unfold seqIndex? at hj
      revert hj
      simp only [h0, if_false]
      split <;> simp_all <;> lia
    have := seqIndex_neg (by lia) h1
    rw [this] at hj
    have hj := Option.some.inj hj
    subst hj
    exact wpAny_getItem_list_neg hl (by lia) (by rw [hsz]; exact h1) hr.1 (by rw [hsz]; simpa using hv') ⟨hk, rv⟩
theorem EvE.itemT {value slice : Expr} {pos : Pos} {ds : List D} {i : Int} {j : Nat} {d : D} (hv : EvE C k ρ value (.tup ds)) (hi : EvE C k ρ slice (.int i)) (hj : seqIndex? i ds.length = some j) (hd : ds[j]? = some d)
    (hr : -(2 ^ 63) ≤ i ∧ i < 2 ^ 63) (hs : NoSlice slice := by intro _ _; rfl) : EvE C k ρ (.Subscript value slice pos) d := by
  intro A env X adr s E R o re
  refine wpAny_sub (P := fun v h => Rp C (XX X env ρ adr) h v (.tup ds)) (hv A env X adr s E R o re) (fun v h h' r hk => r.keeps hk) hi R o re fun v t s' hk r => ?_
  cases r using Rp.tupE with
  | @tup a vs n x g r =>
    obtain ⟨v, hv', rv⟩ := r.get hd
    have hl : PyProof.Rows.IsTup s'.heap a vs.toList.toArray := ⟨_, g, rfl, n, by simp⟩
    exact PyProof.Rows.item_tupleT hl hr.1 hr.2 (by rw [r.length]; exact hj) hv' ⟨hk, rv⟩ (hs _ _)
theorem EvE.itemS {value slice : Expr} {pos : Pos} {x : Str} {i : Int} {c : Nat} (hv : EvE C k ρ value (.str x)) (hi : EvE C k ρ slice (.int i)) (hc : (seqIndex? i x.length).bind (x.cps[·]?) = some c)
    (hr : -(2 ^ 63) ≤ i ∧ i < 2 ^ 63) (hs : NoSlice slice := by intro _ _; rfl) : EvE C k ρ (.Subscript value slice pos) (.str ⟨#[c]⟩) := by
  intro A env X adr s E R o re
  refine wpAny_sub (P := fun v h => Rp C (XX X env ρ adr) h v (.str x)) (hv A env X adr s E R o re) (fun v h h' r hk => r.keeps hk) hi R o re fun v t s' hk r => ?_
  cases r using Rp.strE with
  | str u => exact PyProof.Rows.tail_any (typeIs_str _ x u) F.slot_str_getitem.lookup (PyProof.Rows.getItem_str (by simp; lia) hc ⟨hk.trans .tok, .str _ _⟩) (hs _ _)

/-! slices -/
inductive EvP (C : Cx) (k : Nat) (ρ : Store) : Option Expr → Option Int → Prop
  | none : EvP C k ρ Option.none Option.none
  | some {e : Expr} {i : Int} : EvE C k ρ e (.int i) → EvP C k ρ (Option.some e) (Option.some i)
theorem EvP.wp {A : Around} {env : Env} {X : Addr → Prop} {adr : Str → Addr} {p : Option Expr} {i : Option Int} (h : EvP C k ρ p i) (R : Room k A) (o : EnvOK env) (s : Shared) (E : Value → Shared → Prop) (re : RealE C env X ρ adr s.heap) :
    wpAny (model C.prog C.w) A (evalPart p env) (fun v s' => Keeps s s' ∧ IsPart v i) E s := by
  cases h with
  | none => exact wpAny_pure ⟨.refl s, .none⟩
  | some h => exact wpAny_mono (h A env X adr s E R o re) (fun v s' q => ⟨q.1, by cases q.2; exact .int _ _⟩) fun _ _ e => e
theorem wpAny_sl {value : Expr} {lo up st : Option Expr} {lo' up' st' : Option Int} {p pos : Pos} {A : Around} {env : Env} {X : Addr → Prop} {adr : Str → Addr} {s : Shared} {E : Value → Shared → Prop} {d : D} {Q : Value → Shared → Prop}
    (hv : EvE C k ρ value d) (h1 : EvP C k ρ lo lo') (h2 : EvP C k ρ up up') (h3 : EvP C k ρ st st') (R : Room k A) (o : EnvOK env) (re : RealE C env X ρ adr s.heap)
    (h : ∀ v vl vu vs s', Keeps s s' → Rp C (XX X env ρ adr) s'.heap v d → IsPart vl lo' → IsPart vu up' → IsPart vs st' →
      wpAny (model C.prog C.w) A (PyProof.Rows.subscriptTail value (.Slice lo up st p) v (.ref s'.heap.objs.size)) Q E { s' with heap := s'.heap.push { cls := .type "slice", data := .fields #[vl, vu, vs] } }) :
    wpAny (model C.prog C.w) A (eval (.Subscript value (.Slice lo up st p) pos) env) Q E s := by
  refine PyProof.Rows.Subscript_ (wpAny_mono (hv A env X adr s E R o re) (fun v s₁ q1 => wpAny_Slice (wpAny_mono (h1.wp R o s₁ E (re.keeps q1.1.keep)) (fun vl s₂ q2 => wpAny_mono (h2.wp R o s₂ E ((re.keeps q1.1.keep).keeps q2.1.keep))
    (fun vu s₃ q3 => wpAny_mono (h3.wp R o s₃ E (((re.keeps q1.1.keep).keeps q2.1.keep).keeps q3.1.keep)) (fun vs s₄ q4 => ?_) fun _ _ e => e) fun _ _ e => e) fun _ _ e => e)) fun _ _ e => e)
  exact h v vl vu vs s₄ (((q1.1.trans q2.1).trans q3.1).trans q4.1) (((q1.2.keeps q2.1.keep).keeps q3.1.keep).keeps q4.1.keep) q2.2 q3.2 q4.2

theorem RpAll.pick {X : Addr → Prop} {h : Heap} {vs : List Value} {ds : List D} (r : RpAll C X h vs ds) : ∀ is : List Nat, RpAll C X h (is.filterMap (vs[·]?)) (is.filterMap (ds[·]?))
  | [] => .nil
  | i :: is => by
    rw [List.filterMap_cons, List.filterMap_cons]
    cases e : ds[i]? with
    | none =>
      have : vs[i]? = Option.none := by
        cases e2 : vs[i]? with
        | none => rfl
        | some v => obtain ⟨d, q, _⟩ := r.get' e2; rw [e] at q; (first | cases q using Rp.intE | cases q using Rp.strE | cases q using Rp.boolE | cases q using RpAll.nilE | cases q)
      rw [this]; exact RpAll.pick r is
    | some d =>
      obtain ⟨v, q, rv⟩ := r.get e
      rw [q]; exact .cons rv (RpAll.pick r is)

def lidx (lo hi st : Option Int) (n : Nat) : List Nat := sliceRange (sliceBounds lo hi st n).1 (sliceBounds lo hi st n).2.1 (sliceBounds lo hi st n).2.2
def lslice {α : Type} (lo hi st : Option Int) (xs : List α) : List α := (lidx lo hi st xs.length).filterMap (xs[·]?)
theorem EvE.lsl {value : Expr} {lo up : Option Expr} {lo' up' : Option Int} {p pos : Pos} {ds : List D} (hv : EvE C k ρ value (.list ds)) (h1 : EvP C k ρ lo lo') (h2 : EvP C k ρ up up') (hs : ds.length ≤ sizeLine) :
    EvE C k ρ (.Subscript value (.Slice lo up Option.none p) pos) (.list (lslice lo' up' Option.none ds)) := by
  intro A env X adr s E R o re
  refine wpAny_sl hv h1 h2 .none R o re fun v vl vu vs s' hk r pl pu ps => ?_
  cases r with
  | @list a vs' n _ x g r =>
    have hsz : vs'.size = ds.length := by rw [← r.length]; simp
    have hl : s'.heap.IsList a vs' := ⟨_, g, rfl, n, rfl⟩
    refine PyProof.Rows.tail_any (hl.push _).typeIs slot_list_getitem.lookup (wpAny_getItem_list_slice (hl.push _) (Heap.IsSliceOf.new ..) pl pu ps (by simp) ?_ (by lia)) rfl
    have re2 : RealE C env X ρ adr (s'.heap.push { cls := .type "slice", data := .fields #[vl, vu, vs] }) := (re.keeps hk.keep).keeps fun b o e => Heap.get?_push_of_some _ e
    refine ⟨hk.trans (.mk' fun b o e => Heap.get?_push_of_some _ (Heap.get?_push_of_some _ e)), .list (re2.fresh (get_none (Nat.le_refl _))) (Heap.get?_push_size _ rfl) ?_⟩
    have := (r.keeps (h' := (s'.heap.push { cls := .type "slice", data := .fields #[vl, vu, vs] }).push { cls := .type "list", data := .seq (slicePick vs' lo' up' Option.none) }) fun b o e => Heap.get?_push_of_some _ (Heap.get?_push_of_some _ e)).pick (lidx lo' up' Option.none ds.length)
    have e : (slicePick vs' lo' up' Option.none).toList = (lidx lo' up' Option.none ds.length).filterMap (vs'.toList[·]?) := by
      unfold slicePick lidx; rw [hsz]; simp
    rw [e]; exact this

/-! tuples: any slice -/
def tidx (lo hi st : Option Int) (n : Nat) : List Nat :=
  (List.range (Builtin.Slice.slicePlaces (Builtin.Slice.sliceAdjust lo hi (st.getD 1) n).1 (Builtin.Slice.sliceAdjust lo hi (st.getD 1) n).2 (st.getD 1))).map fun (j : Nat) => ((Builtin.Slice.sliceAdjust lo hi (st.getD 1) n).1 + (j : Int) * st.getD 1).toNat
def tslice {α : Type} (lo hi st : Option Int) (xs : List α) : List α := (tidx lo hi st xs.length).filterMap (xs[·]?)
theorem slicePart_is {A : Around} {E : Value → Shared → Prop} {s : Shared} {v : Value} {i : Option Int} {Q : Option Int → Shared → Prop} (hp : IsPart v i) (h : Q i s) : wpAny (model C.prog C.w) A (Builtin.Slice.slicePartIndex v) Q E s := by
  cases hp with
  | none => exact PyProof.Rows.slicePart_none h
  | int i t => exact PyProof.Rows.slicePart_int h
theorem sliceApplied_any {A : Around} {E : Value → Shared → Prop} {s : Shared} {sl : Addr} {vl vu vs : Value} {lo hi st : Option Int} {n : Nat} {Q : Int × Int × Nat → Shared → Prop} (hs : s.heap.IsSliceOf sl vl vu vs) (pl : IsPart vl lo) (pu : IsPart vu hi) (ps : IsPart vs st) (h0 : st.getD 1 ≠ 0)
    (h : Q ((Builtin.Slice.sliceAdjust lo hi (st.getD 1) n).1, st.getD 1, Builtin.Slice.slicePlaces (Builtin.Slice.sliceAdjust lo hi (st.getD 1) n).1 (Builtin.Slice.sliceAdjust lo hi (st.getD 1) n).2 (st.getD 1)) s) :
    wpAny (model C.prog C.w) A (Builtin.Slice.sliceApplied (.ref sl) (pure (n : Int))) Q E s := by
  obtain ⟨os, hos, hcs, hds⟩ := id hs
  unfold Builtin.Slice.sliceApplied Builtin.Slice.sliceFields
  refine wpAny_bind (wpAny_bind (wpAny_field hos hds (x := vl) rfl (wpAny_bind (wpAny_field hos hds (x := vu) rfl (wpAny_bind (wpAny_field hos hds (x := vs) rfl (wpAny_pure ?_)))))))
  refine wpAny_bind (slicePart_is ps ?_)
  show wpAny _ _ (if (st.getD 1 == 0) = true then _ else _) _ _ s
  rw [if_neg (by simpa using h0)]
  refine wpAny_bind (slicePart_is pl (wpAny_bind (slicePart_is pu (wpAny_bind (wpAny_pure ?_)))))
  exact wpAny_pure h
theorem tslice_whole {α : Type} {lo hi st : Option Int} {xs : List α}
    (h : ((Builtin.Slice.sliceAdjust lo hi (st.getD 1) xs.length).1 == 0 && st.getD 1 == 1 && Builtin.Slice.slicePlaces (Builtin.Slice.sliceAdjust lo hi (st.getD 1) xs.length).1 (Builtin.Slice.sliceAdjust lo hi (st.getD 1) xs.length).2 (st.getD 1) == xs.length) = true) :
    tslice lo hi st xs = xs := by
  obtain ⟨h12, h3⟩ := Bool.and_eq_true_iff.mp h
  obtain ⟨h1, h2⟩ := Bool.and_eq_true_iff.mp h12
  unfold tslice tidx
  rw [beq_iff_eq.mp h3, beq_iff_eq.mp h1, beq_iff_eq.mp h2]
  rw [List.filterMap_map]
  apply List.ext_getElem?
  intro i
  have : ((fun x => xs[x]?) ∘ fun (j : Nat) => ((0 : Int) + (j : Int) * 1).toNat) = fun j => xs[j]? := by
    funext j; simp
  rw [this]
  have e : (List.range xs.length).filterMap (fun j => xs[j]?) = xs := by
    have : ∀ (n : Nat) (ys : List α), n ≤ ys.length → (List.range n).filterMap (fun j => ys[j]?) = ys.take n := by
      intro n ys
      induction n with
      | zero => intro _; simp
      | succ n ih => intro h; rw [List.range_succ, List.filterMap_append, ih (by lia), List.take_succ]; simp [List.getElem?_eq_getElem (show n < ys.length by lia)]
    rw [this _ _ (Nat.le_refl _), List.take_length]
  rw [e]
theorem EvE.tsl {value : Expr} {lo up st : Option Expr} {lo' up' st' : Option Int} {p pos : Pos} {ds : List D} (hv : EvE C k ρ value (.tup ds)) (h1 : EvP C k ρ lo lo') (h2 : EvP C k ρ up up') (h3 : EvP C k ρ st st') (h0 : st'.getD 1 ≠ 0 := by decide)
    (hs : (tidx lo' up' st' ds.length).length ≤ sizeLine) (hsub : ∀ o i : Value, ∃ ops, subscripted (.Slice lo up st p) false o i = operate ops (getItem o i) := by intro _ _; exact ⟨_, rfl⟩) :
    EvE C k ρ (.Subscript value (.Slice lo up st p) pos) (.tup (tslice lo' up' st' ds)) := by
  intro A env X adr s E R o re
  refine wpAny_sl hv h1 h2 h3 R o re fun v vl vu vs s' hk r pl pu ps => ?_
  cases r with
  | @tup a vs' n _ x g r =>
    have hsz : vs'.size = ds.length := by rw [← r.length]; simp
    have kp : Keep s'.heap (s'.heap.push { cls := .type "slice", data := .fields #[vl, vu, vs] }) := fun b o e => Heap.get?_push_of_some _ e
    have ht : PyProof.Rows.IsTup (s'.heap.push { cls := .type "slice", data := .fields #[vl, vu, vs] }) a vs' := ⟨_, kp _ _ g, rfl, n, rfl⟩
    obtain ⟨ops, hops⟩ := hsub (.ref a) (.ref s'.heap.objs.size)
    have re2 : RealE C env X ρ adr (s'.heap.push { cls := .type "slice", data := .fields #[vl, vu, vs] }) := (re.keeps hk.keep).keeps kp
    generalize hS : ({ s' with heap := s'.heap.push { cls := .type "slice", data := .fields #[vl, vu, vs] } } : Shared) = S
    have hSh : S.heap = s'.heap.push { cls := .type "slice", data := .fields #[vl, vu, vs] } := by rw [← hS]
    have hsl : S.heap.IsSliceOf s'.heap.objs.size vl vu vs := hSh ▸ Heap.IsSliceOf.new ..
    have hkS : Keeps s S := hk.trans (hS ▸ Keeps.mk' kp)
    rw [← hSh] at ht re2
    have gS : S.heap.get? a = some { cls := .type "tuple", data := .seq vs' n } := hSh ▸ kp _ _ g
    have rS : RpAll C (XX X env ρ adr) S.heap vs'.toList ds := hSh ▸ r.keeps kp
    refine PyProof.Rows.tail_any ht.typeIs PyProof.Rows.slot_tuple_getitem.lookup ?_ hops
    obtain ⟨os, hos, hcs, hds⟩ := id hsl
    have hTs : S.TypeIs (.ref s'.heap.objs.size) "slice" := ⟨os, hos, hcs⟩
    unfold getItem
    try with_reducible refine wpAny_holding ?_
    first | refine wpAny_bind (wpAny_pure ?_) | skip
    refine wpAny_bind (wpAny_sequenceKey ht.typeIs (by decide) ?_)
    refine wpAny_bind (wpAny_callSpecial?_slot (name := Str.ofString "__getitem__") ht.typeIs PyProof.Rows.slot_tuple_getitem
      (wpAny_call_entry PyProof.Rows.slot_tuple_getitem ht.typeIs PyProof.Rows.entry_tuple_getitem ?_ (PyProof.Rows.args_tuple_getitem _ _)))
    show wpAny _ _ (Builtin.Tuple.tupleItemsOf (.ref a) >>= _) _ _ S
    refine wpAny_bind (PyProof.Rows.tupleItemsOf_ ht ?_)
    refine wpAny_bind (wpAny_typeOf hTs ?_)
    rw [if_pos (by decide)]
    refine wpAny_bind (sliceApplied_any (C := C) (st := st') (lo := lo') (hi := up') hsl pl pu ps h0 ?_)
    dsimp only
    rw [hsz]
    split
    · rename_i hw
      have hww := tslice_whole (xs := ds) hw
      refine wpAny_bind (m := Builtin.Tuple.tupleIsExact (.ref a)) (wpAny_bind (wpAny_typeOf ht.typeIs (wpAny_pure ?_)))
      rw [if_pos (by decide)]
      refine wpAny_bind (wpAny_rule (wpAny_bind (wpAny_pure (wpAny_pure ⟨_, rfl, wpAny_pure ⟨hkS, ?_⟩⟩))))
      rw [hww]
      exact .tup x gS rS
    · have hpick : ((List.range (Builtin.Slice.slicePlaces (Builtin.Slice.sliceAdjust lo' up' (st'.getD 1) ds.length).1 (Builtin.Slice.sliceAdjust lo' up' (st'.getD 1) ds.length).2 (st'.getD 1))).filterMap
          fun (j : Nat) => vs'[((Builtin.Slice.sliceAdjust lo' up' (st'.getD 1) ds.length).1 + (j : Int) * st'.getD 1).toNat]?) = (tidx lo' up' st' ds.length).filterMap (vs'.toList[·]?) := by
        unfold tidx
        rw [List.filterMap_map]
        congr 1
        funext j
        simp
      rw [hpick]
      have hlen : sizeOk (.seq ((tidx lo' up' st' ds.length).filterMap (vs'.toList[·]?)).toArray) := by
        show ((tidx lo' up' st' ds.length).filterMap (vs'.toList[·]?)).toArray.size ≤ sizeLine
        rw [List.size_toArray]
        exact Nat.le_trans (List.length_filterMap_le _ _) hs
      have fin : Keeps s { S with heap := S.heap.push { cls := .type "tuple", data := .seq ((tidx lo' up' st' ds.length).filterMap (vs'.toList[·]?)).toArray } } ∧
          Rp C (XX X env ρ adr) (S.heap.push { cls := .type "tuple", data := .seq ((tidx lo' up' st' ds.length).filterMap (vs'.toList[·]?)).toArray }) (.ref S.heap.objs.size) (.tup (tslice lo' up' st' ds)) := by
        refine ⟨hkS.trans (.mk' fun b o e => Heap.get?_push_of_some _ e), .tup (re2.fresh (get_none (Nat.le_refl _))) (Heap.get?_push_size _ rfl) ?_⟩
        have := (rS.keeps (h' := S.heap.push { cls := .type "tuple", data := .seq ((tidx lo' up' st' ds.length).filterMap (vs'.toList[·]?)).toArray }) fun b o e => Heap.get?_push_of_some _ e).pick (tidx lo' up' st' ds.length)
        simpa [tslice] using this
      first
        | exact wpAny_bind (m := Builtin.Tuple.tupleExact _) (wpAny_newObj_type (wpAny_pure ⟨_, rfl, wpAny_pure fin⟩) hlen)
        | exact wpAny_bind (m := Builtin.Tuple.tupleExact _) (wpAny_newObj_type (wpAny_bind (wpAny_pure (wpAny_pure ⟨_, rfl, wpAny_pure fin⟩))) hlen)
        | exact wpAny_bind (wpAny_bind (m := Builtin.Tuple.tupleExact _) (wpAny_newObj_type (wpAny_pure (wpAny_pure ⟨_, rfl, wpAny_pure fin⟩)) hlen))
        | exact wpAny_bind (wpAny_bind (m := Builtin.Tuple.tupleExact _) (wpAny_newObj_type (wpAny_pure ⟨_, rfl, wpAny_pure fin⟩) hlen))

/-- a text from a place on -/
theorem EvE.ssl {value e : Expr} {p pos : Pos} {x : Str} {i : Int} (hv : EvE C k ρ value (.str x)) (h1 : EvE C k ρ e (.int i)) (hs : x.length ≤ sizeLine) :
    EvE C k ρ (.Subscript value (.Slice (some e) Option.none Option.none p) pos) (.str (Txt.slice x (some i) Option.none)) := by
  intro A env X adr s E R o re
  refine wpAny_sl hv (.some h1) .none .none R o re fun v vl vu vs s' hk r pl pu ps => ?_
  cases r using Rp.strE with
  | str t =>
    cases pl with
    | int _ u =>
      cases pu; cases ps
      refine PyProof.Rows.tail_any (typeIs_str _ x t) F.slot_str_getitem.lookup (wpAny_getItem_str_slice (l := some (i, u)) (u := Option.none) (st := Option.none) ⟨_, Heap.get?_push_size _ rfl, rfl, rfl⟩ rfl
        (post_val_or_str ⟨Nat.le_trans (Txt.slice_le x _ _) hs, fun t' k => ⟨hk.trans (.mk' fun b o e => Heap.get?_push_of_some _ e), .str _ _⟩⟩)) rfl
end Mine
-- part Abs6
open PySem
set_option Elab.async false
set_option linter.unusedVariables false
namespace Mine
variable {C : Cx} {k : Nat} {ρ : Store}

/-! one entry of the store turned -/
inductive Upd (x : Str) (lv : LV) : Store → Store → Prop
  | here {l : LV} {r : Store} (hs : l.slot = true := by first | rfl | assumption) : Upd x lv ((x, l) :: r) ((x, lv) :: r)
  | there {p : Str × LV} {r r' : Store} (h : Upd x lv r r') : Upd x lv (p :: r) (p :: r')
theorem Upd.keys {x : Str} {lv : LV} {ρ ρ' : Store} (U : Upd x lv ρ ρ') : ρ'.map (·.1) = ρ.map (·.1) := by
  induction U with
  | here => rfl
  | there h ih => rw [List.map_cons, List.map_cons, ih]
theorem Upd.old {x : Str} {lv : LV} {ρ ρ' : Store} (U : Upd x lv ρ ρ') : ∃ l, (x, l) ∈ ρ ∧ l.slot = true := by
  induction U with
  | here hs => exact ⟨_, .head _, hs⟩
  | there h ih => exact ih.elim fun l m => ⟨l, .tail _ m.1, m.2⟩
theorem mem_fst {x : Str} {l : LV} {ρ : Store} (h : (x, l) ∈ ρ) : x ∈ ρ.map (·.1) := List.mem_map.mpr ⟨_, h, rfl⟩
theorem Upd.mem {x : Str} {lv : LV} {ρ ρ' : Store} (U : Upd x lv ρ ρ') (hn : (ρ.map (·.1)).Nodup) (y : Str) (l : LV) : (y, l) ∈ ρ' ↔ ((y = x ∧ l = lv) ∨ (y ≠ x ∧ (y, l) ∈ ρ)) := by
  induction U with
  | @here l0 r hs =>
    have hx : x ∉ r.map (·.1) := (List.nodup_cons.mp hn).1
    constructor
    · intro hm
      rcases List.mem_cons.mp hm with e | hm
      · exact .inl (Prod.mk.inj e)
      · refine .inr ⟨fun e => hx (e ▸ mem_fst hm), .tail _ hm⟩
    · rintro (⟨rfl, rfl⟩ | ⟨hy, hm⟩)
      · exact .head _
      · rcases List.mem_cons.mp hm with e | hm
        · exact absurd (Prod.mk.inj e).1 hy
        · exact .tail _ hm
  | @there p r r' h ih =>
    have ih := ih (List.nodup_cons.mp hn).2
    have hp : p.1 ∉ r.map (·.1) := (List.nodup_cons.mp hn).1
    have hpx : p.1 ≠ x := fun e => by obtain ⟨l', m, _⟩ := h.old; exact hp (e ▸ mem_fst m)
    constructor
    · intro hm
      rcases List.mem_cons.mp hm with e | hm
      · exact .inr ⟨by rw [← e] at hpx; exact hpx, e ▸ .head _⟩
      · rcases ih.mp hm with q | ⟨a, b⟩
        · exact .inl q
        · exact .inr ⟨a, .tail _ b⟩
    · rintro (q | ⟨hy, hm⟩)
      · exact .tail _ (ih.mpr (.inl q))
      · rcases List.mem_cons.mp hm with e | hm
        · exact e ▸ .head _
        · exact .tail _ (ih.mpr (.inr ⟨hy, hm⟩))

theorem RealS.put {env : Env} {X : Addr → Prop} {hB h h' : Heap} {ρ ρ' : Store} {adr adr' : Str → Addr} {x : Str} {lv : LV} (R : RealS C env X hB ρ adr h) (U : Upd x lv ρ ρ') (hlv : lv.slot = true) (hadr : ∀ y, y ≠ x → adr' y = adr y)
    (hk : ∀ b o, ¬ MM env ρ adr b → h.get? b = some o → h'.get? b = some o)
    (hloc : ∀ y w, y ≠ x → Loc env h y w → Loc env h' y w)
    (hown : ∀ y d, y ≠ x → (y, LV.own d) ∈ ρ → ∀ o, h.get? (adr y) = some o → h'.get? (adr y) = some o)
    (ns : ∃ m, h'.Ns env.locals m) (cells : ∀ x c, env.cells.lookup x = some c → ∃ v, h'.IsCell c v)
    (hnew : Ent C (XX X env ρ' adr') env h' adr' x lv)
    (hx : ∀ d, lv = .own d → hB.get? (adr' x) = none ∧ (∀ y e, y ≠ x → (y, LV.own e) ∈ ρ → adr y ≠ adr' x) ∧ (adr' x ≠ env.locals ∧ ∀ y, env.cells.lookup y ≠ some (adr' x)) ∧
      (h.get? (adr' x) = none ∨ (adr' x = adr x ∧ ∃ e, (x, LV.own e) ∈ ρ))) : RealS C env X hB ρ' adr' h' := by
  have mem := U.mem R.nodup
  have mm : ∀ b o, ¬ XX X env ρ adr b → h.get? b = some o → h'.get? b = some o ∧ ¬ XX X env ρ' adr' b := fun b o hb e => by
    refine ⟨hk b o (fun q => hb (.inr q)) e, fun q => ?_⟩
    rcases q with q | q | q | ⟨y, d, hm, rfl⟩
    · exact hb (.inl q)
    · exact hb (.inr (.inl q))
    · exact hb (.inr (.inr (.inl q)))
    · rcases (mem y _).mp hm with ⟨rfl, he⟩ | ⟨hy, hm⟩
      · rcases (hx d he.symm).2.2.2 with q | ⟨q, e', he'⟩
        · rw [e] at q; (first | cases q using Rp.intE | cases q using Rp.strE | cases q using Rp.boolE | cases q using RpAll.nilE | cases q)
        · exact hb (.inr (.inr (.inr ⟨y, e', he', q.symm⟩)))
      · exact hb (.inr (.inr (.inr ⟨y, d, hm, (hadr y hy).symm⟩)))
  have keepB : Keep hB h' := fun b o e => by
    refine hk b o (fun q => ?_) (R.keep b o e)
    rcases q with rfl | ⟨y, q⟩ | ⟨y, d, hm, rfl⟩
    · rw [R.locB] at e; cases e
    · rw [R.cellB y b q] at e; cases e
    · rw [R.ownB y d hm] at e; cases e
  refine RealS.mk (RealE.mk (R.baseB.keeps keepB) ns cells (fun y l hm => ?_) (fun a ha => ?_)) (by rw [U.keys]; exact R.nodup) (fun y z d e hy hz q => ?_) (fun y l hm hs => ?_) R.cellinj R.baseB keepB R.locB R.cellB
    (fun y d hm => ?_) (fun y d hm => ?_) R.aliveB
  · rcases (mem y l).mp hm with ⟨rfl, rfl⟩ | ⟨hy, hm⟩
    · exact hnew
    · have old := R.ents y l hm
      cases l with
      | dat d => obtain ⟨v, l, r⟩ := old; exact ⟨v, hloc y v hy l, r.re2 mm⟩
      | own d =>
        obtain ⟨l, r⟩ := old
        refine ⟨by rw [hadr y hy]; exact hloc y _ hy l, ?_⟩
        rw [hadr y hy]
        cases d with
        | list ds => obtain ⟨vs, ⟨n, g⟩, r⟩ := r; exact ⟨vs, ⟨n, hown y _ hy hm _ g⟩, r.re2 mm⟩
        | dic ks => obtain ⟨hs, kvs, ⟨o, es, ep, g, r⟩, q⟩ := r; exact ⟨hs, kvs, ⟨o, es, ep, hown y _ hy hm _ g, r⟩, q⟩
        | _ => exact r.elim
      | gl d => exact old
      | bi v => exact old
      | unb => exact old
      | kn ys => exact old
  · obtain ⟨o, e⟩ := R.aliveB a ha; exact ⟨o, keepB a o e⟩
  · rcases (mem y _).mp hy with ⟨rfl, hy'⟩ | ⟨hy1, hy'⟩ <;> rcases (mem z _).mp hz with ⟨rfl, hz'⟩ | ⟨hz1, hz'⟩
    · rfl
    · rw [hadr z hz1] at q
      exact absurd q.symm ((hx d hy'.symm).2.1 z e hz1 hz')
    · rw [hadr y hy1] at q
      exact absurd q ((hx e hz'.symm).2.1 y d hy1 hy')
    · rw [hadr y hy1, hadr z hz1] at q
      exact R.inj y z d e hy' hz' q
  · rcases (mem y l).mp hm with ⟨rfl, rfl⟩ | ⟨hy, hm⟩
    · obtain ⟨l0, m0, s0⟩ := U.old; exact R.slots _ l0 m0 s0
    · exact R.slots y l hm hs
  · rcases (mem y _).mp hm with ⟨rfl, he⟩ | ⟨hy, hm⟩
    · exact (hx d he.symm).1
    · rw [hadr y hy]; exact R.ownB y d hm
  · rcases (mem y _).mp hm with ⟨rfl, he⟩ | ⟨hy, hm⟩
    · exact (hx d he.symm).2.2.1
    · rw [hadr y hy]; exact R.ownL y d hm

theorem cell_ne {h : Heap} {L c : Addr} {m : Str → Option Value} {v : Option Value} (hn : h.Ns L m) (hc : h.IsCell c v) : c ≠ L := by
  rintro rfl
  obtain ⟨o, es, ep, e, hd, _⟩ := hn
  obtain ⟨o', e', hd'⟩ := hc
  rw [e] at e'; cases e'
  rw [hd] at hd'; cases hd'

/-- a name stored -/
theorem store_core {env : Env} {X : Addr → Prop} {hB : Heap} {adr : Str → Addr} {s : Shared} {x : Str} {v : Value} {A : Around} {E : Value → Shared → Prop} {Q : Unit → Shared → Prop} (R : RealS C env X hB ρ adr s.heap) (o : EnvOK env) (sl : Slo env x)
    (h : ∀ h' tk b, Heap.SameBut b s.heap h' → (b = env.locals ∨ ∃ y, env.cells.lookup y = some b) → Loc env h' x v → (∀ y w, y ≠ x → Loc env s.heap y w → Loc env h' y w) → (∃ m, h'.Ns env.locals m) →
      (∀ y c, env.cells.lookup y = some c → ∃ v, h'.IsCell c v) → Q () { s with heap := h', toks := tk }) : wpAny (model C.prog C.w) A (storeName env x v) Q E s := by
  obtain ⟨m, hn⟩ := R.ns
  have kc : ∀ y c, env.cells.lookup y = some c → c ≠ env.locals := fun y c e => by obtain ⟨v, q⟩ := R.cells y c e; exact cell_ne hn q
  rcases sl with hl | ⟨hl, c, hc⟩
  · refine wpAny_storeName_local hl hn (fun h' hn' hs => ?_) (by rw [o.kind]; rfl)
    refine h h' _ env.locals hs (.inl rfl) (.inl ⟨hl, _, hn', by simp⟩) (fun y w hy l => ?_) ⟨_, hn'⟩ fun y c e => ?_
    · rcases l with ⟨a, m', n', e⟩ | ⟨a, c, e, q⟩
      · have : m' = m := by
          obtain ⟨o1, es1, ep1, e1, d1, _, f1⟩ := n'
          obtain ⟨o2, es2, ep2, e2, d2, _, f2⟩ := hn
          rw [e1] at e2; cases e2
          rw [d1] at d2; cases d2
          funext z; rw [← f1, ← f2]
        subst this
        exact .inl ⟨a, _, hn', by simpa [hy] using e⟩
      · exact .inr ⟨a, c, e, q.sameBut hs (kc y c e)⟩
    · obtain ⟨v, q⟩ := R.cells y c e; exact ⟨v, q.sameBut hs (kc y c e)⟩
  · obtain ⟨v₀, q⟩ := R.cells x c hc
    refine wpAny_storeName_cell o.kind hl hc q fun h' hv hs => ?_
    refine h h' s.toks c hs (.inr ⟨x, hc⟩) (.inr ⟨hl, c, hc, hv⟩) (fun y w hy l => ?_) ⟨m, hn.sameBut hs (Ne.symm (kc x c hc))⟩ fun y c' e => ?_
    · rcases l with ⟨a, m', n', e⟩ | ⟨a, c', e, q⟩
      · exact .inl ⟨a, m', n'.sameBut hs (Ne.symm (kc x c hc)), e⟩
      · exact .inr ⟨a, c', e, q.sameBut hs fun e' => hy (R.cellinj y x c (e' ▸ e) hc)⟩
    · by_cases e' : c' = c
      · subst e'; exact ⟨_, hv⟩
      · obtain ⟨v, q⟩ := R.cells y c' e; exact ⟨v, q.sameBut hs e'⟩
theorem sameBut_mm {env : Env} {adr : Str → Addr} {h h' : Heap} {b : Addr} (hs : Heap.SameBut b h h') (hb : b = env.locals ∨ ∃ y, env.cells.lookup y = some b) : ∀ c o, ¬ MM env ρ adr c → h.get? c = some o → h'.get? c = some o := fun c o hc e =>
  hs.extBut c o (fun q => hc (q ▸ hb.elim .inl fun y => .inr (.inl y))) e
theorem own_ne {env : Env} {X : Addr → Prop} {hB h : Heap} {adr : Str → Addr} {b : Addr} (R : RealS C env X hB ρ adr h) (hb : b = env.locals ∨ ∃ y, env.cells.lookup y = some b) {y : Str} {d : D} (hm : (y, LV.own d) ∈ ρ) : adr y ≠ b := by
  rcases hb with rfl | ⟨z, e⟩
  · exact (R.ownL y d hm).1
  · exact fun q => (R.ownL y d hm).2 z (q ▸ e)
theorem xx_upd {env : Env} {X : Addr → Prop} {adr : Str → Addr} {ρ' : Store} {x : Str} {lv : LV} (U : Upd x lv ρ ρ') (hn : (ρ.map (·.1)).Nodup) (hlv : ∀ d, lv ≠ .own d) {a : Addr} (h : XX X env ρ' adr a) : XX X env ρ adr a := by
  rcases h with h | h | h | ⟨y, d, hm, e⟩
  · exact .inl h
  · exact .inr (.inl h)
  · exact .inr (.inr (.inl h))
  · rcases (U.mem hn y _).mp hm with ⟨rfl, he⟩ | ⟨_, hm⟩
    · exact absurd he.symm (hlv d)
    · exact .inr (.inr (.inr ⟨y, d, hm, e⟩))
theorem store_dat {env : Env} {X : Addr → Prop} {hB : Heap} {adr : Str → Addr} {s : Shared} {x : Str} {v : Value} {d : D} {ρ' : Store} {A : Around} {E : Value → Shared → Prop} {Q : Unit → Shared → Prop} (U : Upd x (.dat d) ρ ρ') (R : RealS C env X hB ρ adr s.heap) (o : EnvOK env)
    (rv : Rp C (XX X env ρ adr) s.heap v d) (h : ∀ h' tk, RealS C env X hB ρ' adr h' → Q () { s with heap := h', toks := tk }) : wpAny (model C.prog C.w) A (storeName env x v) Q E s := by
  obtain ⟨l0, m0, s0⟩ := U.old
  refine store_core R o (R.slots _ _ m0 s0) fun h' tk b hs hb hl hloc ns cs => h h' tk (R.put U rfl (fun _ _ => rfl) (sameBut_mm hs hb) hloc (fun y d _ hm o e => hs.extBut _ o (own_ne R hb hm) e) ns cs ?_ fun d e => by cases e)
  refine ⟨v, hl, rv.re2 fun c o hc e => ⟨sameBut_mm hs hb c o (fun q => hc (.inr q)) e, fun q => hc (xx_upd U R.nodup (fun _ e => by cases e) q)⟩⟩
/-- a new list or dict stored: it is owned -/
theorem store_own {env : Env} {X : Addr → Prop} {hB : Heap} {adr : Str → Addr} {s : Shared} {x : Str} {a : Addr} {d : D} {ρ' : Store} {A : Around} {E : Value → Shared → Prop} {Q : Unit → Shared → Prop} {h₀ : Heap} (U : Upd x (.own d) ρ ρ')
    (R₀ : RealS C env X hB ρ adr h₀) (hk₀ : Keep h₀ s.heap) (o : EnvOK env) (ha : h₀.get? a = none) (rv : OwnAt C (fun b => XX X env ρ adr b ∨ b = a) s.heap a d) (h : ∀ h' tk adr', RealS C env X hB ρ' adr' h' → Q () { s with heap := h', toks := tk }) :
    wpAny (model C.prog C.w) A (storeName env x (.ref a)) Q E s := by
  have R := R₀.keeps hk₀
  obtain ⟨l0, m0, s0⟩ := U.old
  have hne : ∀ b, (b = env.locals ∨ ∃ y, env.cells.lookup y = some b) → a ≠ b := fun b hb e => by
    have : XX X env ρ adr b := hb.elim (fun q => .inr (.inl q)) fun q => .inr (.inr (.inl q))
    exact R₀.toRealE.fresh ha (e ▸ this)
  refine store_core R o (R.slots _ _ m0 s0) fun h' tk b hs hb hl hloc ns cs => ?_
  -- the store is put in two steps of thought: the old heap h₀, then all at once
  have hk' : ∀ c o, ¬ MM env ρ adr c → h₀.get? c = some o → h'.get? c = some o := fun c o hc e => sameBut_mm hs hb c o hc (hk₀ c o e)
  refine h h' tk (fun y => if y = x then a else adr y) (R₀.put U rfl (fun y hy => by simp [hy]) hk' (fun y w hy l => hloc y w hy (l.keeps hk₀)) (fun y d' _ hm o e => hs.extBut _ o (own_ne R hb hm) (hk₀ _ _ e)) ns cs ?_ fun d' e => ?_)
  · have mm : ∀ c o, ¬ (XX X env ρ adr c ∨ c = a) → s.heap.get? c = some o → h'.get? c = some o ∧ ¬ XX X env ρ' (fun y => if y = x then a else adr y) c := fun c o hca' e => by
      have hc : ¬ XX X env ρ adr c := fun q => hca' (.inl q)
      have hca : c ≠ a := fun q => hca' (.inr q)
      refine ⟨sameBut_mm hs hb c o (fun q => hc (.inr q)) e, fun q => ?_⟩
      rcases q with q | q | q | ⟨y, d', hm, rfl⟩
      · exact hc (.inl q)
      · exact hc (.inr (.inl q))
      · exact hc (.inr (.inr (.inl q)))
      · rcases (U.mem R.nodup y _).mp hm with ⟨rfl, _⟩ | ⟨hy, hm⟩
        · simp at hca
        · simp only [hy, if_false] at hc
          exact hc (.inr (.inr (.inr ⟨y, d', hm, rfl⟩)))
    refine ⟨by simpa using hl, ?_⟩
    simp only [if_true]
    have ga : ∀ o, s.heap.get? a = some o → h'.get? a = some o := fun o e => hs.extBut a o (hne b hb) e
    cases d with
    | list ds => obtain ⟨vs, ⟨n, g⟩, r⟩ := rv; exact ⟨vs, ⟨n, ga _ g⟩, r.re2 mm⟩
    | dic ks => obtain ⟨h1, kvs, ⟨o, es, ep, g, r⟩, q⟩ := rv; exact ⟨h1, kvs, ⟨o, es, ep, ga _ g, r⟩, q⟩
    | _ => exact rv.elim
  · cases e
    refine ⟨?_, fun y e hy hm q => ?_, ⟨?_, fun y q => ?_⟩, .inl (by simpa using ha)⟩
    · simp only [if_true]
      cases e : hB.get? a with
      | none => rfl
      | some o => rw [R₀.keep a o e] at ha; cases ha
    · simp only [if_true] at q
      exact R₀.toRealE.fresh ha (.inr (.inr (.inr ⟨y, e, hm, q⟩)))
    · simp only [if_true]; exact hne _ (.inl rfl)
    · simp only [if_true] at q; exact hne a (.inr ⟨y, q⟩) rfl
end Mine
-- part Abs7
open PySem
set_option Elab.async false
set_option linter.unusedVariables false
namespace Mine
variable {C : Cx} {k : Nat} {ρ : Store}

/-! statements in a row -/
theorem OutOK.trans {env : Env} {X : Addr → Prop} {hB : Heap} {s s' : Shared} {h : Heap} {tk : Nat} {f : Flow} {o : Out} (e : s' = { s with heap := h, toks := tk }) {s'' : Shared} (q : OutOK C env X hB s' f s'' o) : OutOK C env X hB s f s'' o := by
  subst e
  cases o with
  | next ρ => obtain ⟨hf, h', tk', rfl, r⟩ := q; exact ⟨hf, h', tk', rfl, r⟩
  | ret d => obtain ⟨v, h', tk', hf, rfl, r⟩ := q; exact ⟨v, h', tk', hf, rfl, r⟩
theorem EvS.nil : EvS C k ρ [] (.next ρ) := fun A env X hB adr s E R o re => wpAny_execs_nil ⟨rfl, s.heap, s.toks, rfl, adr, re⟩
theorem EvS.cons {st : Stmt} {ss : List Stmt} {ρ' : Store} {out : Out} (h : Ev1 C k ρ st (.next ρ')) (r : EvS C k ρ' ss out) : EvS C k ρ (st :: ss) out := by
  intro A env X hB adr s E R o re
  refine wpAny_execs_cons (wpAny_mono (h A env X hB adr s E R o re) (fun f s₁ h₁ => ?_) fun _ _ e => e)
  obtain ⟨rfl, h', tk, rfl, adr', re'⟩ := h₁
  exact wpAny_mono (r A env X hB adr' _ E R o re') (fun f s₂ h₂ => OutOK.trans rfl h₂) fun _ _ e => e
theorem EvS.ret {st : Stmt} {ss : List Stmt} {d : D} (h : Ev1 C k ρ st (.ret d)) : EvS C k ρ (st :: ss) (.ret d) := by
  intro A env X hB adr s E R o re
  refine wpAny_execs_cons (wpAny_mono (h A env X hB adr s E R o re) (fun f s₁ h₁ => ?_) fun _ _ e => e)
  obtain ⟨v, h', tk, rfl, q⟩ := h₁
  exact ⟨v, h', tk, rfl, q⟩
theorem EvS.one {st : Stmt} {out : Out} (h : Ev1 C k ρ st out) : EvS C k ρ [st] out := by
  cases out with
  | next ρ' => exact EvS.cons h EvS.nil
  | ret d => exact EvS.ret h
/-! assignments -/
theorem Ev1.assign {x : Str} {p pos : Pos} {e : Expr} {d : D} {ρ' : Store} (h : EvE C k ρ e d) (U : Upd x (.dat d) ρ ρ') (hs : ∀ env, swapsWith e (some (.Name x p)) pos.line env = pure false := by intro _; rfl) :
    Ev1 C k ρ (.Assign [.Name x p] e pos) (.next ρ') := by
  intro A env X hB adr s E R o re
  refine wpAny_Assign_Name (wpAny_mono (h A env X adr s E R o re.toRealE) (fun v s₁ h₁ => ?_) fun _ _ e => e) (hs env)
  obtain ⟨⟨h', tk, rfl, hk⟩, rv⟩ := h₁
  exact store_dat U (re.keeps hk) o rv fun h'' tk' re' => ⟨rfl, h'', tk', rfl, adr, re'⟩
/-- an expression that makes a list or dict of its own -/
def EvF (C : Cx) (k : Nat) (ρ : Store) (e : Expr) (d : D) : Prop :=
  ∀ (A : Around) (env : Env) (X : Addr → Prop) (adr : Str → Addr) (s : Shared) (E : Value → Shared → Prop), Room k A → EnvOK env → RealE C env X ρ adr s.heap →
    wpAny (model C.prog C.w) A (eval e env) (fun v s' => Keeps s s' ∧ ∃ a, v = .ref a ∧ s.heap.get? a = none ∧ OwnAt C (fun b => XX X env ρ adr b ∨ b = a) s'.heap a d) E s
theorem Ev1.assignF {x : Str} {p pos : Pos} {e : Expr} {d : D} {ρ' : Store} (h : EvF C k ρ e d) (U : Upd x (.own d) ρ ρ') (hs : ∀ env, swapsWith e (some (.Name x p)) pos.line env = pure false := by intro _; rfl) :
    Ev1 C k ρ (.Assign [.Name x p] e pos) (.next ρ') := by
  intro A env X hB adr s E R o re
  refine wpAny_Assign_Name (wpAny_mono (h A env X adr s E R o re.toRealE) (fun v s₁ h₁ => ?_) fun _ _ e => e) (hs env)
  obtain ⟨⟨h', tk, rfl, hk⟩, a, rfl, ha, rv⟩ := h₁
  exact store_own U re hk o ha rv fun h'' tk' adr' re' => ⟨rfl, h'', tk', rfl, adr', re'⟩
theorem EvF.lst {es : List Expr} {ds : List D} {pos : Pos} (h : EvEs C k ρ es ds) (hs : ds.length ≤ sizeLine := by decide) : EvF C k ρ (.List es pos) (.list ds) := by
  intro A env X adr s E R o re
  refine wpAny_List (wpAny_mono (h.wp R o s E re) (fun vs s₁ h₁ => ⟨by rw [h₁.2.length]; exact hs, h₁.1.trans (.mk' fun b o e => Heap.get?_push_of_some _ e), _, rfl, ?_, ?_⟩) fun _ _ e => e)
  · cases e : s.heap.get? s₁.heap.objs.size with
    | none => rfl
    | some o => exact absurd (Heap.lt_size (h₁.1.keep _ _ e)) (Nat.lt_irrefl _)
  · refine ⟨vs.toArray, ⟨0, Heap.get?_push_size _ rfl⟩, ?_⟩
    have := (h₁.2.bar (Y := fun b => XX X env ρ adr b ∨ b = s₁.heap.objs.size) fun b q => q.imp id fun q => q ▸ get_none (Nat.le_refl _)).keeps (h' := s₁.heap.push { cls := .type "list", data := .seq vs.toArray }) fun b o e => Heap.get?_push_of_some _ e
    simpa using this
theorem EvF.dic {pos : Pos} : EvF C k ρ (.Dict [] [] pos) (.dic []) := by
  intro A env X adr s E R o re
  refine wpAny_Dict_empty ⟨.mk' fun b o e => Heap.get?_push_of_some _ e, _, rfl, get_none (Nat.le_refl _), ?_, [], Heap.DictOf.new s.heap, .nil⟩
  have hb : builtinsNs < s.heap.objs.size := re.base.b.lt
  have hm : mainGlobals < s.heap.objs.size := re.base.g.lt
  rw [beq_eq_false_iff_ne]
  show s.heap.objs.size ≠ 1
  have : (3 : Nat) < s.heap.objs.size := hm
  lia

/-- an owned list or dict is left alone from here on -/
theorem RealS.freeze {env : Env} {X : Addr → Prop} {hB h : Heap} {ρ ρ' : Store} {adr : Str → Addr} {x : Str} {d : D} (R : RealS C env X hB ρ adr h) (hm : (x, LV.own d) ∈ ρ) (U : Upd x (.dat d) ρ ρ') : RealS C env X hB ρ' adr h := by
  have ha : ¬ XX X env ρ' adr (adr x) := fun q => by
    rcases q with q | q | ⟨y, q⟩ | ⟨y, e, hy, q⟩
    · obtain ⟨o, e⟩ := R.aliveB _ q; rw [R.ownB x d hm] at e; cases e
    · exact (R.ownL x d hm).1 q
    · exact (R.ownL x d hm).2 y q
    · rcases (U.mem R.nodup y _).mp hy with ⟨_, he⟩ | ⟨hne, hy⟩
      · cases he
      · exact hne (R.inj y x e d hy hm q)
  refine R.put U rfl (fun _ _ => rfl) (fun _ _ _ e => e) (fun _ _ _ l => l) (fun _ _ _ _ _ e => e) R.ns R.cells ?_ fun d e => by cases e
  obtain ⟨l, r⟩ := R.ents _ _ hm
  refine ⟨_, l, ?_⟩
  have anti : ∀ a, XX X env ρ' adr a → XX X env ρ adr a ∨ h.get? a = none := fun a q => .inl (xx_upd U R.nodup (fun _ e => by cases e) q)
  cases d with
  | list ds => obtain ⟨vs, ⟨n, g⟩, r⟩ := r; exact .list ha g (r.bar anti)
  | dic ks => obtain ⟨hs, kvs, g, q⟩ := r; exact .dic ha hs g q
  | _ => exact r.elim
theorem EvS.freeze {x : Str} {d : D} {ρ' : Store} {ss : List Stmt} {out : Out} (hm : (x, LV.own d) ∈ ρ) (U : Upd x (.dat d) ρ ρ') (h : EvS C k ρ' ss out) : EvS C k ρ ss out :=
  fun A env X hB adr s E R o re => h A env X hB adr s E R o (re.freeze hm U)
theorem Ev1.freeze {x : Str} {d : D} {ρ' : Store} {st : Stmt} {out : Out} (hm : (x, LV.own d) ∈ ρ) (U : Upd x (.dat d) ρ ρ') (h : Ev1 C k ρ' st out) : Ev1 C k ρ st out :=
  fun A env X hB adr s E R o re => h A env X hB adr s E R o (re.freeze hm U)

/-! return, if, assert -/
theorem Ev1.ret {e : Expr} {d : D} {pos : Pos} (h : EvE C k ρ e d) : Ev1 C k ρ (.Return (some e) pos) (.ret d) := by
  intro A env X hB adr s E R o re
  refine wpAny_Return_some (wpAny_mono (h A env X adr s E R o re.toRealE) (fun v s₁ h₁ => ?_) fun _ _ e => e)
  obtain ⟨⟨h', tk, rfl, hk⟩, rv⟩ := h₁
  exact ⟨v, h', tk, rfl, rfl, fun b o e => hk b o (re.keep b o e), rv.bar fun a q => .inl (.inl q)⟩
theorem Ev1.iff {test : Expr} {body orelse : List Stmt} {pos : Pos} {b : Bool} {out : Out} (ht : EvT C k ρ test b) (h1 : b = true → EvS C k ρ body out) (h2 : b = false → EvS C k ρ orelse out) : Ev1 C k ρ (.If test body orelse pos) out := by
  intro A env X hB adr s E R o re
  refine wpAny_If (wpAny_mono (ht A env X adr s E R o re.toRealE) (fun b' s₁ h₁ => ?_) fun _ _ e => e)
  obtain ⟨⟨h', tk, rfl, hk⟩, rfl⟩ := h₁
  cases b' with
  | true => exact wpAny_mono (h1 rfl A env X hB adr _ E R o (re.keeps hk)) (fun f s₂ h₂ => OutOK.trans rfl h₂) fun _ _ e => e
  | false => exact wpAny_mono (h2 rfl A env X hB adr _ E R o (re.keeps hk)) (fun f s₂ h₂ => OutOK.trans rfl h₂) fun _ _ e => e
theorem Ev1.asrt {test : Expr} {msg : Option Expr} {pos : Pos} (ht : EvT C k ρ test true) : Ev1 C k ρ (.Assert test msg pos) (.next ρ) := by
  intro A env X hB adr s E R o re
  refine wpAny_Assert_holds (wpAny_mono (ht A env X adr s E R o re.toRealE) (fun b' s₁ h₁ => ?_) fun _ _ e => e)
  obtain ⟨⟨h', tk, rfl, hk⟩, rfl⟩ := h₁
  exact ⟨rfl, rfl, h', tk, rfl, adr, re.keeps hk⟩

/-! x op= e -/
def IopOK (C : Cx) (op : Operator) (a b d : D) : Prop :=
  ∀ (A : Around) (X : Addr → Prop) (s : Shared) (E : Value → Shared → Prop) (va vb : Value), Rp C X s.heap va a → Rp C X s.heap vb b →
    wpAny (model C.prog C.w) A (inplaceOp op va vb) (fun v s' => Keeps s s' ∧ Rp C X s'.heap v d) E s
theorem IopOK.add {a b : Int} : IopOK C .Add (.int a) (.int b) (.int (a + b)) := fun A X s E va vb h1 h2 => by (first | cases h1 using Rp.intE | cases h1 using Rp.strE | cases h1 using Rp.boolE | cases h1 using RpAll.nilE | cases h1); (first | cases h2 using Rp.intE | cases h2 using Rp.strE | cases h2 using Rp.boolE | cases h2 using RpAll.nilE | cases h2); exact P.iadd_int ⟨.tok, .int _ _⟩
theorem IopOK.sub {a b : Int} : IopOK C .Sub (.int a) (.int b) (.int (a - b)) := fun A X s E va vb h1 h2 => by (first | cases h1 using Rp.intE | cases h1 using Rp.strE | cases h1 using Rp.boolE | cases h1 using RpAll.nilE | cases h1); (first | cases h2 using Rp.intE | cases h2 using Rp.strE | cases h2 using Rp.boolE | cases h2 using RpAll.nilE | cases h2); exact P.isub_int ⟨.tok, .int _ _⟩
theorem IopOK.mul {a b : Int} (hm : IntMulOk a b) : IopOK C .Mult (.int a) (.int b) (.int (a * b)) := fun A X s E va vb h1 h2 => by (first | cases h1 using Rp.intE | cases h1 using Rp.strE | cases h1 using Rp.boolE | cases h1 using RpAll.nilE | cases h1); (first | cases h2 using Rp.intE | cases h2 using Rp.strE | cases h2 using Rp.boolE | cases h2 using RpAll.nilE | cases h2); exact P.imul_int ⟨.tok, .int _ _⟩ hm
theorem Ev1.aug {x : Str} {p pos : Pos} {op : Operator} {e : Expr} {a b d : D} {ρ' : Store} (hm : (x, LV.dat a) ∈ ρ) (h : EvE C k ρ e b) (hop : IopOK C op a b d) (U : Upd x (.dat d) ρ ρ') : Ev1 C k ρ (.AugAssign (.Name x p) op e pos) (.next ρ') := by
  intro A env X hB adr s E R o re
  obtain ⟨v, l, rp⟩ := re.ents _ _ hm
  refine wpAny_AugAssign_Name (loc_load o l (wpAny_mono (h A env X adr s E R o re.toRealE) (fun v2 s₁ h₁ => ?_) fun _ _ e => e))
  obtain ⟨⟨h', tk, rfl, hk⟩, rv⟩ := h₁
  refine wpAny_mono (hop A _ _ E v v2 (rp.keeps hk) rv) (fun v3 s₂ h₂ => ?_) fun _ _ e => e
  obtain ⟨⟨h'', tk', rfl, hk'⟩, rv⟩ := h₂
  exact store_dat U ((re.keeps hk).keeps hk') o rv fun h3 tk3 re' => ⟨rfl, h3, tk3, rfl, adr, re'⟩
end Mine
-- part Abs8
open PySem
set_option Elab.async false
set_option linter.unusedVariables false
namespace Mine
variable {C : Cx} {k : Nat} {ρ : Store}

/-- an owned object turned where it lies -/
theorem RealS.turnOwn {env : Env} {X : Addr → Prop} {hB h h' : Heap} {ρ ρ' : Store} {adr : Str → Addr} {x : Str} {d d' : D} (R : RealS C env X hB ρ adr h) (hm : (x, LV.own d) ∈ ρ) (U : Upd x (.own d') ρ ρ') (hs : Heap.SameBut (adr x) h h')
    (ho : OwnAt C (XX X env ρ adr) h' (adr x) d') : RealS C env X hB ρ' adr h' := by
  have hL := R.ownL x d hm
  have keep : ∀ b o, b ≠ adr x → h.get? b = some o → h'.get? b = some o := fun b o hb e => hs.extBut b o hb e
  have anti : ∀ a, XX X env ρ' adr a → XX X env ρ adr a ∨ h'.get? a = none := fun a q => by
    rcases q with q | q | q | ⟨y, e, hy, q⟩
    · exact .inl (.inl q)
    · exact .inl (.inr (.inl q))
    · exact .inl (.inr (.inr (.inl q)))
    · rcases (U.mem R.nodup y _).mp hy with ⟨rfl, _⟩ | ⟨_, hy⟩
      · exact .inl (.inr (.inr (.inr ⟨_, d, hm, q⟩)))
      · exact .inl (.inr (.inr (.inr ⟨y, e, hy, q⟩)))
  refine R.put U rfl (fun _ _ => rfl) (fun b o hb e => keep b o (fun q => hb (.inr (.inr ⟨x, d, hm, q.symm⟩))) e) (fun y w _ l => ?_) (fun y e hy hm' o q => keep _ o (fun z => hy (R.inj y x e d hm' hm z)) q) ?_ (fun y c e => ?_) ⟨?_, ?_⟩ fun e he => ?_
  · rcases l with ⟨a, m, n, e⟩ | ⟨a, c, e, q⟩
    · exact .inl ⟨a, m, n.sameBut hs (Ne.symm hL.1), e⟩
    · exact .inr ⟨a, c, e, q.sameBut hs fun z => hL.2 y (z ▸ e)⟩
  · obtain ⟨m, n⟩ := R.ns; exact ⟨m, n.sameBut hs (Ne.symm hL.1)⟩
  · obtain ⟨v, q⟩ := R.cells y c e; exact ⟨v, q.sameBut hs fun z => hL.2 y (z ▸ e)⟩
  · rcases (R.ents _ _ hm).1 with ⟨a, m, n, e⟩ | ⟨a, c, e, q⟩
    · exact .inl ⟨a, m, n.sameBut hs (Ne.symm hL.1), e⟩
    · exact .inr ⟨a, c, e, q.sameBut hs fun z => hL.2 x (z ▸ e)⟩
  · cases d' with
    | list ds => obtain ⟨vs, g, r⟩ := ho; exact ⟨vs, g, r.bar anti⟩
    | dic ks => exact ho
    | _ => exact ho.elim
  · exact ⟨R.ownB x d hm, fun y e' hy hm' q => hy (R.inj y x e' d hm' hm q), hL, .inr ⟨rfl, d, hm⟩⟩

/-- what the turned heap keeps of the values at hand -/
theorem turn_rp {env : Env} {X : Addr → Prop} {h h' : Heap} {adr : Str → Addr} {x : Str} {d : D} (hm : (x, LV.own d) ∈ ρ) (hs : Heap.SameBut (adr x) h h') {vs : List Value} {ds : List D} (r : RpAll C (XX X env ρ adr) h vs ds) : RpAll C (XX X env ρ adr) h' vs ds :=
  r.re2 fun b o hb e => ⟨hs.extBut b o (fun q => hb (.inr (.inr (.inr ⟨x, d, hm, q.symm⟩)))) e, hb⟩

theorem Ev1.append {x : Str} {p apos cpos pos : Pos} {e : Expr} {ds : List D} {d : D} {ρ' : Store} (hm : (x, LV.own (.list ds)) ∈ ρ) (h : EvE C k ρ e d) (U : Upd x (.own (.list (ds ++ [d]))) ρ ρ') (hz : ds.length ≤ sizeLine)
    (hp : PlainE e := by intro _ _; rfl) (hline : (apos.endLine == cpos.line) = true := by rfl) (hd : (x == ("__debug__" : Str)) = false := by decide) :
    Ev1 C k ρ (.Expr (.Call (.Attribute (.Name x p) "append" apos) [e] [] cpos) pos) (.next ρ') := by
  intro A env X hB adr s E R o re
  have hi : interactive env = false := by unfold interactive; rw [o.kind]; rfl
  refine wpAny_Expr_any (wpAny_Call_append rfl (by rw [hp]; rfl) hline (by rw [hp]; rfl) ?_) hi rfl
  obtain ⟨l, vs, ⟨n, g⟩, rp⟩ := re.ents _ _ hm
  refine wpAny_Name (loc_load o l ⟨adr x, vs, rfl, ⟨_, n, g, rfl, rfl, rfl⟩, wpAny_mono (h A env X adr s E R o re.toRealE) (fun v s₁ h₁ => ?_) fun _ _ e => e⟩) hd
  obtain ⟨⟨h', tk, rfl, hk⟩, rv⟩ := h₁
  refine wpAny_list_append_plain ⟨n, hk _ _ g⟩ (fun h'' hp'' hs => ?_) (by have := rp.length; simp at this; lia)
  refine ⟨rfl, h'', tk, rfl, adr, (re.keeps hk).turnOwn hm U hs ⟨_, hp'', ?_⟩⟩
  rw [Array.toList_push]
  exact turn_rp hm hs ((rp.keeps hk).append (.cons rv .nil))

theorem wpAny_setItem_plain {A : Around} {E : Value → Shared → Prop} {s : Shared} {l : Addr} {items : Array Value} {i : Int} {t : Tok} {v : Value} {Q : Unit → Shared → Prop} (hl : s.heap.PlainList l items)
    (h0 : 0 ≤ i) (hfit : i < 2 ^ 63) (hn : i < items.size)
    (hQ : ∀ h', h'.PlainList l (items.setIfInBounds i.toNat v) → Heap.SameBut l s.heap h' → Q () { s with heap := h' }) :
    wpAny (model C.prog C.w) A (setItem (.ref l) (.int i t) v) Q E s := by
  obtain ⟨n, ho⟩ := id hl
  have hL := hl.isList
  unfold setItem
  try with_reducible refine wpAny_holding ?_
  first | refine wpAny_bind (wpAny_pure ?_) | skip
  refine wpAny_bind (wpAny_sequenceKey hL.typeIs (by decide) ?_)
  refine wpAny_bind (wpAny_callSpecial?_slot (name := Str.ofString "__setitem__") hL.typeIs slot_list_setitem
    (wpAny_call_entry slot_list_setitem hL.typeIs entry_list_setitem ?_ (args_list_setitem _ _ _)))
  show wpAny _ _ (Builtin.List.listSubscript? (.int i t) >>= _) _ _ s
  refine wpAny_bind (wpAny_listSubscript_int (fitsIndex_of h0 hfit) ?_)
  clear hfit
  obtain ⟨j, rfl⟩ := Int.eq_ofNat_of_zero_le h0
  have hj : j < items.size := by lia
  have hx' : items[j]? = some items[j] := Array.getElem?_eq_getElem hj
  show wpAny _ _ ((seqItemAt l j >>= fun r => pure (r.map (j, ·))) >>= _) _ _ s
  refine wpAny_bind (wpAny_bind (wpAny_seqItemAt ho rfl (wpAny_pure ?_)))
  rw [hx']
  show wpAny _ _ (setSeqItemAt l j v >>= _) _ _ s
  have hfin : (s.heap.update l (Obj.mapSeq (·.setIfInBounds j v))).PlainList l (items.setIfInBounds j v) := by
    refine ⟨n, ?_⟩
    rw [Heap.get?_update_self _ ho (by simp [Obj.mapSeq]; rfl)]
    simp [Obj.mapSeq]
  refine wpAny_bind (wpAny_setSeqItemAt ho rfl ?_)
  first
    | exact wpAny_bind (wpAny_pure (wpAny_pure ⟨.none, rfl, wpAny_pure (hQ _ hfin (Heap.SameBut.update ..))⟩))
    | exact wpAny_pure ⟨.none, rfl, wpAny_pure (hQ _ hfin (Heap.SameBut.update ..))⟩

theorem Ev1.setL {x : Str} {p spos pos : Pos} {ie e : Expr} {ds : List D} {d : D} {i : Int} {ρ' : Store} (hm : (x, LV.own (.list ds)) ∈ ρ) (h : EvE C k ρ e d) (hi : EvE C k ρ ie (.int i)) (h0 : 0 ≤ i) (hn : i < ds.length) (hz : ds.length ≤ sizeLine)
    (U : Upd x (.own (.list (ds.set i.toNat d))) ρ ρ') (hs : ∀ env, swapsWith e (some (.Subscript (.Name x p) ie spos)) pos.line env = pure false := by intro _; rfl) (hd : (x == ("__debug__" : Str)) = false := by decide) :
    Ev1 C k ρ (.Assign [.Subscript (.Name x p) ie spos] e pos) (.next ρ') := by
  intro A env X hB adr s E R o re
  refine wpAny_Assign_Subscript (wpAny_mono (h A env X adr s E R o re.toRealE) (fun v s₁ h₁ => ?_) fun _ _ e => e) (hs env)
  obtain ⟨hk1, rv⟩ := h₁
  have re1 := re.keeps hk1.keep
  obtain ⟨l, vs, ⟨n, g⟩, rp⟩ := re1.ents _ _ hm
  refine wpAny_Name (loc_load o l (wpAny_mono (hi A env X adr s₁ E R o re1.toRealE) (fun iv s₂ h₂ => ?_) fun _ _ e => e)) hd
  obtain ⟨hk2, ri⟩ := h₂
  cases ri using Rp.intE with
  | int t =>
    have hlen : vs.size = ds.length := by have := rp.length; simpa using this
    refine wpAny_setItem_plain ⟨n, hk2.keep _ _ g⟩ h0 (by have : sizeLine = 2 ^ 24 := rfl; lia) (by lia) fun h3 hp3 hs3 => ?_
    obtain ⟨h1, tk1, rfl, hk1⟩ := hk1
    obtain ⟨h2, tk2, rfl, hk2⟩ := hk2
    refine ⟨rfl, h3, tk2, rfl, adr, ((re.keeps hk1).keeps hk2).turnOwn hm U hs3 ⟨_, hp3, ?_⟩⟩
    rw [Array.toList_setIfInBounds]
    exact turn_rp hm hs3 ((rp.keeps hk2).set _ (rv.keeps hk2))
/-- x[y] op= e in an owned list -/
theorem Ev1.augL {x y : Str} {p py spos pos : Pos} {op : Operator} {e : Expr} {ds : List D} {a b d : D} {i : Int} {ρ' : Store} (hm : (x, LV.own (.list ds)) ∈ ρ) (hi : EvE C k ρ (.Name y py) (.int i)) (h0 : 0 ≤ i) (hn : i < ds.length) (hz : ds.length ≤ sizeLine)
    (ha : ds[i.toNat]? = some a) (h : EvE C k ρ e b) (hop : IopOK C op a b d) (U : Upd x (.own (.list (ds.set i.toNat d))) ρ ρ') (hd : (x == ("__debug__" : Str)) = false := by decide) :
    Ev1 C k ρ (.AugAssign (.Subscript (.Name x p) (.Name y py) spos) op e pos) (.next ρ') := by
  intro A env X hB adr s E R o re
  obtain ⟨l, vs, ⟨n, g⟩, rp⟩ := re.ents _ _ hm
  refine wpAny_AugAssign_Subscript (wpAny_Name (loc_load o l (wpAny_mono (hi A env X adr s E R o re.toRealE) (fun iv s₁ h₁ => ?_) fun _ _ e => e)) hd)
  obtain ⟨⟨h1, tk1, rfl, hk1⟩, ri⟩ := h₁
  cases ri using Rp.intE with
  | int t =>
    have hlen : vs.size = ds.length := by have := rp.length; simpa using this
    obtain ⟨va, hva, ra⟩ := (rp.keeps hk1).get ha
    have hsz : sizeLine = 2 ^ 24 := rfl
    refine wpAny_getItem_list (Heap.PlainList.isList ⟨n, hk1 _ _ g⟩) h0 (by lia) (by simpa using hva) ?_
    refine wpAny_mono (h A env X adr _ E R o (re.keeps hk1).toRealE) (fun vb s₂ h₂ => ?_) fun _ _ e => e
    obtain ⟨⟨h2, tk2, rfl, hk2⟩, rb⟩ := h₂
    refine wpAny_mono (hop A _ _ E va vb (ra.keeps hk2) rb) (fun vd s₃ h₃ => ?_) fun _ _ e => e
    obtain ⟨⟨h3, tk3, rfl, hk3⟩, rd⟩ := h₃
    refine wpAny_setItem_plain ⟨n, hk3 _ _ (hk2 _ _ (hk1 _ _ g))⟩ h0 (by lia) (by lia) fun h4 hp4 hs4 => ?_
    refine ⟨rfl, h4, tk3, rfl, adr, (((re.keeps hk1).keeps hk2).keeps hk3).turnOwn hm U hs4 ⟨_, hp4, ?_⟩⟩
    rw [Array.toList_setIfInBounds]
    exact turn_rp hm hs4 ((((rp.keeps hk1).keeps hk2).keeps hk3).set _ rd)
theorem RpAll.erase {X : Addr → Prop} {h : Heap} (n : Nat) {vs : List Value} {ds : List D} (r : RpAll C X h vs ds) : RpAll C X h (vs.eraseIdx n) (ds.eraseIdx n) := by
  induction ds generalizing vs n with
  | nil => cases r using RpAll.nilE; exact .nil
  | cons d ds ih =>
    cases r using RpAll.consE with
    | cons a r =>
      cases n with
      | zero => exact r
      | succ n => exact .cons a (ih n r)
theorem Ev1.delL {x : Str} {p spos pos : Pos} {ie : Expr} {ds : List D} {i : Int} {j : Nat} {ρ' : Store} (hm : (x, LV.own (.list ds)) ∈ ρ) (hi : EvE C k ρ ie (.int i)) (hj : seqIndex? i ds.length = some j) (hr : Builtin.List.listFitsIndex i = true) (hz : ds.length ≤ sizeLine)
    (U : Upd x (.own (.list (ds.eraseIdx j))) ρ ρ') (hd : (x == ("__debug__" : Str)) = false := by decide) : Ev1 C k ρ (.Delete [.Subscript (.Name x p) ie spos] pos) (.next ρ') := by
  intro A env X hB adr s E R o re
  obtain ⟨l, vs, ⟨n, g⟩, rp⟩ := re.ents _ _ hm
  refine wpAny_Delete (wpAny_deleteEach_cons (wpAny_delete_Subscript (wpAny_Name (loc_load o l (wpAny_mono (hi A env X adr s E R o re.toRealE) (fun iv s₁ h₁ => ?_) fun _ _ e => e)) hd)))
  obtain ⟨⟨h1, tk1, rfl, hk1⟩, ri⟩ := h₁
  cases ri using Rp.intE with
  | int t =>
    have hlen : vs.size = ds.length := by have := rp.length; simpa using this
    refine wpAny_delItem_plain ⟨n, hk1 _ _ g⟩ hr (by rw [hlen]; exact hj) (fun h2 hp2 hs2 => ?_) (by lia)
    refine wpAny_deleteEach_nil ⟨rfl, h2, tk1, rfl, adr, (re.keeps hk1).turnOwn hm U hs2 ⟨_, hp2, ?_⟩⟩
    have : (vs.eraseIdxIfInBounds j).toList = vs.toList.eraseIdx j := by
      unfold Array.eraseIdxIfInBounds
      split
      · simp [Array.toList_eraseIdx]
      · rename_i h; rw [List.eraseIdx_of_length_le (by simpa using h)]
    rw [this]
    exact turn_rp hm hs2 ((rp.keeps hk1).erase j)

/-! dicts of ints by texts -/
def kput (ks : List (Str × Int)) (x : Str) (i : Int) : List (Str × Int) := if ks.any (fun q => q.1 = x) then ks.map (fun q => if q.1 = x then (q.1, i) else q) else ks ++ [(x, i)]
def kget (ks : List (Str × Int)) (x : Str) : Option Int := (ks.find? fun q => q.1 = x).map (·.2)
theorem Paired.append {α β : Type} {F : α → β → Prop} {a c : List α} {b d : List β} (h : Paired F a b) (h' : Paired F c d) : Paired F (a ++ c) (b ++ d) := by
  induction h with
  | nil => exact h'
  | cons x _ ih => exact .cons x ih
theorem IntsOf.put {kvs : List (Str × Value)} {ks : List (Str × Int)} (h : IntsOf kvs ks) (x : Str) (i : Int) (t : Tok) : IntsOf (stored kvs x (.int i t)) (kput ks x i) := by
  have hany : (kvs.any fun kv => kv.1 = x) = ks.any fun q => q.1 = x := by
    induction h with
    | nil => rfl
    | cons a r ih => rw [List.any_cons, List.any_cons, ih, a.1]
  unfold stored kput
  rw [hany]
  split
  · rename_i hq
    clear hq hany
    induction h with
    | nil => exact .nil
    | @cons a b _ _ h0 r ih =>
      refine .cons ?_ ih
      obtain ⟨e, t', e2⟩ := h0
      by_cases q : b.1 = x
      · simp only [e, q, if_true]; exact ⟨trivial, t, rfl⟩
      · simp only [e, q, if_false]; exact ⟨trivial, t', e2⟩
  · exact Paired.append h (.cons ⟨rfl, t, rfl⟩ .nil)
theorem IntsOf.get {kvs : List (Str × Value)} {ks : List (Str × Int)} (h : IntsOf kvs ks) (x : Str) : (kget ks x = none ∧ valueAt kvs x = none) ∨ ∃ i t, kget ks x = some i ∧ valueAt kvs x = some (.int i t) := by
  induction h with
  | nil => exact .inl ⟨rfl, rfl⟩
  | @cons a b _ _ h0 r ih =>
    obtain ⟨e, t, e2⟩ := h0
    by_cases q : b.1 = x
    · exact .inr ⟨b.2, t, by simp [kget, q], by simp [valueAt, e, q, e2]⟩
    · simpa [kget, valueAt, List.find?_cons, e, q] using ih
theorem IntsOf.length {kvs : List (Str × Value)} {ks : List (Str × Int)} (h : IntsOf kvs ks) : kvs.length = ks.length := Paired.length h

theorem Ev1.setD {x : Str} {p spos pos : Pos} {ie e : Expr} {ks : List (Str × Int)} {y : Str} {i : Int} {ρ' : Store} (hm : (x, LV.own (.dic ks)) ∈ ρ) (h : EvE C k ρ e (.int i)) (hi : EvE C k ρ ie (.str y)) (hz : ks.length ≤ 1000)
    (U : Upd x (.own (.dic (kput ks y i))) ρ ρ') (hs : ∀ env, swapsWith e (some (.Subscript (.Name x p) ie spos)) pos.line env = pure false := by intro _; rfl) (hd : (x == ("__debug__" : Str)) = false := by decide) :
    Ev1 C k ρ (.Assign [.Subscript (.Name x p) ie spos] e pos) (.next ρ') := by
  intro A env X hB adr s E R o re
  refine wpAny_Assign_Subscript (wpAny_mono (h A env X adr s E R o re.toRealE) (fun v s₁ h₁ => ?_) fun _ _ e => e) (hs env)
  obtain ⟨hk1, rv⟩ := h₁
  have re1 := re.keeps hk1.keep
  obtain ⟨l, hsm, kvs, g, q⟩ := re1.ents _ _ hm
  refine wpAny_Name (loc_load o l (wpAny_mono (hi A env X adr s₁ E R o re1.toRealE) (fun iv s₂ h₂ => ?_) fun _ _ e => e)) hd
  obtain ⟨hk2, ri⟩ := h₂
  cases ri using Rp.strE with
  | str t => cases rv using Rp.intE with
    | int u =>
      have hlen := q.length
      refine wpAny_setItem_pairs (knd := strKind C.prog C.w) (strKind_is C.prog C.w y t) (g.keep hk2.keep) (fun h3 hp3 hs3 => ?_) (by have : sizeLine = 2 ^ 24 := rfl; lia)
      obtain ⟨h1, tk1, rfl, hk1⟩ := hk1
      obtain ⟨h2, tk2, rfl, hk2⟩ := hk2
      exact ⟨rfl, h3, tk2 + 1, rfl, adr, ((re.keeps hk1).keeps hk2).turnOwn hm U hs3 ⟨hsm, _, hp3, q.put y i u⟩⟩
theorem Ev1.augD {x y : Str} {p py spos pos : Pos} {op : Operator} {e : Expr} {ks : List (Str × Int)} {z : Str} {a b c : Int} {ρ' : Store} (hm : (x, LV.own (.dic ks)) ∈ ρ) (hi : EvE C k ρ (.Name y py) (.str z)) (hz : ks.length ≤ 1000)
    (ha : kget ks z = some a) (h : EvE C k ρ e (.int b)) (hop : IopOK C op (.int a) (.int b) (.int c)) (U : Upd x (.own (.dic (kput ks z c))) ρ ρ') (hd : (x == ("__debug__" : Str)) = false := by decide) :
    Ev1 C k ρ (.AugAssign (.Subscript (.Name x p) (.Name y py) spos) op e pos) (.next ρ') := by
  intro A env X hB adr s E R o re
  obtain ⟨l, hsm, kvs, g, q⟩ := re.ents _ _ hm
  refine wpAny_AugAssign_Subscript (wpAny_Name (loc_load o l (wpAny_mono (hi A env X adr s E R o re.toRealE) (fun iv s₁ h₁ => ?_) fun _ _ e => e)) hd)
  obtain ⟨⟨h1, tk1, rfl, hk1⟩, ri⟩ := h₁
  cases ri using Rp.strE with
  | str t =>
    rcases q.get z with ⟨e1, _⟩ | ⟨a', t', e1, e2⟩
    · rw [ha] at e1; cases e1
    · rw [ha] at e1; cases e1
      refine wpAny_getItem_of (knd := strKind C.prog C.w) (strKind_is C.prog C.w z t) (g.keep hk1).mapOf e2 ?_
      refine wpAny_mono (h A env X adr _ E R o (re.keeps hk1).toRealE) (fun vb s₂ h₂ => ?_) fun _ _ e => e
      obtain ⟨⟨h2, tk2, rfl, hk2⟩, rb⟩ := h₂
      refine wpAny_mono (hop A (fun _ => False) _ E _ vb (.int _ _) (rb.bar fun _ q => q.elim)) (fun vd s₃ h₃ => ?_) fun _ _ e => e
      obtain ⟨⟨h3, tk3, rfl, hk3⟩, rd⟩ := h₃
      cases rd using Rp.intE with
      | int u =>
        have hlen := q.length
        refine wpAny_setItem_pairs (knd := strKind C.prog C.w) (strKind_is C.prog C.w z t) (((g.keep hk1).keep hk2).keep hk3) (fun h4 hp4 hs4 => ?_) (by have : sizeLine = 2 ^ 24 := rfl; lia)
        exact ⟨rfl, h4, tk3 + 1, rfl, adr, (((re.keeps hk1).keeps hk2).keeps hk3).turnOwn hm U hs4 ⟨hsm, _, hp4, q.put z c u⟩⟩
end Mine
-- part Abs9
open PySem
set_option Elab.async false
set_option linter.unusedVariables false
namespace Mine
variable {C : Cx} {k : Nat} {ρ : Store}

/-! the part of the heap that no statement of this frame turns -/
def mmList (env : Env) (ρ : Store) (adr : Str → Addr) : List Addr :=
  env.locals :: (env.cells.filterMap fun p => env.cells.lookup p.1) ++ ρ.filterMap fun p => match p.2 with | .own _ => some (adr p.1) | _ => none
theorem lookup_mem {α β : Type} [BEq α] [LawfulBEq α] : ∀ {l : List (α × β)} {a : α} {b : β}, l.lookup a = some b → (a, b) ∈ l
  | (x, y) :: r, a, b, h => by
    rw [List.lookup_cons] at h
    cases e : a == x with
    | true => rw [e] at h; (first | cases h using Rp.intE | cases h using Rp.strE | cases h using Rp.boolE | cases h using RpAll.nilE | cases h); rw [eq_of_beq e]; exact .head _
    | false => rw [e] at h; exact .tail _ (lookup_mem h)
theorem mem_mmList {env : Env} {adr : Str → Addr} {a : Addr} : a ∈ mmList env ρ adr ↔ MM env ρ adr a := by
  unfold mmList MM
  rw [List.mem_append, List.mem_cons]
  constructor
  · rintro ((h | h) | h)
    · exact .inl h
    · obtain ⟨p, _, e⟩ := List.mem_filterMap.mp h; exact .inr (.inl ⟨p.1, e⟩)
    · obtain ⟨⟨x, l⟩, hp, e⟩ := List.mem_filterMap.mp h
      cases l <;> simp at e
      exact .inr (.inr ⟨x, _, hp, e⟩)
  · rintro (h | ⟨x, h⟩ | ⟨x, d, hm, h⟩)
    · exact .inl (.inl h)
    · exact .inl (.inr (List.mem_filterMap.mpr ⟨(x, a), lookup_mem h, h⟩))
    · exact .inr (List.mem_filterMap.mpr ⟨(x, .own d), hm, by simpa using h⟩)
def still (h : Heap) (l : List Addr) : Heap := PySem.W.hideAll h l
theorem still_get {h : Heap} {l : List Addr} {b : Addr} {o : Obj} (e : h.get? b = some o) (hb : b ∉ l) : (still h l).get? b = some o := PySem.W.hideAll_get _ e hb
theorem still_none {h : Heap} {l : List Addr} {b : Addr} (hb : b ∈ l) : (still h l).get? b = none := PySem.W.hideAll_none _ hb
theorem still_keep {h : Heap} {l : List Addr} : Keep (still h l) h := fun _ _ e => PySem.W.of_hideAll _ e

theorem RealS.re {env : Env} {X X' : Addr → Prop} {hB hB' h h' : Heap} {adr : Str → Addr} {wr : List Addr} (R : RealS C env X hB ρ adr h) (hk : ∀ b o, b ∉ wr → h.get? b = some o → h'.get? b = some o) (wrX : ∀ b ∈ wr, X b ∧ ¬ MM env ρ adr b)
    (hX : ∀ b, X' b → X b ∨ h.get? b = none) (B' : Base C hB') (kB : Keep hB' h') (mmB : ∀ b, MM env ρ adr b → hB'.get? b = none) (alB : Alive X' hB') : RealS C env X' hB' ρ adr h' := by
  have nm : ∀ b o, MM env ρ adr b → h.get? b = some o → h'.get? b = some o := fun b o hb e => hk b o (fun q => (wrX b q).2 hb) e
  have mm : ∀ b o, ¬ XX X env ρ adr b → h.get? b = some o → h'.get? b = some o ∧ ¬ XX X' env ρ adr b := fun b o hb e => by
    refine ⟨hk b o (fun q => hb (.inl (wrX b q).1)) e, fun q => ?_⟩
    rcases q with q | q
    · exact (hX b q).elim (fun z => hb (.inl z)) fun z => by rw [e] at z; cases z
    · exact hb (.inr q)
  have loc : ∀ y w, Loc env h y w → Loc env h' y w := fun y w l => by
    rcases l with ⟨a, m, n, e⟩ | ⟨a, c, e, q⟩
    · refine .inl ⟨a, m, ?_, e⟩
      obtain ⟨o, es, ep, e, r⟩ := n; exact ⟨o, es, ep, nm _ _ (.inl rfl) e, r⟩
    · refine .inr ⟨a, c, e, ?_⟩
      obtain ⟨o, q, r⟩ := q; exact ⟨o, nm _ _ (.inr (.inl ⟨y, e⟩)) q, r⟩
  refine RealS.mk (RealE.mk (B'.keeps kB) ?_ (fun y c e => ?_) (fun y l hm => ?_) (fun a ha => ?_)) R.nodup R.inj R.slots R.cellinj B' kB (mmB _ (.inl rfl)) (fun x c e => mmB _ (.inr (.inl ⟨x, e⟩))) (fun x d m => mmB _ (.inr (.inr ⟨x, d, m, rfl⟩))) R.ownL alB
  · obtain ⟨m, o, es, ep, e, r⟩ := R.ns; exact ⟨m, o, es, ep, nm _ _ (.inl rfl) e, r⟩
  · obtain ⟨v, o, q, r⟩ := R.cells y c e; exact ⟨v, o, nm _ _ (.inr (.inl ⟨y, e⟩)) q, r⟩
  · have old := R.ents y l hm
    cases l with
    | dat d => obtain ⟨v, l, r⟩ := old; exact ⟨v, loc y v l, r.re2 mm⟩
    | own d =>
      obtain ⟨l, r⟩ := old
      have own : ∀ o, h.get? (adr y) = some o → h'.get? (adr y) = some o := fun o e => nm _ _ (.inr (.inr ⟨y, d, hm, rfl⟩)) e
      refine ⟨loc y _ l, ?_⟩
      cases d with
      | list ds => obtain ⟨vs, ⟨n, g⟩, r⟩ := r; exact ⟨vs, ⟨n, own _ g⟩, r.re2 mm⟩
      | dic ks => obtain ⟨hs, kvs, ⟨o, es, ep, g, r⟩, q⟩ := r; exact ⟨hs, kvs, ⟨o, es, ep, own _ g, r⟩, q⟩
      | _ => exact r.elim
    | gl d => exact old
    | bi v => exact old
    | unb => exact old
    | kn ys => exact old
  · obtain ⟨o, e⟩ := alB a ha; exact ⟨o, kB a o e⟩
theorem RealS.mm_dead {env : Env} {X : Addr → Prop} {hB h : Heap} {adr : Str → Addr} (R : RealS C env X hB ρ adr h) {b : Addr} (hb : MM env ρ adr b) : hB.get? b = none := by
  rcases hb with rfl | ⟨y, q⟩ | ⟨y, d, hm, rfl⟩
  · exact R.locB
  · exact R.cellB y b q
  · exact R.ownB y d hm
/-- the frame's own heap, all but what it may turn -/
theorem keep_still {hx h : Heap} {l : List Addr} (hk : Keep hx h) (hl : ∀ b ∈ l, hx.get? b = none) : Keep hx (still h l) := fun b o e => still_get (hk b o e) fun q => by rw [hl b q] at e; cases e

def isTupE : Expr → Bool
  | .Tuple _ _ _ => true
  | _ => false
/-! a walk over data -/
structure Wk (fl : Bool) (C : Cx) (A : Around) (X : Addr → Prop) (hx : Heap) (I : Addr) (fp wr : List Addr) (ds : List D) (St : Nat → Heap → Prop) (Mid : Nat → Value → Heap → Prop) : Prop where
  sub : ∀ b ∈ wr, b ∈ fp
  frame : ∀ i h h', St i h → (∀ b ∈ fp, ∀ o, h.get? b = some o → h'.get? b = some o) → St i h'
  live : ∀ i h, St i h → ∀ b ∈ fp, ∃ o, h.get? b = some o
  item : ∀ i d (s : Shared) (Q : Option Value → Shared → Prop) (E : Value → Shared → Prop), ds[i]? = some d → St i s.heap → Keep hx s.heap →
    (∀ v h' tk, Mid i v h' → (∀ Y : Addr → Prop, (∀ b, Y b → (X b ∨ hx.get? b = none) ∧ ∃ o, s.heap.get? b = some o) → Rp C Y h' v d) → (∀ b o, b ∉ wr → s.heap.get? b = some o → h'.get? b = some o) → Q (some v) { s with heap := h', toks := tk }) →
    wpAny (model C.prog C.w) A (pyNext (.ref I)) Q E s
  go : ∀ tgt i v (s : Shared) (Q : Unit → Shared → Prop) (E : Value → Shared → Prop), (fl = true ∨ isTupE tgt = true) → Mid i v s.heap → (∀ h', St (i + 1) h' → (∀ b o, b ∉ wr → s.heap.get? b = some o → h'.get? b = some o) → Q () { s with heap := h' }) →
    wpAny (model C.prog C.w) A (letOwnedTupleGo tgt (.ref I) v) Q E s
  self : fl = true → ∀ i (s : Shared) (Q : Value → Shared → Prop) (E : Value → Shared → Prop), St i s.heap → Q (.ref I) s → wpAny (model C.prog C.w) A (pyIter (.ref I)) Q E s
  liveM : ∀ i v h, Mid i v h → ∀ b ∈ wr, ∃ o, h.get? b = some o
  done : ∀ (s : Shared) (Q : Option Value → Shared → Prop) (E : Value → Shared → Prop), St ds.length s.heap →
    (∀ h' tk, (∀ b o, b ∉ wr → s.heap.get? b = some o → h'.get? b = some o) → Q none { s with heap := h', toks := tk }) → wpAny (model C.prog C.w) A (pyNext (.ref I)) Q E s

/-- what a target does with an item -/
inductive Tgt : Expr → D → Store → Store → Prop
  | name {x : Str} {p : Pos} {d : D} {ρ ρ' : Store} (U : Upd x (.dat d) ρ ρ') : Tgt (.Name x p) d ρ ρ'
  | two {x y : Str} {p q : Pos} {kd : Nat} {pos : Pos} {d e : D} {ρ ρ' ρ'' : Store} (U : Upd x (.dat d) ρ ρ') (V : Upd y (.dat e) ρ' ρ'') : Tgt (.Tuple [.Name x p, .Name y q] kd pos) (.tup [d, e]) ρ ρ''
  | three {x y z : Str} {p q r : Pos} {kd : Nat} {pos : Pos} {d e f : D} {ρ ρ' ρ'' ρ3 : Store} (U : Upd x (.dat d) ρ ρ') (V : Upd y (.dat e) ρ' ρ'') (W : Upd z (.dat f) ρ'' ρ3) : Tgt (.Tuple [.Name x p, .Name y q, .Name z r] kd pos) (.tup [d, e, f]) ρ ρ3
  | five {x y z u t : Str} {p q r p4 p5 : Pos} {kd : Nat} {pos : Pos} {d e f g i : D} {ρ ρ1 ρ2 ρ3 ρ4 ρ5 : Store} (U : Upd x (.dat d) ρ ρ1) (V : Upd y (.dat e) ρ1 ρ2) (W : Upd z (.dat f) ρ2 ρ3) (U4 : Upd u (.dat g) ρ3 ρ4) (U5 : Upd t (.dat i) ρ4 ρ5) :
      Tgt (.Tuple [.Name x p, .Name y q, .Name z r, .Name u p4, .Name t p5] kd pos) (.tup [d, e, f, g, i]) ρ ρ5
theorem xx_dat {env : Env} {X : Addr → Prop} {adr : Str → Addr} {ρ' : Store} {x : Str} {d : D} (U : Upd x (.dat d) ρ ρ') (hn : (ρ.map (·.1)).Nodup) {h : Heap} {v : Value} {e : D} (r : Rp C (XX X env ρ adr) h v e) : Rp C (XX X env ρ' adr) h v e :=
  r.bar fun a q => .inl (xx_upd U hn (fun _ e => by cases e) q)

/-- a name bound to a value at hand; other values at hand stay good -/
theorem bind_st {env : Env} {X : Addr → Prop} {hB : Heap} {adr : Str → Addr} {s : Shared} {x : Str} {v : Value} {d : D} {ρ' : Store} {A : Around} {E : Value → Shared → Prop} {Q : Unit → Shared → Prop} (U : Upd x (.dat d) ρ ρ') (R : RealS C env X hB ρ adr s.heap) (o : EnvOK env)
    (rv : Rp C (XX X env ρ adr) s.heap v d) (h : ∀ h' tk, RealS C env X hB ρ' adr h' → (∀ w e, Rp C (XX X env ρ adr) s.heap w e → Rp C (XX X env ρ' adr) h' w e) → (∀ b o, ¬ MM env ρ adr b → s.heap.get? b = some o → h'.get? b = some o) → Q () { s with heap := h', toks := tk }) :
    wpAny (model C.prog C.w) A (storeName env x v) Q E s := by
  obtain ⟨l0, m0, s0⟩ := U.old
  have anti : ∀ a, XX X env ρ' adr a → XX X env ρ adr a := fun a q => xx_upd U R.nodup (fun _ e => by cases e) q
  refine store_core R o (R.slots _ _ m0 s0) fun h' tk b hs hb hl hloc ns cs => ?_
  have tr : ∀ w e, Rp C (XX X env ρ adr) s.heap w e → Rp C (XX X env ρ' adr) h' w e := fun w e r => r.re2 fun c o hc e => ⟨sameBut_mm hs hb c o (fun q => hc (.inr q)) e, fun q => hc (anti c q)⟩
  exact h h' tk (R.put U rfl (fun _ _ => rfl) (sameBut_mm hs hb) hloc (fun y d _ hm o e => hs.extBut _ o (own_ne R hb hm) e) ns cs ⟨v, hl, tr _ _ rv⟩ fun d e => by cases e) tr (sameBut_mm hs hb)
theorem bind_dat {env : Env} {X : Addr → Prop} {hB : Heap} {adr : Str → Addr} {s : Shared} {x : Str} {p : Pos} {v : Value} {d : D} {ρ' : Store} {A : Around} {E : Value → Shared → Prop} {Q : Unit → Shared → Prop} (U : Upd x (.dat d) ρ ρ') (R : RealS C env X hB ρ adr s.heap) (o : EnvOK env)
    (rv : Rp C (XX X env ρ adr) s.heap v d) (h : ∀ h' tk, RealS C env X hB ρ' adr h' → (∀ w e, Rp C (XX X env ρ adr) s.heap w e → Rp C (XX X env ρ' adr) h' w e) → (∀ b o, ¬ MM env ρ adr b → s.heap.get? b = some o → h'.get? b = some o) → Q () { s with heap := h', toks := tk }) :
    wpAny (model C.prog C.w) A (assign (.Name x p) env v) Q E s := wpAny_assign_Name (bind_st U R o rv h)
theorem mm_upd {env : Env} {adr : Str → Addr} {ρ' : Store} {x : Str} {d : D} (U : Upd x (.dat d) ρ ρ') (hn : (ρ.map (·.1)).Nodup) {a : Addr} (h : MM env ρ' adr a) : MM env ρ adr a := by
  rcases h with h | h | ⟨y, d, hm, e⟩
  · exact .inl h
  · exact .inr (.inl h)
  · rcases (U.mem hn y _).mp hm with ⟨rfl, he⟩ | ⟨_, hm⟩
    · cases he
    · exact .inr (.inr ⟨y, d, hm, e⟩)

/-- a target is bound -/
theorem Tgt.bind {env : Env} {X : Addr → Prop} {hB : Heap} {adr : Str → Addr} {s : Shared} {tgt : Expr} {v : Value} {d : D} {ρ' : Store} {A : Around} {E : Value → Shared → Prop} {Q : Unit → Shared → Prop} (T : Tgt tgt d ρ ρ') (R : RealS C env X hB ρ adr s.heap) (o : EnvOK env) (hh : A.handled = none)
    (rv : Rp C (XX X env ρ adr) s.heap v d) (h : ∀ h' tk, RealS C env X hB ρ' adr h' → (∀ b o, ¬ MM env ρ adr b → s.heap.get? b = some o → h'.get? b = some o) → (∀ b, MM env ρ' adr b → MM env ρ adr b) → Q () { s with heap := h', toks := tk }) :
    wpAny (model C.prog C.w) A (assign tgt env v) Q E s := by
  cases T with
  | name U => exact bind_dat U R o rv fun h' tk R' _ km => h h' tk R' km fun b q => mm_upd U R.nodup q
  | two U V =>
    cases rv using Rp.tupE with
    | @tup a vs n hx g r =>
      cases hvs : vs with | mk l =>
      subst hvs
      cases r using RpAll.consE with | cons r1 r => cases r using RpAll.consE with | cons r2 r => cases r using RpAll.nilE with | nil =>
      refine wpAny_assign_Tuple hh ⟨_, g, rfl, n, rfl⟩ rfl rfl fun h1 hx1 => ?_
      have k1 : Keep s.heap h1 := fun b ob e => hx1 b ob (Nat.ne_of_lt (Heap.lt_size e)) e
      have R1 := R.keeps k1
      refine wpAny_bind (wpAny_holding (bind_dat U R1 o (r1.keeps k1) fun h2 t2 R2 tr2 km2 => ?_))
      refine wpAny_bind (wpAny_holding (bind_dat V R2 o (tr2 _ _ (r2.keeps k1)) fun h3 t3 R3 tr3 km3 => wpAny_pure ?_))
      exact h h3 t3 R3 (fun b ob hb e => km3 b ob (fun q => hb (mm_upd U R.nodup q)) (km2 b ob hb (k1 b ob e))) fun b q => mm_upd U R.nodup (mm_upd V R2.nodup q)
  | three U V W =>
    cases rv using Rp.tupE with
    | @tup a vs n hx g r =>
      cases hvs : vs with | mk l =>
      subst hvs
      cases r using RpAll.consE with | cons r1 r => cases r using RpAll.consE with | cons r2 r => cases r using RpAll.consE with | cons r3 r => cases r using RpAll.nilE with | nil =>
      refine wpAny_assign_Tuple hh ⟨_, g, rfl, n, rfl⟩ rfl rfl fun h1 hx1 => ?_
      have k1 : Keep s.heap h1 := fun b ob e => hx1 b ob (Nat.ne_of_lt (Heap.lt_size e)) e
      have R1 := R.keeps k1
      refine wpAny_bind (wpAny_holding (bind_dat U R1 o (r1.keeps k1) fun h2 t2 R2 tr2 km2 => ?_))
      refine wpAny_bind (wpAny_holding (bind_dat V R2 o (tr2 _ _ (r2.keeps k1)) fun h3 t3 R3 tr3 km3 => ?_))
      refine wpAny_bind (wpAny_holding (bind_dat W R3 o (tr3 _ _ (tr2 _ _ (r3.keeps k1))) fun h4 t4 R4 tr4 km4 => wpAny_pure ?_))
      exact h h4 t4 R4 (fun b ob hb e => km4 b ob (fun q => hb (mm_upd U R.nodup (mm_upd V R2.nodup q))) (km3 b ob (fun q => hb (mm_upd U R.nodup q)) (km2 b ob hb (k1 b ob e)))) fun b q => mm_upd U R.nodup (mm_upd V R2.nodup (mm_upd W R3.nodup q))
  | five U V W U4 U5 =>
    cases rv using Rp.tupE with
    | @tup a vs n hx g r =>
      cases hvs : vs with | mk l =>
      subst hvs
      cases r using RpAll.consE with | cons r1 r => cases r using RpAll.consE with | cons r2 r => cases r using RpAll.consE with | cons r3 r => cases r using RpAll.consE with | cons r4 r => cases r using RpAll.consE with | cons r5 r => cases r using RpAll.nilE with | nil =>
      refine wpAny_assign_Tuple hh ⟨_, g, rfl, n, rfl⟩ rfl rfl fun h1 hx1 => ?_
      have k1 : Keep s.heap h1 := fun b ob e => hx1 b ob (Nat.ne_of_lt (Heap.lt_size e)) e
      have R1 := R.keeps k1
      refine wpAny_bind (wpAny_holding (bind_dat U R1 o (r1.keeps k1) fun h2 t2 R2 tr2 km2 => ?_))
      refine wpAny_bind (wpAny_holding (bind_dat V R2 o (tr2 _ _ (r2.keeps k1)) fun h3 t3 R3 tr3 km3 => ?_))
      refine wpAny_bind (wpAny_holding (bind_dat W R3 o (tr3 _ _ (tr2 _ _ (r3.keeps k1))) fun h4 t4 R4 tr4 km4 => ?_))
      refine wpAny_bind (wpAny_holding (bind_dat U4 R4 o (tr4 _ _ (tr3 _ _ (tr2 _ _ (r4.keeps k1)))) fun h5 t5 R5 tr5 km5 => ?_))
      refine wpAny_bind (wpAny_holding (bind_dat U5 R5 o (tr5 _ _ (tr4 _ _ (tr3 _ _ (tr2 _ _ (r5.keeps k1))))) fun h6 t6 R6 tr6 km6 => wpAny_pure ?_))
      exact h h6 t6 R6 (fun b ob hb e => km6 b ob (fun q => hb (mm_upd U R.nodup (mm_upd V R2.nodup (mm_upd W R3.nodup (mm_upd U4 R4.nodup q))))) (km5 b ob (fun q => hb (mm_upd U R.nodup (mm_upd V R2.nodup (mm_upd W R3.nodup q))))
        (km4 b ob (fun q => hb (mm_upd U R.nodup (mm_upd V R2.nodup q))) (km3 b ob (fun q => hb (mm_upd U R.nodup q)) (km2 b ob hb (k1 b ob e)))))) fun b q => mm_upd U R.nodup (mm_upd V R2.nodup (mm_upd W R3.nodup (mm_upd U4 R4.nodup (mm_upd U5 R5.nodup q))))

/-! for -/
inductive LoopS (C : Cx) (k : Nat) (tgt : Expr) (body : List Stmt) : List D → Store → Out → Prop
  | done {ρ : Store} : LoopS C k tgt body [] ρ (.next ρ)
  | turn {d : D} {ds : List D} {ρ ρ1 ρ2 : Store} {out : Out} (T : Tgt tgt d ρ ρ1) (h : EvS C k ρ1 body (.next ρ2)) (r : LoopS C k tgt body ds ρ2 out) : LoopS C k tgt body (d :: ds) ρ out
  | ret {d : D} {ds : List D} {ρ ρ1 : Store} {e : D} (T : Tgt tgt d ρ ρ1) (h : EvS C k ρ1 body (.ret e)) : LoopS C k tgt body (d :: ds) ρ (.ret e)
def EvI (C : Cx) (k : Nat) (ρ : Store) (e : Expr) (ds : List D) (fl : Bool) : Prop :=
  ∀ (A : Around) (env : Env) (X : Addr → Prop) (adr : Str → Addr) (s : Shared) (E : Value → Shared → Prop) (Q : Value → Shared → Prop), Room k A → EnvOK env → RealE C env X ρ adr s.heap →
    (∀ s₂ I fp wr St Mid, Keeps s s₂ → St 0 s₂.heap → (∀ b ∈ wr, s.heap.get? b = none) → (∀ b ∈ fp, ¬ MM env ρ adr b) → (fl = true → ∀ i v h, Mid i v h → St (i + 1) h) →
      (∀ hx, (∀ b o, s₂.heap.get? b = some o → ¬ MM env ρ adr b → b ∉ wr → hx.get? b = some o) → Keep hx s₂.heap → (∀ b ∈ wr, hx.get? b = none) → Wk fl C A X hx I fp wr ds St Mid) → Q (.ref I) s₂) →
    wpAny (model C.prog C.w) A (eval e env) (fun x s₁ => wpAny (model C.prog C.w) A (pyIter x) Q E s₁) E s

/-- what holds between a for's turns -/
inductive FInv (C : Cx) (k : Nat) (tgt : Expr) (body : List Stmt) (ds : List D) (out : Out) (s : Shared) (env : Env) (Y : Addr → Prop) (fp : List Addr) (St : Nat → Heap → Prop) (hx : Heap) : Nat → Shared → Prop
  | mk {n : Nat} (i : Nat) (ρi : Store) (adri : Str → Addr) (h : Heap) (tk : Nat) (hm : Heap) (hn : n + i = ds.length) (Li : LoopS C k tgt body (ds.drop i) ρi out) (sti : St i h) (ri : RealS C env Y hm ρi adri h) (kxm : Keep hx hm) (fpi : ∀ b ∈ fp, ¬ MM env ρi adri b) :
    FInv C k tgt body ds out s env Y fp St hx n { s with heap := h, toks := tk }
theorem Ev1.for {tgt iter : Expr} {body : List Stmt} {pos : Pos} {ds : List D} {out : Out} {fl : Bool} (hi : EvI C k ρ iter ds fl) (L : LoopS C k tgt body ds ρ out) (hs : ∀ env x, foldedSetIterable iter env x = pure x := by intro _ _; rfl) (hfl : fl = true ∨ isTupE tgt = true := by first | exact .inl rfl | exact .inr rfl) : Ev1 C k ρ (.For tgt iter body [] pos) out := by
  intro A env X hB adr s E R o re
  refine wpAny_For (hi A env X adr s E _ R o re.toRealE fun s₂ I fp wr St Mid hk st hwr hfp _ hw => ?_) (hs env)
  obtain ⟨h2, tk2, rfl, hk⟩ := hk
  have hwrM : ∀ b ∈ wr, ¬ MM env ρ adr b := fun b hb q => by
    obtain ⟨o, e⟩ := re.toRealE.xx_alive (.inr q); rw [hwr b hb] at e; cases e
  have wrB : ∀ b ∈ wr, hB.get? b = none := fun b hb => by
    cases e : hB.get? b with
    | none => rfl
    | some ob => have := hwr b hb; rw [re.keep b ob e] at this; cases this
  have W := hw (still h2 (mmList env ρ adr ++ wr)) (fun b ob e hm hb => still_get e fun q => (List.mem_append.mp q).elim (fun q => hm (mem_mmList.mp q)) hb) still_keep fun b hb => still_none (List.mem_append_right _ hb)
  have hxwr : ∀ b ∈ wr, (still h2 (mmList env ρ adr ++ wr)).get? b = none := fun b hb => still_none (List.mem_append_right _ hb)
  have kx : Keep hB (still h2 (mmList env ρ adr ++ wr)) := keep_still (fun b ob e => hk b ob (re.keep b ob e)) fun b hb => (List.mem_append.mp hb).elim (fun q => re.mm_dead (mem_mmList.mp q)) (wrB b)
  have kx2 : Keep (still h2 (mmList env ρ adr ++ wr)) (still h2 (mmList env ρ adr)) := fun b ob e => still_get (still_keep _ _ e) fun q => by
    rw [still_none (List.mem_append_left _ q)] at e; cases e
  generalize still h2 (mmList env ρ adr ++ wr) = hx at W kx kx2 hxwr
  have Bx : Base C hx := re.baseB.keeps kx
  have ax : Alive X hx := fun a ha => let ⟨ob, e⟩ := re.aliveB a ha; ⟨ob, kx _ _ e⟩
  have live0 := W.live 0 _ st
  -- the state at the head of a turn
  have r0 : RealS C env (fun b => X b ∨ b ∈ wr) (still h2 (mmList env ρ adr)) ρ adr h2 := re.re (wr := []) (fun b ob _ e => hk b ob e) (fun b hb => by cases hb) (fun b hb => hb.imp id (hwr b)) (Bx.keeps kx2) still_keep (fun b hb => still_none (mem_mmList.mpr hb)) fun a ha => by
    rcases ha with ha | ha
    · obtain ⟨ob, e⟩ := ax a ha; exact ⟨ob, kx2 _ _ e⟩
    · obtain ⟨ob, e⟩ := live0 a (W.sub a ha)
      exact ⟨ob, still_get e fun q => hwrM a ha (mem_mmList.mp q)⟩
  refine codeAny_forLoop_any (FInv C k tgt body ds out s env (fun b => X b ∨ b ∈ wr) fp St hx) ?_ ds.length
    (.mk 0 ρ adr h2 tk2 _ rfl L st r0 kx2 hfp)
  rintro n s' ⟨i, ρi, adri, h, tk, hm, hn, Li, sti, ri, kxm, fpi⟩
  have hxm : ∀ b, MM env ρi adri b → hx.get? b = none := fun b hb => by
    cases e : hx.get? b with
    | none => rfl
    | some ob => have := ri.mm_dead hb; rw [kxm b ob e] at this; cases this
  have wrXM : ∀ b ∈ wr, (X b ∨ b ∈ wr) ∧ ¬ MM env ρi adri b := fun b hb => ⟨.inr hb, fpi b (W.sub b hb)⟩
  have kxh : Keep hx h := fun b ob e => ri.keep b ob (kxm b ob e)
  -- past the iterator's turn
  have kxh' : ∀ h', (∀ b o, b ∉ wr → h.get? b = some o → h'.get? b = some o) → Keep hx h' := fun h' hk' b ob e => hk' b ob (fun q => by rw [hxwr b q] at e; cases e) (kxh b ob e)
  cases hd : ds[i]? with
  | none =>
    have hlen : i = ds.length := by
      have h1 := List.getElem?_eq_none_iff.mp hd
      lia
    subst hlen
    rw [List.drop_length] at Li
    cases Li
    refine W.done _ _ _ sti fun h' tk' hk' => wpAny_execs_nil ⟨rfl, h', tk', rfl, adri, ?_⟩
    exact ri.re (wr := wr) hk' wrXM (fun b hb => .inl (.inl hb)) re.baseB (fun b ob e => kxh' h' hk' b ob (kx b ob e)) (fun b hb => by
      cases e : hB.get? b with
      | none => rfl
      | some ob => have := hxm b hb; rw [kx b ob e] at this; cases this) re.aliveB
  | some d =>
    have hdrop : ds.drop i = d :: ds.drop (i + 1) := by
      obtain ⟨hlt, e⟩ := List.getElem?_eq_some_iff.mp hd
      rw [List.drop_eq_getElem_cons hlt, e]
    have hlt : i < ds.length := (List.getElem?_eq_some_iff.mp hd).1
    rw [hdrop] at Li
    refine W.item i d _ _ _ hd sti kxh fun v h' tk' mid rv hk' => ?_
    have r1 : RealS C env (fun b => X b ∨ b ∈ wr) (still h' (mmList env ρi adri)) ρi adri h' := ri.re (wr := wr) hk' wrXM (fun b hb => .inl hb) (Bx.keeps (keep_still (kxh' h' hk') fun b hb => hxm b (mem_mmList.mp hb))) still_keep (fun b hb => still_none (mem_mmList.mpr hb)) fun a ha => by
      rcases ha with ha | ha
      · obtain ⟨ob, e⟩ := ax a ha
        exact ⟨ob, keep_still (kxh' h' hk') (fun b hb => hxm b (mem_mmList.mp hb)) a ob e⟩
      · obtain ⟨ob, e⟩ := W.liveM i v h' mid a ha
        exact ⟨ob, still_get e fun q => (wrXM a ha).2 (mem_mmList.mp q)⟩
    have rv1 : Rp C (XX (fun b => X b ∨ b ∈ wr) env ρi adri) h' v d := rv _ fun b hb => by
      refine ⟨?_, ri.toRealE.xx_alive hb⟩
      rcases hb with (hb | hb) | hb
      · exact .inl hb
      · exact .inr (hxwr b hb)
      · exact .inr (hxm b hb)
    refine W.go tgt i v _ _ _ hfl mid fun h'' sti' hk'' => ?_
    have hxm' : Keep hx h'' := fun b ob e => hk'' b ob (fun q => by rw [hxwr b q] at e; cases e) (kxh' h' hk' b ob e)
    have kst := keep_still hxm' fun b hb => hxm b ((mem_mmList (ρ := ρi) (env := env) (adr := adri)).mp hb)
    have r2 : RealS C env (fun b => X b ∨ b ∈ wr) (still h'' (mmList env ρi adri)) ρi adri h'' := r1.re (wr := wr) hk'' wrXM (fun b hb => .inl hb) (Bx.keeps kst) still_keep (fun b hb => still_none (mem_mmList.mpr hb)) fun a ha => by
      rcases ha with ha | ha
      · obtain ⟨ob, e⟩ := ax a ha
        exact ⟨ob, kst a ob e⟩
      · obtain ⟨ob, e⟩ := W.live (i + 1) h'' sti' a (W.sub a ha)
        exact ⟨ob, still_get e fun q => (wrXM a ha).2 (mem_mmList.mp q)⟩
    have rv2 : Rp C (XX (fun b => X b ∨ b ∈ wr) env ρi adri) h'' v d := rv1.re2 fun b ob hb e => ⟨hk'' b ob (fun q => hb (.inl (.inr q))) e, hb⟩
    obtain ⟨ρ1, out', T, hb, onext, oret⟩ : ∃ ρ1 out', Tgt tgt d ρi ρ1 ∧ EvS C k ρ1 body out' ∧ (∀ ρ2, out' = .next ρ2 → LoopS C k tgt body (ds.drop (i + 1)) ρ2 out) ∧ (∀ e, out' = .ret e → out = .ret e) := by
      cases Li with
      | turn T hb r => exact ⟨_, _, T, hb, fun ρ2 e => by cases e; exact r, fun e q => by (first | cases q using Rp.intE | cases q using Rp.strE | cases q using Rp.boolE | cases q using RpAll.nilE | cases q)⟩
      | ret T hb => exact ⟨_, _, T, hb, (fun ρ2 e => by cases e), fun e q => by (first | cases q using Rp.intE | cases q using Rp.strE | cases q using Rp.boolE | cases q using RpAll.nilE | cases q); rfl⟩
    refine T.bind r2 o R.hd rv2 fun h3 tk3 r3 km3 mm3 => ?_
    have k3 : Keep hx h3 := fun b ob e => km3 b ob (fun q => by rw [hxm b q] at e; cases e) (hxm' b ob e)
    have kst3 : Keep hx (still h3 (mmList env ρ1 adri)) := keep_still k3 fun b hb => hxm b (mm3 b (mem_mmList.mp hb))
    have fp3 : ∀ b ∈ fp, ¬ MM env ρ1 adri b := fun b hb q => fpi b hb (mm3 b q)
    have st3 : St (i + 1) h3 := W.frame _ _ _ sti' fun b hb ob e => km3 b ob (fpi b hb) e
    have r4 : RealS C env (fun b => X b ∨ b ∈ wr) (still h3 (mmList env ρ1 adri)) ρ1 adri h3 := r3.re (wr := []) (fun b ob _ e => e) (fun b hb => by cases hb) (fun b hb => .inl hb) (Bx.keeps kst3) still_keep (fun b hb => still_none (mem_mmList.mpr hb)) fun a ha => by
      rcases ha with ha | ha
      · obtain ⟨ob, e⟩ := ax a ha
        exact ⟨ob, kst3 a ob e⟩
      · obtain ⟨ob, e⟩ := W.live (i + 1) h3 st3 a (W.sub a ha)
        exact ⟨ob, still_get e fun q => fp3 a (W.sub a ha) (mem_mmList.mp q)⟩
    refine wpAny_mono (Q := fun f s' => OutOK C env (fun b => X b ∨ b ∈ wr) (still h3 (mmList env ρ1 adri)) _ f s' out') (hb A env _ _ adri _ _ R o r4) (fun f s₃ h₃ => ?_) fun _ _ e => e
    have fpa : ∀ b ∈ fp, ∀ ob, h3.get? b = some ob → (still h3 (mmList env ρ1 adri)).get? b = some ob := fun b hb ob e => still_get e fun q => fp3 b hb (mem_mmList.mp q)
    cases out' with
    | next ρ2 =>
      obtain ⟨rfl, h5, tk5, rfl, adr5, r5⟩ := h₃
      refine ⟨n - 1, by lia, .mk (i + 1) ρ2 adr5 h5 tk5 _ (by lia) (onext _ rfl) (W.frame _ _ _ st3 fun b hb ob e => r5.keep b ob (fpa b hb ob e)) r5 kst3 fun b hb q => ?_⟩
      obtain ⟨ob, e⟩ := W.live (i + 1) h3 st3 b hb
      have := r5.mm_dead q
      rw [fpa b hb ob e] at this; cases this
    | ret e =>
      obtain ⟨v, h5, tk5, rfl, rfl, k5, rr⟩ := h₃
      cases oret _ rfl
      exact ⟨v, h5, tk5, rfl, rfl, fun b ob e => k5 b ob (kst3 b ob (kx b ob e)), rr.bar fun a ha => .inl (.inl ha)⟩
end Mine
-- part Abs10
open PySem
set_option Elab.async false
set_option linter.unusedVariables false
namespace Mine
variable {C : Cx} {k : Nat} {ρ : Store}

abbrev ownsNames : List String := ["enumerate", "zip", "dict_itemiterator", "dict_reverseitemiterator", "odict_iterator", "itertools.zip_longest", "itertools.pairwise"]
theorem go_plain {A : Around} {E : Value → Shared → Prop} {s : Shared} {Q : Unit → Shared → Prop} {tgt : Expr} {I : Addr} {v : Value} {o : Obj} {n : String} (e : s.heap.get? I = some o) (hc : o.cls = .type n) (hn : ownsNames.contains n = false) (h : Q () s) :
    wpAny (model C.prog C.w) A (letOwnedTupleGo tgt (.ref I) v) Q E s := by
  have core : ∀ x1 x2 x3, wpAny (model C.prog C.w) A (letOwnedTupleGo (.Tuple x1 x2 x3) (.ref I) v) Q E s := by
    intro x1 x2 x3
    unfold letOwnedTupleGo
    cases v with
    | ref a =>
      refine wpAny_bind (wpAny_load e ?_)
      rw [hc]
      cases o.data with
      | fields vs =>
        show wpAny _ A (if (ownsNames.contains n && vs[0]? == some (rawInt a)) = true then _ else _) Q E s
        rw [hn, Bool.false_and, if_neg (by decide)]
        exact wpAny_pure h
      | _ => exact wpAny_pure h
    | _ => exact wpAny_pure h
  cases tgt with
  | Tuple x1 x2 x3 => exact core x1 x2 x3
  | List x1 x2 =>
    unfold letOwnedTupleGo
    cases v with
    | ref a =>
      refine wpAny_bind (wpAny_load e ?_)
      rw [hc]
      cases o.data with
      | fields vs =>
        show wpAny _ A (if (ownsNames.contains n && vs[0]? == some (rawInt a)) = true then _ else _) Q E s
        rw [hn, Bool.false_and, if_neg (by decide)]
        exact wpAny_pure h
      | _ => exact wpAny_pure h
    | _ => exact wpAny_pure h
  | _ => exact wpAny_pure h

theorem Paired.get? {α β : Type} {F : α → β → Prop} {l₁ : List α} {l₂ : List β} (p : Paired F l₁ l₂) : ∀ {i : Nat} {a : α} {b : β}, l₁[i]? = some a → l₂[i]? = some b → F a b := by
  induction p with
  | nil => intro i a b e; exact absurd (List.getElem?_nil.symm.trans e) nofun
  | cons x _ ih =>
    intro i a b e1 e2
    cases i with
    | zero =>
      rw [List.getElem?_cons_zero] at e1 e2
      exact Option.some.inj e1 ▸ Option.some.inj e2 ▸ x
    | succ i =>
      rw [List.getElem?_cons_succ] at e1 e2
      exact ih e1 e2
/-- a walk whose items stand in the heap at the start -/
theorem Wk.ofList {A : Around} (hh : A.handled = none) {X : Addr → Prop} {hx : Heap} {I a : Addr} (hne : a ≠ I) {items : Array Value} {ds : List D} (r : RpAll C (fun b => X b ∨ hx.get? b = none) hx items.toList ds) (hI : hx.get? I = none) :
    Wk true C A X hx I [I, a] [I] ds (fun i h => h.IsListIter I a i ∧ h.IsList a items) (fun i _ h => h.IsListIter I a (i + 1) ∧ h.IsList a items) where
  sub := fun b hb => by simp at hb; simp [hb]
  frame := fun _ _ _ st hk => ⟨st.1.at fun o e => hk I (by simp) o e, st.2.at fun o e => hk a (by simp) o e⟩
  live := fun i h st b hb => by
    simp at hb
    rcases hb with rfl | rfl
    · obtain ⟨o, e, _⟩ := st.1; exact ⟨o, e⟩
    · obtain ⟨o, e, _⟩ := st.2; exact ⟨o, e⟩
  item := fun i d s Q E hi st hk hQ => by
    obtain ⟨v, hv, rv⟩ := r.get hi
    refine wpAny_pyNext_list_item st.1 st.2 (x := v) (by simpa using hv) fun h' hit' hs' => ?_
    refine hQ _ h' s.toks ⟨hit', st.2.extBut hs'.extBut hne⟩ (fun Y hY => rv.re2 fun b o hb e => ⟨hs'.extBut b o (fun q => by rw [q, hI] at e; cases e) (hk b o e), fun q => hb (hY b q).1⟩) fun b o hb e => hs'.extBut b o (fun h => hb (by simp [h])) e
  go := fun tgt i v s Q E htg st hQ => by
    obtain ⟨o, e, hc, _⟩ := id st.1
    exact go_plain e hc (by decide) (hQ s.heap st fun _ _ _ e => e)
  self := fun _ i s Q E st hQ => wpAny_pyIter_listiter st.1 hQ
  liveM := fun i v h st b hb => by
    simp at hb; subst hb
    obtain ⟨o, e, _⟩ := st.1; exact ⟨o, e⟩
  done := fun s Q E st hQ => wpAny_pyNext_list_end hh st.1 st.2 (by have := r.length; simp at this ⊢; lia) fun h' he' => hQ h' s.toks fun b o hb e => he' b o (fun h => hb (by simp [h])) e
theorem Wk.ofTuple {A : Around} (hh : A.handled = none) {X : Addr → Prop} {hx : Heap} {I a : Addr} (hne : a ≠ I) {items : Array Value} {ds : List D} (r : RpAll C (fun b => X b ∨ hx.get? b = none) hx items.toList ds) (hI : hx.get? I = none) :
    Wk true C A X hx I [I, a] [I] ds (fun i h => h.IsTupleIter I a i ∧ h.IsTuple a items) (fun i _ h => h.IsTupleIter I a (i + 1) ∧ h.IsTuple a items) where
  sub := fun b hb => by simp at hb; simp [hb]
  frame := fun _ _ _ st hk => ⟨st.1.at fun o e => hk I (by simp) o e, st.2.at fun o e => hk a (by simp) o e⟩
  live := fun i h st b hb => by
    simp at hb
    rcases hb with rfl | rfl
    · obtain ⟨o, e, _⟩ := st.1; exact ⟨o, e⟩
    · obtain ⟨o, e, _⟩ := st.2; exact ⟨o, e⟩
  item := fun i d s Q E hi st hk hQ => by
    obtain ⟨v, hv, rv⟩ := r.get hi
    refine wpAny_pyNext_tuple_item st.1 st.2 (x := v) (by simpa using hv) fun h' hit' hs' => ?_
    refine hQ _ h' s.toks ⟨hit', st.2.extBut hs'.extBut hne⟩ (fun Y hY => rv.re2 fun b o hb e => ⟨hs'.extBut b o (fun q => by rw [q, hI] at e; cases e) (hk b o e), fun q => hb (hY b q).1⟩) fun b o hb e => hs'.extBut b o (fun h => hb (by simp [h])) e
  go := fun tgt i v s Q E htg st hQ => by
    obtain ⟨o, e, hc, _⟩ := id st.1
    exact go_plain e hc (by decide) (hQ s.heap st fun _ _ _ e => e)
  self := fun _ i s Q E st hQ => wpAny_pyIter_tupleiter st.1 hQ
  liveM := fun i v h st b hb => by
    simp at hb; subst hb
    obtain ⟨o, e, _⟩ := st.1; exact ⟨o, e⟩
  done := fun s Q E st hQ => wpAny_pyNext_tuple_end hh st.1 st.2 (by have := r.length; simp at this ⊢; lia) fun h' he' => hQ h' s.toks fun b o hb e => he' b o (fun h => hb (by simp [h])) e
def ranged (a c : Int) (n : Nat) : List D := (List.range n).map fun i : Nat => D.int (a + (i : Int) * c)
theorem Wk.ofRange {A : Around} (hh : A.handled = none) {X : Addr → Prop} {hx : Heap} {I : Addr} (a c : Int) (n : Nat) :
    Wk true C A X hx I [I] [I] (ranged a c n) (fun i h => IsRangeIter h I (a + (i : Nat) * c) ((n : Int) - (i : Nat)) c) (fun i _ h => IsRangeIter h I (a + (i + 1 : Nat) * c) ((n : Int) - (i + 1 : Nat)) c) where
  sub := fun b hb => hb
  frame := fun _ _ _ st hk => hk I (by simp) _ st
  live := fun i h st b hb => by
    simp at hb; subst hb; exact ⟨_, st⟩
  item := fun i d s Q E hi st hk hQ => by
    obtain ⟨hlt, hd⟩ := List.getElem?_eq_some_iff.mp hi
    simp [ranged] at hlt hd
    subst hd
    refine wpAny_pyNext_range_item st (by lia) fun h' hit' hs' => ?_
    refine hQ _ h' _ ?_ (fun Y hY => .int _ _) fun b o hb e => hs'.extBut b o (fun h => hb (by simp [h])) e
    have e1 : a + ((i + 1 : Nat) : Int) * c = a + (i : Int) * c + c := by push_cast; rw [Int.add_mul, Int.one_mul, Int.add_assoc]
    have e2 : (n : Int) - ((i + 1 : Nat) : Int) = (n : Int) - (i : Int) - 1 := by push_cast; lia
    rw [e1, e2]; exact hit'
  go := fun tgt i v s Q E htg st hQ => go_plain st rfl (by decide) (hQ s.heap st fun _ _ _ e => e)
  self := fun _ i s Q E st hQ => wpAny_pyIter_rangeiter st hQ
  liveM := fun i v h st b hb => by
    simp at hb; subst hb; exact ⟨_, st⟩
  done := fun s Q E st hQ => wpAny_pyNext_range_end hh st (by simp [ranged]) fun h' he' => hQ h' s.toks fun b o hb e => he' b o (fun h => hb (by simp [h])) e
theorem Wk.ofValues {A : Around} (hh : A.handled = none) {X : Addr → Prop} {hx : Heap} {I a : Addr} (hne : a ≠ I) {kvs : List (Str × Value)} {ks : List (Str × Int)} {ep : Nat} (q : IntsOf kvs ks) :
    Wk true C A X hx I [I, a] [I] (ks.map fun p => .int p.2) (fun i h => h.IsValIter I a i kvs.length ep ∧ h.DictAt (strKind C.prog C.w) a kvs ep) (fun i _ h => h.IsValIter I a (i + 1) kvs.length ep ∧ h.DictAt (strKind C.prog C.w) a kvs ep) where
  sub := fun b hb => by simp at hb; simp [hb]
  frame := fun _ _ _ st hk => ⟨st.1.at fun o e => hk I (by simp) o e, st.2.at' fun o e => hk a (by simp) o e⟩
  live := fun i h st b hb => by
    simp at hb
    rcases hb with rfl | rfl
    · obtain ⟨o, e, _⟩ := st.1; exact ⟨o, e⟩
    · obtain ⟨o, es, e, _⟩ := st.2; exact ⟨o, e⟩
  item := fun i d s Q E hi st hk hQ => by
    obtain ⟨hlt, hd⟩ := List.getElem?_eq_some_iff.mp hi
    simp at hlt hd
    subst hd
    have hlt' : i < kvs.length := by rw [q.length]; exact hlt
    obtain ⟨e1, t, e2⟩ := Mine.Paired.get? q (i := i) (List.getElem?_eq_getElem hlt') (List.getElem?_eq_getElem hlt)
    refine wpAny_pyNext_values_item (k := kvs[i].1) (v := kvs[i].2) st.1 st.2 (by simp [hlt']) fun h' hit' hs' => ?_
    refine hQ _ h' _ ⟨hit', st.2.extBut hs'.extBut hne⟩ (fun Y hY => by rw [e2]; exact .int _ _) fun b o hb e => hs'.extBut b o (fun h => hb (by simp [h])) e
  go := fun tgt i v s Q E htg st hQ => by
    obtain ⟨o, e, hc, _⟩ := id st.1
    exact go_plain e hc (by decide) (hQ s.heap st fun _ _ _ e => e)
  self := fun _ i s Q E st hQ => wpAny_pyIter_valiter st.1 hQ
  liveM := fun i v h st b hb => by
    simp at hb; subst hb
    obtain ⟨o, e, _⟩ := st.1; exact ⟨o, e⟩
  done := fun s Q E st hQ => by
    have := q.length
    simp only [List.length_map] at st
    exact wpAny_pyNext_values_end hh st.1 st.2 (by simp; lia) fun h' he' => hQ h' s.toks fun b o hb e => he' b o (fun h => hb (by simp [h])) e

theorem RpAll.hx {env : Env} {X : Addr → Prop} {adr : Str → Addr} {h₁ h₂ hx : Heap} {vs : List Value} {ds : List D} {I : Addr} (r : RpAll C (XX X env ρ adr) h₁ vs ds) (hk : Keep h₁ h₂) (hI : h₁.get? I = none)
    (k1 : ∀ b o, h₂.get? b = some o → ¬ MM env ρ adr b → b ∉ [I] → hx.get? b = some o) : RpAll C (fun b => X b ∨ hx.get? b = none) hx vs ds :=
  r.re2 fun b o hb e => by
    have := k1 b o (hk b o e) (fun q => hb (.inr q)) (by simp; rintro rfl; rw [hI] at e; cases e)
    exact ⟨this, fun q => q.elim (fun q => hb (.inl q)) fun q => by rw [this] at q; (first | cases q using Rp.intE | cases q using Rp.strE | cases q using Rp.boolE | cases q using RpAll.nilE | cases q)⟩
theorem push_keep {h : Heap} {o : Obj} : Keep h (h.push o) := fun b o' e => Heap.get?_push_of_some _ e
theorem keep_none {h h' : Heap} (hk : Keep h h') {a : Addr} (e : h'.get? a = none) : h.get? a = none := by
  cases q : h.get? a with
  | none => rfl
  | some o => rw [hk a o q] at e; cases e
theorem EvI.lst {e : Expr} {ds : List D} (h : EvE C k ρ e (.list ds)) : EvI C k ρ e ds true := by
  intro A env X adr s E Q R o re hQ
  refine wpAny_mono (h A env X adr s E R o re) (fun v s₁ h₁ => ?_) fun _ _ e => e
  obtain ⟨hk, r⟩ := h₁
  cases r using Rp.listE with
  | @list a vs n hx g r =>
    have hL : s₁.heap.IsList a vs := ⟨_, g, rfl, n, rfl⟩
    refine wpAny_pyIter_list hL ?_
    have hI : s₁.heap.get? s₁.heap.objs.size = none := get_none (Nat.le_refl _)
    have hIs : s.heap.get? s₁.heap.objs.size = none := keep_none hk.keep hI
    have hne : a ≠ s₁.heap.objs.size := Nat.ne_of_lt (Heap.lt_size g)
    refine hQ _ s₁.heap.objs.size [s₁.heap.objs.size, a] [s₁.heap.objs.size] (fun i h => h.IsListIter s₁.heap.objs.size a i ∧ h.IsList a vs) (fun i _ h => h.IsListIter s₁.heap.objs.size a (i + 1) ∧ h.IsList a vs) (hk.trans (.mk' push_keep))
      ⟨⟨_, Heap.get?_push_size _ rfl, rfl, rfl⟩, hL.push _⟩ (by simpa using hIs) (fun b hb => ?_) (fun _ i v h m => m) fun hx' k1 k2 k3 => Wk.ofList R.hd hne (r.hx push_keep hI k1) (k3 _ (by simp))
    simp at hb
    rcases hb with rfl | rfl
    · exact fun q => (re.fresh hIs) (.inr q)
    · exact fun q => hx (.inr q)
theorem EvI.tup {e : Expr} {ds : List D} (h : EvE C k ρ e (.tup ds)) : EvI C k ρ e ds true := by
  intro A env X adr s E Q R o re hQ
  refine wpAny_mono (h A env X adr s E R o re) (fun v s₁ h₁ => ?_) fun _ _ e => e
  obtain ⟨hk, r⟩ := h₁
  cases r using Rp.tupE with
  | @tup a vs n hx g r =>
    have hL : s₁.heap.IsTuple a vs := ⟨_, g, rfl, n, rfl⟩
    refine wpAny_pyIter_tuple hL ?_
    have hI : s₁.heap.get? s₁.heap.objs.size = none := get_none (Nat.le_refl _)
    have hIs : s.heap.get? s₁.heap.objs.size = none := keep_none hk.keep hI
    have hne : a ≠ s₁.heap.objs.size := Nat.ne_of_lt (Heap.lt_size g)
    refine hQ _ s₁.heap.objs.size [s₁.heap.objs.size, a] [s₁.heap.objs.size] (fun i h => h.IsTupleIter s₁.heap.objs.size a i ∧ h.IsTuple a vs) (fun i _ h => h.IsTupleIter s₁.heap.objs.size a (i + 1) ∧ h.IsTuple a vs) (hk.trans (.mk' push_keep))
      ⟨⟨_, Heap.get?_push_size _ rfl, rfl, rfl⟩, hL.at fun o e => push_keep _ _ e⟩ (by simpa using hIs) (fun b hb => ?_) (fun _ i v h m => m) fun hx' k1 k2 k3 => Wk.ofTuple R.hd hne (r.hx push_keep hI k1) (k3 _ (by simp))
    simp at hb
    rcases hb with rfl | rfl
    · exact fun q => (re.fresh hIs) (.inr q)
    · exact fun q => hx (.inr q)
theorem EvI.rangeOf {A : Around} {env : Env} {X : Addr → Prop} {adr : Str → Addr} {s s₁ : Shared} {E : Value → Shared → Prop} {Q : Value → Shared → Prop} {r : Addr} {a b c : Int} {t u v : Tok} {n : Nat} (R : Room k A) (re : RealE C env X ρ adr s.heap) (hk : Keeps s s₁)
    (hr : IsRange s₁.heap r a b c t u v) (hs : Builtin.Range.small a b c = true) (hz : Builtin.Range.rangeSize a b c = n)
    (hQ : ∀ s₂ I fp wr St Mid, Keeps s s₂ → St 0 s₂.heap → (∀ b ∈ wr, s.heap.get? b = none) → (∀ b ∈ fp, ¬ MM env ρ adr b) → (true = true → ∀ i v h, Mid i v h → St (i + 1) h) →
      (∀ hx, (∀ b o, s₂.heap.get? b = some o → ¬ MM env ρ adr b → b ∉ wr → hx.get? b = some o) → Keep hx s₂.heap → (∀ b ∈ wr, hx.get? b = none) → Wk true C A X hx I fp wr (ranged a c n) St Mid) → Q (.ref I) s₂) :
    wpAny (model C.prog C.w) A (pyIter (.ref r)) Q E s₁ := by
  refine wpAny_pyIter_range hr hs ?_
  have hI : s₁.heap.get? s₁.heap.objs.size = none := get_none (Nat.le_refl _)
  have hIs : s.heap.get? s₁.heap.objs.size = none := keep_none hk.keep hI
  refine hQ _ s₁.heap.objs.size [s₁.heap.objs.size] [s₁.heap.objs.size] (fun i h => IsRangeIter h s₁.heap.objs.size (a + (i : Nat) * c) ((n : Int) - (i : Nat)) c) (fun i _ h => IsRangeIter h s₁.heap.objs.size (a + (i + 1 : Nat) * c) ((n : Int) - (i + 1 : Nat)) c) (hk.trans (.mk' push_keep))
    ?_ (by simpa using hIs) (fun b hb => ?_) (fun _ i v h m => m) fun hx' k1 k2 k3 => Wk.ofRange R.hd a c n
  · have : IsRangeIter (s₁.heap.push { cls := .type "range_iterator", data := .fields #[rawInt a, rawInt (Builtin.Range.rangeSize a b c), rawInt c] }) s₁.heap.objs.size a (Builtin.Range.rangeSize a b c) c := Heap.get?_push_size _ rfl
    simp only [hz] at this ⊢
    simpa using this
  · simp at hb; subst hb
    exact fun q => (re.fresh hIs) (.inr q)
theorem EvI.range1 {x : Str} {p pos : Pos} {e : Expr} {n : Nat} (hx : (x, LV.bi (.type "range")) ∈ ρ) (ha : EvEs C k ρ [e] [.int n]) (hn : n < 2 ^ 40) (hd : (x == ("__debug__" : Str)) = false := by decide) :
    EvI C k ρ (.Call (.Name x p) [e] [] pos) (ranged 0 1 n) true := by
  intro A env X adr s E Q R o re hQ
  have hp : PlainE e ∧ ∃ ds', EvEs C k ρ [] ds' := by cases ha with | cons _ r hp => exact ⟨hp, _, r⟩
  obtain ⟨hp, ds', hr⟩ := hp
  refine wpAny_Call_Name (name_bi hx o re ?_ hd)
  refine PyProof.Rows.callWith_type1 (wpAny_mono (ha.wp R o s E re) (fun vs s₂ h₂ => ?_) fun _ _ e => e) (hp _ _) (hr.plain _ _)
  obtain ⟨hk, r⟩ := h₂
  cases r using RpAll.consE with
  | cons h1 h2 => (first | cases h2 using Rp.intE | cases h2 using Rp.strE | cases h2 using Rp.boolE | cases h2 using RpAll.nilE | cases h2); cases h1 using Rp.intE with
    | int t =>
      refine call_range_1 (EvI.rangeOf R re (hk.trans (.mk' push_keep)) (Heap.get?_push_size _ rfl) ?_ ?_ hQ)
      · exact small_one (by lia) (by lia) (by lia) (by lia)
      · rw [rangeSize_one]; split <;> lia
theorem EvI.rangeDown {x : Str} {p pos : Pos} {e1 e2 e3 : Expr} {n : Nat} (hx : (x, LV.bi (.type "range")) ∈ ρ) (ha : EvEs C k ρ [e1, e2, e3] [.int n, .int 0, .int (-1)]) (hn : n < 2 ^ 20) (hd : (x == ("__debug__" : Str)) = false := by decide) :
    EvI C k ρ (.Call (.Name x p) [e1, e2, e3] [] pos) (ranged n (-1) n) true := by
  intro A env X adr s E Q R o re hQ
  have hp : PlainE e1 ∧ ∃ ds', EvEs C k ρ [e2, e3] ds' := by cases ha with | cons _ r hp => exact ⟨hp, _, r⟩
  obtain ⟨hp, ds', hr⟩ := hp
  refine wpAny_Call_Name (name_bi hx o re ?_ hd)
  refine PyProof.Rows.callWith_type1 (wpAny_mono (ha.wp R o s E re) (fun vs s₂ h₂ => ?_) fun _ _ e => e) (hp _ _) (hr.plain _ _)
  obtain ⟨hk, r⟩ := h₂
  have hz : Builtin.Range.rangeSize n 0 (-1) = n := by
    unfold Builtin.Range.rangeSize
    simp
    lia
  cases r using RpAll.consE with
  | cons h1 h2 => cases h2 using RpAll.consE with
    | cons h2 h3 => cases h3 using RpAll.consE with
      | cons h3 h4 =>
        (first | cases h4 using Rp.intE | cases h4 using Rp.strE | cases h4 using Rp.boolE | cases h4 using RpAll.nilE | cases h4); (first | cases h1 using Rp.intE | cases h1 using Rp.strE | cases h1 using Rp.boolE | cases h1 using RpAll.nilE | cases h1); (first | cases h2 using Rp.intE | cases h2 using Rp.strE | cases h2 using Rp.boolE | cases h2 using RpAll.nilE | cases h2); (first | cases h3 using Rp.intE | cases h3 using Rp.strE | cases h3 using Rp.boolE | cases h3 using RpAll.nilE | cases h3)
        refine call_range_3 (by decide) (EvI.rangeOf R re (hk.trans (.mk' push_keep)) (Heap.get?_push_size _ rfl) ?_ hz hQ) (Or.inl (PyProof.noPylong_small (by lia)))
        unfold Builtin.Range.small
        rw [hz]
        simp [Builtin.Range.rangeFitsLong]
        lia

theorem EvI.values {x : Str} {p apos cpos : Pos} {ks : List (Str × Int)} (h : EvE C k ρ (.Name x p) (.dic ks)) (hline : (apos.endLine == cpos.line) = true := by rfl) :
    EvI C k ρ (.Call (.Attribute (.Name x p) "values" apos) [] [] cpos) (ks.map fun p => .int p.2) true := by
  intro A env X adr s E Q R o re hQ
  refine wpAny_Call_method (T := "dict") (id := "dict.values") rfl rfl hline F.plainAttrs_dict F.slot_dict_values F.type_dict_values (wpAny_mono (h A env X adr s E R o re) (fun v s₁ h₁ => ?_) fun _ _ e => e)
  obtain ⟨hk, r⟩ := h₁
  cases r using Rp.dicE with
  | @dic a kvs hx hsm g q =>
    refine ⟨g.typeIs, g.mapOf.noDict, ?_⟩
    show wpAny _ _ (callWith cpos (.builtin "dict.values") [.ref a] [] []) _ E s₁
    refine method_meetsIn F.slot_dict_values F.entry_dict_values rfl (evalArgs_none ⟨rfl, g.typeIs, F.args_dict_values_1 _, _, meets_dict_values (strKind C.prog C.w) a hsm, ⟨kvs, g⟩, ?_⟩)
    obtain ⟨ep, gA⟩ := g.dictAt
    refine wpAny_pyIter_values (knd := strKind C.prog C.w) (d := a) (kvs := kvs) (ep := ep) ⟨_, Heap.get?_push_size _ rfl, rfl, rfl⟩ (gA.push _) ?_
    have ha : ∃ o, s₁.heap.get? a = some o := let ⟨o, _, _, e, _⟩ := g; ⟨o, e⟩
    obtain ⟨oa, ea⟩ := ha
    have hs1 : (s₁.heap.push { cls := .type "dict_values", data := .fields #[.ref a] }).objs.size = s₁.heap.objs.size + 1 := Heap.size_push ..
    have hI : s₁.heap.get? (s₁.heap.objs.size + 1) = none := get_none (Nat.le_succ _)
    have hIs : s.heap.get? (s₁.heap.objs.size + 1) = none := keep_none hk.keep hI
    have hne : a ≠ s₁.heap.objs.size + 1 := Nat.ne_of_lt (Nat.lt_succ_of_lt (Heap.lt_size ea))
    dsimp only
    generalize hH2 : s₁.heap.push { cls := .type "dict_values", data := .fields #[.ref a] } = H2 at hs1 gA
    have kH : Keep s₁.heap H2 := fun b o e => hH2 ▸ Heap.get?_push_of_some _ e
    have gA2 : H2.DictAt (strKind C.prog C.w) a kvs ep := gA.at' fun o e => kH _ _ e
    have hit : (H2.push { cls := .type "dict_valueiterator", data := .fields #[.ref a, .int 0 0, .int kvs.length 0, .int ep 0] }).IsValIter (s₁.heap.objs.size + 1) a 0 kvs.length ep := ⟨_, by rw [← hs1]; exact Heap.get?_push_size _ rfl, rfl, rfl⟩
    rw [hs1]
    refine hQ _ (s₁.heap.objs.size + 1) [s₁.heap.objs.size + 1, a] [s₁.heap.objs.size + 1] (fun i h => h.IsValIter (s₁.heap.objs.size + 1) a i kvs.length ep ∧ h.DictAt (strKind C.prog C.w) a kvs ep)
      (fun i _ h => h.IsValIter (s₁.heap.objs.size + 1) a (i + 1) kvs.length ep ∧ h.DictAt (strKind C.prog C.w) a kvs ep) (hk.trans (.mk' fun b o e => push_keep b o (kH b o e)))
      ⟨hit, gA2.at' fun o e => push_keep _ _ e⟩ (by simpa using hIs) (fun b hb => ?_) (fun _ i v h m => m) fun hx' k1 k2 k3 => Wk.ofValues R.hd hne q
    simp at hb
    rcases hb with rfl | rfl
    · exact fun q => (re.fresh hIs) (.inr q)
    · exact fun q => hx (.inr q)

theorem Wk.ofItems {A : Around} (hh : A.handled = none) {X : Addr → Prop} {hx : Heap} {I a : Addr} (hne : a ≠ I) {kvs : List (Str × Value)} {ks : List (Str × Int)} {ep : Nat} (q : IntsOf kvs ks) (hI : hx.get? I = none) :
    Wk false C A X hx I [I, a] [I] (ks.map fun p => .tup [.str p.1, .int p.2]) (fun i h => (∃ ok ov, IsItemIter h I a i kvs.length ep ok ov) ∧ h.DictAt (strKind C.prog C.w) a kvs ep)
      (fun i v h => (∃ ok ov t ob, v = .ref t ∧ h.get? t = some ob ∧ IsItemIterOut h I a (i + 1) kvs.length ep ok ov t) ∧ h.DictAt (strKind C.prog C.w) a kvs ep) where
  sub := fun b hb => by simp at hb; simp [hb]
  frame := fun _ _ _ st hk => let ⟨ok, ov, x⟩ := st.1; ⟨⟨ok, ov, hk I (by simp) _ x⟩, st.2.at' fun o e => hk a (by simp) o e⟩
  live := fun i h st b hb => by
    simp at hb
    rcases hb with rfl | rfl
    · obtain ⟨ok, ov, e⟩ := st.1; exact ⟨_, e⟩
    · obtain ⟨o, es, e, _⟩ := st.2; exact ⟨o, e⟩
  item := fun i d s Q E hi st hk hQ => by
    obtain ⟨hlt, hd⟩ := List.getElem?_eq_some_iff.mp hi
    simp at hlt hd
    subst hd
    have hlt' : i < kvs.length := by rw [q.length]; exact hlt
    obtain ⟨e1, t, e2⟩ := Mine.Paired.get? q (i := i) (List.getElem?_eq_getElem hlt') (List.getElem?_eq_getElem hlt)
    obtain ⟨ok, ov, hit⟩ := st.1
    refine wpAny_pyNext_items_item (k := kvs[i].1) (v := kvs[i].2) hit st.2 (by simp [hlt']) fun key h' hkey hout ht hsz hs' => ?_
    have hneI : s.heap.objs.size ≠ I := Nat.ne_of_gt (Heap.lt_size hit)
    refine hQ _ h' _ ⟨⟨_, _, _, _, rfl, ht, hout⟩, st.2.at' fun o e => hs' _ _ hne e⟩ (fun Y hY => ?_) fun b o hb e => hs' b o (fun h => hb (by simp [h])) e
    refine .tup (fun y => ?_) ht ?_
    · obtain ⟨o, e⟩ := (hY _ y).2
      exact absurd (Heap.lt_size e) (Nat.lt_irrefl _)
    · obtain ⟨t', rfl⟩ := Value.isStrOf_shape hkey
      rw [e2, e1]
      exact .cons (.str _ _) (.cons (.int _ _) .nil)
  go := fun tgt i v s Q E htg st hQ => by
    obtain ⟨⟨ok, ov, t, ob, rfl, ht, e⟩, g⟩ := st
    have htg : isTupE tgt = true := by simpa using htg
    cases tgt with
    | Tuple x1 x2 x3 => exact wpAny_letOwnedTupleGo_items e fun h' he hs' => hQ h' ⟨⟨ok, ov, he⟩, g.at' fun o e => hs'.extBut _ _ hne e⟩ fun b o hb e => hs'.extBut b o (fun h => hb (by simp [h])) e
    | _ => cases htg
  self := fun e => by cases e
  liveM := fun i v h st b hb => by
    simp at hb; subst hb
    obtain ⟨ok, ov, t, ob, rfl, ht, e⟩ := st.1; exact ⟨_, e⟩
  done := fun s Q E st hQ => by
    have := q.length
    simp only [List.length_map] at st
    obtain ⟨ok, ov, hit⟩ := st.1
    exact wpAny_pyNext_items_end hh hit st.2 (by simp; lia) fun h' he' => hQ h' s.toks fun b o hb e => he' b o (fun h => hb (by simp [h])) e
theorem EvI.items {x : Str} {p apos cpos : Pos} {ks : List (Str × Int)} (h : EvE C k ρ (.Name x p) (.dic ks)) (hline : (apos.endLine == cpos.line) = true := by rfl) :
    EvI C k ρ (.Call (.Attribute (.Name x p) "items" apos) [] [] cpos) (ks.map fun p => .tup [.str p.1, .int p.2]) false := by
  intro A env X adr s E Q R o re hQ
  refine wpAny_Call_method (T := "dict") (id := "dict.items") rfl rfl hline F.plainAttrs_dict F.slot_dict_items F.type_dict_items (wpAny_mono (h A env X adr s E R o re) (fun v s₁ h₁ => ?_) fun _ _ e => e)
  obtain ⟨hk, r⟩ := h₁
  cases r using Rp.dicE with
  | @dic a kvs hx hsm g q =>
    refine ⟨g.typeIs, g.mapOf.noDict, ?_⟩
    show wpAny _ _ (callWith cpos (.builtin "dict.items") [.ref a] [] []) _ E s₁
    refine method_meetsIn F.slot_dict_items F.entry_dict_items rfl (evalArgs_none ⟨rfl, g.typeIs, F.args_dict_items_1 _, _, meets_dict_items (strKind C.prog C.w) a hsm, ⟨kvs, g⟩, ?_⟩)
    obtain ⟨ep, gA⟩ := g.dictAt
    refine wpAny_pyIter_items (knd := strKind C.prog C.w) (d := a) (kvs := kvs) (ep := ep) ⟨_, Heap.get?_push_size _ rfl, rfl, rfl⟩ (gA.push _) ?_
    have ha : ∃ o, s₁.heap.get? a = some o := let ⟨o, _, _, e, _⟩ := g; ⟨o, e⟩
    obtain ⟨oa, ea⟩ := ha
    have hs1 : (s₁.heap.push { cls := .type "dict_items", data := .fields #[.ref a] }).objs.size = s₁.heap.objs.size + 1 := Heap.size_push ..
    have hI : s₁.heap.get? (s₁.heap.objs.size + 1) = none := get_none (Nat.le_succ _)
    have hIs : s.heap.get? (s₁.heap.objs.size + 1) = none := keep_none hk.keep hI
    have hne : a ≠ s₁.heap.objs.size + 1 := Nat.ne_of_lt (Nat.lt_succ_of_lt (Heap.lt_size ea))
    dsimp only
    generalize hH2 : s₁.heap.push { cls := .type "dict_items", data := .fields #[.ref a] } = H2 at hs1 gA
    have kH : Keep s₁.heap H2 := fun b o e => hH2 ▸ Heap.get?_push_of_some _ e
    have gA2 : H2.DictAt (strKind C.prog C.w) a kvs ep := gA.at' fun o e => kH _ _ e
    have hit : IsItemIter (H2.push { cls := .type "dict_itemiterator", data := .fields #[.none, .bool false, .ref a, .int 0 0, .int kvs.length 0, .int ep 0, .none, .none] }) (s₁.heap.objs.size + 1) a 0 kvs.length ep .none .none := by rw [← hs1]; exact Heap.get?_push_size _ rfl
    rw [hs1]
    refine hQ _ (s₁.heap.objs.size + 1) [s₁.heap.objs.size + 1, a] [s₁.heap.objs.size + 1] (fun i h => (∃ ok ov, IsItemIter h (s₁.heap.objs.size + 1) a i kvs.length ep ok ov) ∧ h.DictAt (strKind C.prog C.w) a kvs ep)
      (fun i v h => (∃ ok ov t ob, v = .ref t ∧ h.get? t = some ob ∧ IsItemIterOut h (s₁.heap.objs.size + 1) a (i + 1) kvs.length ep ok ov t) ∧ h.DictAt (strKind C.prog C.w) a kvs ep) (hk.trans (.mk' fun b o e => push_keep b o (kH b o e)))
      ⟨⟨_, _, hit⟩, gA2.at' fun o e => push_keep _ _ e⟩ (by simpa using hIs) (fun b hb => ?_) (fun e => by cases e) fun hx' k1 k2 k3 => Wk.ofItems R.hd hne q (k3 _ (by simp))
    simp at hb
    rcases hb with rfl | rfl
    · exact fun q => (re.fresh hIs) (.inr q)
    · exact fun q => hx (.inr q)
end Mine
-- part Abs11
open PySem
set_option Elab.async false
set_option linter.unusedVariables false
namespace Mine
variable {C : Cx} {k : Nat} {ρ : Store}

/-! comprehensions -/
theorem relabel_lookup {env : Env} {y : Str} : ∀ (names : List (Str × NameKind)), (names.map fun (n, k) => if (k == NameKind.free && env.scope.kind == .function && env.kindOf n == some .cell) then (n, NameKind.cell) else (n, k)).lookup y =
    (names.lookup y).map fun k => if (k == NameKind.free && env.scope.kind == .function && env.kindOf y == some .cell) then NameKind.cell else k
  | [] => rfl
  | (n, kd) :: r => by
    rw [List.map_cons, List.lookup_cons]
    by_cases hc : (kd == NameKind.free && env.scope.kind == .function && env.kindOf n == some .cell) = true
    · simp only [hc, if_true]
      rw [List.lookup_cons]
      cases e : y == n with
      | true =>
        have : y = n := eq_of_beq e
        subst this
        simp only [Option.map_some, hc, if_true]
      | false => exact relabel_lookup r
    · have hc' := hc
      simp only [Bool.not_eq_true] at hc
      simp only [hc, Bool.false_eq_true, if_false]
      rw [List.lookup_cons]
      cases e : y == n with
      | true =>
        have : y = n := eq_of_beq e
        subst this
        simp only [Option.map_some, hc, Bool.false_eq_true, if_false]
      | false => exact relabel_lookup r
theorem closure_some {env : Env} : ∀ (names : List (Str × NameKind)) (acc : List (Str × Addr)), (∀ y ∈ names, y.2 = .free → ∃ c, env.cells.lookup y.1 = some c) →
    ∃ cl, (forIn names acc fun (x : Str × NameKind) (cs : List (Str × Addr)) => (if x.2 == .free then do let a ← cellOf env x.1; pure (ForInStep.yield ((x.1, a) :: cs)) else pure (.yield cs) : Sem _)) = pure cl ∧
      (∀ y c, cl.lookup y = some c → acc.lookup y = some c ∨ env.cells.lookup y = some c) ∧ (∀ y, (y, NameKind.free) ∈ names → cl.lookup y = env.cells.lookup y) ∧ (∀ y, acc.lookup y = env.cells.lookup y → cl.lookup y = env.cells.lookup y)
  | [], acc, _ => ⟨acc, rfl, fun y c e => .inl e, (fun y m => nomatch m), fun y e => e⟩
  | (n, kd) :: r, acc, h => by
    by_cases hk : kd = .free
    · subst hk
      obtain ⟨c, hc⟩ := h (n, .free) (.head _) rfl
      obtain ⟨cl, e, h1, h2, h3⟩ := closure_some r ((n, c) :: acc) fun y hy => h y (.tail _ hy)
      have hn : cl.lookup n = env.cells.lookup n := h3 n (by rw [List.lookup_cons]; simp [hc])
      refine ⟨cl, ?_, fun y d hd => ?_, fun y m => ?_, fun y hy => h3 y ?_⟩
      · rw [List.forIn_cons]
        have : cellOf env n = pure c := by unfold cellOf; rw [hc]
        simp only [beq_self_eq_true, if_true, this, pure_bind]
        exact e
      · rcases h1 y d hd with q | q
        · rw [List.lookup_cons] at q
          cases e : y == n with
          | true => rw [e] at q; (first | cases q using Rp.intE | cases q using Rp.strE | cases q using Rp.boolE | cases q using RpAll.nilE | cases q); rw [eq_of_beq e]; exact .inr hc
          | false => rw [e] at q; exact .inl q
        · exact .inr q
      · rcases List.mem_cons.mp m with e | m
        · cases e; exact hn
        · exact h2 y m
      · rw [List.lookup_cons]
        cases e : y == n with
        | true => rw [eq_of_beq e]; exact hc.symm
        | false => exact hy
    · obtain ⟨cl, e, h1, h2, h3⟩ := closure_some r acc fun y hy => h y (.tail _ hy)
      refine ⟨cl, ?_, h1, fun y m => ?_, h3⟩
      · rw [List.forIn_cons]
        have : (kd == NameKind.free) = false := by simpa using hk
        simp only [this, Bool.false_eq_true, if_false, pure_bind]
        exact e
      · rcases List.mem_cons.mp m with e | m
        · cases e; exact absurd rfl hk
        · exact h2 y m
theorem closureFor_some {scope : Scope} {env : Env} (h : ∀ y ∈ scope.names, y.2 = .free → ∃ c, env.cells.lookup y.1 = some c) :
    ∃ cl, closureFor scope env = pure cl ∧ (∀ y c, cl.lookup y = some c → env.cells.lookup y = some c) ∧ (∀ y, (y, NameKind.free) ∈ scope.names → cl.lookup y = env.cells.lookup y) := by
  obtain ⟨cl, e, h1, h2, _⟩ := closure_some scope.names [] h
  refine ⟨cl, ?_, fun y c hc => (h1 y c hc).elim (fun q => by cases q) id, h2⟩
  have e' : closureFor scope env = ((forIn scope.names [] fun (x : Str × NameKind) (cs : List (Str × Addr)) => (if x.2 == .free then do let a ← cellOf env x.1; pure (ForInStep.yield ((x.1, a) :: cs)) else pure (.yield cs) : Sem _)) >>= fun cs => pure cs) := rfl
  rw [e', e]
  rfl

structure ScopeOK (scope : Scope) (x : Str) (clb : Bool) : Prop where
  kind : scope.kind = .function
  nm : ∀ y ∈ scope.names, y.2 = .local → scope.names.lookup y.1 = some .local
  tgt : scope.names.lookup x = some (if clb then .cell else .local)
  cells : (scope.names.filter fun p => p.2 == .cell) = if clb then [(x, .cell)] else []
def GlOK (C : Cx) (y : Str) (d : D) : Prop := ∃ v, C.mg y = some v ∧ ∀ X h, Rp C X h v d
inductive FrS (C : Cx) (names : List (Str × NameKind)) (x : Str) (ys : List Str) : Store → Store → Prop
  | nil : FrS C names x ys [] []
  | skip {p : Str × LV} {ρ ρ' : Store} (r : FrS C names x ys ρ ρ') : FrS C names x ys (p :: ρ) ρ'
  | dat {y : Str} {d : D} {ρ ρ' : Store} (h : names.lookup y = some .free) (r : FrS C names x ys ρ ρ') : FrS C names x ys ((y, .dat d) :: ρ) ((y, .dat d) :: ρ')
  | gl {y : Str} {d : D} {ρ ρ' : Store} (h : names.lookup y = some .globalImplicit) (g : GlOK C y d) (r : FrS C names x ys ρ ρ') : FrS C names x ys ρ ((y, .gl d) :: ρ')
  | bi {y : Str} {v : Value} {ρ ρ' : Store} (h : names.lookup y = some .globalImplicit) (g : C.mg y = Option.none ∧ C.mb y = Option.some v) (r : FrS C names x ys ρ ρ') : FrS C names x ys ρ ((y, .bi v) :: ρ')
  | kn {y : Str} {zs : List Str} {ρ ρ' : Store} (h : ∀ z ∈ zs, (z = x ∧ names.lookup z = some .cell) ∨ (names.lookup z = some .free ∧ z ∈ ys)) (r : FrS C names x ys ρ ρ') : FrS C names x ys ρ ((y, .kn zs) :: ρ')
inductive Tests (C : Cx) (k : Nat) (ρ : Store) : List Expr → Bool → Prop
  | none : Tests C k ρ [] true
  | one {c : Expr} {b : Bool} (h : EvT C k ρ c b) : Tests C k ρ [c] b
inductive CompL (C : Cx) (k : Nat) (x : Str) (ρ : Store) (ifs : List Expr) (elt : Expr) : List D → List D → Prop
  | nil : CompL C k x ρ ifs elt [] []
  | take {d e : D} {ds es : List D} (t : Tests C k ((x, .dat d) :: ρ) ifs true) (h : EvE C k ((x, .dat d) :: ρ) elt e) (r : CompL C k x ρ ifs elt ds es) : CompL C k x ρ ifs elt (d :: ds) (e :: es)
  | skip {d : D} {ds es : List D} (t : Tests C k ((x, .dat d) :: ρ) ifs false) (r : CompL C k x ρ ifs elt ds es) : CompL C k x ρ ifs elt (d :: ds) es
theorem Tests.wp {ifs : List Expr} {b : Bool} (t : Tests C k ρ ifs b) {A : Around} {env : Env} {X : Addr → Prop} {adr : Str → Addr} {s : Shared} {E : Value → Shared → Prop} (R : Room k A) (o : EnvOK env) (re : RealE C env X ρ adr s.heap) :
    wpAny (model C.prog C.w) A (forIn ifs true fun c r => if r = true then do let ok ← isTrue c env (eval c env); pure (ForInStep.yield ok) else pure (ForInStep.yield r)) (fun b' s' => Keeps s s' ∧ b' = b) E s := by
  cases t with
  | none => exact wpAny_tests_nil ⟨.refl s, rfl⟩
  | one h => exact wpAny_tests_one (h A env X adr s E R o re)
theorem CompL.len {x : Str} {ifs : List Expr} {elt : Expr} {ds es : List D} (h : CompL C k x ρ ifs elt ds es) : es.length ≤ ds.length := by
  induction h with
  | nil => exact Nat.le_refl _
  | take _ _ _ ih => simpa using ih
  | skip _ _ ih => simp; lia

theorem no_cells {n : Nat} : ∀ {names : List (Str × NameKind)} {acc : List (Str × Addr)} {h : Heap}, (names.filter fun p => p.2 == NameKind.cell) = [] → cellsFrom n names acc = acc ∧ pushCells h names = h
  | [], _, _, _ => ⟨rfl, rfl⟩
  | (y, kd) :: r, acc, h, e => by
    rw [List.filter_cons] at e
    cases hk : kd == NameKind.cell with
    | true => simp only [hk, if_true] at e; cases e
    | false =>
      simp only [hk, Bool.false_eq_true, if_false] at e
      unfold cellsFrom pushCells
      simp only [hk, Bool.false_eq_true, if_false]
      exact no_cells e
theorem one_cell {n : Nat} {x : Str} : ∀ {names : List (Str × NameKind)} {acc : List (Str × Addr)} {h : Heap}, (names.filter fun p => p.2 == NameKind.cell) = [(x, .cell)] →
    cellsFrom n names acc = (x, n) :: acc ∧ pushCells h names = h.push { cls := .type "cell", data := .cell none }
  | [], _, _, e => by cases e
  | (y, kd) :: r, acc, h, e => by
    rw [List.filter_cons] at e
    cases hk : kd == NameKind.cell with
    | true =>
      simp only [hk, if_true] at e
      obtain ⟨e1, e2⟩ := List.cons.inj e
      cases e1
      unfold cellsFrom pushCells
      simp only [hk, if_true]
      exact no_cells e2
    | false =>
      simp only [hk, Bool.false_eq_true, if_false] at e
      unfold cellsFrom pushCells
      simp only [hk, Bool.false_eq_true, if_false]
      exact one_cell e

theorem newEnv_comp {A : Around} {E : Value → Shared → Prop} {s : Shared} {scope : Scope} {globals : Addr} {cl : List (Str × Addr)} {qual : Str} {env : Env} {Q : Env → Shared → Prop}
    (h : Q (newEnv scope s.heap.objs.size globals (cellsFrom (s.heap.objs.size + 1) scope.names cl) qual none .none (some env) builtinsNs) { s with heap := pushCells (s.heap.push { cls := .type "dict", data := .dict #[] }) scope.names }) :
    wpAny (model C.prog C.w) A (newFunctionEnv scope globals cl [] qual none .none (some env)) Q E s := by
  simp only [newFunctionEnv, Option.isSome_some, if_true]
  refine wpAny_bind (wpAny_alloc ?_)
  refine wpAny_bind (wpAny_layCells _ (fun name kind cells => by cases hkc : kind == NameKind.cell <;> simp [hkc]) _ _ _ _ ?_)
  rw [show ({ s with heap := s.heap.push { cls := .type "dict", data := .dict #[] } } : Shared).heap.objs.size = s.heap.objs.size + 1 from Heap.size_push ..]
  simp only [List.forIn_nil]
  exact wpAny_bind (wpAny_pure (wpAny_pure h))
end Mine
-- part Abs12
open PySem
set_option Elab.async false
set_option linter.unusedVariables false
namespace Mine
variable {C : Cx} {k : Nat} {ρ : Store}

theorem FrS.mem {names : List (Str × NameKind)} {x : Str} {ys : List Str} {ρ ρf : Store} (h : FrS C names x ys ρ ρf) : ∀ y lv, (y, lv) ∈ ρf → match lv with
    | .dat d => (y, LV.dat d) ∈ ρ ∧ names.lookup y = some .free
    | .gl d => names.lookup y = some .globalImplicit ∧ GlOK C y d
    | .bi v => names.lookup y = some .globalImplicit ∧ C.mg y = none ∧ C.mb y = some v
    | .kn zs => ∀ z ∈ zs, (z = x ∧ names.lookup z = some .cell) ∨ (names.lookup z = some .free ∧ z ∈ ys)
    | _ => False := by
  induction h with
  | nil => intro y lv hm; cases hm
  | skip r ih =>
    intro y lv hm
    have := ih y lv hm
    cases lv <;> first | exact ⟨.tail _ this.1, this.2⟩ | exact this
  | dat h r ih =>
    intro y lv hm
    rcases List.mem_cons.mp hm with e | hm
    · cases e; exact ⟨.head _, h⟩
    · have := ih y lv hm
      cases lv <;> first | exact ⟨.tail _ this.1, this.2⟩ | exact this
  | gl h g r ih =>
    intro y lv hm
    rcases List.mem_cons.mp hm with e | hm
    · cases e; exact ⟨h, g⟩
    · exact ih y lv hm
  | bi h g r ih =>
    intro y lv hm
    rcases List.mem_cons.mp hm with e | hm
    · cases e; exact ⟨h, g⟩
    · exact ih y lv hm
  | kn h r ih =>
    intro y lv hm
    rcases List.mem_cons.mp hm with e | hm
    · cases e; exact h
    · exact ih y lv hm

abbrev cellAt (clb : Bool) (Cc : Addr) : Addr := if clb then Cc + 1 else Cc
abbrev cellsOf (clb : Bool) (x : Str) (Cc : Addr) (cl : List (Str × Addr)) : List (Str × Addr) := if clb then (x, Cc + 1) :: cl else cl

/-- the comprehension's own frame -/
theorem inner_real {env cenv : Env} {X : Addr → Prop} {adr : Str → Addr} {h h' : Heap} {scope : Scope} {x : Str} {clb : Bool} {ys : List Str} {ρf : Store} {cl : List (Str × Addr)} {Cc Da : Addr} {wr : List Addr} {v : Value} {d : D}
    (re : RealE C env X ρ adr h) (o : EnvOK env) (so : ScopeOK scope x clb) (hf : FrS C scope.names x ys ρ ρf) (hys : ∀ y ∈ ys, env.kindOf y = some .cell ∧ ∃ c, env.cells.lookup y = some c)
    (cl1 : ∀ y c, cl.lookup y = some c → env.cells.lookup y = some c) (cl2 : ∀ y, (y, NameKind.free) ∈ scope.names → cl.lookup y = env.cells.lookup y)
    (hfree : ∀ y ∈ scope.names, y.2 = .free → y.1 ∈ ys)
    (hcs : cenv.scope = relabel scope env) (hcc : cenv.cells = cellsOf clb x Cc cl) (hcl : cenv.locals = Cc)
    (hk : Keep h h') (dD : h.get? Da = none) (dC : h.get? Cc = none) (dc : h.get? (cellAt clb Cc) = none) (dw : ∀ b ∈ wr, h.get? b = none)
    (ns : ∃ m, h'.Ns Cc m) (hcell : clb = true → ∃ v, h'.IsCell (Cc + 1) v) (aD : ∃ o, h'.get? Da = some o) (aw : ∀ b ∈ wr, ∃ o, h'.get? b = some o)
    (lx : Loc cenv h' x v) (rv : Rp C (fun b => XX X env ρ adr b ∨ b ∈ wr ∨ b = Da ∨ b = Cc ∨ b = cellAt clb Cc) h' v d) :
    RealE C cenv (fun b => XX X env ρ adr b ∨ b ∈ wr ∨ b = Da ∨ b = Cc ∨ b = cellAt clb Cc) ((x, .dat d) :: ρf) adr h' := by
  have kindOf : ∀ y, cenv.kindOf y = (scope.names.lookup y).map fun k => if (k == NameKind.free && env.scope.kind == .function && env.kindOf y == some .cell) then NameKind.cell else k := fun y => by
    unfold Env.kindOf; rw [hcs]; exact relabel_lookup scope.names
  have kfree : ∀ y, scope.names.lookup y = some .free → cenv.kindOf y = some .cell ∧ ∃ c, cenv.cells.lookup y = some c ∨ True := fun y e => by
    refine ⟨?_, 0, .inr trivial⟩
    rw [kindOf, e, Option.map_some, o.kind, (hys y (hfree (y, .free) (mem_of_lookup e) rfl)).1]
    rfl
  have nx : ∀ y, scope.names.lookup y = some .free → y ≠ x := fun y e q => by
    have := so.tgt; rw [← q, e] at this; cases clb <;> simp at this
  have clook : ∀ y, scope.names.lookup y = some .free → cenv.cells.lookup y = env.cells.lookup y := fun y e => by
    rw [← cl2 y (mem_of_lookup e), hcc]
    cases clb
    · rfl
    · show List.lookup y ((x, Cc + 1) :: cl) = _
      rw [List.lookup_cons]
      have : (y == x) = false := by simpa using nx y e
      rw [this]
  have cback : ∀ y c, cenv.cells.lookup y = some c → (clb = true ∧ c = Cc + 1) ∨ env.cells.lookup y = some c := fun y c e => by
    rw [hcc] at e
    cases clb
    · exact .inr (cl1 y c e)
    · change List.lookup y ((x, Cc + 1) :: cl) = _ at e
      rw [List.lookup_cons] at e
      cases q : y == x with
      | true => rw [q] at e; cases e; exact .inl ⟨rfl, rfl⟩
      | false => rw [q] at e; exact .inr (cl1 y c e)
  have noown : ∀ y e, (y, LV.own e) ∉ ((x, LV.dat d) :: ρf) := fun y e hm => by
    rcases List.mem_cons.mp hm with q | q
    · (first | cases q using Rp.intE | cases q using Rp.strE | cases q using Rp.boolE | cases q using RpAll.nilE | cases q)
    · exact hf.mem y _ q
  have xin : ∀ b, XX (fun b => XX X env ρ adr b ∨ b ∈ wr ∨ b = Da ∨ b = Cc ∨ b = cellAt clb Cc) cenv ((x, .dat d) :: ρf) adr b → (XX X env ρ adr b ∨ b ∈ wr ∨ b = Da ∨ b = Cc ∨ b = cellAt clb Cc) := fun b hb => by
    rcases hb with hb | hb | ⟨y, hb⟩ | ⟨y, e, hm, _⟩
    · exact hb
    · exact .inr (.inr (.inr (.inl (hb.trans hcl))))
    · rcases cback y b hb with ⟨rfl, q⟩ | q
      · exact .inr (.inr (.inr (.inr q)))
      · exact .inl (.inr (.inr (.inl ⟨y, q⟩)))
    · exact absurd hm (noown y e)
  have old : ∀ b o, ¬ XX X env ρ adr b → h.get? b = some o → h'.get? b = some o ∧ ¬ XX (fun b => XX X env ρ adr b ∨ b ∈ wr ∨ b = Da ∨ b = Cc ∨ b = cellAt clb Cc) cenv ((x, .dat d) :: ρf) adr b := fun b o hb e => by
    refine ⟨hk b o e, fun q => ?_⟩
    rcases xin b q with q | q | q | q | q
    · exact hb q
    · rw [dw b q] at e; cases e
    · rw [q, dD] at e; cases e
    · rw [q, dC] at e; cases e
    · rw [q, dc] at e; cases e
  refine RealE.mk (re.base.keeps hk) (by rw [hcl]; exact ns) (fun y c e => ?_) (fun y l hm => ?_) fun a ha => ?_
  · rcases cback y c e with ⟨q1, q2⟩ | q
    · obtain ⟨v, q⟩ := hcell q1; exact ⟨v, q2 ▸ q⟩
    · obtain ⟨v, q⟩ := re.cells y c q; exact ⟨v, q.keeps hk⟩
  · rcases List.mem_cons.mp hm with e | hm
    · cases e
      exact ⟨v, lx, rv.bar fun a ha => .inl (xin a ha)⟩
    · have := hf.mem y l hm
      cases l with
      | dat e =>
        obtain ⟨m1, m2⟩ := this
        obtain ⟨w, l, r⟩ := re.ents y _ m1
        refine ⟨w, .inr ⟨(kfree y m2).1, ?_⟩, r.re2 old⟩
        have hkd := (hys y (hfree (y, .free) (mem_of_lookup m2) rfl)).1
        rcases l with ⟨q, _⟩ | ⟨_, c, q1, q2⟩
        · rw [hkd] at q; (first | cases q using Rp.intE | cases q using Rp.strE | cases q using Rp.boolE | cases q using RpAll.nilE | cases q)
        · exact ⟨c, by rw [clook y m2]; exact q1, q2.keeps hk⟩
      | gl e =>
        exact ⟨by rw [kindOf, this.1]; rfl, this.2⟩
      | bi w =>
        exact ⟨by rw [kindOf, this.1]; rfl, this.2⟩
      | kn zs =>
        intro z hz
        rcases this z hz with ⟨rfl, q⟩ | ⟨q, hzy⟩
        · refine ⟨by rw [kindOf, q]; rfl, ?_⟩
          have : clb = true := by have := so.tgt; rw [q] at this; cases clb <;> simp at this ⊢
          subst this
          exact ⟨Cc + 1, by rw [hcc]; show List.lookup z ((z, Cc + 1) :: cl) = _; rw [List.lookup_cons]; simp⟩
        · refine ⟨(kfree z q).1, ?_⟩
          rw [clook z q]
          exact (hys z hzy).2
      | own e => exact this.elim
      | unb => exact this.elim
  · rcases ha with ha | ha | rfl | rfl | ha
    · obtain ⟨o, e⟩ := re.xx_alive ha; exact ⟨o, hk _ _ e⟩
    · exact aw a ha
    · exact aD
    · obtain ⟨m, o, _, _, e, _⟩ := ns; exact ⟨o, e⟩
    · subst ha
      cases clb
      · obtain ⟨m, o, _, _, e, _⟩ := ns; exact ⟨o, e⟩
      · obtain ⟨v, o, e, _⟩ := hcell rfl; exact ⟨o, e⟩

/-- what holds between a comprehension's turns -/
inductive CInv (C : Cx) (k : Nat) (x : Str) (ρf : Store) (ifs : List Expr) (elt : Expr) (ds es : List D) (s : Shared) (St : Nat → Heap → Prop) (Da Cc : Addr) (clb : Bool) (Y : Addr → Prop) (wr : List Addr) (h2 : Heap) : Nat → Shared → Prop
  | mk {n : Nat} (i : Nat) (h : Heap) (tk : Nat) (vs : Array Value) (es1 es2 : List D) (hn : n + i = ds.length) (sti : St i h) (pl : h.PlainList Da vs) (rp : RpAll C Y h vs.toList es1) (he : es = es1 ++ es2) (hl1 : es1.length ≤ i)
    (cl2 : CompL C k x ρf ifs elt (ds.drop i) es2) (nsi : ∃ m, h.Ns Cc m) (cei : clb = true → ∃ v, h.IsCell (Cc + 1) v) (hk : ∀ b o, b ∉ wr → h2.get? b = some o → h.get? b = some o) : CInv C k x ρf ifs elt ds es s St Da Cc clb Y wr h2 n { s with heap := h, toks := tk }
theorem comp_core {elt iter : Expr} {x : Str} {px : Pos} {ifs : List Expr} {scope : Scope} {pos pos' : Pos} {ds es : List D} {ρf : Store} {ys : List Str} {clb : Bool}
    (hi : EvI C k ρ iter ds true) (so : ScopeOK scope x clb) (hkn : ys = [] ∨ ∃ e, (e, LV.kn ys) ∈ ρ) (hfree : ∀ y ∈ scope.names, y.2 = .free → y.1 ∈ ys) (hf : FrS C scope.names x ys ρ ρf) (hc : CompL C k x ρf ifs elt ds es) (hsz : ds.length ≤ sizeLine)
    {use : Option (Value → Sem Unit)} {A : Around} {env : Env} {X : Addr → Prop} {adr : Str → Addr} {s : Shared} {Q : Value → Shared → Prop} {E : Value → Shared → Prop} (R : Room k A) (o : EnvOK env) (re : RealE C env X ρ adr s.heap)
    (hs : ∀ v, foldedSetIterable iter env v = pure v)
    (hQ : ∀ Da Cc h' tk (vs : Array Value), Keep s.heap h' → s.heap.get? Da = none → s.heap.get? Cc = none → Da ≠ Cc → (∃ m, h'.Ns Cc m) → h'.PlainList Da vs → RpAll C (fun b => XX X env ρ adr b ∨ b = Da ∨ b = Cc) h' vs.toList es →
      compPost (model C.prog C.w) A E use Q (.ref Da) Cc (.ok .next) { s with heap := h', toks := tk }) :
    wpAny (model C.prog C.w) A (comprehension (.ListComp elt [⟨.Name x px, iter, ifs, 0⟩] scope pos) scope env pos' (newList []) false (eval iter env) use) Q E s := by
  have hys : ∀ y ∈ ys, env.kindOf y = some .cell ∧ ∃ c, env.cells.lookup y = some c := by
    rcases hkn with rfl | ⟨e, hm⟩
    · intro y hy; cases hy
    · exact re.ents _ _ hm
  obtain ⟨cl, ecl, cl1, cl2⟩ := closureFor_some (scope := scope) (env := env) fun y hy hk => (hys y.1 (hfree y hy hk)).2
  refine wpAny_comprehension_free rfl hs ecl so.kind so.nm (hi A env X adr s E _ R o re fun s₂ I fp wr St Mid hk2 st hwr hfp hmid hw => ?_)
  obtain ⟨h2, tk2, rfl, hk2⟩ := hk2
  dsimp only at st hw
  have W := hw (still h2 (mmList env ρ adr ++ wr)) (fun b ob e hm hb => still_get e fun q => (List.mem_append.mp q).elim (fun q => hm (mem_mmList.mp q)) hb) still_keep fun b hb => still_none (List.mem_append_right _ hb)
  have hxwr : ∀ b ∈ wr, (still h2 (mmList env ρ adr ++ wr)).get? b = none := fun b hb => still_none (List.mem_append_right _ hb)
  have hxm : ∀ b, MM env ρ adr b → (still h2 (mmList env ρ adr ++ wr)).get? b = none := fun b hb => still_none (List.mem_append_left _ (mem_mmList.mpr hb))
  have kx2 : Keep (still h2 (mmList env ρ adr ++ wr)) h2 := still_keep
  generalize still h2 (mmList env ρ adr ++ wr) = hx at W hxwr hxm kx2
  have live0 := W.live 0 _ st
  have fplt : ∀ b ∈ fp, b < h2.objs.size := fun b hb => let ⟨o, e⟩ := live0 b hb; Heap.lt_size e
  refine wpAny_newObj_type (newEnv_comp ?_)
  dsimp only
  generalize hH : h2.push { cls := .type "list", dict := none, data := .seq ([] : List Value).toArray } = H
  have hHs : H.objs.size = h2.objs.size + 1 := by rw [← hH, Heap.size_push]
  rw [hHs]
  -- the heap at the loop's door
  obtain ⟨h3, hh3, k3, ac3, ns3, ce3, hcells⟩ : ∃ h3, pushCells (H.push { cls := .type "dict", data := .dict #[] }) scope.names = h3 ∧ Keep h2 h3 ∧ h3.PlainList h2.objs.size #[] ∧ h3.Ns (h2.objs.size + 1) (fun _ => none) ∧ (clb = true → ∃ v, h3.IsCell (h2.objs.size + 1 + 1) v) ∧
      cellsFrom (h2.objs.size + 1 + 1) scope.names cl = cellsOf clb x (h2.objs.size + 1) cl := by
    have hN : (H.push { cls := .type "dict", data := .dict #[] }).Ns (h2.objs.size + 1) (fun _ => none) := by rw [← hHs]; exact Heap.Ns.new ..
    have hS : (H.push { cls := .type "dict", data := .dict #[] }).objs.size = h2.objs.size + 1 + 1 := by rw [Heap.size_push, hHs]
    have kH : Keep h2 (H.push { cls := .type "dict", data := .dict #[] }) := fun b o e => Heap.get?_push_of_some _ (hH ▸ Heap.get?_push_of_some _ e)
    have hA : (H.push { cls := .type "dict", data := .dict #[] }).PlainList h2.objs.size #[] := ⟨_, Heap.get?_push_of_some _ (hH ▸ Heap.get?_push_size _ rfl)⟩
    have hcl := so.cells
    cases clb with
    | false =>
      obtain ⟨e1, e2⟩ := no_cells (n := h2.objs.size + 1 + 1) (acc := cl) (h := H.push { cls := .type "dict", data := .dict #[] }) (by simpa using hcl)
      exact ⟨_, e2, kH, hA, hN, (fun e => by cases e), e1⟩
    | true =>
      obtain ⟨e1, e2⟩ := one_cell (n := h2.objs.size + 1 + 1) (acc := cl) (h := H.push { cls := .type "dict", data := .dict #[] }) (by simpa using hcl)
      exact ⟨_, e2, fun b o e => Heap.get?_push_of_some _ (kH b o e), let ⟨n, e⟩ := hA; ⟨n, Heap.get?_push_of_some _ e⟩, hN.keeps fun b o e => Heap.get?_push_of_some _ e, fun _ => ⟨none, _, by rw [← hS]; exact Heap.get?_push_size _ rfl, rfl⟩, e1⟩
  rw [hh3, hcells]
  have dDa : s.heap.get? h2.objs.size = none := keep_none hk2 (get_none (Nat.le_refl _))
  have dCc : s.heap.get? (h2.objs.size + 1) = none := keep_none hk2 (get_none (Nat.le_succ _))
  have dDa2 : h2.get? h2.objs.size = none := get_none (Nat.le_refl _)
  have dCc2 : h2.get? (h2.objs.size + 1) = none := get_none (Nat.le_succ _)
  have dc2 : h2.get? (cellAt clb (h2.objs.size + 1)) = none := by
    cases clb
    · exact get_none (by show _ ≤ h2.objs.size + 1; lia)
    · exact get_none (by show _ ≤ h2.objs.size + 1 + 1; lia)
  have dc : s.heap.get? (cellAt clb (h2.objs.size + 1)) = none := keep_none hk2 dc2
  have nDC : h2.objs.size ≠ h2.objs.size + 1 := by lia
  have nDc : h2.objs.size ≠ cellAt clb (h2.objs.size + 1) := by
    cases clb
    · show _ ≠ h2.objs.size + 1; lia
    · show _ ≠ h2.objs.size + 1 + 1; lia
  have fpD : h2.objs.size ∉ fp := fun hm => Nat.lt_irrefl _ (fplt _ hm)
  have fpC : h2.objs.size + 1 ∉ fp := fun hm => Nat.lt_irrefl _ (Nat.lt_of_succ_lt (fplt _ hm))
  have fpc : cellAt clb (h2.objs.size + 1) ∉ fp := fun hm => by
    have := fplt _ hm
    cases clb
    · have : h2.objs.size + 1 < h2.objs.size := this; lia
    · have : h2.objs.size + 1 + 1 < h2.objs.size := this; lia
  generalize hDa : h2.objs.size = Da at *
  generalize hCc : Da + 1 = Cc at *
  generalize hcenv : ({ newEnv scope Cc env.globals (cellsOf clb x Cc cl) env.qual none .none (some env) builtinsNs with scope := relabel scope env } : Env) = cenv
  have hcs : cenv.scope = relabel scope env := by rw [← hcenv]
  have hcc : cenv.cells = cellsOf clb x Cc cl := by rw [← hcenv]; rfl
  have hcl : cenv.locals = Cc := by rw [← hcenv]; rfl
  have oc : EnvOK cenv := ⟨by rw [hcs]; exact so.kind, by rw [← hcenv]; exact o.glob, by rw [← hcenv]; exact o.blt⟩
  have kindx : cenv.kindOf x = some (if clb then .cell else .local) := by
    unfold Env.kindOf
    rw [hcs]
    show List.lookup x (scope.names.map _) = _
    rw [relabel_lookup, so.tgt]
    cases clb <;> rfl
  show codeAny _ _ (.compStart _ 0 (.ref I) (.ref Da) cenv) (compPost (model C.prog C.w) A E use Q (.ref Da) (newEnv scope Cc env.globals (cellsOf clb x Cc cl) env.qual none .none (some env) builtinsNs).locals) _
  have kwr : ∀ {h : Heap}, (∀ b o, b ∉ wr → h2.get? b = some o → h.get? b = some o) → Keep s.heap h := fun hk b o e => hk b o (fun q => by rw [hwr b q] at e; cases e) (hk2 b o e)
  have kxr : ∀ {h : Heap}, (∀ b o, b ∉ wr → h2.get? b = some o → h.get? b = some o) → Keep hx h := fun hk b o e => hk b o (fun q => by rw [hxwr b q] at e; cases e) (kx2 b o e)
  have wrD : Da ∉ wr := fun q => fpD (W.sub _ q)
  have wrC : Cc ∉ wr := fun q => fpC (W.sub _ q)
  have wrc : cellAt clb Cc ∉ wr := fun q => fpc (W.sub _ q)
  have nsAt : ∀ {h h' : Heap}, (∃ m, h.Ns Cc m) → (∀ o, h.get? Cc = some o → h'.get? Cc = some o) → ∃ m, h'.Ns Cc m := fun ⟨m, n⟩ hk => ⟨m, n.at' hk⟩
  have ceAt : ∀ {h h' : Heap}, (clb = true → ∃ v, h.IsCell (Cc + 1) v) → (∀ o, h.get? (cellAt clb Cc) = some o → h'.get? (cellAt clb Cc) = some o) → (clb = true → ∃ v, h'.IsCell (Cc + 1) v) := fun hc hk e => by
    obtain ⟨v, o, q, r⟩ := hc e
    subst e
    exact ⟨v, o, hk o q, r⟩
  have loop : codeAny (model C.prog C.w) A (.compLoop (.ListComp elt [⟨.Name x px, iter, ifs, 0⟩] scope pos) 0 (.ref I) (.ref Da) cenv) (compPost (model C.prog C.w) A E use Q (.ref Da) Cc) { s with heap := h3, toks := tk2 } := by
    refine codeAny_compLoop_tests (CInv C k x ρf ifs elt ds es s St Da Cc clb (fun b => XX X env ρ adr b ∨ b ∈ wr ∨ b = Da ∨ b = Cc ∨ b = cellAt clb Cc) wr h2) ?_ ds.length
      (.mk 0 h3 tk2 #[] [] es rfl (W.frame _ _ _ st fun b hb o e => k3 b o e) ac3 .nil rfl (Nat.le_refl _) hc ⟨_, ns3⟩ ce3 fun b o _ e => k3 b o e)
    rintro n s' ⟨i, h, tk, vs, es1, es2, hn, sti, pl, rp, rfl, hl1, cl2', nsi, cei, hk⟩
    cases hd : ds[i]? with
    | none =>
      have hlen : ds.length ≤ i := List.getElem?_eq_none_iff.mp hd
      have hlen : i = ds.length := by lia
      subst hlen
      rw [List.drop_length] at cl2'
      cases cl2'
      refine W.done _ _ _ sti fun h' tk' hk' => ?_
      have hk'' : ∀ b o, b ∉ wr → h2.get? b = some o → h'.get? b = some o := fun b o hb e => hk' b o hb (hk b o hb e)
      refine hQ Da Cc h' tk' vs (kwr hk'') dDa dCc nDC (nsAt nsi fun o e => hk' _ _ wrC e) (let ⟨n, e⟩ := pl; ⟨n, hk' _ _ wrD e⟩) ?_
      rw [List.append_nil]
      exact rp.re2 fun b o hb e => ⟨hk' b o (fun q => hb (.inr (.inl q))) e, fun q => hb (q.elim .inl fun q => q.elim (fun q => .inr (.inr (.inl q))) fun q => .inr (.inr (.inr (.inl q))))⟩
    | some d =>
      have hdrop : ds.drop i = d :: ds.drop (i + 1) := by
        obtain ⟨hlt, e⟩ := List.getElem?_eq_some_iff.mp hd
        rw [List.drop_eq_getElem_cons hlt, e]
      have hlt : i < ds.length := (List.getElem?_eq_some_iff.mp hd).1
      rw [hdrop] at cl2'
      refine W.item i d _ _ _ hd sti (kxr hk) fun v h1 tk1 mid rv hk1 => ?_
      have hk1' : ∀ b o, b ∉ wr → h2.get? b = some o → h1.get? b = some o := fun b o hb e => hk1 b o hb (hk b o hb e)
      have ns1 := nsAt (h' := h1) nsi fun o e => hk1 _ _ wrC e
      have ce1 := ceAt (h' := h1) cei fun o e => hk1 _ _ wrc e
      have rv1 : Rp C (fun b => XX X env ρ adr b ∨ b ∈ wr ∨ b = Da ∨ b = Cc ∨ b = cellAt clb Cc) h1 v d := rv _ fun b hb => by
        rcases hb with hb | hb | rfl | rfl | rfl
        · refine ⟨hb.imp id (hxm b), ?_⟩
          obtain ⟨ob, e⟩ := re.xx_alive hb
          exact ⟨ob, kwr hk b ob e⟩
        · exact ⟨.inr (hxwr b hb), W.live i h sti b (W.sub b hb)⟩
        · exact ⟨.inr (keep_none kx2 dDa2), let ⟨n, e⟩ := pl; ⟨_, e⟩⟩
        · exact ⟨.inr (keep_none kx2 dCc2), let ⟨m, o, _, _, e, _⟩ := nsi; ⟨o, e⟩⟩
        · refine ⟨.inr (keep_none kx2 dc2), ?_⟩
          cases clb
          · exact let ⟨m, o, _, _, e, _⟩ := nsi; ⟨o, e⟩
          · exact let ⟨v, o, e, _⟩ := cei rfl; ⟨o, e⟩
      -- the target bound
      have store : ∀ {QQ : Unit → Shared → Prop} {EE : Value → Shared → Prop}, (∀ h4 tk4, Heap.SameBut (cellAt clb Cc) h1 h4 → Loc cenv h4 x v → (∃ m, h4.Ns Cc m) → (clb = true → ∃ v, h4.IsCell (Cc + 1) v) → QQ () { s with heap := h4, toks := tk4 }) →
          wpAny (model C.prog C.w) A (assign (.Name x px) cenv v) QQ EE { s with heap := h1, toks := tk1 } := fun {QQ EE} hq => by
        obtain ⟨m, hn1⟩ := ns1
        cases clb with
        | false =>
          refine wpAny_assign_Name (wpAny_storeName_local kindx (by rw [hcl]; exact hn1) (fun h4 hn4 hs4 => ?_) (by rw [oc.kind]; rfl))
          rw [hcl] at hn4 hs4
          exact hq h4 _ hs4 (.inl ⟨kindx, _, by rw [hcl]; exact hn4, by simp⟩) ⟨_, hn4⟩ fun e => by cases e
        | true =>
          obtain ⟨v0, q⟩ := ce1 rfl
          have hlk : cenv.cells.lookup x = some (Cc + 1) := by rw [hcc]; show List.lookup x ((x, Cc + 1) :: cl) = _; rw [List.lookup_cons]; simp
          refine wpAny_assign_Name (wpAny_storeName_cell oc.kind kindx hlk q fun h4 hv4 hs4 => ?_)
          exact hq h4 _ hs4 (.inr ⟨kindx, _, hlk, hv4⟩) ⟨m, hn1.sameBut hs4 (by show Cc ≠ Cc + 1; exact Nat.ne_of_lt (Nat.lt_succ_self _))⟩ fun _ => ⟨_, hv4⟩
      refine store fun h4 tk4 hs4 lx ns4 ce4 => ?_
      have st4 : St (i + 1) h4 := W.frame _ _ _ (hmid rfl i v h1 mid) fun b hb o e => hs4.extBut b o (fun q => fpc (q ▸ hb)) e
      have hk4 : ∀ b o, b ∉ wr → h2.get? b = some o → h4.get? b = some o := fun b o hb e => hs4.extBut b o (fun q => by rw [q, dc2] at e; cases e) (hk1' b o hb e)
      have pl4 : h4.PlainList Da vs := let ⟨n, e⟩ := pl; ⟨n, hs4.extBut _ _ nDc (hk1 _ _ wrD e)⟩
      have rin := inner_real (cenv := cenv) (h' := h4) (v := v) (d := d) re o so hf hys cl1 cl2 hfree hcs hcc hcl (kwr hk4) dDa dCc dc hwr ns4 ce4 (let ⟨n, e⟩ := pl4; ⟨_, e⟩) (fun b hb => W.live _ _ st4 b (W.sub b hb)) lx
        (rv1.re2 fun b o hb e => ⟨hs4.extBut b o (fun q => hb (.inr (.inr (.inr (.inr q))))) e, hb⟩)
      have rp4 : RpAll C (fun b => XX X env ρ adr b ∨ b ∈ wr ∨ b = Da ∨ b = Cc ∨ b = cellAt clb Cc) h4 vs.toList es1 := rp.re2 fun b o hb e => ⟨hs4.extBut b o (fun q => hb (.inr (.inr (.inr (.inr q))))) (hk1 b o (fun q => hb (.inr (.inl q))) e), hb⟩
      obtain ⟨b, t, hb⟩ : ∃ b, Tests C k ((x, .dat d) :: ρf) ifs b ∧ ((b = true ∧ ∃ e es3, es2 = e :: es3 ∧ EvE C k ((x, .dat d) :: ρf) elt e ∧ CompL C k x ρf ifs elt (ds.drop (i + 1)) es3) ∨ (b = false ∧ CompL C k x ρf ifs elt (ds.drop (i + 1)) es2)) := by
        cases cl2' with
        | take t h r => exact ⟨_, t, .inl ⟨rfl, _, _, rfl, h, r⟩⟩
        | skip t r => exact ⟨_, t, .inr ⟨rfl, r⟩⟩
      refine wpAny_mono (t.wp (adr := adr) R oc rin) (fun b' s5 h5 => ?_) fun _ _ e => e
      obtain ⟨⟨h5, tk5, rfl, k5⟩, rfl⟩ := h5
      have pl5 : h5.PlainList Da vs := let ⟨n, e⟩ := pl4; ⟨n, k5 _ _ e⟩
      rcases hb with ⟨rfl, e, es3, rfl, he, hr⟩ | ⟨rfl, hr⟩
      · rw [if_pos rfl]
        refine wpAny_mono (he A cenv _ adr _ _ R oc (rin.keeps k5)) (fun ve s6 h6 => ?_) fun _ _ e => e
        obtain ⟨⟨h6, tk6, rfl, k6⟩, r6⟩ := h6
        refine wpAny_list_append_plain (let ⟨n, e⟩ := pl5; ⟨n, k6 _ _ e⟩) (fun h7 pl7 hs7 => ?_) (by have := rp.length; simp at this; lia)
        refine ⟨n - 1, by lia, .mk (i + 1) h7 tk6 _ (es1 ++ [e]) es3 (by lia) (W.frame _ _ _ st4 fun b hb o e => hs7.extBut b o (fun q => fpD (q ▸ hb)) (k6 _ _ (k5 _ _ e))) pl7 ?_ (by simp) (by simp; lia) hr
          (nsAt ns4 fun o e => hs7.extBut _ _ (Ne.symm nDC) (k6 _ _ (k5 _ _ e))) (ceAt ce4 fun o e => hs7.extBut _ _ (Ne.symm nDc) (k6 _ _ (k5 _ _ e))) fun b o hb e => hs7.extBut b o (fun q => by rw [q, dDa2] at e; cases e) (k6 _ _ (k5 _ _ (hk4 b o hb e)))⟩
        rw [Array.toList_push]
        have mv : ∀ b o, ¬ (XX X env ρ adr b ∨ b ∈ wr ∨ b = Da ∨ b = Cc ∨ b = cellAt clb Cc) → h6.get? b = some o → h7.get? b = some o ∧ ¬ (XX X env ρ adr b ∨ b ∈ wr ∨ b = Da ∨ b = Cc ∨ b = cellAt clb Cc) := fun b o hb e => ⟨hs7.extBut b o (fun q => hb (.inr (.inr (.inl q)))) e, hb⟩
        exact (((rp4.keeps k5).keeps k6).re2 mv).append (.cons ((r6.bar fun a ha => .inl (.inl ha)).re2 mv) .nil)
      · rw [if_neg (by decide)]
        exact ⟨n - 1, by lia, .mk (i + 1) h5 tk5 vs es1 es2 (by lia) (W.frame _ _ _ st4 fun b hb o e => k5 b o e) pl5 (rp4.keeps k5) rfl (by lia) hr (nsAt ns4 fun o e => k5 _ _ e) (ceAt ce4 fun o e => k5 _ _ e) fun b o hb e => k5 _ _ (hk4 b o hb e)⟩
  have hnl : (newEnv scope Cc env.globals (cellsOf clb x Cc cl) env.qual none .none (some env) builtinsNs).locals = Cc := rfl
  rw [hnl]
  exact codeAny_compStart_list loop (W.self rfl 0 _ _ _ (W.frame _ _ _ st fun b hb o e => k3 b o e) loop)
end Mine
-- part Abs13
open PySem
set_option Elab.async false
set_option linter.unusedVariables false
namespace Mine
variable {C : Cx} {k : Nat} {ρ : Store}

theorem EvE.comp {elt iter : Expr} {x : Str} {px : Pos} {ifs : List Expr} {scope : Scope} {pos : Pos} {ds es : List D} {ρf : Store} {ys : List Str} {clb : Bool}
    (hi : EvI C k ρ iter ds true) (so : ScopeOK scope x clb) (hkn : ys = [] ∨ ∃ e, (e, LV.kn ys) ∈ ρ) (hfree : ∀ y ∈ scope.names, y.2 = .free → y.1 ∈ ys) (hf : FrS C scope.names x ys ρ ρf) (hc : CompL C k x ρf ifs elt ds es) (hsz : ds.length ≤ sizeLine)
    (hs : ∀ env v, foldedSetIterable iter env v = pure v := by intro _ _; rfl) : EvE C k ρ (.ListComp elt [⟨.Name x px, iter, ifs, 0⟩] scope pos) (.list es) := by
  intro A env X adr s E R o re
  rw [eval_ListComp]
  refine comp_core (use := none) hi so hkn hfree hf hc hsz R o re (hs env) fun Da Cc h' tk vs hk dD dC hne ns pl rp => ?_
  obtain ⟨m, hn⟩ := ns
  refine ⟨m, hn, fun h'' hs'' => ⟨.mk' fun b o e => hs''.extBut b o (fun q => by rw [q, dC] at e; cases e) (hk b o e), ?_⟩⟩
  obtain ⟨n, g⟩ := pl
  refine .list (re.fresh dD) (hs''.extBut _ _ hne g) (rp.re2 fun b o hb e => ⟨hs''.extBut b o (fun q => hb (.inr (.inr q))) e, fun q => hb (.inl q)⟩)
theorem swaps_some (value : Expr) (target : Option Expr) (n : Nat) (env : Env) (hv : ∃ elt g scope pos, value = .ListComp elt g scope pos) (ht : ∃ y p, target = some (.Name y p)) : ∃ b, swapsWith value target n env = pure b := by
  obtain ⟨elt, g, scope, pos, rfl⟩ := hv
  obtain ⟨y, p, rfl⟩ := ht
  exact ⟨_, rfl⟩
theorem Ev1.assignC {y : Str} {py spos : Pos} {elt iter : Expr} {x : Str} {px : Pos} {ifs : List Expr} {scope : Scope} {pos : Pos} {ds es : List D} {ρf ρ' : Store} {ys : List Str} {clb : Bool}
    (hi : EvI C k ρ iter ds true) (so : ScopeOK scope x clb) (hkn : ys = [] ∨ ∃ e, (e, LV.kn ys) ∈ ρ) (hfree : ∀ y ∈ scope.names, y.2 = .free → y.1 ∈ ys) (hf : FrS C scope.names x ys ρ ρf) (hc : CompL C k x ρf ifs elt ds es) (hsz : ds.length ≤ sizeLine)
    (U : Upd y (.dat (.list es)) ρ ρ')
    (hs : ∀ env v, foldedSetIterable iter env v = pure v := by intro _ _; rfl) : Ev1 C k ρ (.Assign [.Name y py] (.ListComp elt [⟨.Name x px, iter, ifs, 0⟩] scope pos) spos) (.next ρ') := by
  intro A env X hB adr s E R o re
  obtain ⟨b, hb⟩ := swaps_some (.ListComp elt [⟨.Name x px, iter, ifs, 0⟩] scope pos) (some (.Name y py)) spos.line env ⟨_, _, _, _, rfl⟩ ⟨_, _, rfl⟩
  cases b with
  | false =>
    refine wpAny_Assign_Name (wpAny_mono ((EvE.comp (elt := elt) (px := px) (pos := pos) hi so hkn hfree hf hc hsz hs) A env X adr s E R o re.toRealE) (fun v s₁ h₁ => ?_) fun _ _ e => e) hb
    obtain ⟨⟨h', tk, rfl, hk⟩, rv⟩ := h₁
    exact store_dat U (re.keeps hk) o rv fun h'' tk' re' => ⟨rfl, h'', tk', rfl, adr, re'⟩
  | true =>
    rw [exec_Assign_Name_used _ _ _ _ hb]
    refine wpAny_bind (wpAny_standAt (wpAny_bind ?_))
    show wpAny _ A (do let _ ← comprehension (.ListComp elt [⟨.Name x px, iter, ifs, 0⟩] scope pos) scope env _ (newList []) false (eval iter env) (some (PySem.assign (Expr.Name y py) env))) _ _ s
    refine wpAny_bind (wpAny_mono (comp_core (px := px) (elt := elt) (pos := pos) (use := some (PySem.assign (Expr.Name y py) env)) (Q := fun _ s' => OutOK C env X hB s Flow.next s' (Out.next ρ')) (E := E) hi so hkn hfree hf hc hsz R o re.toRealE (hs env) fun Da Cc h' tk vs hk dD dC hne ns pl rp => ?_)
      (fun _ s' hq => wpAny_pure (wpAny_pure hq)) fun _ _ e => e)
    show wpAny _ A (PySem.assign (.Name y py) env (.ref Da)) _ _ _
    have re' := re.keeps hk
    have mmC : ¬ MM env ρ adr Cc := fun q => re.toRealE.fresh dC (.inr q)
    obtain ⟨m, hn⟩ := ns
    have aC : ∃ o, h'.get? Cc = some o := let ⟨o, _, _, e, _⟩ := hn; ⟨o, e⟩
    -- the comprehension's names are barred while the target is bound
    have R1 : RealS C env (fun b => X b ∨ b = Cc) (still h' (mmList env ρ adr)) ρ adr h' := by
      have kst : Keep hB (still h' (mmList env ρ adr)) := keep_still (fun b o e => hk b o (re.keep b o e)) fun b hb => re.mm_dead (mem_mmList.mp hb)
      refine re.re (wr := []) (fun b o _ e => hk b o e) (fun b hb => by cases hb) (fun b hb => hb.imp id fun q => by subst q; exact dC) (re.baseB.keeps kst) still_keep (fun b hb => still_none (mem_mmList.mpr hb)) fun a ha => ?_
      rcases ha with ha | rfl
      · obtain ⟨o, e⟩ := re.aliveB a ha; exact ⟨o, kst _ _ e⟩
      · obtain ⟨o, e⟩ := aC; exact ⟨o, still_get e fun q => mmC (mem_mmList.mp q)⟩
    obtain ⟨n, g⟩ := pl
    refine bind_dat U R1 o (.list (fun q => ?_) g (rp.bar fun a ha => ?_)) fun h2 tk2 R2 tr km => ?_
    · rcases q with (q | q) | q
      · exact re.toRealE.fresh dD (.inl q)
      · exact hne q
      · exact re.toRealE.fresh dD (.inr q)
    · rcases ha with (q | q) | q
      · exact .inl (.inl (.inl q))
      · exact .inl (.inr (.inr q))
      · exact .inl (.inl (.inr q))
    · obtain ⟨m2, hn2⟩ : ∃ m, h2.Ns Cc m := ⟨m, hn.at' fun o e => km _ _ mmC e⟩
      refine ⟨m2, hn2, fun h3 hs3 => ⟨rfl, h3, tk2, rfl, adr, ?_⟩⟩
      have mmC2 : ¬ MM env ρ' adr Cc := fun q => mmC (mm_upd U re.nodup q)
      exact R2.re (wr := [Cc]) (fun b o hb e => hs3.extBut b o (by simpa using hb) e) (fun b hb => by simp at hb; subst hb; exact ⟨.inr rfl, mmC2⟩) (fun b hb => .inl (.inl hb)) re.baseB
        (fun b o e => hs3.extBut b o (fun q => by
          have := re.keep b o e
          rw [q, dC] at this; cases this) (km b o (fun q => by have := re.mm_dead q; rw [e] at this; cases this) (hk b o (re.keep b o e)))) (fun b hb => re.mm_dead (mm_upd U re.nodup hb)) re.aliveB
end Mine
-- part Abs14
open PySem
set_option Elab.async false
set_option linter.unusedVariables false
namespace Mine
variable {C : Cx} {k : Nat} {ρ : Store}

/-! a def entered -/
def lc (names : List (Str × NameKind)) (y : Str) : Bool := match names.lookup y with
  | some .local => true
  | some .cell => true
  | _ => false
inductive InitS (C : Cx) (names : List (Str × NameKind)) : List (Str × D) → Store → Prop
  | nil : InitS C names [] []
  | par {y : Str} {d : D} {ps : List (Str × D)} {ρ : Store} (h : lc names y = true) (r : InitS C names ps ρ) : InitS C names ((y, d) :: ps) ((y, .dat d) :: ρ)
  | loc {y : Str} {ps : List (Str × D)} {ρ : Store} (h : lc names y = true) (r : InitS C names ps ρ) : InitS C names ps ((y, .unb) :: ρ)
  | gl {y : Str} {d : D} {ps : List (Str × D)} {ρ : Store} (h : names.lookup y = some .globalImplicit) (g : GlOK C y d) (r : InitS C names ps ρ) : InitS C names ps ((y, .gl d) :: ρ)
  | bi {y : Str} {v : Value} {ps : List (Str × D)} {ρ : Store} (h : names.lookup y = some .globalImplicit) (g : C.mg y = none ∧ C.mb y = some v) (r : InitS C names ps ρ) : InitS C names ps ((y, .bi v) :: ρ)
  | kn {y : Str} {zs : List Str} {ps : List (Str × D)} {ρ : Store} (h : ∀ z ∈ zs, names.lookup z = some .cell) (r : InitS C names ps ρ) : InitS C names ps ((y, .kn zs) :: ρ)
theorem InitS.mem {names : List (Str × NameKind)} {ps : List (Str × D)} {ρ : Store} (h : InitS C names ps ρ) : ∀ y lv, (y, lv) ∈ ρ → match lv with
    | .dat d => (y, d) ∈ ps ∧ lc names y = true
    | .unb => lc names y = true
    | .gl d => names.lookup y = some .globalImplicit ∧ GlOK C y d
    | .bi v => names.lookup y = some .globalImplicit ∧ C.mg y = none ∧ C.mb y = some v
    | .kn zs => ∀ z ∈ zs, names.lookup z = some .cell
    | .own _ => False := by
  induction h with
  | nil => intro y lv hm; cases hm
  | par h r ih =>
    intro y lv hm
    rcases List.mem_cons.mp hm with e | hm
    · cases e; exact ⟨.head _, h⟩
    · have := ih y lv hm
      cases lv <;> first | exact ⟨.tail _ this.1, this.2⟩ | exact this
  | loc h r ih =>
    intro y lv hm
    rcases List.mem_cons.mp hm with e | hm
    · cases e; exact h
    · exact ih y lv hm
  | gl h g r ih =>
    intro y lv hm
    rcases List.mem_cons.mp hm with e | hm
    · cases e; exact ⟨h, g⟩
    · exact ih y lv hm
  | bi h g r ih =>
    intro y lv hm
    rcases List.mem_cons.mp hm with e | hm
    · cases e; exact ⟨h, g⟩
    · exact ih y lv hm
  | kn h r ih =>
    intro y lv hm
    rcases List.mem_cons.mp hm with e | hm
    · cases e; exact h
    · exact ih y lv hm

theorem bindL_not {kd : Str → Option NameKind} : ∀ (bs : List (Str × Value)) (m : Str → Option Value) (y : Str), y ∉ bs.map (·.1) → bindL kd bs m y = m y
  | [], _, _, _ => rfl
  | (n, v) :: r, m, y, h => by
    simp at h
    unfold bindL
    rw [bindL_not r _ y (by simpa using h.2)]
    split
    · simp [h.1]
    · rfl
theorem bindC_not {kd : Str → Option NameKind} : ∀ (bs : List (Str × Value)) (m : Str → Option Value) (y : Str), y ∉ bs.map (·.1) → bindC kd bs m y = m y
  | [], _, _, _ => rfl
  | (n, v) :: r, m, y, h => by
    simp at h
    unfold bindC
    rw [bindC_not r _ y (by simpa using h.2)]
    split
    · rfl
    · simp [h.1]
theorem bindL_get {kd : Str → Option NameKind} : ∀ (bs : List (Str × Value)) (m : Str → Option Value) (y : Str) (v : Value), (bs.map (·.1)).Nodup → (y, v) ∈ bs → kd y = some .local → bindL kd bs m y = some v
  | [], _, _, _, _, hm, _ => absurd hm List.not_mem_nil
  | (n, v) :: r, m, y, u, hn, hm, hk => by
    unfold bindL
    have hn' := List.nodup_cons.mp hn
    rcases List.mem_cons.mp hm with e | hm
    · cases e
      rw [bindL_not r _ _ hn'.1, if_pos hk]; simp
    · exact bindL_get r _ y u hn'.2 hm hk
theorem bindC_get {kd : Str → Option NameKind} : ∀ (bs : List (Str × Value)) (m : Str → Option Value) (y : Str) (v : Value), (bs.map (·.1)).Nodup → (y, v) ∈ bs → kd y = some .cell → bindC kd bs m y = some v
  | [], _, _, _, _, hm, _ => absurd hm List.not_mem_nil
  | (n, v) :: r, m, y, u, hn, hm, hk => by
    unfold bindC
    have hn' := List.nodup_cons.mp hn
    rcases List.mem_cons.mp hm with e | hm
    · cases e
      rw [bindC_not r _ _ hn'.1, if_neg (by rw [hk]; decide)]; simp
    · exact bindC_get r _ y u hn'.2 hm hk
theorem cellsFrom_some {y : Str} : ∀ (names : List (Str × NameKind)) (n : Nat) (acc : List (Str × Addr)), ((y, NameKind.cell) ∈ names ∨ (acc.lookup y).isSome = true) → ((cellsFrom n names acc).lookup y).isSome = true
  | [], n, acc, h => h.elim (fun q => nomatch q) id
  | (z, kd) :: r, n, acc, h => by
    unfold cellsFrom
    split
    · rename_i hk
      refine cellsFrom_some r _ _ ?_
      rw [List.lookup_cons]
      cases e : y == z with
      | true => exact .inr rfl
      | false =>
        rcases h with h | h
        · rcases List.mem_cons.mp h with q | q
          · (first | cases q using Rp.intE | cases q using Rp.strE | cases q using Rp.boolE | cases q using RpAll.nilE | cases q); simp at e
          · exact .inl q
        · exact .inr h
    · rename_i hk
      refine cellsFrom_some r _ _ (h.imp (fun h => ?_) id)
      rcases List.mem_cons.mp h with q | q
      · (first | cases q using Rp.intE | cases q using Rp.strE | cases q using Rp.boolE | cases q using RpAll.nilE | cases q); exact absurd rfl hk
      · exact q
theorem mem_zip_of {α β γ : Type} {P : β → γ → Prop} : ∀ {ps : List α} {vs : List β} {ds : List γ}, (∀ (i : Nat) v d, vs[i]? = some v → ds[i]? = some d → P v d) → vs.length = ds.length → ∀ y d, (y, d) ∈ ps.zip ds → ∃ v, (y, v) ∈ ps.zip vs ∧ P v d
  | p :: ps, v :: vs, d :: ds, h, hl, y, e, hm => by
    rcases List.mem_cons.mp hm with q | q
    · (first | cases q using Rp.intE | cases q using Rp.strE | cases q using Rp.boolE | cases q using RpAll.nilE | cases q); exact ⟨v, .head _, h 0 _ _ rfl rfl⟩
    · obtain ⟨u, m, r⟩ := mem_zip_of (ps := ps) (vs := vs) (ds := ds) (fun i v d a b => h (i + 1) v d (by simpa using a) (by simpa using b)) (by simpa using hl) y e q
      exact ⟨u, .tail _ m, r⟩
  | p :: ps, [], d :: ds, h, hl, y, e, hm => by simp at hl
theorem Room.deeper {A : Around} (R : Room (k + 1) A) (env : Env) : Room k (A.deeper env) := ⟨R.hd, by have := R.depth; show A.depth + 1 + k ≤ 900; lia, by have := R.units; show A.units + 3 + 64 * k ≤ 9000; lia⟩

theorem def_enter {A : Around} {X : Addr → Prop} {s : Shared} {fa : Addr} {o : Obj} {vs : List Value} {ds : List D} {d : D} {mname qual : Str} {params : Arguments} {body : List Stmt} {scope : Scope} {pm cd doc : Value} {ps : List Str} {ρ0 : Store} {out : Out}
    (R : Room (k + 1) A) (B : Base C s.heap) (al : Alive X s.heap) (h2 : s.heap.get? fa = some o) (h3 : o.data = .func (PyProof.Rows.methDef mname qual params body scope pm cd doc)) (h4 : s.heap.CodeRec cd qual)
    (hbind : ∀ pm cd doc vs, vs.length = ps.length → bindArgs (PyProof.Rows.methDef mname qual params body scope pm cd doc) ⟨vs, []⟩ = pure (ps.zip vs)) (hps : ps.Nodup) (hpk : ∀ p ∈ ps, lc scope.names p = true) (hl : ds.length = ps.length)
    (rvs : RpAll C X s.heap vs ds) (hi : InitS C scope.names (ps.zip ds) ρ0) (hnd : (ρ0.map (·.1)).Nodup) (hco : scope.isCoroutine = false) (hgen : scope.isGenerator = false) (hk : scope.kind = .function)
    (hb : EvS C k ρ0 body out) (ho : out = .ret d ∨ (d = .none ∧ ∃ ρ', out = .next ρ')) :
    codeAny (model C.prog C.w) A (.call (.ref fa) ⟨vs, []⟩) (fun r s' => ∃ v, r = .ok (.ret v) ∧ Keeps s s' ∧ Rp C X s'.heap v d) s := by
  have hvl : vs.length = ps.length := rvs.length.trans hl
  have hbn : ((ps.zip vs).map (·.1)).Nodup := by rw [List.map_fst_zip (by lia)]; exact hps
  have lk : ∀ y, lc scope.names y = true → scope.names.lookup y = some .local ∨ scope.names.lookup y = some .cell := fun y hy => by
    unfold lc at hy
    cases e : scope.names.lookup y with
    | none => rw [e] at hy; cases hy
    | some kd => cases kd <;> simp [e] at hy ⊢
  refine codeAny_call_cells (fd := PyProof.Rows.methDef mname qual params body scope pm cd doc) R.lim h2 h3 B.lim h4 rfl (hbind pm cd doc vs hvl) rfl (fun x hx => ?_) (fun s₁ X₀ => ?_) hco hgen hk
  · have hx1 : x.1 ∈ ps := by
      have : x.1 ∈ (ps.zip vs).map (·.1) := List.mem_map.mpr ⟨x, hx, rfl⟩
      rwa [List.map_fst_zip (by lia)] at this
    exact (lk x.1 (hpk _ hx1)).imp id fun q => ⟨q, cellsFrom_some _ _ _ (.inl (mem_of_lookup q))⟩
  · obtain ⟨h₁, tk, rfl, _⟩ := X₀.done
    have hcells : (callEnvC (PyProof.Rows.methDef mname qual params body scope pm cd doc) s.heap.objs.size fa).cells = cellsFrom (s.heap.objs.size + 1) scope.names [] := rfl
    have hloc : (callEnvC (PyProof.Rows.methDef mname qual params body scope pm cd doc) s.heap.objs.size fa).locals = s.heap.objs.size := rfl
    have hsc : (callEnvC (PyProof.Rows.methDef mname qual params body scope pm cd doc) s.heap.objs.size fa).scope = scope := rfl
    have ok : EnvOK (callEnvC (PyProof.Rows.methDef mname qual params body scope pm cd doc) s.heap.objs.size fa) := ⟨by rw [hsc]; exact hk, rfl, rfl⟩
    generalize callEnvC (PyProof.Rows.methDef mname qual params body scope pm cd doc) s.heap.objs.size fa = env at *
    rw [hloc, hcells] at X₀
    have F : PyProof.Rows.Fr s.heap s.heap.objs.size h₁ _ := ⟨X₀.toInCall.ns, X₀.toInCall.keep, X₀.toInCall.fresh⟩
    have X' : PyProof.Rows.Cl s.heap.objs.size (cellsFrom (s.heap.objs.size + 1) scope.names []) h₁ _ := ⟨X₀.cell, X₀.apart, X₀.above⟩
    have hkd : ∀ y, env.kindOf y = scope.names.lookup y := fun y => by unfold Env.kindOf; rw [hsc]
    have slo : ∀ y, lc scope.names y = true → Slo env y := fun y hy => by
      rcases lk y hy with q | q
      · exact .inl ((hkd y).trans q)
      · refine .inr ⟨(hkd y).trans q, ?_⟩
        rw [hcells]
        exact Option.isSome_iff_exists.mp (cellsFrom_some _ _ _ (.inl (mem_of_lookup q)))
    have noown : ∀ y e, (y, LV.own e) ∉ ρ0 := fun y e hm => hi.mem y _ hm
    have above : ∀ y c, env.cells.lookup y = some c → s.heap.objs.size < c := fun y c e => X'.above y c (mem_of_lookup (hcells ▸ e))
    have hX : ∀ b o, s.heap.get? b = some o → ¬ X b → ¬ XX X env ρ0 (fun _ => 0) b := fun b o e hx q => by
      rcases q with q | q | ⟨y, q⟩ | ⟨y, e', hm, _⟩
      · exact hx q
      · rw [q, hloc] at e; exact Nat.lt_irrefl _ (Heap.lt_size e)
      · exact Nat.lt_irrefl _ (Nat.lt_trans (Heap.lt_size e) (above y b q))
      · exact noown y e' hm
    have re : RealS C env X s.heap ρ0 (fun _ => 0) h₁ := by
      refine RealS.mk (RealE.mk (B.keeps F.keep) (by rw [hloc]; exact ⟨_, F.ns⟩) (fun y c e => ⟨_, X'.cell y c (hcells ▸ e)⟩) (fun y lv hm => ?_) (fun a ha => let ⟨o, e⟩ := al a ha; ⟨o, F.keep _ _ e⟩)) hnd
        (fun x y d e hx => absurd hx (noown x d)) (fun y lv hm hs => ?_) (fun x y c e1 e2 => ?_) B F.keep (by rw [hloc]; exact get_none (Nat.le_refl _)) (fun y c e => get_none (Nat.le_of_lt (above y c e))) (fun x d hx => absurd hx (noown x d)) (fun x d hx => absurd hx (noown x d)) al
      · have := hi.mem y lv hm
        cases lv with
        | dat e =>
          obtain ⟨m1, m2⟩ := this
          obtain ⟨v, m3, rv⟩ := mem_zip_of (P := Rp C X s.heap) (vs := vs) (fun i v d a b => by
            obtain ⟨d', e', r⟩ := rvs.get' a
            rw [b] at e'; cases e'; exact r) rvs.length y e m1
          refine ⟨v, ?_, rv.re2 fun b o hb e => ⟨F.keep b o e, hX b o e hb⟩⟩
          rcases lk y m2 with q | q
          · refine .inl ⟨(hkd y).trans q, _, by rw [hloc]; exact F.ns, bindL_get _ _ _ _ hbn m3 ((hkd y).trans q)⟩
          · obtain ⟨c, hc⟩ := Option.isSome_iff_exists.mp (cellsFrom_some (y := y) scope.names (s.heap.objs.size + 1) [] (.inl (mem_of_lookup q)))
            refine .inr ⟨(hkd y).trans q, c, by rw [hcells]; exact hc, ?_⟩
            have := X'.cell y c hc
            rwa [bindC_get _ _ _ _ hbn m3 ((hkd y).trans q)] at this
        | own e => exact this.elim
        | gl e => exact ⟨(hkd y).trans this.1, this.2⟩
        | bi v => exact ⟨(hkd y).trans this.1, this.2⟩
        | unb => trivial
        | kn zs =>
          intro z hz
          have q := this z hz
          refine ⟨(hkd z).trans q, ?_⟩
          rw [hcells]
          exact Option.isSome_iff_exists.mp (cellsFrom_some _ _ _ (.inl (mem_of_lookup q)))
      · have := hi.mem y lv hm
        cases lv with
        | dat e => exact slo y this.2
        | unb => exact slo y this
        | own e => exact this.elim
        | _ => cases hs
      · exact name_of_addr X'.apart (mem_of_lookup (hcells ▸ e1)) (mem_of_lookup (hcells ▸ e2))
    refine wpAny_mono (hb (A.deeper env) env X s.heap _ _ _ (R.deeper env) ok re) (fun f' s' hq => ?_) fun _ _ e => e
    rcases ho with rfl | ⟨rfl, ρ', rfl⟩
    · obtain ⟨v, h', tk', rfl, rfl, kk, rv⟩ := hq
      exact ⟨v, rfl, .mk' kk, rv⟩
    · obtain ⟨rfl, h', tk', rfl, adr, rr⟩ := hq
      exact ⟨.none, rfl, .mk' rr.keep, .none⟩

theorem fn_intro {f : Str} {ds : List D} {d : D} {dr : DefRec} {ps : List Str} {ρ0 : Store} {out : Out} (hdef : C.defs f = some dr)
    (hbind : ∀ pm cd doc vs, vs.length = ps.length → bindArgs (PyProof.Rows.methDef dr.name dr.name dr.params dr.body dr.scope pm cd doc) ⟨vs, []⟩ = pure (ps.zip vs)) (hps : ps.Nodup) (hpk : ∀ p ∈ ps, lc dr.scope.names p = true) (hl : ds.length = ps.length)
    (hi : InitS C dr.scope.names (ps.zip ds) ρ0) (hnd : (ρ0.map (·.1)).Nodup) (hco : dr.scope.isCoroutine = false) (hgen : dr.scope.isGenerator = false) (hk : dr.scope.kind = .function)
    (hb : EvS C k ρ0 dr.body out) (ho : out = .ret d ∨ (d = .none ∧ ∃ ρ', out = .next ρ')) : FnOK C (k + 1) f ds d := by
  intro A X s fa vs R B al hfa rvs
  obtain ⟨a, o, pm, cd, doc, h1, h2, h3, h4⟩ := B.fns f dr hdef
  rw [hfa] at h1
  (first | cases h1 using Rp.intE | cases h1 using Rp.strE | cases h1 using Rp.boolE | cases h1 using RpAll.nilE | cases h1)
  exact def_enter R B al h2 h3 h4 hbind hps hpk hl rvs hi hnd hco hgen hk hb ho
end Mine
-- part Abs15
open PySem
set_option Elab.async false
set_option linter.unusedVariables false
namespace Mine
variable {C : Cx} {k : Nat} {ρ : Store}

theorem Ev1.unpack {elts : List Expr} {kd : Nat} {tp pos : Pos} {e : Expr} {d : D} {ρ' : Store} (h : EvE C k ρ e d) (T : Tgt (.Tuple elts kd tp) d ρ ρ')
    (hs : ∀ env, swapsWithSole [.Tuple elts kd tp] e pos.line env = pure false := by intro _; rfl) (hw : ∀ env, swappedStores [.Tuple elts kd tp] e env = pure none := by intro _; rfl) :
    Ev1 C k ρ (.Assign [.Tuple elts kd tp] e pos) (.next ρ') := by
  intro A env X hB adr s E R o re
  refine PyProof.Rows.Assign_Tuple (wpAny_mono (h A env X adr s E R o re.toRealE) (fun v s₁ h₁ => ?_) fun _ _ e => e) (hs env) (hw env)
  obtain ⟨⟨h', tk, rfl, hk⟩, rv⟩ := h₁
  exact T.bind (re.keeps hk) o R.hd rv fun h3 tk3 r3 _ _ => ⟨rfl, h3, tk3, rfl, adr, r3⟩
theorem Ev1.pair {x y : Str} {p q : Pos} {kd kv : Nat} {tp vp pos : Pos} {e1 e2 : Expr} {d1 d2 : D} {ρ1 ρ2 ρ1' : Store} (h : EvEs C k ρ [e1, e2] [d1, d2]) (U1 : Upd x (.dat d1) ρ ρ1) (U2 : Upd y (.dat d2) ρ1 ρ2) (V1 : Upd y (.dat d2) ρ ρ1') (V2 : Upd x (.dat d1) ρ1' ρ2)
    (hw : ∀ env, swappedStores [.Tuple [.Name x p, .Name y q] kd tp] (.Tuple [e1, e2] kv vp) env = pure none ∨ swappedStores [.Tuple [.Name x p, .Name y q] kd tp] (.Tuple [e1, e2] kv vp) env = pure (some [x, y])) :
    Ev1 C k ρ (.Assign [.Tuple [.Name x p, .Name y q] kd tp] (.Tuple [e1, e2] kv vp) pos) (.next ρ2) := by
  intro A env X hB adr s E R o re
  have hv := (EvE.tup (kd := kv) (pos := vp) h (by show 2 ≤ 2 ^ 24; decide)) A env X adr s E R o re.toRealE
  rcases hw env with hw | hw
  · refine PyProof.Rows.Assign_Tuple (wpAny_mono hv (fun v s₁ h₁ => ?_) fun _ _ e => e) (by rfl) hw
    obtain ⟨⟨h', tk, rfl, hk⟩, rv⟩ := h₁
    exact (Tgt.two U1 U2).bind (re.keeps hk) o R.hd rv fun h3 tk3 r3 _ _ => ⟨rfl, h3, tk3, rfl, adr, r3⟩
  · refine PyProof.Rows.Assign_Tuple_swapped (wpAny_mono hv (fun v s₁ h₁ => ?_) fun _ _ e => e) rfl hw
    obtain ⟨⟨h', tk, rfl, hk⟩, rv⟩ := h₁
    cases rv using Rp.tupE with
    | @tup a vs n hx g r =>
      cases hvs : vs with | mk l =>
      subst hvs
      cases r with | @cons v1 _ _ _ r1 r => cases r with | @cons v2 _ _ _ r2 r => cases r using RpAll.nilE with | nil =>
      refine PyProof.Rows.unpackItems_tuple (t := a) (items := #[v1, v2]) (Q := fun items s₂ => wpAny (model C.prog C.w) A (assignInOrder ([x, y].reverse.map fun n => bindName env n) items.reverse) (fun _ s' => OutOK C env X hB s .next s' (.next ρ2)) E s₂) R.hd ⟨_, g, rfl, n, rfl⟩ fun h1 hx1 => ?_
      have k1 : Keep h' h1 := fun b ob e => hx1 b ob (Nat.ne_of_lt (Heap.lt_size e)) e
      have R1 := (re.keeps hk).keeps k1
      refine wpAny_assignInOrder_more (wpAny_bindName (bind_st V1 R1 o (r2.keeps k1) fun h2 t2 R2 tr2 km2 => ?_))
      refine wpAny_assignInOrder_more (wpAny_bindName (bind_st V2 R2 o (tr2 _ _ (r1.keeps k1)) fun h3 t3 R3 tr3 km3 => ?_))
      exact wpAny_assignInOrder_none ⟨rfl, h3, t3, rfl, adr, R3⟩

/-! while -/
inductive LoopW (C : Cx) (k : Nat) (test : Expr) (body : List Stmt) : Nat → Store → Out → Prop
  | done {n : Nat} {ρ : Store} (t : EvT C k ρ test false) : LoopW C k test body n ρ (.next ρ)
  | turn {n : Nat} {ρ ρ2 : Store} {out : Out} (t : EvT C k ρ test true) (h : EvS C k ρ body (.next ρ2)) (r : LoopW C k test body n ρ2 out) : LoopW C k test body (n + 1) ρ out
  | ret {n : Nat} {ρ : Store} {e : D} (t : EvT C k ρ test true) (h : EvS C k ρ body (.ret e)) : LoopW C k test body n ρ (.ret e)
theorem Ev1.while {test : Expr} {body : List Stmt} {pos : Pos} {n : Nat} {out : Out} (L : LoopW C k test body n ρ out) : Ev1 C k ρ (.While test body [] pos) out := by
  intro A env X hB adr s E R o re
  refine wpAny_While (codeAny_whileLoop (fun n s' => ∃ ρi adri h tk, s' = { s with heap := h, toks := tk } ∧ LoopW C k test body n ρi out ∧ RealS C env X hB ρi adri h) ?_ n ⟨ρ, adr, s.heap, s.toks, rfl, L, re⟩)
  rintro n s' ⟨ρi, adri, h, tk, rfl, Li, ri⟩
  obtain ⟨b, t, hb⟩ : ∃ b, EvT C k ρi test b ∧ ((b = false ∧ out = .next ρi) ∨ (b = true ∧ ∃ out', EvS C k ρi body out' ∧ ((∃ ρ2 m, m < n ∧ out' = .next ρ2 ∧ LoopW C k test body m ρ2 out) ∨ ∃ e, out' = .ret e ∧ out = .ret e))) := by
    cases Li with
    | done t => exact ⟨_, t, .inl ⟨rfl, rfl⟩⟩
    | turn t h r => exact ⟨_, t, .inr ⟨rfl, _, h, .inl ⟨_, _, Nat.lt_succ_self _, rfl, r⟩⟩⟩
    | ret t h => exact ⟨_, t, .inr ⟨rfl, _, h, .inr ⟨_, rfl, rfl⟩⟩⟩
  refine wpAny_mono (t A env X adri _ _ R o ri.toRealE) (fun b' s₁ h₁ => ?_) fun _ _ e => e
  obtain ⟨⟨h1, tk1, rfl, k1⟩, rfl⟩ := h₁
  have r1 := ri.keeps k1
  rcases hb with ⟨rfl, rfl⟩ | ⟨rfl, out', hs, hb⟩
  · simp only [Bool.false_eq_true, if_false]
    exact wpAny_execs_nil ⟨rfl, h1, tk1, rfl, adri, r1⟩
  · simp only [if_true]
    refine wpAny_mono (hs A env X hB adri _ _ R o r1) (fun f s₂ h₂ => ?_) fun _ _ e => e
    rcases hb with ⟨ρ2, m, hm, rfl, L2⟩ | ⟨e, rfl, rfl⟩
    · obtain ⟨rfl, h2, tk2, rfl, adr2, r2⟩ := h₂
      exact ⟨m, hm, ρ2, adr2, h2, tk2, rfl, L2, r2⟩
    · obtain ⟨v, h2, tk2, rfl, rfl, kk, rv⟩ := h₂
      exact ⟨v, h2, tk2, rfl, rfl, kk, rv⟩

/-! try: the body raises nothing -/
theorem Ev1.try {body : List Stmt} {h₀ : ExceptHandler} {hs : List ExceptHandler} {pos : Pos} {out : Out} (h : EvS C k ρ body out) : Ev1 C k ρ (.Try body (h₀ :: hs) [] [] pos) out := by
  intro A env X hB adr s E R o re
  refine wpAny_Try_except (wpAny_mono (h A env X hB adr s _ R o re) (fun f s₁ h₁ => ?_) fun _ _ e => e)
  cases out with
  | next ρ' =>
    have h₁' := h₁
    obtain ⟨rfl, _⟩ := h₁
    exact wpAny_execs_nil h₁'
  | ret d =>
    have h₁' := h₁
    obtain ⟨v, h', tk, rfl, _⟩ := h₁
    exact h₁'
end Mine
-- part Abs16
open PySem
set_option Elab.async false
set_option linter.unusedVariables false
namespace Mine
variable {C : Cx} {k : Nat} {ρ : Store}

/-! texts' methods -/
abbrev Base1 (o : Expr) (name : Str) : Prop := ∀ env, attributeBase o name env (eval o env) = eval o env
theorem EvE.lower {o : Expr} {apos pos : Pos} {x : Str} (h : EvE C k ρ o (.str x)) (hx : x.length ≤ 5592405) (hb : Base1 o "lower" := by intro _; rfl) (hl : (apos.endLine == pos.line) = true := by rfl) :
    EvE C k ρ (.Call (.Attribute o "lower" apos) [] [] pos) (.str (Txt.lower x)) := by
  intro A env X adr s E R ok re
  refine Call_method0 (hb env) hl (wpAny_mono (h A env X adr s E R ok re) (fun v s₁ h₁ => ?_) fun _ _ e => e)
  obtain ⟨hk, r⟩ := h₁
  (first | cases r using Rp.intE | cases r using Rp.strE | cases r using Rp.boolE | cases r using RpAll.nilE | cases r)
  exact SB.lower (PyProof.Rows.fit_lower hx) ⟨hk.trans .tok, .str _ _⟩
theorem EvE.starts {o e : Expr} {apos pos : Pos} {x y : Str} (h : EvE C k ρ o (.str x)) (he : EvE C k ρ e (.str y)) (hp : PlainE e := by intro _ _; rfl) (hb : Base1 o "startswith" := by intro _; rfl) (hl : (apos.endLine == pos.line) = true := by rfl) :
    EvE C k ρ (.Call (.Attribute o "startswith" apos) [e] [] pos) (.bool (Txt.startswith x y)) := by
  intro A env X adr s E R ok re
  refine Call_method1 (hb env) (hp [] env) hl (wpAny_mono (h A env X adr s E R ok re) (fun v s₁ h₁ => ?_) fun _ _ e => e)
  obtain ⟨hk, r⟩ := h₁
  (first | cases r using Rp.intE | cases r using Rp.strE | cases r using Rp.boolE | cases r using RpAll.nilE | cases r)
  refine SB.startswith (wpAny_mono (he A env X adr s₁ E R ok (re.keeps hk.keep)) (fun v s₂ h₂ => ?_) fun _ _ e => e)
  obtain ⟨hk2, r2⟩ := h₂
  (first | cases r2 using Rp.intE | cases r2 using Rp.strE | cases r2 using Rp.boolE | cases r2 using RpAll.nilE | cases r2)
  exact ⟨_, _, rfl, hk.trans hk2, .bool _⟩
theorem EvE.ends {o e : Expr} {apos pos : Pos} {x y : Str} (h : EvE C k ρ o (.str x)) (he : EvE C k ρ e (.str y)) (hp : PlainE e := by intro _ _; rfl) (hb : Base1 o "endswith" := by intro _; rfl) (hl : (apos.endLine == pos.line) = true := by rfl) :
    EvE C k ρ (.Call (.Attribute o "endswith" apos) [e] [] pos) (.bool (Txt.endswith x y)) := by
  intro A env X adr s E R ok re
  refine Call_method1 (hb env) (hp [] env) hl (wpAny_mono (h A env X adr s E R ok re) (fun v s₁ h₁ => ?_) fun _ _ e => e)
  obtain ⟨hk, r⟩ := h₁
  (first | cases r using Rp.intE | cases r using Rp.strE | cases r using Rp.boolE | cases r using RpAll.nilE | cases r)
  refine SB.endswith (wpAny_mono (he A env X adr s₁ E R ok (re.keeps hk.keep)) (fun v s₂ h₂ => ?_) fun _ _ e => e)
  obtain ⟨hk2, r2⟩ := h₂
  (first | cases r2 using Rp.intE | cases r2 using Rp.strE | cases r2 using Rp.boolE | cases r2 using RpAll.nilE | cases r2)
  exact ⟨_, _, rfl, hk.trans hk2, .bool _⟩
theorem EvE.find {o e : Expr} {apos pos : Pos} {x y : Str} (h : EvE C k ρ o (.str x)) (he : EvE C k ρ e (.str y)) (hp : PlainE e := by intro _ _; rfl) (hb : Base1 o "find" := by intro _; rfl) (hl : (apos.endLine == pos.line) = true := by rfl) :
    EvE C k ρ (.Call (.Attribute o "find" apos) [e] [] pos) (.int (Txt.find x y)) := by
  intro A env X adr s E R ok re
  refine Call_method1 (hb env) (hp [] env) hl (wpAny_mono (h A env X adr s E R ok re) (fun v s₁ h₁ => ?_) fun _ _ e => e)
  obtain ⟨hk, r⟩ := h₁
  (first | cases r using Rp.intE | cases r using Rp.strE | cases r using Rp.boolE | cases r using RpAll.nilE | cases r)
  refine SB.find (wpAny_mono (he A env X adr s₁ E R ok (re.keeps hk.keep)) (fun v s₂ h₂ => ?_) fun _ _ e => e)
  obtain ⟨hk2, r2⟩ := h₂
  (first | cases r2 using Rp.intE | cases r2 using Rp.strE | cases r2 using Rp.boolE | cases r2 using RpAll.nilE | cases r2)
  exact ⟨_, _, rfl, (hk.trans hk2).trans .tok, .int _ _⟩
theorem RpAll.texts {X : Addr → Prop} {h : Heap} {xs : List Str} {vs : List Value} (r : RpAll C X h vs (xs.map D.str)) : ∃ l : List (Str × Tok), vs = strValues l ∧ l.map (·.1) = xs := by
  induction xs generalizing vs with
  | nil => cases r using RpAll.nilE; exact ⟨[], rfl, rfl⟩
  | cons x xs ih =>
    cases r using RpAll.consE with
    | cons a r =>
      obtain ⟨l, e, q⟩ := ih r
      cases a using Rp.strE with
      | str t => exact ⟨(x, t) :: l, by simp [strValues, e], by simp [q]⟩
theorem RpAll.ofTexts {X : Addr → Prop} {h : Heap} : ∀ (l : List (Str × Tok)), RpAll C X h (strValues l) ((l.map (·.1)).map D.str)
  | [] => .nil
  | (x, t) :: l => .cons (.str x t) (RpAll.ofTexts l)
theorem EvE.join {o e : Expr} {apos pos : Pos} {x : Str} {xs : List Str} (h : EvE C k ρ o (.str x)) (he : EvE C k ρ e (.list (xs.map D.str))) (hj : JoinOk x xs = true) (hp : PlainE e := by intro _ _; rfl) (hb : Base1 o "join" := by intro _; rfl) (hl : (apos.endLine == pos.line) = true := by rfl) :
    EvE C k ρ (.Call (.Attribute o "join" apos) [e] [] pos) (.str (Txt.join x xs)) := by
  intro A env X adr s E R ok re
  refine Call_method1 (hb env) (hp [] env) hl (wpAny_mono (h A env X adr s E R ok re) (fun v s₁ h₁ => ?_) fun _ _ e => e)
  obtain ⟨hk, r⟩ := h₁
  (first | cases r using Rp.intE | cases r using Rp.strE | cases r using Rp.boolE | cases r using RpAll.nilE | cases r)
  refine SB.join (wpAny_mono (he A env X adr s₁ E R ok (re.keeps hk.keep)) (fun v s₂ h₂ => ?_) fun _ _ e => e)
  obtain ⟨hk2, r2⟩ := h₂
  cases r2 using Rp.listE with
  | @list a vs n hx g r =>
    obtain ⟨l, e1, e2⟩ := r.texts
    refine ⟨a, l, rfl, ⟨_, g, rfl, n, by rw [← e1]⟩, xs, e2, hj, fun t' k' => ⟨(hk.trans hk2).trans (.mk' fun _ _ e => e), .str _ _⟩⟩
open Builtin Builtin.Str in
theorem split_call {A : Around} {E : Value → Shared → Prop} {s : Shared} {x : Str} {t : Tok} {pos : Pos} {Q : Value → Shared → Prop} {a : Sem Value} (h : wpAny (model C.prog C.w) A a (fun v s₁ => ∃ y u, v = .str y u ∧ (y.length == 0) = false ∧ (partsBetween x (occurrences x y 0 x.length (x.length + 1)) y.length).length ≤ sizeLine ∧
      ∀ (l : List (Str × Tok)) tk, l.map (·.1) = Txt.split x y → Q (.ref s₁.heap.objs.size) { s₁ with heap := s₁.heap.push { cls := .type "list", data := .seq (strValues l).toArray }, toks := tk }) E s) (hx : x.length ≤ sizeLine) :
    MethodOnS C.prog C.w A E "split" (.str x t) pos [(false, a)] Q s := by
  refine ⟨"str", _, F.plainAttrs_str, F.slot_str_split, F.type_str_split, typeIs_str _ _ _, (fun _ e => nomatch e),
    method1_meets F.slot_str_split F.entry_str_split (wpAny_mono h (fun v s₁ h₁ => ?_) fun _ _ e => e)⟩
  obtain ⟨y, u, rfl, hy, hn, hq⟩ := h₁
  refine ⟨typeIs_str _ _ _, F.args_str_split_2 _ _, ?_⟩
  cases h1 : (decide (x.length < y.length) || decide (strKind x < strKind y))
  · cases hf : (occurrences x y 0 x.length (x.length + 1)).isEmpty
    · refine ⟨_, meets_str_split_sep x y t u h1 hy hf hx hn, ?_⟩
      show wants Q E _ { s₁ with toks := _, heap := s₁.heap.push { cls := .type "list", data := .seq (strsFrom s₁.toks (partsBetween x (occurrences x y 0 x.length (x.length + 1)) y.length)).toArray } }
      rw [strsFrom_eq]
      exact hq (numbered s₁.toks _) _ ((numbered_texts _ _).trans ((if_neg (ne_true_of_eq_false h1)).trans (if_neg (ne_true_of_eq_false hf))).symm)
    · exact ⟨_, meets_str_split_not_found x y t u h1 hy hf, hq [(x, t)] _ ((if_neg (ne_true_of_eq_false h1)).trans (if_pos hf)).symm⟩
  · exact ⟨_, meets_str_split_cannot_occur x y t u h1, hq [(x, t)] _ (if_pos h1).symm⟩
theorem EvF.split {o e : Expr} {apos pos : Pos} {x y : Str} (h : EvE C k ρ o (.str x)) (he : EvE C k ρ e (.str y)) (hy : (y.length == 0) = false) (hx : x.length ≤ sizeLine) (hn : (Builtin.Str.partsBetween x (Builtin.Str.occurrences x y 0 x.length (x.length + 1)) y.length).length ≤ sizeLine)
    (hp : PlainE e := by intro _ _; rfl) (hb : Base1 o "split" := by intro _; rfl) (hl : (apos.endLine == pos.line) = true := by rfl) :
    EvF C k ρ (.Call (.Attribute o "split" apos) [e] [] pos) (.list ((Txt.split x y).map D.str)) := by
  intro A env X adr s E R ok re
  refine Call_method1 (hb env) (hp [] env) hl (wpAny_mono (h A env X adr s E R ok re) (fun v s₁ h₁ => ?_) fun _ _ e => e)
  obtain ⟨hk, r⟩ := h₁
  cases r using Rp.strE with
  | str t =>
    refine split_call (wpAny_mono (he A env X adr s₁ E R ok (re.keeps hk.keep)) (fun v s₂ h₂ => ?_) fun _ _ e => e) hx
    obtain ⟨hk2, r2⟩ := h₂
    (first | cases r2 using Rp.intE | cases r2 using Rp.strE | cases r2 using Rp.boolE | cases r2 using RpAll.nilE | cases r2)
    refine ⟨_, _, rfl, hy, hn, fun l tk hl => ⟨(hk.trans hk2).trans (.mk' push_keep), _, rfl, keep_none (hk.trans hk2).keep (get_none (Nat.le_refl _)), _, ⟨0, Heap.get?_push_size _ rfl⟩, ?_⟩⟩
    rw [← hl]
    exact RpAll.ofTexts l
end Mine
-- part Abs17
open PySem
set_option Elab.async false
set_option linter.unusedVariables false
namespace Mine
variable {C : Cx} {k : Nat} {ρ : Store}

/-- text.find(y, i, j) -/
def find3 (x y : Str) (i j : Int) : Int := match Builtin.Str.occurrences x y (fromIndex x.length i) (min (fromIndex x.length j) x.length) 1 with | k :: _ => (k : Int) | [] => -1
open Builtin Builtin.Str in
theorem gives_find3 (x y : Str) (i j : Int) (t u v w : Tok) : Gives («str.find» ⟨[.str x t, .str y u, .int i v, .int j w], []⟩) (.int (find3 x y i j)) := by
  unfold find3
  show Gives (match occurrences x y (fromIndex x.length i) (min (fromIndex x.length j) x.length) 1 with | k :: _ => retInt k | [] => (do rule "str.find.not-found"; retInt (-1))) _
  cases occurrences x y (fromIndex x.length i) (min (fromIndex x.length j) x.length) 1 with
  | nil => exact .rule (.of_eq rfl)
  | cons k _ => exact .of_eq rfl
theorem EvE.find3 {o e1 e2 e3 : Expr} {apos pos : Pos} {x y : Str} {i j : Int} (h : EvE C k ρ o (.str x)) (ha : EvEs C k ρ [e1, e2, e3] [.str y, .int i, .int j]) (hb : Base1 o "find" := by intro _; rfl) (hl : (apos.endLine == pos.line) = true := by rfl) :
    EvE C k ρ (.Call (.Attribute o "find" apos) [e1, e2, e3] [] pos) (.int (Mine.find3 x y i j)) := by
  intro A env X adr s E R ok re
  have hp : PlainE e1 ∧ PlainE e2 ∧ PlainE e3 := by cases ha with | cons _ r hp => cases r with | cons _ r hp2 => cases r with | cons _ r hp3 => exact ⟨hp, hp2, hp3⟩
  refine wpAny_Call_method_lateS (hb env) (by rw [hp.1, hp.2.1, hp.2.2]; rfl) hl (wpAny_mono (h A env X adr s E R ok re) (fun v s₁ h₁ => ?_) fun _ _ e => e)
  obtain ⟨hk, r⟩ := h₁
  cases r using Rp.strE with
  | str t =>
    refine ⟨"str", _, F.plainAttrs_str, F.slot_str_find, F.type_str_find, typeIs_str _ _ _, (fun _ e => nomatch e), ?_⟩
    refine PyProof.Rows.callWith_method1 (wpAny_mono (ha.wp R ok s₁ E (re.keeps hk.keep)) (fun vs s₂ h₂ => ?_) fun _ _ e => e) (hp.1 _ _) (by rw [hp.2.1, hp.2.2]; rfl)
    obtain ⟨hk2, rr⟩ := h₂
    cases rr using RpAll.consE with | cons r1 rr => cases rr using RpAll.consE with | cons r2 rr => cases rr using RpAll.consE with | cons r3 rr =>
    cases rr; (first | cases r1 using Rp.intE | cases r1 using Rp.strE | cases r1 using Rp.boolE | cases r1 using RpAll.nilE | cases r1); (first | cases r2 using Rp.intE | cases r2 using Rp.strE | cases r2 using Rp.boolE | cases r2 using RpAll.nilE | cases r2); (first | cases r3 using Rp.intE | cases r3 using Rp.strE | cases r3 using Rp.boolE | cases r3 using RpAll.nilE | cases r3)
    exact call_gives F.slot_str_find (typeIs_str _ _ _) F.entry_str_find (F.args_str_find_4 _ _ _ _) (gives_find3 x y i j _ _ _ _) ⟨(hk.trans hk2).trans .tok, .int _ _⟩

/-- list.count -/
def cntL (d : D) (ds : List D) : Nat := ds.countP fun y => deq y d
theorem EvE.count (n : Nat) {o e : Expr} {apos pos : Pos} {ds : List D} {d : D} (h : EvE C k ρ o (.list ds)) (he : EvE C k ρ e d) (h1 : okD n d = true) (h2 : ds.all (okD n) = true) (hn : n ≤ 60 := by decide) (hp : PlainE e := by intro _ _; rfl) (hb : Base1 o "count" := by intro _; rfl) (hl : (apos.endLine == pos.line) = true := by rfl) :
    EvE C k ρ (.Call (.Attribute o "count" apos) [e] [] pos) (.int (cntL d ds)) := by
  intro A env X adr s E R ok re
  refine Call_method1 (hb env) (hp [] env) hl (wpAny_mono (h A env X adr s E R ok re) (fun v s₁ h₁ => ?_) fun _ _ e => e)
  obtain ⟨hk, r⟩ := h₁
  cases r using Rp.listE with
  | @list a vs m hx g r =>
    refine ⟨"list", _, F.plainAttrs_list, F.slot_list_count, F.type_list_count, ⟨_, g, rfl⟩, (fun b e => by cases e; exact ⟨_, g, rfl⟩), ?_⟩
    refine method1_meets F.slot_list_count F.entry_list_count (wpAny_mono (he A env X adr s₁ E R ok (re.keeps hk.keep)) (fun v s₂ h₂ => ?_) fun _ _ e => e)
    obtain ⟨hk2, rv⟩ := h₂
    have g2 := hk2.keep _ _ g
    obtain ⟨as, q⟩ := (r.keeps hk2.keep).reads n (by simpa using h2)
    obtain ⟨bs, rx⟩ := rv.reads n h1
    have hu : A.units + 1 + min (PyData.depthAll (toPys ds)) (toPy d).depth < cLine := room_min R (okDs_lay n h2).2 (by lia)
    refine ⟨⟨_, g2, rfl⟩, F.args_list_count_2 _ _, _, SeqAt.list_countAt a vs m none #[] v (fun y => PyData.eqv (SeqAt.readOf s₂.heap y) (toPy d)), g2, SeqAt.items_eqAt q rx (okDs_lay n h2).1 (okD_lay n d h1).1 hu, ?_⟩
    have e2 : vs.toList.countP (fun y => PyData.eqv (SeqAt.readOf s₂.heap y) (toPy d)) = cntL d ds := by
      have := SeqAt.readsAll_map _ _ _ (okDs_lay n h2).1 q
      rw [toPys_map] at this
      unfold cntL deq
      rw [show (fun y => PyData.eqv (toPy y) (toPy d)) = (fun y => PyData.eqv y (toPy d)) ∘ toPy from rfl, ← List.countP_map, ← this, List.countP_map]
      rfl
    rw [e2]
    exact ⟨(hk.trans hk2).trans .tok, .int _ _⟩

/-! dicts -/
theorem EvE.getD {o e1 e2 : Expr} {apos pos : Pos} {ks : List (Str × Int)} {x : Str} {i : Int} (h : EvE C k ρ o (.dic ks)) (h1 : EvE C k ρ e1 (.str x)) (h2 : EvE C k ρ e2 (.int i)) (hp1 : PlainE e1 := by intro _ _; rfl) (hp2 : PlainE e2 := by intro _ _; rfl) (hb : Base1 o "get" := by intro _; rfl) (hl : (apos.endLine == pos.line) = true := by rfl) :
    EvE C k ρ (.Call (.Attribute o "get" apos) [e1, e2] [] pos) (.int ((kget ks x).getD i)) := by
  intro A env X adr s E R ok re
  refine Call_method2 (hb env) (by rw [hp1, hp2]; rfl) hl (wpAny_mono (h A env X adr s E R ok re) (fun v s₁ h₁ => ?_) fun _ _ e => e)
  obtain ⟨hk, r⟩ := h₁
  cases r using Rp.dicE with
  | @dic a kvs hx hsm g q =>
    refine ⟨"dict", _, F.plainAttrs_dict, F.slot_dict_get, F.type_dict_get, g.typeIs, g.mapOf.noDict, ?_⟩
    refine wpAny_dict_get2 (knd := strKind C.prog C.w) hsm (wpAny_mono (h1 A env X adr s₁ E R ok (re.keeps hk.keep)) (fun kv s₂ h₂ => wpAny_mono (h2 A env X adr s₂ E R ok ((re.keeps hk.keep).keeps h₂.1.keep)) (fun iv s₃ h₃ => ?_) fun _ _ e => e) fun _ _ e => e)
    obtain ⟨hk2, r2⟩ := h₂
    obtain ⟨hk3, r3⟩ := h₃
    cases r2 using Rp.strE with
    | str t => cases r3 using Rp.intE with
      | int u =>
        refine ⟨x, _, strKind_is C.prog C.w x t, ((g.keep hk2.keep).keep hk3.keep).mapOf, ((hk.trans hk2).trans hk3).trans .tok, ?_⟩
        rcases q.get x with ⟨e1, e2⟩ | ⟨j, u', e1, e2⟩
        · rw [e1, e2]; exact .int _ _
        · rw [e1, e2]; exact .int _ _
theorem EvE.lenD {f : Str} {p pos : Pos} {e : Expr} {ks : List (Str × Int)} (hx : (f, LV.bi (.builtin "len")) ∈ ρ) (h : ∀ (A : Around) (env : Env) (X : Addr → Prop) (adr : Str → Addr) (s : Shared) (E : Value → Shared → Prop), Room k A → EnvOK env → RealE C env X ρ adr s.heap →
      wpAny (model C.prog C.w) A (eval e env) (fun v s' => Keeps s s' ∧ ∃ a kvs, v = .ref a ∧ (a == sysModules) = false ∧ s'.heap.DictOf (strKind C.prog C.w) a kvs ∧ IntsOf kvs ks) E s) (hs : ks.length ≤ 1000) (hp : PlainE e := by intro _ _; rfl) (hd : (f == ("__debug__" : Str)) = false := by decide) :
    EvE C k ρ (.Call (.Name f p) [e] [] pos) (.int ks.length) := by
  intro A env X adr s E R o re
  refine wpAny_Call_Name (name_bi hx o re ?_ hd)
  refine PyProof.Rows.callWith_builtin1 (wpAny_items_cons (wpAny_mono (h A env X adr s E R o re) (fun v s₁ h₁ => wpAny_items_nil ?_) fun _ _ e => e) (hp _ _)) (hp _ _) rfl
  obtain ⟨hk, a, kvs, rfl, hsm, g, q⟩ := h₁
  have hl := q.length
  refine call_len_dict hsm g (by lia) ⟨hk.trans (.tok), ?_⟩
  rw [hl]; exact .int _ _
theorem ownD {x : Str} {pos : Pos} {ks : List (Str × Int)} (hm : (x, LV.own (.dic ks)) ∈ ρ) (hd : (x == ("__debug__" : Str)) = false := by decide) (A : Around) (env : Env) (X : Addr → Prop) (adr : Str → Addr) (s : Shared) (E : Value → Shared → Prop) (R : Room k A) (o : EnvOK env) (re : RealE C env X ρ adr s.heap) :
      wpAny (model C.prog C.w) A (eval (.Name x pos) env) (fun v s' => Keeps s s' ∧ ∃ a kvs, v = .ref a ∧ (a == sysModules) = false ∧ s'.heap.DictOf (strKind C.prog C.w) a kvs ∧ IntsOf kvs ks) E s := by
  obtain ⟨l, hsm, kvs, g, q⟩ := re.ents _ _ hm
  exact wpAny_Name (loc_load o l ⟨.refl s, _, _, rfl, hsm, g, q⟩) hd
theorem EvT.inD {l : Expr} {x : Str} {px pos : Pos} {ks : List (Str × Int)} {y : Str} (hl : EvE C k ρ l (.str y)) (hm : (x, LV.own (.dic ks)) ∈ ρ) (hd : (x == ("__debug__" : Str)) = false := by decide) :
    EvT C k ρ (.Compare l [.In] [.Name x px] pos) (kget ks y).isSome := by
  intro A env X adr s E R o re
  refine wpAny_isTrue_Compare1 (wpAny_mono (hl A env X adr s E R o re) (fun va s₁ h₁ => wpAny_mono (ownD hm hd A env X adr s₁ E R o (re.keeps h₁.1.keep)) (fun vb s₂ h₂ => ?_) fun _ _ e => e) fun _ _ e => e) rfl
  obtain ⟨hk, r⟩ := h₁
  obtain ⟨hk2, a, kvs, rfl, hsm, g, q⟩ := h₂
  cases r using Rp.strE with
  | str t =>
    refine wpAny_in_of (knd := strKind C.prog C.w) (strKind_is C.prog C.w y t) hsm g.mapOf (wpAny_truthy_bool ⟨(hk.trans hk2).trans .tok, ?_⟩)
    rcases q.get y with ⟨e1, e2⟩ | ⟨j, u', e1, e2⟩
    · rw [e1, e2]; rfl
    · rw [e1, e2]; rfl
theorem EvT.isTuple {f t : Str} {p q pos : Pos} {e : Expr} {i : Int} (hf : (f, LV.bi (.builtin "isinstance")) ∈ ρ) (ht : (t, LV.bi (.type "tuple")) ∈ ρ) (he : EvE C k ρ e (.int i)) (hp : PlainE e := by intro _ _; rfl) (hd : (f == ("__debug__" : Str)) = false := by decide) (hdt : (t == ("__debug__" : Str)) = false := by decide) :
    EvT C k ρ (.Call (.Name f p) [e, .Name t q] [] pos) false := by
  intro A env X adr s E R o re
  refine wpAny_isTrue_value (wpAny_Call_Name (name_bi hf o re ?_ hd))
  refine PyProof.Rows.callWith_builtin1 (wpAny_items_cons (wpAny_mono (he A env X adr s E R o re) (fun v s₁ h₁ => wpAny_items_cons (name_bi ht o (re.keeps h₁.1.keep) (wpAny_items_nil ?_) hdt) rfl) fun _ _ e => e) (hp _ _)) (hp _ _) rfl
  obtain ⟨hk, r⟩ := h₁
  (first | cases r using Rp.intE | cases r using Rp.strE | cases r using Rp.boolE | cases r using RpAll.nilE | cases r)
  exact PySem.IsiPair.int_tuple (wpAny_truthy_bool ⟨hk.trans .tok, rfl⟩)
end Mine
-- part Abs18
open PySem
set_option Elab.async false
set_option linter.unusedVariables false
set_option maxRecDepth 100000
namespace Mine
variable {C : Cx} {k : Nat} {ρ : Store}

/-! the pattern of numbers as hosts -/
theorem slot_re_search : Slot "re.Pattern" "search" "re.Pattern.search" :=
  .of (owner := "re.Pattern") (n := "search") (by rw [typeLookup_type, builtinLookup_eq_fast]; kernel_rfl) (by decide +kernel) (by decide +kernel) (by decide +kernel)
    (by first | exact .inl (by decide +kernel) | exact .inr (by decide +kernel)) (by rw [isSubtype_type]; kernel_rfl)
theorem entry_re_search : entryFor table "re.Pattern.search" = some Builtin.«re.Pattern.search» := entryFor_of_tree (by kernel_rfl)
theorem type_re_search : typeOf (.builtin "re.Pattern.search") = pure (.type "method_descriptor") := by show builtinType _ = _; rw [builtinType_eq_fast]; kernel_rfl
theorem plain_re : PlainAttrs "re.Pattern" :=
  ⟨⟨"object.__getattribute__", by rw [typeLookup_type, builtinLookup_eq_fast]; kernel_rfl, by decide +kernel⟩, by rw [typeLookup_type, builtinLookup_eq_fast]; kernel_rfl⟩
theorem args_re_search (a b : Value) : argsOk "re.Pattern.search" ⟨[a, b], []⟩ := by
  unfold argsOk; rw [signature?_of (id := "re.Pattern.search") (n := ['h', 'c', 'r', 'a', 'e', 's']) (o := ['n', 'r', 'e', 't', 't', 'a', 'P', '.', 'e', 'r']) (by kernel_rfl) rfl]; kernel_rfl

def ipv4 : Array Nat := #[14, 8, 1, 2, 4294967295, 1, 1, 46, 0, 16, 46, 24, 9, 1, 4294967295, 13, 4, 8, 0, 0, 1, 6, 5, 1]
def drive : Nat → Sre.M → Option Sre.M
  | 0, _ => none
  | n + 1, m => let m := m.runFor Builtin.Re.reTurnSteps; if m.outcome.isSome then some m else drive n m
def missed (m : Sre.M) : Bool := match m.outcome with | some .failed => true | _ => false
def noIp (x : Str) : Bool := match drive 1000 (Sre.forSearch ipv4 x.cps 0 0 x.cps.size false) with
  | some m => missed m
  | none => false
structure ReAt (h : Heap) (a : Addr) : Prop where
  at' : ∃ o p t f cd items n oc, h.get? a = some o ∧ o.cls = .type "re.Pattern" ∧ o.dict = none ∧ o.data = .fields #[.str p t, f, .int 0 0, .none, .none, .ref cd, .int 0 0] ∧ h.get? cd = some oc ∧ oc.data = .seq items n ∧ items.map (fun v => (Builtin.Re.reRawOf v).toNat) = ipv4

section
variable {A : Around} {E : Value → Shared → Prop} {s : Shared}
theorem wp_drive {Q : Sre.M → Shared → Prop} : ∀ (n t : Nat) (m m' : Sre.M), drive n m = some m' → Q m' s → wpAny (model C.prog C.w) A (Builtin.Re.reDrive (n + t) m) Q E s
  | 0, _, _, _, h, _ => by (first | cases h using Rp.intE | cases h using Rp.strE | cases h using Rp.boolE | cases h using RpAll.nilE | cases h)
  | n + 1, t, m, m', h, hq => by
    rw [show n + 1 + t = (n + t) + 1 by lia]
    unfold drive at h
    unfold Builtin.Re.reDrive
    dsimp only at h ⊢
    split
    · rename_i ho
      rw [if_pos ho] at h; (first | cases h using Rp.intE | cases h using Rp.strE | cases h using Rp.boolE | cases h using RpAll.nilE | cases h)
      exact wpAny_pure hq
    · rename_i ho
      rw [if_neg ho] at h
      exact wpAny_bind (wpAny_rule (wp_drive n t _ m' h hq))
theorem wp_runToEnd {Q : Option Sre.M → Shared → Prop} {m m' : Sre.M} (h : drive 1000 m = some m') (hf : missed m' = true) (hq : Q none s) : wpAny (model C.prog C.w) A (Builtin.Re.reRunToEnd m) Q E s := by
  unfold Builtin.Re.reRunToEnd
  refine wpAny_bind ?_
  have e : (2 : Nat) ^ 64 = 1000 + (2 ^ 64 - 1000) := by decide
  rw [e]
  refine wp_drive 1000 _ m m' h ?_
  refine wpAny_bind (wpAny_forIn_list _ (fun _ _ s' => s' = s) _ ?_ ?_ _ _ rfl)
  · rintro i rest _ s' rfl
    split
    · exact wpAny_bind (wpAny_rule (wpAny_pure rfl))
    · exact wpAny_pure rfl
  · rintro _ s' rfl
    unfold missed at hf
    split at hf
    · rename_i ho
      rw [ho]
      exact wpAny_pure hq
    · cases hf
theorem wp_search {Q : Fin → Shared → Prop} {a : Addr} {x : Str} {t : Tok} (ra : ReAt s.heap a) (hx : noIp x = true) (hs : x.length ≤ 1000) (hq : Q (.done (.ret .none)) s) : wpAny (model C.prog C.w) A (Builtin.«re.Pattern.search» ⟨[.ref a, .str x t], []⟩) Q E s := by
  obtain ⟨o, p, tp, f, cd, items, n, oc, h1, h2, h2', h3, h4, h5, h6⟩ := ra.at'
  unfold noIp at hx
  cases hd : drive 1000 (Sre.forSearch ipv4 x.cps 0 0 x.cps.size false) with
  | none => rw [hd] at hx; cases hx
  | some m' =>
    rw [hd] at hx
    unfold Builtin.«re.Pattern.search»
    refine wpAny_bind ?_
    unfold Builtin.Re.reTarget
    have e1 : Builtin.Re.reNamed "re.Pattern.search" "search" ["string", "pos", "endpos"] 1 [.str x t] [] = pure [some (.str x t), none, none] := by rfl
    dsimp only
    rw [e1]
    refine wpAny_bind (wpAny_pure ?_)
    refine wpAny_bind (wpAny_pure ?_)
    refine wpAny_bind (wpAny_pure ?_)
    refine wpAny_bind (wpAny_fieldsOf h1 h3 ?_)
    refine wpAny_bind (wpAny_of_eq (a := (x.cps, 0)) (by rfl) ?_)
    dsimp only
    rw [if_neg (by show ¬ (false = true); decide), if_neg (by show ¬ (false = true); decide)]
    refine wpAny_bind (wpAny_of_eq (a := ()) (by rfl) ?_)
    refine wpAny_bind ?_
    unfold Builtin.Re.reRawItems
    refine wpAny_bind (wpAny_seqItems (o := oc) h4 h5 (wpAny_pure (wpAny_pure ?_)))
    have hsz : x.cps.size ≤ 1000 := hs
    have e2 : min (((2 : Int) ^ 63 - 1).toNat) x.cps.size = x.cps.size := by
      have : ((2 : Int) ^ 63 - 1).toNat = 9223372036854775807 := by decide
      lia
    have e3 : Array.map (fun x => x.toNat) (Array.map Builtin.Re.reRawOf ((some items).getD #[])) = ipv4 := by
      rw [← h6, Array.map_map]; rfl
    dsimp only
    rw [e2, e3]
    unfold Builtin.Re.reAnswer
    refine wpAny_bind (wp_runToEnd (m' := m') ?_ hx ?_)
    · exact hd
    · exact wpAny_pure hq
end
/-- the pattern's search misses -/
theorem EvE.search {x0 : Str} {p apos pos : Pos} {e : Expr} {x : Str} (h : EvE C k ρ (.Name x0 p) .re) (he : EvE C k ρ e (.str x)) (hK : ∀ h, C.K.In h → ReAt h C.RE) (hx : noIp x = true) (hs : x.length ≤ 1000) (hp : PlainE e := by intro _ _; rfl) (hl : (apos.endLine == pos.line) = true := by rfl) :
    EvE C k ρ (.Call (.Attribute (.Name x0 p) "search" apos) [e] [] pos) .none := by
  intro A env X adr s E R ok re
  refine Call_method1 rfl (hp [] env) hl (wpAny_mono (h A env X adr s E R ok re) (fun v s₁ h₁ => ?_) fun _ _ e => e)
  obtain ⟨hk, r⟩ := h₁
  cases r with
  | re =>
    have ra := hK _ ((re.keeps hk.keep).base.K)
    obtain ⟨o, p, tp, f, cd, items, n, oc, h1, h2, h2', h3, h4, h5, h6⟩ := ra.at'
    refine ⟨"re.Pattern", _, plain_re, slot_re_search, type_re_search, ⟨o, h1, h2⟩, (fun b e => by cases e; exact ⟨o, h1, h2'⟩), ?_⟩
    refine method1_meetsIn slot_re_search entry_re_search (wpAny_mono (he A env X adr s₁ E R ok (re.keeps hk.keep)) (fun v s₂ h₂ => ?_) fun _ _ e => e)
    obtain ⟨hk2, rv⟩ := h₂
    cases rv using Rp.strE with
    | str t =>
      refine ⟨⟨o, hk2.keep _ _ h1, h2⟩, args_re_search _ _, fun A' R' s' => ReAt s'.heap C.RE ∧ R' (.ok (.ret .none)) s', .of_wp fun A' R' s' hh => ?_, hK _ (((re.keeps hk.keep).keeps hk2.keep).base.K), ?_⟩
      · exact wp_search hh.1 hx hs ⟨_, rfl, hh.2⟩
      · exact ⟨hk.trans hk2, .none⟩
end Mine
-- part Abs19
open PySem
set_option Elab.async false
set_option linter.unusedVariables false
set_option maxRecDepth 100000
namespace Mine
variable {C : Cx} {k : Nat} {ρ : Store}

/-! the one class -/
abbrev csl : Str := "comp_select_list"
structure MRec where
  name : Str
  qual : Str
  params : Arguments
  body : List Stmt
  scope : Scope
def MethK (C : Cx) (r : MRec) : Prop := ∃ a o pm cd doc, W.findIn C.K (.ref C.TC) r.name = some (some (.ref a)) ∧ W.typeIn C.K (.ref a) = some (.type "function") ∧ C.K.lookup a = some o ∧
  o.data = .func (PyProof.Rows.methDef r.name r.qual r.params r.body r.scope pm cd doc) ∧ W.codeIn C.K cd r.qual = true
structure ClsK (C : Cx) : Prop where
  keeps : W.keepIn C.K (.ref C.TC) = true
  makes : W.makesIn C.K C.TC = true
  setat : W.findIn C.K (.ref C.TC) "__setattr__" = some (some (.builtin "object.__setattr__"))
  over : W.plainOver C.K C.TC = true
  taker : W.takerIn C.K C.TC csl = some none
  hasD : W.hasDictIn C.K C.TC = true
  getat : W.findIn C.K (.ref C.TC) "__getattribute__" = some (some (.builtin "object.__getattribute__"))
  getno : W.findIn C.K (.ref C.TC) "__getattr__" = some none
  attr : W.findIn C.K (.ref C.TC) csl = some none
theorem Room.make {A : Around} (R : Room (k + 1) A) (a : Addr) (vs : List Value) : Room k (A.under (.builtin "type.__call__" ⟨.ref a :: vs, []⟩)) :=
  ⟨R.hd, by have := R.depth; have e := PyProof.Rows.depth_under_make A a vs; lia, by
    have := R.units
    have e : (Code.builtin "type.__call__" ⟨.ref a :: vs, []⟩).cUnits = 1 := by kernel_rfl
    show A.units + (Code.builtin "type.__call__" ⟨.ref a :: vs, []⟩).cUnits + 64 * k ≤ 9000
    lia⟩
/-- a method's contract -/
def MethOK (C : Cx) (k : Nat) (nm : Str) (ds : List D) (d : D) : Prop :=
  ∀ (A : Around) (X : Addr → Prop) (s : Shared) (fa : Addr) (vs : List Value), Room k A → Base C s.heap → (∀ a, X a → ∃ o, s.heap.get? a = some o) → W.findIn C.K (.ref C.TC) nm = some (some (.ref fa)) → RpAll C X s.heap vs ds →
    codeAny (model C.prog C.w) A (.call (.ref fa) ⟨vs, []⟩) (fun r s' => ∃ v, r = .ok (.ret v) ∧ Keeps s s' ∧ Rp C X s'.heap v d) s
theorem meth_intro {r : MRec} {ds : List D} {d : D} {ps : List Str} {ρ0 : Store} {out : Out} (hm : MethK C r)
    (hbind : ∀ pm cd doc vs, vs.length = ps.length → bindArgs (PyProof.Rows.methDef r.name r.qual r.params r.body r.scope pm cd doc) ⟨vs, []⟩ = pure (ps.zip vs)) (hps : ps.Nodup) (hpk : ∀ p ∈ ps, lc r.scope.names p = true) (hl : ds.length = ps.length)
    (hi : InitS C r.scope.names (ps.zip ds) ρ0) (hnd : (ρ0.map (·.1)).Nodup) (hco : r.scope.isCoroutine = false) (hgen : r.scope.isGenerator = false) (hk : r.scope.kind = .function)
    (hb : EvS C k ρ0 r.body out) (ho : out = .ret d ∨ (d = .none ∧ ∃ ρ', out = .next ρ')) : MethOK C (k + 1) r.name ds d := by
  intro A X s fa vs R B al hfa rvs
  obtain ⟨a, o, pm, cd, doc, h1, h2, h3, h4, h5⟩ := hm
  rw [hfa] at h1
  (first | cases h1 using Rp.intE | cases h1 using Rp.strE | cases h1 using Rp.boolE | cases h1 using RpAll.nilE | cases h1)
  exact def_enter R B al (B.K _ _ h3) h4 (W.codeRec_of B.K h5) hbind hps hpk hl rvs hi hnd hco hgen hk hb ho
theorem inst_at {X : Addr → Prop} {h : Heap} {v : Value} {d : D} (r : Rp C X h v (.inst d)) : ∃ a dx n t u, v = .ref a ∧ ¬ X a ∧ W.InstAt h a (W.instObj C.TC dx) C.TC (some (W.dictOf [⟨PyData.keyHash C.w.params csl, .str csl t, u⟩] n)) ∧ Rp C X h u d := by
  cases r with
  | @inst a dx n t u _ h1 h2 h3 h4 h5 => exact ⟨a, dx, n, t, u, rfl, h1, ⟨h3, rfl, rfl, h4⟩, h5⟩
theorem handed_rp {X : Addr → Prop} {h : Heap} {v : Value} {d : D} (r : Rp C X h v d) : W.handedIn v = true := by
  cases r <;> rfl
/-- o.comp_select_list -/
theorem EvE.attr {x : Str} {p pos : Pos} {d : D} (K : ClsK C) (h : EvE C k ρ (.Name x p) (.inst d)) : EvE C k ρ (.Attribute (.Name x p) csl pos) d := by
  intro A env X adr s E R ok re
  refine PyProof.Rows.Attribute_name (wpAny_mono (h A env X adr s E R ok re) (fun v s₁ h₁ => ?_) fun _ _ e => e)
  obtain ⟨hk, r⟩ := h₁
  obtain ⟨a, dx, n, t, u, rfl, hx, I, ru⟩ := inst_at r
  refine W.get_value (re.keeps hk.keep).base.K I K.getat (W.findObj_own K.hasD K.attr rfl ?_) (handed_rp ru) ⟨hk.trans .tok, ru⟩
  rw [W.lookIn_dict]
  show W.getL csl [⟨_, .str csl t, u⟩] = _
  have e : (Value.str csl t).isStr csl = true := by simp [Value.isStr]
  simp [W.getL, e]
/-- o.compare(a, b) -/
theorem EvE.meth2 {x nm : Str} {p apos pos : Pos} {e1 e2 : Expr} {d d1 d2 r : D} {mr : MRec} (K : ClsK C) (M : MethK C mr) (hn : mr.name = nm) (hnm : (nm == csl) = false) (h : EvE C k ρ (.Name x p) (.inst d)) (ha : EvEs C k ρ [e1, e2] [d1, d2]) (hf : MethOK C k nm [.inst d, d1, d2] r)
    (he : ∀ env, ∃ pl, eval (.Call (.Attribute (.Name x p) nm apos) [e1, e2] [] pos) env = (do
      let ov ← eval (.Name x p) env
      standAt apos.atName
      let (f, first) ← holding [ov] (getMethod ov nm pl)
      callWith pos f first (backTo pos (starEach [e1, e2] env)) (backToKw pos (keywordEach [] env))) := by intro _; exact ⟨_, rfl⟩) :
    EvE C k ρ (.Call (.Attribute (.Name x p) nm apos) [e1, e2] [] pos) r := by
  intro A env X adr s E R ok re
  have hp : PlainE e1 ∧ PlainE e2 := by cases ha with | cons _ r hp => cases r with | cons _ r hp2 => exact ⟨hp, hp2⟩
  obtain ⟨pl, he⟩ := he env
  refine W.methodCall_KW (pl := pl) (wpAny_mono (h A env X adr s E R ok re) (fun v s₁ h₁ => ?_) fun _ _ e => e) he
  obtain ⟨hk, rr⟩ := h₁
  have re1 := re.keeps hk.keep
  have rr0 := rr
  obtain ⟨a, dx, n, t, u, rfl, hx, I, ru⟩ := inst_at rr
  obtain ⟨fa, o, pm, cd, doc, h1, h2, h3, h4, h5⟩ := id M
  rw [hn] at h1
  refine W.method_fn re1.base.K I K.getat K.getno h1 h2 ?_ ?_
  · have e : (Value.str csl t).isStr nm = false := by
      show (csl == nm) = false
      rw [beq_eq_false_iff_ne] at hnm ⊢
      exact fun q => hnm q.symm
    have : W.lookIn nm (W.dictOf [⟨PyData.keyHash C.w.params csl, .str csl t, u⟩] n) = some none := by
      rw [W.lookIn_dict]
      simp [W.getL, e, DictEntry.refKey]
    show (W.lookIn nm (W.dictOf [⟨PyData.keyHash C.w.params csl, .str csl t, u⟩] n)).map (·.isSome) = some false
    rw [this]; rfl
  · refine PyProof.Rows.callWith_meth (h₀ := s₁.heap) h4 (re1.base.K _ _ h3) (wpAny_mono (ha.wp R ok s₁ E re1) (fun vs s₂ h₂ => ⟨h₂.1.keep, ?_⟩) fun _ _ e => e) (hp.1 _ _)
    obtain ⟨hk2, rvs⟩ := h₂
    have re2 := re1.keeps hk2.keep
    refine wpAny_call (codeAny_mono (hf A (XX X env ρ adr) s₂ fa (.ref a :: vs) R re2.base (fun a q => re2.xx_alive q) h1 (.cons (rr0.keeps hk2.keep) rvs)) fun r s' hr => ?_)
    obtain ⟨v, rfl, hk3, rv⟩ := hr
    exact ⟨(hk.trans hk2).trans hk3, rv⟩
end Mine
-- part Abs20
open PySem
set_option Elab.async false
set_option linter.unusedVariables false
set_option maxRecDepth 100000
namespace Mine
variable {C : Cx} {k : Nat} {ρ : Store}

theorem EvE.make {x : Str} {p pos p1 p2 p3 p4 : Pos} {e : Expr} {d : D} {mr : MRec} (K : ClsK C) (M : MethK C mr) (hn : mr.name = "__init__") (hbody : mr.body = [.Assign [.Attribute (.Name "self" p1) csl p2] (.Name csl p3) p4])
    (hbind : ∀ pm cd doc a b, bindArgs (PyProof.Rows.methDef mr.name mr.qual mr.params mr.body mr.scope pm cd doc) ⟨[a, b], []⟩ = pure [(("self" : Str), a), (csl, b)]) (hself : mr.scope.names.lookup ("self" : Str) = some .local) (hcsl : mr.scope.names.lookup csl = some .local)
    (hco : mr.scope.isCoroutine = false) (hgen : mr.scope.isGenerator = false) (hk : mr.scope.kind = .function)
    (h : EvE (C := C) (k + 3) ρ (.Name x p) .cls) (he : EvE C (k + 3) ρ e d) (hp : PlainE e := by intro _ _; rfl) : EvE C (k + 3) ρ (.Call (.Name x p) [e] [] pos) (.inst d) := by
  intro A env X adr s E R ok re
  refine wpAny_Call_Name (wpAny_mono (h A env X adr s E R ok re) (fun v s₁ h₁ => ?_) fun _ _ e => e)
  obtain ⟨hk1, r⟩ := h₁
  have re1 := re.keeps hk1.keep
  cases r with
  | cls =>
    refine W.callWith_K re1.base.K K.keeps (wpAny_items_cons (wpAny_mono (he A env X adr s₁ E R ok re1) (fun v s₂ h₂ => wpAny_items_nil ?_) fun _ _ e => e) (hp _ _)) (hp _ _) rfl
    obtain ⟨hk2, rv⟩ := h₂
    have re2 := re1.keeps hk2.keep
    refine ⟨re2.base.K, ?_⟩
    obtain ⟨fa, o, pm, cd, doc, m1, m2, m3, m4, m5⟩ := M
    rw [hn] at m1
    have B := re2.base
    show wpAny _ A (PySem.call (.ref C.TC) [v] []) _ E s₂
    generalize hs2 : s₂ = sx at *
    obtain ⟨hh, g, dd, t, os⟩ := sx
    dsimp only at B rv
    refine wpAny_call (W.make_core (W.makes_of B.K K.makes) (W.looks_findIn B.K m1) (fun self => W.bind_fn B.K self m2) (.inl rfl) ?_)
    have k0 : Keep hh ((hh.push W.emptyDict).push (W.instObj C.TC hh.objs.size)) := fun b o e => Heap.get?_push_of_some _ (Heap.get?_push_of_some _ e)
    have B' := B.keeps k0
    have Rm := Room.make (k := k + 2) R C.TC [v]
    generalize A.under (.builtin "type.__call__" ⟨[.ref C.TC, v], []⟩) = A' at Rm ⊢
    have gx : ((hh.push W.emptyDict).push (W.instObj C.TC hh.objs.size)).get? (hh.objs.size + 1) = some (W.instObj C.TC hh.objs.size) := by
      have q : ((hh.push W.emptyDict).push (W.instObj C.TC hh.objs.size)).get? (hh.push W.emptyDict).objs.size = some (W.instObj C.TC hh.objs.size) := Heap.get?_push_size _ rfl
      rwa [Heap.size_push] at q
    have gd : ((hh.push W.emptyDict).push (W.instObj C.TC hh.objs.size)).get? hh.objs.size = some (W.dictOf [] 0) := Heap.get?_push_of_some _ (Heap.get?_push_size _ rfl)
    have hsz : ((hh.push W.emptyDict).push (W.instObj C.TC hh.objs.size)).objs.size = hh.objs.size + 2 := by rw [Heap.size_push, Heap.size_push]
    generalize (hh.push W.emptyDict).push (W.instObj C.TC hh.objs.size) = H at *
    refine codeAny_call_cells (fd := PyProof.Rows.methDef mr.name mr.qual mr.params mr.body mr.scope pm cd doc) Rm.lim (B'.K _ _ m3) m4 B'.lim (W.codeRec_of B'.K m5) rfl (hbind pm cd doc _ _) rfl (fun y hy => ?_) (fun s₃ X₀ => ?_) hco hgen hk
    · simp at hy
      rcases hy with rfl | rfl
      · exact .inl hself
      · exact .inl hcsl
    · obtain ⟨h₁, tk, rfl, _⟩ := X₀.done
      have hloc : (callEnvC (PyProof.Rows.methDef mr.name mr.qual mr.params mr.body mr.scope pm cd doc) H.objs.size fa).locals = H.objs.size := rfl
      have hsc : (callEnvC (PyProof.Rows.methDef mr.name mr.qual mr.params mr.body mr.scope pm cd doc) H.objs.size fa).scope = mr.scope := rfl
      generalize callEnvC (PyProof.Rows.methDef mr.name mr.qual mr.params mr.body mr.scope pm cd doc) H.objs.size fa = env' at *
      have hkd : ∀ y, env'.kindOf y = mr.scope.names.lookup y := fun y => by unfold Env.kindOf; rw [hsc]
      have ns := X₀.toInCall.ns
      have ks := X₀.toInCall.keep
      have v1 : bindL env'.kindOf [(("self" : Str), .ref (hh.objs.size + 1)), (csl, v)] (fun _ => none) ("self" : Str) = some (.ref (hh.objs.size + 1)) := bindL_get _ _ _ _ (by show [("self" : Str), csl].Nodup; decide) (.head _) ((hkd _).trans hself)
      have v2 : bindL env'.kindOf [(("self" : Str), Value.ref (hh.objs.size + 1)), (csl, v)] (fun _ => none) csl = some v := bindL_get _ _ _ _ (by show [("self" : Str), csl].Nodup; decide) (.tail _ (.head _)) ((hkd _).trans hcsl)
      rw [hbody]
      refine wpAny_execs_cons (plainObj_wpAny_Assign_Attribute (wpAny_Name (wpAny_loadName_local (by rw [hsc]; exact hk) ((hkd _).trans hcsl) ns v2 (wpAny_Name (wpAny_loadName_local (by rw [hsc]; exact hk) ((hkd _).trans hself) ns v1 ?_)))))
      have N : PyProof.Rows.News hh env'.locals h₁ [(hh.objs.size + 1, W.instObj C.TC hh.objs.size), (hh.objs.size, W.dictOf [] 0)] := fun q hq => by
        simp at hq
        rcases hq with rfl | rfl
        · exact ⟨ks _ _ gx, by rw [hloc, hsz]; simp, get_none (Nat.le_succ _)⟩
        · exact ⟨ks _ _ gd, by rw [hloc, hsz]; simp, get_none (Nat.le_refl _)⟩
      have F : PyProof.Rows.Fr hh env'.locals h₁ _ := ⟨ns, fun b o e => ks _ _ (k0 b o e), by rw [hloc, hsz]; lia⟩
      refine W.set_dict (dx := hh.objs.size) F B.K N ⟨(N _ (.head _)).1, rfl, rfl, (N _ (.tail _ (.head _))).1⟩ rfl K.setat K.over K.taker K.hasD rfl rfl (.tail (by simp) (.head (by intro _ h; cases h))) (by show 1 ≤ 1000; decide) fun h' F' N' => ?_
      refine wpAny_execs_nil ⟨rfl, ?_⟩
      have kk := F'.keep
      refine ⟨(hk1.trans hk2).trans (.mk' kk), ?_⟩
      have o1 := (N' _ (.head _)).1
      have o2 := (N' _ (.tail _ (.head _))).1
      exact .inst (re2.fresh (get_none (Nat.le_succ _))) (re2.fresh (get_none (Nat.le_refl _))) o1 o2 (rv.keeps kk)
end Mine
-- part Abs21
open PySem
set_option Elab.async false
set_option linter.unusedVariables false
set_option maxRecDepth 100000
namespace Mine
variable {C : Cx} {k : Nat} {ρ : Store}

theorem EvE.lenO {f x : Str} {p px pos : Pos} {ds : List D} (hx : (f, LV.bi (.builtin "len")) ∈ ρ) (hm : (x, LV.own (.list ds)) ∈ ρ) (hs : ds.length ≤ sizeLine) (hd : (f == ("__debug__" : Str)) = false := by decide) (hdx : (x == ("__debug__" : Str)) = false := by decide) :
    EvE C k ρ (.Call (.Name f p) [.Name x px] [] pos) (.int ds.length) := by
  intro A env X adr s E R o re
  refine wpAny_Call_Name (name_bi hx o re ?_ hd)
  refine PyProof.Rows.callWith_builtin1 (wpAny_items_cons (wpAny_mono (EvL.own (k := k) (pos := px) hm hdx A env X adr s E R o re) (fun v s₁ h₁ => wpAny_items_nil ?_) fun _ _ e => e) rfl) rfl rfl
  obtain ⟨hk, a, vs, n, rfl, g, r⟩ := h₁
  have e : vs.size = ds.length := by rw [← r.length]; simp
  refine Calls.call_len_list ⟨_, g, rfl, n, rfl⟩ (by have : sizeLine = 2 ^ 24 := rfl; lia) ⟨hk.trans .tok, ?_⟩
  rw [e]; exact .int _ _

theorem Upd.same {x : Str} {lv : LV} {ρ ρ' : Store} (U : Upd x lv ρ ρ') (hn : (ρ.map (·.1)).Nodup) (hm : (x, lv) ∈ ρ) : ρ' = ρ := by
  induction U with
  | @here l0 r hs =>
    rcases List.mem_cons.mp hm with e | e
    · rw [(Prod.mk.inj e).2]
    · exact absurd (mem_fst e) (List.nodup_cons.mp hn).1
  | @there p r r' h ih =>
    rcases List.mem_cons.mp hm with e | e
    · obtain ⟨l, m, _⟩ := h.old
      rw [← e] at hn
      exact absurd (mem_fst m) (List.nodup_cons.mp hn).1
    · rw [ih (List.nodup_cons.mp hn).2 e]
def esc1 (c r x : Str) : Str := if !(Builtin.Str.occurrences x c 0 x.length 1).isEmpty then Txt.replace x c r else x
/-- if 'c' in text: text = text.replace('c', 'r') -/
theorem Ev1.esc {t c r x : Str} {p1 p2 p3 p4 p5 p6 p7 p8 p9 p10 pos : Pos} {k1 k2 k3 : Nat} {ρ' : Store} (hm : (t, LV.dat (.str x)) ∈ ρ) (U : Upd t (.dat (.str (esc1 c r x))) ρ ρ') (hcr : (c == r) = false) (hb : x.length + (x.length + 1) * r.length ≤ 16777216)
    (hd : (t == ("__debug__" : Str)) = false := by decide) (hl : (p6.endLine == p8.line) = true := by rfl) :
    Ev1 C k ρ (.If (.Compare (.Constant (.str c) k1 p1) [.In] [.Name t p2] p3) [.Assign [.Name t p4] (.Call (.Attribute (.Name t p5) "replace" p6) [.Constant (.str c) k2 p7, .Constant (.str r) k3 p9] [] p8) pos] [] p10) (.next ρ') := by
  intro A env X hB adr s E R o re
  have name : ∀ (A' : Around) (s' : Shared) (p : Pos) (E' : Value → Shared → Prop) (Q : Value → Shared → Prop), RealE C env X ρ adr s'.heap → (∀ tk, Q (.str x tk) s') → wpAny (model C.prog C.w) A' (eval (.Name t p) env) Q E' s' := by
    intro A' s' p E' Q re' hq
    obtain ⟨v, l, rp⟩ := re'.ents _ _ hm
    cases rp
    exact wpAny_Name (loc_load o l (hq _)) hd
  refine wpAny_If (wpAny_isTrue_Compare1 (wpAny_Constant_str (name _ _ _ _ _ re.toRealE fun tk => PyProof.Rows.in_str (wpAny_truthy_bool ?_))) rfl)
  by_cases hc : (!(Builtin.Str.occurrences x c 0 x.length 1).isEmpty) = true
  · rw [if_pos hc]
    have hu : esc1 c r x = Txt.replace x c r := by unfold esc1; rw [if_pos hc]
    rw [hu] at U
    refine wpAny_execs_cons (wpAny_Assign_Name (Call_method2 rfl rfl hl (name _ _ _ _ _ re.toRealE fun tk2 => ?_)) rfl)
    refine ⟨"str", _, F.plainAttrs_str, F.slot_str_replace, F.type_str_replace, typeIs_str _ _ _, (fun _ e => nomatch e), ?_⟩
    refine PyProof.Rows.callWith_method1 (env := env) (e := .Constant (.str c) k2 p7) (rest := [.Constant (.str r) k3 p9]) (wpAny_items_cons (wpAny_Constant_str (wpAny_items_cons (wpAny_Constant_str (wpAny_items_nil ?_)) rfl)) rfl) rfl rfl
    refine SC.replace (by simp) (by simp) (by simp) hcr hb fun t' k' => ?_
    exact store_dat (s := { s with toks := k' }) U re o (.str _ _) fun h' tk' re' => wpAny_execs_nil ⟨rfl, h', tk', rfl, adr, re'⟩
  · rw [if_neg hc]
    have hu : esc1 c r x = x := by unfold esc1; rw [if_neg hc]
    rw [hu] at U
    have e := U.same re.nodup hm
    subst e
    exact wpAny_execs_nil ⟨rfl, s.heap, _, rfl, adr, re⟩
end Mine
-- part Def1
open PySem
set_option Elab.async false
set_option linter.unusedVariables false
set_option maxRecDepth 100000
namespace Mine
/-! the text's defs -/
def recOf : Stmt → DefRec
  | .FunctionDef n p b _ _ _ sc _ _ pos => ⟨n, p, b, sc, pos⟩
  | .ClassDef _ _ _ b _ _ sc _ _ _ pos => ⟨"", ⟨[], [], none, [], [], none, []⟩, b, sc, pos⟩
  | _ => ⟨"", ⟨[], [], none, [], [], none, []⟩, [], ⟨.function, [], false, false, []⟩, ⟨0, 0, 0, 0⟩⟩
def dr (i : Nat) : DefRec := recOf (PySem.Challenge.pw_xp0035_01.main.body.getD i (.Pass ⟨0, 0, 0, 0⟩))
def mr (i : Nat) (q : Str) : MRec := let d := recOf ((dr 11).body.getD i (.Pass ⟨0, 0, 0, 0⟩)); ⟨d.name, q, d.params, d.body, d.scope⟩
abbrev r_init : MRec := mr 0 "TupleComp.__init__"
abbrev r_cmp : MRec := mr 1 "TupleComp.compare"
structure Env0 (C : Cx) : Prop where
  defs : ∀ i, i ∈ [3, 4, 5, 6, 9, 12, 13, 14, 17, 18, 19, 20, 21, 23, 24, 25, 26, 27, 28, 29, 30, 31, 32, 33, 34, 35] → C.defs (dr i).name = some (dr i)
  fnG : ∀ f d, C.defs f = some d → ∃ a, C.mg f = some (.ref a)
  cls : C.mg "TupleComp" = some (.ref C.TC)
  re : C.mg "IPV4_RE" = some (.ref C.RE)
  em : ∃ t, C.mg "ELLIPSIS_MARKER" = some (.str "..." t)
  bi : ∀ p ∈ [(("len" : Str), Value.builtin "len"), ("range", .type "range"), ("min", .builtin "min"), ("max", .builtin "max"), ("sum", .builtin "sum"), ("abs", .builtin "abs"), ("isinstance", .builtin "isinstance"), ("tuple", .type "tuple"), ("zip", .type "zip")], C.mg p.1 = none ∧ C.mb p.1 = some p.2
  reK : ∀ h, C.K.In h → ReAt h C.RE
  clsK : ClsK C
  initK : MethK C r_init
  cmpK : MethK C r_cmp
variable {C : Cx}
theorem Env0.gl (E : Env0 C) {f : Str} {d : DefRec} (h : C.defs f = some d) : GlOK C f (.fn f) := by
  obtain ⟨a, e⟩ := E.fnG f d h
  exact ⟨_, e, fun X h => .fn e⟩
theorem Env0.glc (E : Env0 C) : GlOK C "TupleComp" .cls := ⟨_, E.cls, fun _ _ => .cls⟩
theorem Env0.glr (E : Env0 C) : GlOK C "IPV4_RE" .re := ⟨_, E.re, fun _ _ => .re⟩
theorem Env0.gle (E : Env0 C) : GlOK C "ELLIPSIS_MARKER" (.str "...") := by
  obtain ⟨t, e⟩ := E.em
  exact ⟨_, e, fun _ _ => .str _ t⟩
theorem Env0.gld (E : Env0 C) (i : Nat) (hi : i ∈ [3, 4, 5, 6, 9, 12, 13, 14, 17, 18, 19, 20, 21, 23, 24, 25, 26, 27, 28, 29, 30, 31, 32, 33, 34, 35]) {f : Str} (hf : (dr i).name = f) : GlOK C f (.fn f) := hf ▸ E.gl (E.defs i hi)
theorem Env0.hd (E : Env0 C) (i : Nat) (hi : i ∈ [3, 4, 5, 6, 9, 12, 13, 14, 17, 18, 19, 20, 21, 23, 24, 25, 26, 27, 28, 29, 30, 31, 32, 33, 34, 35]) {f : Str} (hf : (dr i).name = f) : C.defs f = some (dr i) := hf ▸ E.defs i hi

theorem Env0.bin (E : Env0 C) (n : Str) (v : Value) (h : (n, v) ∈ [(("len" : Str), Value.builtin "len"), ("range", .type "range"), ("min", .builtin "min"), ("max", .builtin "max"), ("sum", .builtin "sum"), ("abs", .builtin "abs"), ("isinstance", .builtin "isinstance"), ("tuple", .type "tuple"), ("zip", .type "zip")]) : C.mg n = none ∧ C.mb n = some v := E.bi (n, v) h
/-! data -/
abbrev lI (l : List Int) : D := .list (l.map D.int)
abbrev tI (l : List Int) : D := .tup (l.map D.int)
abbrev lS (l : List Str) : D := .list (l.map D.str)


theorem CompL.mapG {α β : Type} {C : Cx} {k : Nat} {x : Str} {ρ : Store} {elt : Expr} {l : List α} {g : α → D} {h : α → β} {G : β → D} (H : ∀ a ∈ l, EvE C k ((x, .dat (g a)) :: ρ) elt (G (h a))) : CompL C k x ρ [] elt (l.map g) ((l.map h).map G) := by
  induction l with
  | nil => exact .nil
  | cons a l ih => exact .take .none (H a (.head _)) (ih fun b hb => H b (.tail _ hb))
theorem EvS.ifr {C : Cx} {k : Nat} {ρ : Store} {test : Expr} {body rest : List Stmt} {pos : Pos} {b : Bool} {d : D} (ht : EvT C k ρ test b) (h1 : b = true → EvS C k ρ body (.ret d)) (h2 : b = false → EvS C k ρ rest (.ret d)) : EvS C k ρ (.If test body [] pos :: rest) (.ret d) := by
  cases b with
  | true => exact EvS.ret (Ev1.iff ht (fun _ => h1 rfl) fun e => by cases e)
  | false => exact EvS.cons (Ev1.iff ht (fun e => by cases e) fun _ => EvS.nil) (h2 rfl)
theorem EvT.eq {C : Cx} {k : Nat} {ρ : Store} {e : Expr} {b b' : Bool} (h : EvT C k ρ e b) (hb : b = b') : EvT C k ρ e b' := hb ▸ h
theorem EvE.eq {C : Cx} {k : Nat} {ρ : Store} {e : Expr} {d d' : D} (h : EvE C k ρ e d) (hb : d = d') : EvE C k ρ e d' := hb ▸ h
theorem Ev1.cast {C : Cx} {k : Nat} {ρ ρ' ρ'' : Store} {st : Stmt} (h : Ev1 C k ρ st (.next ρ')) (e : ρ' = ρ'') : Ev1 C k ρ st (.next ρ'') := e ▸ h
/-- an if whose body may fall through -/
theorem EvS.if3 {C : Cx} {k : Nat} {ρ : Store} {test : Expr} {body rest : List Stmt} {pos : Pos} {b : Bool} {d : D} (ht : EvT C k ρ test b) (h1 : b = true → (∃ ρ2, EvS C k ρ body (.next ρ2) ∧ EvS C k ρ2 rest (.ret d)) ∨ EvS C k ρ body (.ret d)) (h2 : b = false → EvS C k ρ rest (.ret d)) :
    EvS C k ρ (.If test body [] pos :: rest) (.ret d) := by
  cases b with
  | true =>
    rcases h1 rfl with ⟨ρ2, h, r⟩ | h
    · exact EvS.cons (Ev1.iff ht (fun _ => h) fun e => by cases e) r
    · exact EvS.ret (Ev1.iff ht (fun _ => h) fun e => by cases e)
  | false => exact EvS.cons (Ev1.iff ht (fun e => by cases e) fun _ => EvS.nil) (h2 rfl)
/-- a for loop by an invariant -/
theorem LoopS.inv {C : Cx} {k : Nat} {tgt : Expr} {body : List Stmt} {n : Nat} (P : Nat → Store → Prop) (f : Nat → D) (step : ∀ i ρ, i < n → P i ρ → ∃ ρ1 ρ2, Tgt tgt (f i) ρ ρ1 ∧ EvS C k ρ1 body (.next ρ2) ∧ P (i + 1) ρ2) :
    ∀ {ρ : Store}, P 0 ρ → ∃ ρ', P n ρ' ∧ LoopS C k tgt body ((List.range n).map f) ρ (.next ρ') := by
  have core : ∀ (m i : Nat) (ρ : Store), i + m = n → P i ρ → ∃ ρ', P n ρ' ∧ LoopS C k tgt body ((List.range' i m).map f) ρ (.next ρ') := by
    intro m
    induction m with
    | zero => intro i ρ h hp; exact ⟨ρ, by rw [← h]; exact hp, .done⟩
    | succ m ih =>
      intro i ρ h hp
      obtain ⟨ρ1, ρ2, T, hb, hp2⟩ := step i ρ (by lia) hp
      obtain ⟨ρ', hp', L⟩ := ih (i + 1) ρ2 (by lia) hp2
      exact ⟨ρ', hp', by rw [List.range'_succ, List.map_cons]; exact .turn T hb L⟩
  intro ρ hp
  obtain ⟨ρ', hp', L⟩ := core n 0 ρ (by lia) hp
  exact ⟨ρ', hp', by rw [List.range_eq_range']; exact L⟩
theorem LoopS.invL {α : Type} {C : Cx} {k : Nat} {tgt : Expr} {body : List Stmt} (l : List α) (P : Nat → Store → Prop) (f : α → D) (step : ∀ i a ρ, l[i]? = some a → P i ρ → ∃ ρ1 ρ2, Tgt tgt (f a) ρ ρ1 ∧ EvS C k ρ1 body (.next ρ2) ∧ P (i + 1) ρ2) :
    ∀ {ρ : Store}, P 0 ρ → ∃ ρ', P l.length ρ' ∧ LoopS C k tgt body (l.map f) ρ (.next ρ') := by
  have core : ∀ (m : Nat) (i : Nat) (ρ : Store), i + m = l.length → P i ρ → ∃ ρ', P l.length ρ' ∧ LoopS C k tgt body ((l.drop i).map f) ρ (.next ρ') := by
    intro m
    induction m with
    | zero => intro i ρ h hp; rw [List.drop_of_length_le (by lia)]; exact ⟨ρ, by rw [← h]; exact hp, .done⟩
    | succ m ih =>
      intro i ρ h hp
      have hlt : i < l.length := by lia
      obtain ⟨ρ1, ρ2, T, hb, hp2⟩ := step i l[i] ρ (List.getElem?_eq_getElem hlt) hp
      obtain ⟨ρ', hp', L⟩ := ih (i + 1) ρ2 (by lia) hp2
      exact ⟨ρ', hp', by rw [List.drop_eq_getElem_cons hlt, List.map_cons]; exact .turn T hb L⟩
  intro ρ hp
  obtain ⟨ρ', hp', L⟩ := core l.length 0 ρ (by lia) hp
  exact ⟨ρ', hp', L⟩
theorem sIdx {i : Int} {n : Nat} (h0 : 0 ≤ i) (h : i < n) : seqIndex? i n = some i.toNat := by
  unfold seqIndex?
  have : ¬ i < 0 := by lia
  simp only [this, if_false]
  simp
  lia
theorem EvS.forL {α : Type} {C : Cx} {k : Nat} {ρ : Store} {tgt iter : Expr} {body ss : List Stmt} {pos : Pos} {out : Out} {fl : Bool} (l : List α) (P : Nat → Store → Prop) (f : α → D) (hi : EvI C k ρ iter (l.map f) fl) (h0 : P 0 ρ)
    (step : ∀ i a ρ, l[i]? = some a → P i ρ → ∃ ρ1 ρ2, Tgt tgt (f a) ρ ρ1 ∧ EvS C k ρ1 body (.next ρ2) ∧ P (i + 1) ρ2) (rest : ∀ ρ', P l.length ρ' → EvS C k ρ' ss out)
    (hs : ∀ env x, foldedSetIterable iter env x = pure x := by intro _ _; rfl) (hfl : fl = true ∨ isTupE tgt = true := by first | exact .inl rfl | exact .inr rfl) : EvS C k ρ (.For tgt iter body [] pos :: ss) out := by
  obtain ⟨ρ', hp, L⟩ := LoopS.invL l P f step h0
  exact EvS.cons (Ev1.for hi L hs hfl) (rest ρ' hp)
theorem ranged01 (n : Nat) : ranged 0 1 n = (List.range n).map fun i : Nat => D.int (i : Int) := by
  unfold ranged
  apply List.map_congr_left
  intro i _
  simp
theorem EvI.rangeI {C : Cx} {k : Nat} {ρ : Store} {x : Str} {p pos : Pos} {e : Expr} {n : Nat} {i : Int} (hx : (x, LV.bi (.type "range")) ∈ ρ) (ha : EvEs C k ρ [e] [.int i]) (h : i = (n : Int)) (hn : n < 2 ^ 40) (hd : (x == ("__debug__" : Str)) = false := by decide) :
    EvI C k ρ (.Call (.Name x p) [e] [] pos) ((List.range n).map fun i : Nat => D.int (i : Int)) true := by
  subst h
  rw [← ranged01]
  exact EvI.range1 hx ha hn hd
theorem EvS.forN {C : Cx} {k : Nat} {ρ : Store} {tgt iter : Expr} {body ss : List Stmt} {pos : Pos} {out : Out} (n : Nat) (P : Nat → Store → Prop) (hi : EvI C k ρ iter ((List.range n).map fun i : Nat => D.int (i : Int)) true) (h0 : P 0 ρ)
    (step : ∀ (i : Nat) ρ, i < n → P i ρ → ∃ ρ1 ρ2, Tgt tgt (.int (i : Int)) ρ ρ1 ∧ EvS C k ρ1 body (.next ρ2) ∧ P (i + 1) ρ2) (rest : ∀ ρ', P n ρ' → EvS C k ρ' ss out)
    (hs : ∀ env x, foldedSetIterable iter env x = pure x := by intro _ _; rfl) : EvS C k ρ (.For tgt iter body [] pos :: ss) out := by
  obtain ⟨ρ', hp, L⟩ := LoopS.inv (n := n) P (fun i => D.int (i : Int)) step h0
  exact EvS.cons (Ev1.for hi L hs (.inl rfl)) (rest ρ' hp)
end Mine
-- part Def2
open PySem
set_option Elab.async false
set_option linter.unusedVariables false
set_option linter.unusedSimpArgs false
set_option maxRecDepth 100000
namespace Mine
variable {C : Cx}

/-- is_HDN of a text that is no number, neither begins nor ends with a dot -/
theorem fn_isHDN (E : Env0 C) (k : Nat) {x : Str} (hx : noIp x = true) (hs : x.length ≤ 1000) {c0 c1 : Nat} (he : (x == ("" : Str)) = false) (h0 : (seqIndex? 0 x.length).bind (x.cps[·]?) = some c0) (h1 : (seqIndex? (-1) x.length).bind (x.cps[·]?) = some c1)
    (n0 : ((⟨#[c0]⟩ : Str) == ".") = false) (n1 : ((⟨#[c1]⟩ : Str) == ".") = false) : FnOK C (k + 1) "is_HDN" [.str x] (.bool true) := by
  refine fn_intro (ps := ["text"]) (out := .ret (.bool true)) (E.hd 3 (by decide) rfl) (fun pm cd doc vs h => by obtain ⟨a0, rfl⟩ := len_1 h; rfl) (by decide) (by decide) rfl
    (.par rfl (.gl rfl E.glr (.nil)))
    (by show (["text", "IPV4_RE"] : List Str).Nodup; decide) rfl rfl rfl ?_ (.inl rfl)
  refine EvS.ifr (EvT.val (EvE.search (EvE.gname (.tail _ (.head _))) (EvE.name (.head _)) E.reK hx hs) .none) (fun h => by cases h) fun _ => ?_
  refine EvS.ifr (EvT.cmp (EvE.name (.head _)) EvE.cstr .eqS) (fun h => by rw [he] at h; cases h) fun _ => ?_
  refine EvS.ifr (EvT.or (EvOr.cons (EvT.cmp (EvE.itemS (EvE.name (.head _)) EvE.cint h0 (by first | decide | lia | rfl | with_reducible assumption | exact Nat.le_of_ble_eq_true rfl | (have hsl : sizeLine = 2 ^ 24 := rfl; lia) | (have hsl : sizeLine = 2 ^ 24 := rfl; simp only [List.length_map, List.length_append, List.length_cons, List.length_nil, List.length_take, List.length_range, List.length_reverse]; lia))) EvE.cstr .eqS) fun _ => (EvOr.cons (EvT.cmp (EvE.itemS (EvE.name (.head _)) (EvE.neg EvE.cint) h1 (by first | decide | lia | rfl | with_reducible assumption | exact Nat.le_of_ble_eq_true rfl | (have hsl : sizeLine = 2 ^ 24 := rfl; lia) | (have hsl : sizeLine = 2 ^ 24 := rfl; simp only [List.length_map, List.length_append, List.length_cons, List.length_nil, List.length_take, List.length_range, List.length_reverse]; lia))) EvE.cstr .eqS) fun _ => EvOr.nil))) (fun h => ?_) fun _ => ?_
  · simp only [n0, n1, Bool.or_false, Bool.false_or] at h; (first | cases h using Rp.intE | cases h using Rp.strE | cases h using Rp.boolE | cases h using RpAll.nilE | cases h)
  · exact EvS.one (Ev1.ret EvE.cbool)

theorem fn_liberal (E : Env0 C) (k : Nat) {x : Str} (hx : noIp x = true) (hs : x.length ≤ 1000) : FnOK C (k + 1) "liberal_is_HDN" [.str x] (.bool true) := by
  refine fn_intro (ps := ["text"]) (out := .ret (.bool true)) (E.hd 4 (by decide) rfl) (fun pm cd doc vs h => by obtain ⟨a0, rfl⟩ := len_1 h; rfl) (by decide) (by decide) rfl
    (.par rfl (.gl rfl E.glr (.nil)))
    (by show (["text", "IPV4_RE"] : List Str).Nodup; decide) rfl rfl rfl ?_ (.inl rfl)
  refine EvS.ifr (EvT.val (EvE.search (EvE.gname (.tail _ (.head _))) (EvE.name (.head _)) E.reK hx hs) .none) (fun h => by cases h) fun _ => ?_
  exact EvS.one (Ev1.ret EvE.cbool)

def udm (a b : Str) : Bool := (Txt.startswith b "." && Txt.endswith a b) || (!Txt.startswith b "." && a == b)
theorem fn_udm (E : Env0 C) (k : Nat) {x y : Str} (hx : x.length ≤ 1000) (hy : y.length ≤ 1000) (ha : noIp (Txt.lower x) = true) (hb : noIp (Txt.lower y) = true) (hsa : (Txt.lower x).length ≤ 1000) (hsb : (Txt.lower y).length ≤ 1000) :
    FnOK C (k + 2) "user_domain_match" [.str x, .str y] (.bool (udm (Txt.lower x) (Txt.lower y))) := by
  refine fn_intro (ps := ["A", "B"]) (out := .ret (.bool (udm (Txt.lower x) (Txt.lower y)))) (E.hd 5 (by decide) rfl) (fun pm cd doc vs h => by obtain ⟨a0, a1, rfl⟩ := len_2 h; rfl) (by decide) (by decide) rfl
    (.par rfl (.par rfl (.loc rfl (.gl rfl (E.gld 4 (by decide) (f := "liberal_is_HDN") rfl) (.nil)))))
    (by show (["A", "B", "initial_dot", "liberal_is_HDN"] : List Str).Nodup; decide) rfl rfl rfl ?_ (.inl rfl)
  refine EvS.cons (Ev1.assign (EvE.lower (EvE.name (.head _)) (by lia)) (.here)) ?_
  refine EvS.cons (Ev1.assign (EvE.lower (EvE.name (.tail _ (.head _))) (by lia)) (.there (.here))) ?_
  refine EvS.ifr (EvT.not (EvT.and (EvAnd.cons (EvT.val (EvE.call (EvE.gname (.tail _ (.tail _ (.tail _ (.head _))))) (.cons (EvE.name (.head _)) .nil) (fn_liberal E k ha hsa) ⟨_, E.hd 4 (by decide) rfl⟩) .bool) fun _ => (EvAnd.cons (EvT.val (EvE.call (EvE.gname (.tail _ (.tail _ (.tail _ (.head _))))) (.cons (EvE.name (.tail _ (.head _))) .nil) (fn_liberal E k hb hsb) ⟨_, E.hd 4 (by decide) rfl⟩) .bool) fun _ => EvAnd.nil)))) (fun h => by cases h) fun _ => ?_
  refine EvS.cons (Ev1.assign (EvE.starts (EvE.name (.tail _ (.head _))) EvE.cstr) (.there (.there (.here)))) ?_
  refine EvS.ifr (EvT.and (EvAnd.cons (EvT.val (EvE.name (.tail _ (.tail _ (.head _)))) .bool) fun _ => (EvAnd.cons (EvT.val (EvE.ends (EvE.name (.head _)) (EvE.name (.tail _ (.head _)))) .bool) fun _ => EvAnd.nil))) (fun h => ?_) fun h1 => ?_
  · have : udm (Txt.lower x) (Txt.lower y) = true := by unfold udm; simp only [Bool.and_true] at h; rw [h]; rfl
    rw [this]
    exact EvS.one (Ev1.ret EvE.cbool)
  · refine EvS.ifr (EvT.and (EvAnd.cons (EvT.not (EvT.val (EvE.name (.tail _ (.tail _ (.head _)))) .bool)) fun _ => (EvAnd.cons (EvT.cmp (EvE.name (.head _)) (EvE.name (.tail _ (.head _))) .eqS) fun _ => EvAnd.nil))) (fun h => ?_) fun h2 => ?_
    · have : udm (Txt.lower x) (Txt.lower y) = true := by unfold udm; simp only [Bool.and_true] at h; rw [h, Bool.or_true]
      rw [this]
      exact EvS.one (Ev1.ret EvE.cbool)
    · have : udm (Txt.lower x) (Txt.lower y) = false := by unfold udm; simp only [Bool.and_true] at h1 h2; rw [h1, h2]; rfl
      rw [this]
      exact EvS.one (Ev1.ret EvE.cbool)

/-- what reach says of a host name that is no number: '.' and what follows the first dot -/
def reachOf (x : Str) : Str :=
  if Txt.find x "." ≥ 0 then
    let b := Txt.slice x (some (Txt.find x "." + 1)) none
    if Txt.find b "." ≥ 0 || b == "local" then "." ++ b else x
  else x
theorem fn_reach (E : Env0 C) (k : Nat) {x : Str} (hn : noIp x = true) (hs : x.length ≤ 1000) {c0 c1 : Nat} (he : (x == ("" : Str)) = false) (h0 : (seqIndex? 0 x.length).bind (x.cps[·]?) = some c0) (h1 : (seqIndex? (-1) x.length).bind (x.cps[·]?) = some c1)
    (n0 : ((⟨#[c0]⟩ : Str) == ".") = false) (n1 : ((⟨#[c1]⟩ : Str) == ".") = false) : FnOK C (k + 2) "reach" [.str x] (.str (reachOf x)) := by
  have hsz : x.length ≤ sizeLine := Nat.le_trans hs (by decide)
  have hsl : (Txt.slice x (some (Txt.find x "." + 1)) none).length ≤ 1000 := Nat.le_trans (Txt.slice_le x _ _) hs
  refine fn_intro (ps := ["h"]) (out := .ret (.str (reachOf x))) (E.hd 6 (by decide) rfl) (fun pm cd doc vs h => by obtain ⟨a0, rfl⟩ := len_1 h; rfl) (by decide) (by decide) rfl
    (.par rfl (.loc rfl (.loc rfl (.gl rfl (E.gld 3 (by decide) (f := "is_HDN") rfl) (.nil)))))
    (by show (["h", "i", "b", "is_HDN"] : List Str).Nodup; decide) rfl rfl rfl ?_ (.inl rfl)
  refine EvS.cons (Ev1.assign (EvE.find (EvE.name (.head _)) EvE.cstr) (.there (.here))) ?_
  refine EvS.if3 (EvT.cmp (EvE.name (.tail _ (.head _))) EvE.cint .ge) (fun h => ?_) fun h => ?_
  · simp only [decide_eq_true_eq] at h
    cases h2 : (decide (Txt.find (Txt.slice x (some (Txt.find x "." + 1)) none) "." ≥ 0) || (Txt.slice x (some (Txt.find x "." + 1)) none == "local"))
    · have : reachOf x = x := by
        unfold reachOf
        rw [if_pos h]
        exact if_neg (by rw [h2]; decide)
      rw [this]
      refine .inl ⟨_, EvS.cons (Ev1.assign (EvE.ssl (EvE.name (.head _)) (EvE.bin (EvE.name (.tail _ (.head _))) EvE.cint .add) (by first | decide | lia | rfl | with_reducible assumption | exact Nat.le_of_ble_eq_true rfl | (have hsl : sizeLine = 2 ^ 24 := rfl; lia) | (have hsl : sizeLine = 2 ^ 24 := rfl; simp only [List.length_map, List.length_append, List.length_cons, List.length_nil, List.length_take, List.length_range, List.length_reverse]; lia))) (.there (.there (.here)))) (EvS.cons (Ev1.assign (EvE.find (EvE.name (.tail _ (.tail _ (.head _)))) EvE.cstr) (.there (.here))) (EvS.one (Ev1.iff (b := false) (EvT.eq (EvT.and (EvAnd.cons (EvT.val (EvE.call (EvE.gname (.tail _ (.tail _ (.tail _ (.head _))))) (.cons (EvE.name (.head _)) .nil) (fn_isHDN E k hn hs he h0 h1 n0 n1) ⟨_, E.hd 3 (by decide) rfl⟩) .bool) fun _ => (EvAnd.cons (EvT.or (EvOr.cons (EvT.cmp (EvE.name (.tail _ (.head _))) EvE.cint .ge) fun _ => (EvOr.cons (EvT.cmp (EvE.name (.tail _ (.tail _ (.head _)))) EvE.cstr .eqS) fun _ => EvOr.nil))) fun _ => EvAnd.nil))) (by rw [Bool.true_and, Bool.and_true, Bool.or_false]; exact h2)) (fun e => by cases e) fun _ => EvS.nil))), EvS.one (Ev1.ret (EvE.name (.head _)))⟩
    · have : reachOf x = "." ++ Txt.slice x (some (Txt.find x "." + 1)) none := by
        unfold reachOf
        rw [if_pos h]
        exact if_pos h2
      rw [this]
      refine .inr (EvS.cons (Ev1.assign (EvE.ssl (EvE.name (.head _)) (EvE.bin (EvE.name (.tail _ (.head _))) EvE.cint .add) (by first | decide | lia | rfl | with_reducible assumption | exact Nat.le_of_ble_eq_true rfl | (have hsl : sizeLine = 2 ^ 24 := rfl; lia) | (have hsl : sizeLine = 2 ^ 24 := rfl; simp only [List.length_map, List.length_append, List.length_cons, List.length_nil, List.length_take, List.length_range, List.length_reverse]; lia))) (.there (.there (.here)))) (EvS.cons (Ev1.assign (EvE.find (EvE.name (.tail _ (.tail _ (.head _)))) EvE.cstr) (.there (.here))) (EvS.one (Ev1.iff (b := true) (EvT.eq (EvT.and (EvAnd.cons (EvT.val (EvE.call (EvE.gname (.tail _ (.tail _ (.tail _ (.head _))))) (.cons (EvE.name (.head _)) .nil) (fn_isHDN E k hn hs he h0 h1 n0 n1) ⟨_, E.hd 3 (by decide) rfl⟩) .bool) fun _ => (EvAnd.cons (EvT.or (EvOr.cons (EvT.cmp (EvE.name (.tail _ (.head _))) EvE.cint .ge) fun _ => (EvOr.cons (EvT.cmp (EvE.name (.tail _ (.tail _ (.head _)))) EvE.cstr .eqS) fun _ => EvOr.nil))) fun _ => EvAnd.nil))) (by rw [Bool.true_and, Bool.and_true, Bool.or_false]; exact h2)) (fun _ => EvS.one (Ev1.ret (EvE.bin EvE.cstr (EvE.name (.tail _ (.tail _ (.head _)))) (.addS (by have : sizeLine = 2 ^ 24 := rfl; have : (Str.ofString ".").length = 1 := rfl; lia))))) fun e => by cases e))))
  · have : reachOf x = x := by
      unfold reachOf
      simp only [decide_eq_false_iff_not] at h
      rw [if_neg h]
    rw [this]
    exact EvS.one (Ev1.ret (EvE.name (.head _)))
end Mine
-- part Def3
open PySem
set_option Elab.async false
set_option linter.unusedVariables false
set_option maxRecDepth 100000
namespace Mine
variable {C : Cx}

theorem fit6 {n m : Nat} (h : n ≤ 100000) (hm : m ≤ 6) : n + (n + 1) * m ≤ 16777216 := by
  have : (n + 1) * m ≤ (100000 + 1) * 6 := Nat.mul_le_mul (by lia) hm
  lia
def escAll (l : List (Str × Str)) (x : Str) : Str := l.foldl (fun y p => esc1 p.1 p.2 y) x
def prs_cdata : List (Str × Str) := [("&", "&amp;"), ("<", "&lt;"), (">", "&gt;")]
theorem fn_escape_cdata (E : Env0 C) (k : Nat) {x : Str} (hf : ∀ n, (escAll (prs_cdata.take n) x).length ≤ 100000) : FnOK C (k + 1) "_escape_cdata" [.str x] (.str (escAll prs_cdata x)) := by
  refine fn_intro (ps := ["text"]) (out := .ret (.str (escAll prs_cdata x))) (E.hd 17 (by decide) rfl) (fun pm cd doc vs h => by obtain ⟨a0, rfl⟩ := len_1 h; rfl) (by decide) (by decide) rfl
    (.par rfl (.nil))
    (by show (["text"] : List Str).Nodup; decide) rfl rfl rfl ?_ (.inl rfl)
  exact EvS.one (Ev1.try (EvS.cons (Ev1.esc (.head _) (.here) (by decide) (fit6 (hf 0) (by decide))) (EvS.cons (Ev1.esc (.head _) (.here) (by decide) (fit6 (hf 1) (by decide))) (EvS.cons (Ev1.esc (.head _) (.here) (by decide) (fit6 (hf 2) (by decide))) (EvS.one (Ev1.ret (EvE.name (.head _))))))))
def prs_attrib : List (Str × Str) := [("&", "&amp;"), ("<", "&lt;"), (">", "&gt;"), ("\"", "&quot;"), ("\r", "&#13;"), ("\n", "&#10;"), ("\t", "&#09;")]
theorem fn_escape_attrib (E : Env0 C) (k : Nat) {x : Str} (hf : ∀ n, (escAll (prs_attrib.take n) x).length ≤ 100000) : FnOK C (k + 1) "_escape_attrib" [.str x] (.str (escAll prs_attrib x)) := by
  refine fn_intro (ps := ["text"]) (out := .ret (.str (escAll prs_attrib x))) (E.hd 18 (by decide) rfl) (fun pm cd doc vs h => by obtain ⟨a0, rfl⟩ := len_1 h; rfl) (by decide) (by decide) rfl
    (.par rfl (.nil))
    (by show (["text"] : List Str).Nodup; decide) rfl rfl rfl ?_ (.inl rfl)
  exact EvS.one (Ev1.try (EvS.cons (Ev1.esc (.head _) (.here) (by decide) (fit6 (hf 0) (by decide))) (EvS.cons (Ev1.esc (.head _) (.here) (by decide) (fit6 (hf 1) (by decide))) (EvS.cons (Ev1.esc (.head _) (.here) (by decide) (fit6 (hf 2) (by decide))) (EvS.cons (Ev1.esc (.head _) (.here) (by decide) (fit6 (hf 3) (by decide))) (EvS.cons (Ev1.esc (.head _) (.here) (by decide) (fit6 (hf 4) (by decide))) (EvS.cons (Ev1.esc (.head _) (.here) (by decide) (fit6 (hf 5) (by decide))) (EvS.cons (Ev1.esc (.head _) (.here) (by decide) (fit6 (hf 6) (by decide))) (EvS.one (Ev1.ret (EvE.name (.head _))))))))))))
def prs_attrib_html : List (Str × Str) := [("&", "&amp;"), (">", "&gt;"), ("\"", "&quot;")]
theorem fn_escape_attrib_html (E : Env0 C) (k : Nat) {x : Str} (hf : ∀ n, (escAll (prs_attrib_html.take n) x).length ≤ 100000) : FnOK C (k + 1) "_escape_attrib_html" [.str x] (.str (escAll prs_attrib_html x)) := by
  refine fn_intro (ps := ["text"]) (out := .ret (.str (escAll prs_attrib_html x))) (E.hd 19 (by decide) rfl) (fun pm cd doc vs h => by obtain ⟨a0, rfl⟩ := len_1 h; rfl) (by decide) (by decide) rfl
    (.par rfl (.nil))
    (by show (["text"] : List Str).Nodup; decide) rfl rfl rfl ?_ (.inl rfl)
  exact EvS.one (Ev1.try (EvS.cons (Ev1.esc (.head _) (.here) (by decide) (fit6 (hf 0) (by decide))) (EvS.cons (Ev1.esc (.head _) (.here) (by decide) (fit6 (hf 1) (by decide))) (EvS.cons (Ev1.esc (.head _) (.here) (by decide) (fit6 (hf 2) (by decide))) (EvS.one (Ev1.ret (EvE.name (.head _))))))))
def prs_cdata_c14n : List (Str × Str) := [("&", "&amp;"), ("<", "&lt;"), (">", "&gt;"), ("\r", "&#xD;")]
theorem fn_escape_cdata_c14n (E : Env0 C) (k : Nat) {x : Str} (hf : ∀ n, (escAll (prs_cdata_c14n.take n) x).length ≤ 100000) : FnOK C (k + 1) "_escape_cdata_c14n" [.str x] (.str (escAll prs_cdata_c14n x)) := by
  refine fn_intro (ps := ["text"]) (out := .ret (.str (escAll prs_cdata_c14n x))) (E.hd 20 (by decide) rfl) (fun pm cd doc vs h => by obtain ⟨a0, rfl⟩ := len_1 h; rfl) (by decide) (by decide) rfl
    (.par rfl (.nil))
    (by show (["text"] : List Str).Nodup; decide) rfl rfl rfl ?_ (.inl rfl)
  exact EvS.one (Ev1.try (EvS.cons (Ev1.esc (.head _) (.here) (by decide) (fit6 (hf 0) (by decide))) (EvS.cons (Ev1.esc (.head _) (.here) (by decide) (fit6 (hf 1) (by decide))) (EvS.cons (Ev1.esc (.head _) (.here) (by decide) (fit6 (hf 2) (by decide))) (EvS.cons (Ev1.esc (.head _) (.here) (by decide) (fit6 (hf 3) (by decide))) (EvS.one (Ev1.ret (EvE.name (.head _)))))))))
def prs_attrib_c14n : List (Str × Str) := [("&", "&amp;"), ("<", "&lt;"), ("\"", "&quot;"), ("\t", "&#x9;"), ("\n", "&#xA;"), ("\r", "&#xD;")]
theorem fn_escape_attrib_c14n (E : Env0 C) (k : Nat) {x : Str} (hf : ∀ n, (escAll (prs_attrib_c14n.take n) x).length ≤ 100000) : FnOK C (k + 1) "_escape_attrib_c14n" [.str x] (.str (escAll prs_attrib_c14n x)) := by
  refine fn_intro (ps := ["text"]) (out := .ret (.str (escAll prs_attrib_c14n x))) (E.hd 21 (by decide) rfl) (fun pm cd doc vs h => by obtain ⟨a0, rfl⟩ := len_1 h; rfl) (by decide) (by decide) rfl
    (.par rfl (.nil))
    (by show (["text"] : List Str).Nodup; decide) rfl rfl rfl ?_ (.inl rfl)
  exact EvS.one (Ev1.try (EvS.cons (Ev1.esc (.head _) (.here) (by decide) (fit6 (hf 0) (by decide))) (EvS.cons (Ev1.esc (.head _) (.here) (by decide) (fit6 (hf 1) (by decide))) (EvS.cons (Ev1.esc (.head _) (.here) (by decide) (fit6 (hf 2) (by decide))) (EvS.cons (Ev1.esc (.head _) (.here) (by decide) (fit6 (hf 3) (by decide))) (EvS.cons (Ev1.esc (.head _) (.here) (by decide) (fit6 (hf 4) (by decide))) (EvS.cons (Ev1.esc (.head _) (.here) (by decide) (fit6 (hf 5) (by decide))) (EvS.one (Ev1.ret (EvE.name (.head _)))))))))))

theorem sw2 (env : Env) {x y : Str} {p q tp vp c3 ps : Pos} {kd kv c2 : Nat} {c1 : Const} {f : Expr} {a : List Expr} {kw : List Keyword} (hxy : (x == y) = false) :
    swappedStores [.Tuple [.Name x p, .Name y q] kd tp] (.Tuple [.Constant c1 c2 c3, .Call f a kw ps] kv vp) env = pure none ∨ swappedStores [.Tuple [.Name x p, .Name y q] kd tp] (.Tuple [.Constant c1 c2 c3, .Call f a kw ps] kv vp) env = pure (some [x, y]) := by
  unfold swappedStores
  dsimp only [List.length_cons, List.length_nil, List.any_cons, List.any_nil]
  split
  · exact .inl rfl
  simp only [Bool.or_self, Bool.false_eq_true, if_false]
  split
  · exact .inl rfl
  rename_i hlen
  split
  · exact .inl rfl
  split
  · rename_i h
    exfalso
    have hn : ∀ n, constantsAlone n (.Call f a kw ps) = false := fun n => by cases n <;> rfl
    simp only [List.all_cons, hn, Bool.false_and, Bool.and_false, Bool.false_eq_true] at h
  · refine .inr ?_
    rw [Bool.not_eq_true, Bool.or_eq_false_iff] at hlen
    have h1 := hlen.1
    clear hlen
    rw [List.filterMap_cons, List.filterMap_cons, List.filterMap_nil] at h1 ⊢
    cases h2 : (env.kindOf x == some NameKind.local && p.line == (Option.map (fun x => x.pos.line) [Expr.Name x p, Expr.Name y q].head?).getD 0) with
    | false =>
      dsimp only at h1
      rw [if_neg (by rw [h2]; decide)] at h1
      dsimp only at h1
      split at h1 <;> simp at h1
    | true =>
      cases h3 : (env.kindOf y == some NameKind.local && q.line == (Option.map (fun x => x.pos.line) [Expr.Name x p, Expr.Name y q].head?).getD 0) with
      | false =>
        dsimp only at h1
        rw [if_pos h2, if_neg (by rw [h3]; decide)] at h1
        simp at h1
      | true =>
        dsimp only
        rw [if_pos h2, if_pos h3]

theorem fn_ellipsis (E : Env0 C) (k : Nat) {x y u : Str} (hin : (!(Builtin.Str.occurrences x "..." 0 x.length 1).isEmpty) = true) (hws : x.length ≤ sizeLine)
    (hwp : (Builtin.Str.partsBetween x (Builtin.Str.occurrences x "..." 0 x.length (x.length + 1)) (Str.ofString "...").length).length ≤ sizeLine) (hsp : Txt.split x "..." = [("" : Str), u]) (hu : u.length ≠ 0) (hu2 : u.length ≤ 1000) (hy : y.length ≤ 1000)
    (h3 : Txt.endswith y u = true → u.length ≤ y.length ∧ find3 y "" 0 ((y.length : Int) - u.length) = 0) : FnOK C (k + 1) "_ellipsis_match" [.str x, .str y] (.bool (Txt.endswith y u)) := by
  have e0 : (((Str.ofString "").length : Int) != 0) = false := rfl
  have eu : ((u.length : Int) != 0) = true := by simpa using hu
  refine fn_intro (ps := ["want", "got"]) (out := .ret (.bool (Txt.endswith y u))) (E.hd 9 (by decide) rfl) (fun pm cd doc vs h => by obtain ⟨a0, a1, rfl⟩ := len_2 h; rfl) (by decide) (by decide) rfl
    (.par rfl (.par rfl (.loc rfl (.loc rfl (.loc rfl (.loc rfl (.gl rfl E.gle (.bi rfl (E.bin "len" (.builtin "len") (by simp)) (.nil)))))))))
    (by show (["want", "got", "ws", "startpos", "endpos", "w", "ELLIPSIS_MARKER", "len"] : List Str).Nodup; decide) rfl rfl rfl ?_ (.inl rfl)
  refine EvS.ifr (EvT.eq (EvT.cmp (EvE.gname (memN 6 rfl)) (EvE.name (.head _)) .ninS) (by rw [hin])) (fun h => by cases h) fun _ => ?_
  refine EvS.cons (Ev1.assignF (EvF.split (EvE.name (.head _)) (EvE.gname (memN 6 rfl)) (by decide) hws hwp) (.there (.there (.here)))) ?_
  rw [hsp]
  refine EvS.cons (Ev1.asrt (EvT.cmp (EvE.lenO (memN 7 rfl) (.tail _ (.tail _ (.head _))) (by first | decide | lia | with_reducible assumption | exact Nat.le_of_ble_eq_true rfl | (have hsl : sizeLine = 2 ^ 24 := rfl; simp only [List.length_map, List.length_append, List.length_cons, List.length_nil, List.length_take, List.length_range, List.length_reverse]; lia))) EvE.cint .ge)) ?_
  refine EvS.cons (Ev1.pair (.cons EvE.cint (.cons (EvE.bi (memN 7 rfl) (.cons (EvE.name (.tail _ (.head _))) .nil) (.lenS (by first | decide | lia | with_reducible assumption | exact Nat.le_of_ble_eq_true rfl | (have hsl : sizeLine = 2 ^ 24 := rfl; simp only [List.length_map, List.length_append, List.length_cons, List.length_nil, List.length_take, List.length_range, List.length_reverse]; lia)))) .nil)) (.there (.there (.there (.here)))) (.there (.there (.there (.there (.here))))) (.there (.there (.there (.there (.here))))) (.there (.there (.there (.here)))) (by intro env; exact sw2 env (by decide))) ?_
  refine EvS.cons (Ev1.assign (EvE.item (EvL.own (.tail _ (.tail _ (.head _)))) EvE.cint rfl rfl (by first | decide | lia | with_reducible assumption | exact Nat.le_of_ble_eq_true rfl | (have hsl : sizeLine = 2 ^ 24 := rfl; simp only [List.length_map, List.length_append, List.length_cons, List.length_nil, List.length_take, List.length_range, List.length_reverse]; lia))) (.there (.there (.there (.there (.there (.here))))))) ?_
  refine EvS.cons (Ev1.iff (b := false) (EvT.eq (EvT.val (EvE.name (memN 5 rfl)) (.str (by first | decide | lia | with_reducible assumption | exact Nat.le_of_ble_eq_true rfl | (have hsl : sizeLine = 2 ^ 24 := rfl; simp only [List.length_map, List.length_append, List.length_cons, List.length_nil, List.length_take, List.length_range, List.length_reverse]; lia)))) e0) (fun e => by cases e) fun _ => EvS.nil) ?_
  refine EvS.cons (Ev1.assign (EvE.item (EvL.own (.tail _ (.tail _ (.head _)))) (EvE.neg EvE.cint) rfl rfl (by first | decide | lia | with_reducible assumption | exact Nat.le_of_ble_eq_true rfl | (have hsl : sizeLine = 2 ^ 24 := rfl; simp only [List.length_map, List.length_append, List.length_cons, List.length_nil, List.length_take, List.length_range, List.length_reverse]; lia))) (.there (.there (.there (.there (.there (.here))))))) ?_
  cases he : Txt.endswith y u with
  | false =>
    refine EvS.ret (Ev1.iff (b := true) (EvT.eq (EvT.val (EvE.name (memN 5 rfl)) (.str (by first | decide | lia | with_reducible assumption | exact Nat.le_of_ble_eq_true rfl | (have hsl : sizeLine = 2 ^ 24 := rfl; simp only [List.length_map, List.length_append, List.length_cons, List.length_nil, List.length_take, List.length_range, List.length_reverse]; lia)))) eu) (fun _ => EvS.one (Ev1.iff (b := false) (EvT.eq (EvT.val (EvE.ends (EvE.name (.tail _ (.head _))) (EvE.name (memN 5 rfl))) .bool) he) (fun e => by cases e) fun _ => EvS.one (Ev1.ret EvE.cbool))) fun e => by cases e)
  | true =>
    obtain ⟨h4, h5⟩ := h3 he
    refine EvS.cons (Ev1.iff (b := true) (EvT.eq (EvT.val (EvE.name (memN 5 rfl)) (.str (by first | decide | lia | with_reducible assumption | exact Nat.le_of_ble_eq_true rfl | (have hsl : sizeLine = 2 ^ 24 := rfl; simp only [List.length_map, List.length_append, List.length_cons, List.length_nil, List.length_take, List.length_range, List.length_reverse]; lia)))) eu) (fun _ => EvS.one (Ev1.iff (b := true) (EvT.eq (EvT.val (EvE.ends (EvE.name (.tail _ (.head _))) (EvE.name (memN 5 rfl))) .bool) he) (fun _ => EvS.cons (Ev1.aug (memN 4 rfl) (EvE.bi (memN 7 rfl) (.cons (EvE.name (memN 5 rfl)) .nil) (.lenS (by first | decide | lia | with_reducible assumption | exact Nat.le_of_ble_eq_true rfl | (have hsl : sizeLine = 2 ^ 24 := rfl; simp only [List.length_map, List.length_append, List.length_cons, List.length_nil, List.length_take, List.length_range, List.length_reverse]; lia)))) .sub (.there (.there (.there (.there (.here)))))) (EvS.one (Ev1.delL (.tail _ (.tail _ (.head _))) (EvE.neg EvE.cint) rfl rfl (by exact Nat.le_of_ble_eq_true rfl) (.there (.there (.here)))))) fun e => by cases e)) fun e => by cases e) ?_
    refine EvS.ifr (EvT.eq (b' := false) (EvT.cmp (EvE.name (.tail _ (.tail _ (.tail _ (.head _))))) (EvE.name (memN 4 rfl)) .gt) (by simp; lia)) (fun h => by cases h) fun _ => ?_
    refine EvS.freeze (.tail _ (.tail _ (.head _))) (.there (.there (.here))) ?_
    refine EvS.cons (Ev1.for (EvI.lst (EvE.name (.tail _ (.tail _ (.head _))))) (.turn (.name (.there (.there (.there (.there (.there (.here))))))) (EvS.cons (Ev1.assign (EvE.find3 (EvE.name (.tail _ (.head _))) (.cons (EvE.name (memN 5 rfl)) (.cons (EvE.name (.tail _ (.tail _ (.tail _ (.head _))))) (.cons (EvE.name (memN 4 rfl)) .nil)))) (.there (.there (.there (.here))))) (EvS.cons (Ev1.iff (b := false) (EvT.eq (EvT.cmp (EvE.name (.tail _ (.tail _ (.tail _ (.head _))))) EvE.cint .lt) (by rw [h5]; rfl)) (fun e => by cases e) fun _ => EvS.nil) (EvS.one (Ev1.aug (.tail _ (.tail _ (.tail _ (.head _)))) (EvE.bi (memN 7 rfl) (.cons (EvE.name (memN 5 rfl)) .nil) (.lenS (by first | decide | lia | with_reducible assumption | exact Nat.le_of_ble_eq_true rfl | (have hsl : sizeLine = 2 ^ 24 := rfl; simp only [List.length_map, List.length_append, List.length_cons, List.length_nil, List.length_take, List.length_range, List.length_reverse]; lia)))) .add (.there (.there (.there (.here)))))))) .done)) ?_
    exact EvS.one (Ev1.ret EvE.cbool)
end Mine
-- part Def4
open PySem
set_option Elab.async false
set_option linter.unusedVariables false
set_option maxRecDepth 100000
namespace Mine
variable {C : Cx}

def selD (sel : List (Int × Int)) : D := .list (sel.map fun p => .tup [.int p.1, .int p.2])
def cmpOf (l r : List Int) : List (Int × Int) → Int
  | [] => 0
  | (i, d) :: rest => if l.getD i.toNat 0 < r.getD i.toNat 0 then -d else if l.getD i.toNat 0 > r.getD i.toNat 0 then d else cmpOf l r rest
theorem getD_some {l : List Int} {i : Int} (h0 : 0 ≤ i) (h : i < (l.map D.int).length) : (l.map D.int)[i.toNat]? = some (D.int (l.getD i.toNat 0)) := by
  simp at h
  have : i.toNat < l.length := by lia
  rw [List.getElem?_map, List.getElem?_eq_getElem this, List.getD_eq_getElem?_getD, List.getElem?_eq_getElem this]; rfl
theorem cmp_loop (k : Nat) {tgt : Expr} {body : List Stmt} {p1 : Pos} {orelse : List Stmt} {it : Expr} {rest : List Stmt} (hb : r_cmp.body = .For tgt it body orelse p1 :: rest) (l r : List Int) (sel0 : List (Int × Int)) : ∀ (sel : List (Int × Int)) (a b c d : LV), a.slot = true → b.slot = true → c.slot = true → d.slot = true → (∀ q ∈ sel, 0 ≤ q.1 ∧ q.1 < l.length ∧ q.1 < r.length ∧ q.1 < 2 ^ 40) →
    (cmpOf l r sel = 0 ∧ ∃ a' b' c' d', LoopS C k tgt body (sel.map fun p => .tup [.int p.1, .int p.2]) ([(("self" : Str), .dat (.inst (selD sel0))), (("left" : Str), .dat (lI l)), (("right" : Str), .dat (lI r)), (("index" : Str), a), (("direction" : Str), b), (("l" : Str), c), (("r" : Str), d)] : Store) (.next ([(("self" : Str), .dat (.inst (selD sel0))), (("left" : Str), .dat (lI l)), (("right" : Str), .dat (lI r)), (("index" : Str), a'), (("direction" : Str), b'), (("l" : Str), c'), (("r" : Str), d')] : Store))) ∨ LoopS C k tgt body (sel.map fun p => .tup [.int p.1, .int p.2]) ([(("self" : Str), .dat (.inst (selD sel0))), (("left" : Str), .dat (lI l)), (("right" : Str), .dat (lI r)), (("index" : Str), a), (("direction" : Str), b), (("l" : Str), c), (("r" : Str), d)] : Store) (.ret (.int (cmpOf l r sel)))
  | [], a, b, c, d, ha, hb1, hc, hd, h => .inl ⟨rfl, a, b, c, d, .done⟩
  | (i, v) :: sel, a, b, c, d, ha, hb1, hc, hd, h => by
    cases hb
    obtain ⟨h0, h1, h2, h3⟩ := h (i, v) (.head _)
    replace h1 : i < (l.map D.int).length := by simpa using h1
    replace h2 : i < (r.map D.int).length := by simpa using h2
    have hh : -(2 ^ 63) ≤ i ∧ i < 2 ^ 63 := ⟨by lia, by lia⟩
    by_cases c1 : l.getD i.toNat 0 < r.getD i.toNat 0
    · refine .inr (.ret (.two (.there (.there (.there (.here)))) (.there (.there (.there (.there (.here)))))) (EvS.cons (Ev1.assign (EvE.item (EvE.name (.tail _ (.head _))).evL (EvE.name (.tail _ (.tail _ (.tail _ (.head _))))) (sIdx h0 h1) (getD_some h0 h1) (by first | with_reducible assumption | decide | lia | exact Nat.le_of_ble_eq_true rfl | (have hsl : sizeLine = 2 ^ 24 := rfl; simp only [List.length_map, List.length_append, List.length_cons, List.length_nil, List.length_take, List.length_range, List.length_reverse]; lia))) (.there (.there (.there (.there (.there (.here))))))) (EvS.cons (Ev1.assign (EvE.item (EvE.name (.tail _ (.tail _ (.head _)))).evL (EvE.name (.tail _ (.tail _ (.tail _ (.head _))))) (sIdx h0 h2) (getD_some h0 h2) (by first | with_reducible assumption | decide | lia | exact Nat.le_of_ble_eq_true rfl | (have hsl : sizeLine = 2 ^ 24 := rfl; simp only [List.length_map, List.length_append, List.length_cons, List.length_nil, List.length_take, List.length_range, List.length_reverse]; lia))) (.there (.there (.there (.there (.there (.there (.here)))))))) ?_)))
      rw [show cmpOf l r ((i, v) :: sel) = -v by unfold cmpOf; rw [if_pos c1]]
      exact EvS.ifr (b := true) (EvT.eq (EvT.cmp (EvE.name (memN 5 rfl)) (EvE.name (memN 6 rfl)) .lt) (by simpa using c1)) (fun _ => EvS.one (Ev1.ret (EvE.neg (EvE.name (memN 4 rfl))))) fun e => by cases e
    · by_cases c2 : l.getD i.toNat 0 > r.getD i.toNat 0
      · refine .inr (.ret (.two (.there (.there (.there (.here)))) (.there (.there (.there (.there (.here)))))) (EvS.cons (Ev1.assign (EvE.item (EvE.name (.tail _ (.head _))).evL (EvE.name (.tail _ (.tail _ (.tail _ (.head _))))) (sIdx h0 h1) (getD_some h0 h1) (by first | with_reducible assumption | decide | lia | exact Nat.le_of_ble_eq_true rfl | (have hsl : sizeLine = 2 ^ 24 := rfl; simp only [List.length_map, List.length_append, List.length_cons, List.length_nil, List.length_take, List.length_range, List.length_reverse]; lia))) (.there (.there (.there (.there (.there (.here))))))) (EvS.cons (Ev1.assign (EvE.item (EvE.name (.tail _ (.tail _ (.head _)))).evL (EvE.name (.tail _ (.tail _ (.tail _ (.head _))))) (sIdx h0 h2) (getD_some h0 h2) (by first | with_reducible assumption | decide | lia | exact Nat.le_of_ble_eq_true rfl | (have hsl : sizeLine = 2 ^ 24 := rfl; simp only [List.length_map, List.length_append, List.length_cons, List.length_nil, List.length_take, List.length_range, List.length_reverse]; lia))) (.there (.there (.there (.there (.there (.there (.here)))))))) ?_)))
        rw [show cmpOf l r ((i, v) :: sel) = v by unfold cmpOf; rw [if_neg c1, if_pos c2]]
        exact EvS.ifr (b := false) (EvT.eq (EvT.cmp (EvE.name (memN 5 rfl)) (EvE.name (memN 6 rfl)) .lt) (by simpa using c1)) (fun e => by cases e) fun _ => EvS.ret (Ev1.iff (b := true) (EvT.eq (EvT.cmp (EvE.name (memN 5 rfl)) (EvE.name (memN 6 rfl)) .gt) (by simpa using c2)) (fun _ => EvS.one (Ev1.ret (EvE.name (memN 4 rfl)))) fun e => by cases e)
      · rw [show cmpOf l r ((i, v) :: sel) = cmpOf l r sel by conv => lhs; unfold cmpOf; rw [if_neg c1, if_neg c2]]
        rcases cmp_loop k rfl l r sel0 sel (.dat (.int i)) (.dat (.int v)) (.dat (.int (l.getD i.toNat 0))) (.dat (.int (r.getD i.toNat 0))) rfl rfl rfl rfl (fun q hq => h q (.tail _ hq)) with ⟨e, a', b', c', d', L⟩ | L
        · exact .inl ⟨e, a', b', c', d', .turn (.two (.there (.there (.there (.here)))) (.there (.there (.there (.there (.here)))))) (EvS.cons (Ev1.assign (EvE.item (EvE.name (.tail _ (.head _))).evL (EvE.name (.tail _ (.tail _ (.tail _ (.head _))))) (sIdx h0 h1) (getD_some h0 h1) (by first | with_reducible assumption | decide | lia | exact Nat.le_of_ble_eq_true rfl | (have hsl : sizeLine = 2 ^ 24 := rfl; simp only [List.length_map, List.length_append, List.length_cons, List.length_nil, List.length_take, List.length_range, List.length_reverse]; lia))) (.there (.there (.there (.there (.there (.here))))))) (EvS.cons (Ev1.assign (EvE.item (EvE.name (.tail _ (.tail _ (.head _)))).evL (EvE.name (.tail _ (.tail _ (.tail _ (.head _))))) (sIdx h0 h2) (getD_some h0 h2) (by first | with_reducible assumption | decide | lia | exact Nat.le_of_ble_eq_true rfl | (have hsl : sizeLine = 2 ^ 24 := rfl; simp only [List.length_map, List.length_append, List.length_cons, List.length_nil, List.length_take, List.length_range, List.length_reverse]; lia))) (.there (.there (.there (.there (.there (.there (.here)))))))) (EvS.cons (Ev1.iff (b := false) (EvT.eq (EvT.cmp (EvE.name (memN 5 rfl)) (EvE.name (memN 6 rfl)) .lt) (by simpa using c1)) (fun e => by cases e) fun _ => EvS.nil) (EvS.one (Ev1.iff (b := false) (EvT.eq (EvT.cmp (EvE.name (memN 5 rfl)) (EvE.name (memN 6 rfl)) .gt) (by simpa using c2)) (fun e => by cases e) fun _ => EvS.nil))))) L⟩
        · exact .inr (.turn (.two (.there (.there (.there (.here)))) (.there (.there (.there (.there (.here)))))) (EvS.cons (Ev1.assign (EvE.item (EvE.name (.tail _ (.head _))).evL (EvE.name (.tail _ (.tail _ (.tail _ (.head _))))) (sIdx h0 h1) (getD_some h0 h1) (by first | with_reducible assumption | decide | lia | exact Nat.le_of_ble_eq_true rfl | (have hsl : sizeLine = 2 ^ 24 := rfl; simp only [List.length_map, List.length_append, List.length_cons, List.length_nil, List.length_take, List.length_range, List.length_reverse]; lia))) (.there (.there (.there (.there (.there (.here))))))) (EvS.cons (Ev1.assign (EvE.item (EvE.name (.tail _ (.tail _ (.head _)))).evL (EvE.name (.tail _ (.tail _ (.tail _ (.head _))))) (sIdx h0 h2) (getD_some h0 h2) (by first | with_reducible assumption | decide | lia | exact Nat.le_of_ble_eq_true rfl | (have hsl : sizeLine = 2 ^ 24 := rfl; simp only [List.length_map, List.length_append, List.length_cons, List.length_nil, List.length_take, List.length_range, List.length_reverse]; lia))) (.there (.there (.there (.there (.there (.there (.here)))))))) (EvS.cons (Ev1.iff (b := false) (EvT.eq (EvT.cmp (EvE.name (memN 5 rfl)) (EvE.name (memN 6 rfl)) .lt) (by simpa using c1)) (fun e => by cases e) fun _ => EvS.nil) (EvS.one (Ev1.iff (b := false) (EvT.eq (EvT.cmp (EvE.name (memN 5 rfl)) (EvE.name (memN 6 rfl)) .gt) (by simpa using c2)) (fun e => by cases e) fun _ => EvS.nil))))) L)

theorem fn_compare (E : Env0 C) (k : Nat) {l r : List Int} {sel : List (Int × Int)} (h : ∀ q ∈ sel, 0 ≤ q.1 ∧ q.1 < l.length ∧ q.1 < r.length ∧ q.1 < 2 ^ 40) : MethOK C (k + 1) "compare" [.inst (selD sel), lI l, lI r] (.int (cmpOf l r sel)) := by
  refine meth_intro (ps := ["self", "left", "right"]) (out := .ret (.int (cmpOf l r sel))) E.cmpK (fun pm cd doc vs h => by obtain ⟨a0, a1, a2, rfl⟩ := len_3 h; rfl) (by decide) (by decide) rfl
    (.par rfl (.par rfl (.par rfl (.loc rfl (.loc rfl (.loc rfl (.loc rfl (.nil)))))))) (by show (["self", "left", "right", "index", "direction", "l", "r"] : List Str).Nodup; decide) rfl rfl rfl ?_ (.inl rfl)
  rcases cmp_loop (C := C) k rfl l r sel sel .unb .unb .unb .unb rfl rfl rfl rfl h with ⟨e, a', b', c', d', L⟩ | L
  · rw [e]
    exact EvS.cons (Ev1.for (EvI.lst (EvE.attr E.clsK (EvE.name (.head _)))) L) (EvS.one (Ev1.ret EvE.cint))
  · exact EvS.ret (Ev1.for (EvI.lst (EvE.attr E.clsK (EvE.name (.head _)))) L)
end Mine
-- part Def5
open PySem
set_option Elab.async false
set_option linter.unusedVariables false
set_option maxRecDepth 100000
namespace Mine
variable {C : Cx}

theorem fn_count (E : Env0 C) (k : Nat) {ks : List (Str × Int)} : FnOK C (k + 1) "count_calls" [.dic ks] (.int (ks.map (·.2)).sum) := by
  refine fn_intro (ps := ["callers"]) (out := .ret (.int (ks.map (·.2)).sum)) (E.hd 14 (by decide) rfl) (fun pm cd doc vs h => by obtain ⟨a0, rfl⟩ := len_1 h; rfl) (by decide) (by decide) rfl
    (.par rfl (.loc rfl (.loc rfl (.nil))))
    (by show (["callers", "nc", "calls"] : List Str).Nodup; decide) rfl rfl rfl ?_ (.inl rfl)
  refine EvS.cons (Ev1.assign EvE.cint (.there (.here))) ?_
  refine EvS.forL ks (fun i ρ => ∃ c : LV, c.slot = true ∧ ρ = ([(("callers" : Str), .dat (.dic ks)), (("nc" : Str), .dat (.int ((ks.take i).map (·.2)).sum)), (("calls" : Str), c)] : Store)) (fun p => .int p.2) (EvI.values (EvE.name (.head _))) ⟨.unb, rfl, rfl⟩ (fun i a ρ hi hp => ?_) (fun ρ' hp => ?_)
  · obtain ⟨c, hc, rfl⟩ := hp
    refine ⟨_, _, .name (.there (.there (.here))), EvS.one (Ev1.aug (.tail _ (.head _)) (EvE.name (.tail _ (.tail _ (.head _)))) .add (.there (.here))), .dat (.int a.2), rfl, ?_⟩
    rw [List.take_add_one, hi]
    simp
  · obtain ⟨c, hc, rfl⟩ := hp
    rw [List.take_length]
    exact EvS.one (Ev1.ret (EvE.name (.tail _ (.head _))))

def addS (d : List (Str × Int)) (p : Str × Int) : List (Str × Int) := match kget d p.1 with | some a => kput d p.1 (a + p.2) | none => kput d p.1 p.2
def addT (d : List (Str × Int)) (p : Str × Int) : List (Str × Int) := kput d p.1 p.2
def addC (t s : List (Str × Int)) : List (Str × Int) := s.foldl addS (t.foldl addT [])
theorem kput_len (d : List (Str × Int)) (x : Str) (i : Int) : (kput d x i).length ≤ d.length + 1 := by
  unfold kput; split
  · simp
  · simp
theorem addS_len (d : List (Str × Int)) (p : Str × Int) : (addS d p).length ≤ d.length + 1 := by
  unfold addS; split <;> exact kput_len _ _ _
theorem foldT_len : ∀ (l d : List (Str × Int)), (l.foldl addT d).length ≤ d.length + l.length
  | [], d => by simp
  | p :: l, d => by
    have h1 := foldT_len l (addT d p)
    have h2 := kput_len d p.1 p.2
    simp only [List.foldl_cons, List.length_cons]
    unfold addT at *
    lia
theorem foldS_len : ∀ (l d : List (Str × Int)), (l.foldl addS d).length ≤ d.length + l.length
  | [], d => by simp
  | p :: l, d => by
    have h1 := foldS_len l (addS d p)
    have h2 := addS_len d p
    simp only [List.foldl_cons, List.length_cons]
    lia
theorem fold_snoc {α β : Type} (f : β → α → β) (b : β) (l : List α) (i : Nat) (a : α) (h : l[i]? = some a) : (l.take (i + 1)).foldl f b = f ((l.take i).foldl f b) a := by
  rw [List.take_add_one, h, List.foldl_append]; rfl
theorem fn_addC (E : Env0 C) (k : Nat) {t s : List (Str × Int)} (hl : t.length + s.length ≤ 900) : FnOK C (k + 1) "add_callers" [.dic t, .dic s] (.dic (addC t s)) := by
  refine fn_intro (ps := ["target", "source"]) (out := .ret (.dic (addC t s))) (E.hd 13 (by decide) rfl) (fun pm cd doc vs h => by obtain ⟨a0, a1, rfl⟩ := len_2 h; rfl) (by decide) (by decide) rfl
    (.par rfl (.par rfl (.loc rfl (.loc rfl (.loc rfl (.bi rfl (E.bin "isinstance" (.builtin "isinstance") (by simp)) (.bi rfl (E.bin "tuple" (.type "tuple") (by simp)) (.bi rfl (E.bin "zip" (.type "zip") (by simp)) (.nil)))))))))
    (by show (["target", "source", "new_callers", "func", "caller", "isinstance", "tuple", "zip"] : List Str).Nodup; decide) rfl rfl rfl ?_ (.inl rfl)
  refine EvS.cons (Ev1.assignF EvF.dic (.there (.there (.here)))) ?_
  refine EvS.forL t (fun i ρ => ∃ c d : LV, c.slot = true ∧ d.slot = true ∧ ρ = ([(("target" : Str), .dat (.dic t)), (("source" : Str), .dat (.dic s)), (("new_callers" : Str), .own (.dic ((t.take i).foldl addT []))), (("func" : Str), c), (("caller" : Str), d), (("isinstance" : Str), .bi (.builtin "isinstance")), (("tuple" : Str), .bi (.type "tuple")), (("zip" : Str), .bi (.type "zip"))] : Store)) (fun p => .tup [.str p.1, .int p.2]) (EvI.items (EvE.name (.head _))) ⟨.unb, .unb, rfl, rfl, rfl⟩ (fun i a ρ hi hp => ?_) (fun ρ' hp => ?_)
  · obtain ⟨c, d, hc, hd, rfl⟩ := hp
    have hlen : ((t.take i).foldl addT []).length ≤ 1000 := by
      have := foldT_len (t.take i) []
      have h2 : (t.take i).length ≤ t.length := by rw [List.length_take]; lia
      simp at this
      lia
    refine ⟨_, _, .two (.there (.there (.there (.here)))) (.there (.there (.there (.there (.here))))), EvS.one (Ev1.setD (.tail _ (.tail _ (.head _))) (EvE.name (memN 4 rfl)) (EvE.name (.tail _ (.tail _ (.tail _ (.head _))))) (by first | decide | lia | with_reducible assumption | exact Nat.le_of_ble_eq_true rfl | (have hsl : sizeLine = 2 ^ 24 := rfl; simp only [List.length_map, List.length_append, List.length_cons, List.length_nil, List.length_take, List.length_range, List.length_reverse]; lia)) (.there (.there (.here)))), .dat (.str a.1), .dat (.int a.2), rfl, rfl, ?_⟩
    rw [fold_snoc addT [] t i a hi]; rfl
  · obtain ⟨c, d, hc, hd, rfl⟩ := hp
    rw [List.take_length]
    refine EvS.forL s (fun i ρ => ∃ c d : LV, c.slot = true ∧ d.slot = true ∧ ρ = ([(("target" : Str), .dat (.dic t)), (("source" : Str), .dat (.dic s)), (("new_callers" : Str), .own (.dic ((s.take i).foldl addS (t.foldl addT [])))), (("func" : Str), c), (("caller" : Str), d), (("isinstance" : Str), .bi (.builtin "isinstance")), (("tuple" : Str), .bi (.type "tuple")), (("zip" : Str), .bi (.type "zip"))] : Store)) (fun p => .tup [.str p.1, .int p.2]) (EvI.items (EvE.name (.tail _ (.head _)))) ⟨c, d, hc, hd, rfl⟩ (fun i a ρ hi hp => ?_) (fun ρ' hp => ?_)
    · obtain ⟨c, d, hc, hd, rfl⟩ := hp
      have hlen : ((s.take i).foldl addS (t.foldl addT [])).length ≤ 1000 := by
        have := foldS_len (s.take i) (t.foldl addT [])
        have h3 := foldT_len t []
        have h2 : (s.take i).length ≤ s.length := by rw [List.length_take]; lia
        simp at h3
        lia
      rw [fold_snoc addS _ s i a hi]
      generalize (s.take i).foldl addS (t.foldl addT []) = kk at hlen ⊢
      cases hq : kget kk a.1 with
      | none =>
        have e : addS kk a = kput kk a.1 a.2 := by unfold addS; rw [hq]
        rw [e]
        exact ⟨_, _, .two (.there (.there (.there (.here)))) (.there (.there (.there (.there (.here))))), EvS.one (Ev1.iff (b := false) (EvT.eq (EvT.inD (EvE.name (.tail _ (.tail _ (.tail _ (.head _))))) (.tail _ (.tail _ (.head _)))) (by rw [hq]; rfl)) (fun e => by cases e) fun _ => EvS.one (Ev1.setD (.tail _ (.tail _ (.head _))) (EvE.name (memN 4 rfl)) (EvE.name (.tail _ (.tail _ (.tail _ (.head _))))) (by first | decide | lia | with_reducible assumption | exact Nat.le_of_ble_eq_true rfl | (have hsl : sizeLine = 2 ^ 24 := rfl; simp only [List.length_map, List.length_append, List.length_cons, List.length_nil, List.length_take, List.length_range, List.length_reverse]; lia)) (.there (.there (.here))))), .dat (.str a.1), .dat (.int a.2), rfl, rfl, rfl⟩
      | some q =>
        have e : addS kk a = kput kk a.1 (q + a.2) := by unfold addS; rw [hq]
        rw [e]
        exact ⟨_, _, .two (.there (.there (.there (.here)))) (.there (.there (.there (.there (.here))))), EvS.one (Ev1.iff (b := true) (EvT.eq (EvT.inD (EvE.name (.tail _ (.tail _ (.tail _ (.head _))))) (.tail _ (.tail _ (.head _)))) (by rw [hq]; rfl)) (fun _ => EvS.one (Ev1.iff (b := false) (EvT.isTuple (memN 5 rfl) (memN 6 rfl) (EvE.name (memN 4 rfl))) (fun e => by cases e) fun _ => EvS.one (Ev1.augD (.tail _ (.tail _ (.head _))) (EvE.name (.tail _ (.tail _ (.tail _ (.head _))))) (by first | decide | lia | with_reducible assumption | exact Nat.le_of_ble_eq_true rfl | (have hsl : sizeLine = 2 ^ 24 := rfl; simp only [List.length_map, List.length_append, List.length_cons, List.length_nil, List.length_take, List.length_range, List.length_reverse]; lia)) hq (EvE.name (memN 4 rfl)) .add (.there (.there (.here)))))) fun e => by cases e), .dat (.str a.1), .dat (.int a.2), rfl, rfl, rfl⟩
    · obtain ⟨c, d, hc, hd, rfl⟩ := hp
      rw [List.take_length]
      refine EvS.freeze (.tail _ (.tail _ (.head _))) (.there (.there (.here))) ?_
      exact EvS.one (Ev1.ret (EvE.name (.tail _ (.tail _ (.head _)))))

abbrev fiveD (a : Int × Int × Int × Int × List (Str × Int)) : D := .tup [.int a.1, .int a.2.1, .int a.2.2.1, .int a.2.2.2.1, .dic a.2.2.2.2]
def addF (t s : Int × Int × Int × Int × List (Str × Int)) : Int × Int × Int × Int × List (Str × Int) := (s.1 + t.1, s.2.1 + t.2.1, s.2.2.1 + t.2.2.1, s.2.2.2.1 + t.2.2.2.1, addC t.2.2.2.2 s.2.2.2.2)
theorem fn_addF (E : Env0 C) (k : Nat) {t s : Int × Int × Int × Int × List (Str × Int)} (hl : t.2.2.2.2.length + s.2.2.2.2.length ≤ 900) : FnOK C (k + 2) "add_func_stats" [fiveD t, fiveD s] (fiveD (addF t s)) := by
  refine fn_intro (ps := ["target", "source"]) (out := .ret (fiveD (addF t s))) (E.hd 12 (by decide) rfl) (fun pm cd doc vs h => by obtain ⟨a0, a1, rfl⟩ := len_2 h; rfl) (by decide) (by decide) rfl
    (.par rfl (.par rfl (.loc rfl (.loc rfl (.loc rfl (.loc rfl (.loc rfl (.loc rfl (.loc rfl (.loc rfl (.loc rfl (.loc rfl (.gl rfl (E.gld 13 (by decide) (f := "add_callers") rfl) (.nil))))))))))))))
    (by show (["target", "source", "cc", "nc", "tt", "ct", "callers", "t_cc", "t_nc", "t_tt", "t_ct", "t_callers", "add_callers"] : List Str).Nodup; decide) rfl rfl rfl ?_ (.inl rfl)
  refine EvS.cons (Ev1.unpack (EvE.name (.tail _ (.head _))) (.five (.there (.there (.here))) (.there (.there (.there (.here)))) (.there (.there (.there (.there (.here))))) (.there (.there (.there (.there (.there (.here)))))) (.there (.there (.there (.there (.there (.there (.here))))))))) ?_
  refine EvS.cons (Ev1.unpack (EvE.name (.head _)) (.five (.there (.there (.there (.there (.there (.there (.there (.here)))))))) (.there (.there (.there (.there (.there (.there (.there (.there (.here))))))))) (.there (.there (.there (.there (.there (.there (.there (.there (.there (.here)))))))))) (.there (.there (.there (.there (.there (.there (.there (.there (.there (.there (.here))))))))))) (.there (.there (.there (.there (.there (.there (.there (.there (.there (.there (.there (.here)))))))))))))) ?_
  exact EvS.one (Ev1.ret (EvE.tup (.cons (EvE.bin (EvE.name (.tail _ (.tail _ (.head _)))) (EvE.name (memN 7 rfl)) .add) (.cons (EvE.bin (EvE.name (.tail _ (.tail _ (.tail _ (.head _))))) (EvE.name (memN 8 rfl)) .add) (.cons (EvE.bin (EvE.name (memN 4 rfl)) (EvE.name (memN 9 rfl)) .add) (.cons (EvE.bin (EvE.name (memN 5 rfl)) (EvE.name (memN 10 rfl)) .add) (.cons (EvE.call (EvE.gname (memN 12 rfl)) (.cons (EvE.name (memN 11 rfl)) (.cons (EvE.name (memN 6 rfl)) .nil)) (fn_addC E k hl) ⟨_, E.hd 13 (by decide) rfl⟩) .nil))))) (by exact Nat.le_of_ble_eq_true rfl)))
end Mine
-- part Pure1
open PySem
set_option Elab.async false
set_option linter.unusedVariables false
set_option maxRecDepth 100000
namespace Mine

theorem tslice_map {α β : Type} (f : α → β) (lo hi st : Option Int) (xs : List α) : tslice lo hi st (xs.map f) = (tslice lo hi st xs).map f := by
  unfold tslice
  rw [List.length_map, List.map_filterMap]
  congr 1
  funext i
  rw [List.getElem?_map]
theorem lslice_map {α β : Type} (f : α → β) (lo hi st : Option Int) (xs : List α) : lslice lo hi st (xs.map f) = (lslice lo hi st xs).map f := by
  unfold lslice
  rw [List.length_map, List.map_filterMap]
  congr 1
  funext i
  rw [List.getElem?_map]
theorem filterMap_congr' {α β : Type} {f g : α → Option β} : ∀ {l : List α}, (∀ a ∈ l, f a = g a) → l.filterMap f = l.filterMap g
  | [], _ => rfl
  | a :: l, h => by rw [List.filterMap_cons, List.filterMap_cons, h a (.head _), filterMap_congr' fun b hb => h b (.tail _ hb)]
theorem pick_take {α : Type} (xs : List α) : ∀ n, n ≤ xs.length → (List.range n).filterMap (fun j => xs[j]?) = xs.take n := by
  intro n
  induction n with
  | zero => intro _; simp
  | succ n ih => intro h; rw [List.range_succ, List.filterMap_append, ih (by lia), List.take_add_one]; simp [List.getElem?_eq_getElem (show n < xs.length by lia)]
theorem tsl_take {α : Type} (xs : List α) {m : Int} (h : 0 ≤ m) : tslice none (some m) none xs = xs.take m.toNat := by
  unfold tslice tidx
  have e1 : (Builtin.Slice.sliceAdjust none (some m) ((none : Option Int).getD 1) xs.length) = (0, min m xs.length) := by
    unfold Builtin.Slice.sliceAdjust
    have : ¬ m < 0 := by lia
    simp [this]
  rw [e1]
  have e2 : Builtin.Slice.slicePlaces 0 (min m xs.length) ((none : Option Int).getD 1) = (min m.toNat xs.length) := by
    unfold Builtin.Slice.slicePlaces
    simp
    split <;> lia
  rw [e2, List.filterMap_map]
  have e3 : ((fun x => xs[x]?) ∘ fun (j : Nat) => ((0 : Int) + (j : Int) * (none : Option Int).getD 1).toNat) = fun j => xs[j]? := by
    funext j; simp
  rw [e3, pick_take _ _ (Nat.min_le_right _ _)]
  rcases Nat.le_total m.toNat xs.length with h1 | h1
  · rw [Nat.min_eq_left h1]
  · rw [Nat.min_eq_right h1, List.take_length, List.take_of_length_le h1]
theorem tsl_init {α : Type} (xs : List α) : tslice none (some (-1)) none xs = xs.dropLast := by
  unfold tslice tidx
  have e1 : (Builtin.Slice.sliceAdjust none (some (-1)) ((none : Option Int).getD 1) xs.length) = (0, max ((xs.length : Int) - 1) 0) := by
    unfold Builtin.Slice.sliceAdjust
    simp
    lia
  rw [e1]
  have e2 : Builtin.Slice.slicePlaces 0 (max ((xs.length : Int) - 1) 0) ((none : Option Int).getD 1) = xs.length - 1 := by
    unfold Builtin.Slice.slicePlaces
    simp
    split <;> lia
  rw [e2, List.filterMap_map]
  have e3 : ((fun x => xs[x]?) ∘ fun (j : Nat) => ((0 : Int) + (j : Int) * (none : Option Int).getD 1).toNat) = fun j => xs[j]? := by
    funext j; simp
  rw [e3, pick_take _ _ (Nat.sub_le _ _), List.dropLast_eq_take]
theorem pick_rev {α : Type} (xs : List α) : ∀ n, n ≤ xs.length → (List.range n).filterMap (fun j => xs[xs.length - 1 - j]?) = xs.reverse.take n := by
  intro n
  induction n with
  | zero => intro _; simp
  | succ n ih =>
    intro h
    rw [List.range_succ, List.filterMap_append, ih (by lia), List.take_add_one, List.getElem?_reverse (by lia)]
    simp [List.getElem?_eq_getElem (show xs.length - 1 - n < xs.length by lia)]
theorem tsl_rev {α : Type} (xs : List α) : tslice none none (some (-1)) xs = xs.reverse := by
  unfold tslice tidx
  have e1 : (Builtin.Slice.sliceAdjust none none ((some (-1) : Option Int).getD 1) xs.length) = ((xs.length : Int) - 1, -1) := by
    unfold Builtin.Slice.sliceAdjust
    simp
  rw [e1]
  have e2 : Builtin.Slice.slicePlaces ((xs.length : Int) - 1) (-1) ((some (-1) : Option Int).getD 1) = xs.length := by
    unfold Builtin.Slice.slicePlaces
    simp
    split <;> lia
  rw [e2, List.filterMap_map]
  have e3 : (List.range xs.length).filterMap ((fun x => xs[x]?) ∘ fun (j : Nat) => ((xs.length : Int) - 1 + (j : Int) * (some (-1) : Option Int).getD 1).toNat) = (List.range xs.length).filterMap fun j => xs[xs.length - 1 - j]? := by
    apply filterMap_congr'
    intro j hj
    have := List.mem_range.mp hj
    have e : ((xs.length : Int) - 1 + (j : Int) * (some (-1) : Option Int).getD 1).toNat = xs.length - 1 - j := by simp; lia
    show xs[((xs.length : Int) - 1 + (j : Int) * (some (-1) : Option Int).getD 1).toNat]? = _
    rw [e]
  rw [e3, pick_rev _ _ (Nat.le_refl _), ← List.length_reverse, List.take_length]
theorem lsl_take {α : Type} (xs : List α) {m : Nat} (h : m ≤ xs.length) : lslice none (some (m : Int)) none xs = xs.take m := by
  unfold lslice lidx
  have e1 : sliceBounds none (some (m : Int)) none xs.length = (0, (m : Int), 1) := by
    unfold sliceBounds
    have : ¬ (m : Int) < 0 := by lia
    simp [this]
    lia
  rw [e1]
  unfold sliceRange
  have e2 : (if (1 : Int) > 0 then (if (0 : Int) < (m : Int) then ((m : Int) - 0 + 1 - 1) / 1 else 0) else (if (0 : Int) > (m : Int) then (0 - (m : Int) - 1 - 1) / (-1) else 0)).toNat = m := by
    simp
    lia
  dsimp only
  rw [e2, List.filterMap_map]
  have e3 : ((fun x => xs[x]?) ∘ fun (j : Nat) => ((0 : Int) + 1 * (j : Int)).toNat) = fun j => xs[j]? := by
    funext j; simp
  rw [e3, pick_take _ _ h]
theorem lsl_drop {α : Type} (xs : List α) {m : Nat} (h : m ≤ xs.length) : lslice (some (m : Int)) none none xs = xs.drop m := by
  unfold lslice lidx
  have e1 : sliceBounds (some (m : Int)) none none xs.length = ((m : Int), (xs.length : Int), 1) := by
    unfold sliceBounds
    have : ¬ (m : Int) < 0 := by lia
    simp [this]
    lia
  rw [e1]
  unfold sliceRange
  have e2 : (if (1 : Int) > 0 then (if (m : Int) < (xs.length : Int) then ((xs.length : Int) - (m : Int) + 1 - 1) / 1 else 0) else (if (m : Int) > (xs.length : Int) then ((m : Int) - (xs.length : Int) - 1 - 1) / (-1) else 0)).toNat = xs.length - m := by
    simp
    lia
  dsimp only
  rw [e2, List.filterMap_map]
  have e3 : ((fun x => xs[x]?) ∘ fun (j : Nat) => ((m : Int) + 1 * (j : Int)).toNat) = fun j => (xs.drop m)[j]? := by
    funext j
    rw [List.getElem?_drop]
    show xs[((m : Int) + 1 * (j : Int)).toNat]? = _
    congr 1
    lia
  rw [e3, pick_take _ _ (by simp)]
  rw [← List.length_drop, List.take_length]

theorem tidx_take {m : Int} (h : 0 ≤ m) (n : Nat) : (tidx none (some m) none n).length ≤ n := by
  unfold tidx
  have e1 : (Builtin.Slice.sliceAdjust none (some m) ((none : Option Int).getD 1) n) = (0, min m n) := by
    unfold Builtin.Slice.sliceAdjust
    have : ¬ m < 0 := by lia
    simp [this]
  rw [e1]
  unfold Builtin.Slice.slicePlaces
  simp
  split <;> lia
theorem tidx_init (n : Nat) : (tidx none (some (-1)) none n).length ≤ n := by
  unfold tidx
  have e1 : (Builtin.Slice.sliceAdjust none (some (-1)) ((none : Option Int).getD 1) n) = (0, max ((n : Int) - 1) 0) := by
    unfold Builtin.Slice.sliceAdjust
    simp
    lia
  rw [e1]
  unfold Builtin.Slice.slicePlaces
  simp
  split <;> lia
theorem tidx_rev (n : Nat) : (tidx none none (some (-1)) n).length ≤ n := by
  unfold tidx
  have e1 : (Builtin.Slice.sliceAdjust none none ((some (-1) : Option Int).getD 1) n) = ((n : Int) - 1, -1) := by
    unfold Builtin.Slice.sliceAdjust
    simp
  rw [e1]
  unfold Builtin.Slice.slicePlaces
  simp
  split <;> lia
variable {C : Cx} {k : Nat} {ρ : Store}
theorem EvE.tslT {value e : Expr} {p pos : Pos} {xs : List Int} {m : Int} (hv : EvE C k ρ value (tI xs)) (he : EvE C k ρ e (.int m)) (h0 : 0 ≤ m) (hn : xs.length ≤ 1000)
    (hsub : ∀ o i : Value, ∃ ops, subscripted (.Slice Option.none (some e) Option.none p) false o i = operate ops (getItem o i) := by intro _ _; exact ⟨_, rfl⟩) :
    EvE C k ρ (.Subscript value (.Slice Option.none (some e) Option.none p) pos) (tI (xs.take m.toNat)) := by
  have := EvE.tsl (p := p) (pos := pos) hv .none (.some he) .none (by decide) (Nat.le_trans (tidx_take h0 _) (by rw [List.length_map]; have : sizeLine = 2 ^ 24 := rfl; lia)) hsub
  rwa [tslice_map, tsl_take _ h0] at this
theorem EvE.tslI {value e : Expr} {p pos : Pos} {xs : List Int} (hv : EvE C k ρ value (tI xs)) (he : EvE C k ρ e (.int (-1))) (hn : xs.length ≤ 1000)
    (hsub : ∀ o i : Value, ∃ ops, subscripted (.Slice Option.none (some e) Option.none p) false o i = operate ops (getItem o i) := by intro _ _; exact ⟨_, rfl⟩) :
    EvE C k ρ (.Subscript value (.Slice Option.none (some e) Option.none p) pos) (tI xs.dropLast) := by
  have := EvE.tsl (p := p) (pos := pos) hv .none (.some he) .none (by decide) (Nat.le_trans (tidx_init _) (by rw [List.length_map]; have : sizeLine = 2 ^ 24 := rfl; lia)) hsub
  rwa [tslice_map, tsl_init] at this
theorem EvE.tslR {value e : Expr} {p pos : Pos} {xs : List Int} (hv : EvE C k ρ value (tI xs)) (he : EvE C k ρ e (.int (-1))) (hn : xs.length ≤ 1000)
    (hsub : ∀ o i : Value, ∃ ops, subscripted (.Slice Option.none Option.none (some e) p) false o i = operate ops (getItem o i) := by intro _ _; exact ⟨_, rfl⟩) :
    EvE C k ρ (.Subscript value (.Slice Option.none Option.none (some e) p) pos) (tI xs.reverse) := by
  have := EvE.tsl (p := p) (pos := pos) hv .none .none (.some he) (by decide) (Nat.le_trans (tidx_rev _) (by rw [List.length_map]; have : sizeLine = 2 ^ 24 := rfl; lia)) hsub
  rwa [tslice_map, tsl_rev] at this
theorem EvE.lslT {α : Type} {g : α → D} {value e : Expr} {p pos : Pos} {xs : List α} {m : Nat} (hv : EvE C k ρ value (.list (xs.map g))) (he : EvE C k ρ e (.int (m : Int))) (hm : m ≤ xs.length) (hn : xs.length ≤ 1000) :
    EvE C k ρ (.Subscript value (.Slice Option.none (some e) Option.none p) pos) (.list ((xs.take m).map g)) := by
  have := EvE.lsl (p := p) (pos := pos) hv .none (.some he) (by rw [List.length_map]; have : sizeLine = 2 ^ 24 := rfl; lia)
  rwa [lslice_map, lsl_take _ hm] at this
theorem EvE.lslD {α : Type} {g : α → D} {value e : Expr} {p pos : Pos} {xs : List α} {m : Nat} (hv : EvE C k ρ value (.list (xs.map g))) (he : EvE C k ρ e (.int (m : Int))) (hm : m ≤ xs.length) (hn : xs.length ≤ 1000) :
    EvE C k ρ (.Subscript value (.Slice (some e) Option.none Option.none p) pos) (.list ((xs.drop m).map g)) := by
  have := EvE.lsl (p := p) (pos := pos) hv (.some he) .none (by rw [List.length_map]; have : sizeLine = 2 ^ 24 := rfl; lia)
  rwa [lslice_map, lsl_drop _ hm] at this
end Mine
-- part Def6
open PySem
set_option Elab.async false
set_option linter.unusedVariables false
set_option maxRecDepth 100000
namespace Mine
variable {C : Cx}

def dstep (script dr : List Int) (i : Nat) : List Int := dr.set ((i : Int).fmod 6).toNat ((dr.getD ((i : Int).fmod 6).toNat 0 + script.getD i 0).fmod 1000000)
def drawsAt (script : List Int) (n : Nat) : List Int := (List.range n).foldl (dstep script) [2, 14, 4, 1, 7, 3]
theorem drawsAt_succ (script : List Int) (n : Nat) : drawsAt script (n + 1) = dstep script (drawsAt script n) n := by
  unfold drawsAt; rw [List.range_succ, List.foldl_append]; rfl
theorem drawsAt_ok (script : List Int) : ∀ n, (drawsAt script n).length = 6 ∧ ∀ d ∈ drawsAt script n, 0 ≤ d ∧ d < 1000000
  | 0 => ⟨rfl, by show ∀ d ∈ ([2, 14, 4, 1, 7, 3] : List Int), _; decide⟩
  | n + 1 => by
    obtain ⟨h1, h2⟩ := drawsAt_ok script n
    rw [drawsAt_succ]
    refine ⟨by unfold dstep; rw [List.length_set]; exact h1, fun d hd => ?_⟩
    unfold dstep at hd
    rcases List.mem_or_eq_of_mem_set hd with h | h
    · exact h2 d h
    · subst h
      exact ⟨Int.fmod_nonneg_of_pos _ (by decide), Int.fmod_lt_of_pos _ (by decide)⟩
def drawsOf (script : List Int) : List Int := drawsAt script (if (script.length : Int) < 24 then script.length else 24)
theorem fn_draws (E : Env0 C) (k : Nat) {script : List Int} (hs : script.length ≤ 63) : FnOK C (k + 1) "_law_draws" [lI script] (lI (drawsOf script)) := by
  refine fn_intro (ps := ["script"]) (out := .ret (lI (drawsOf script))) (E.hd 23 (by decide) rfl) (fun pm cd doc vs h => by obtain ⟨a0, rfl⟩ := len_1 h; rfl) (by decide) (by decide) rfl
    (.par rfl (.loc rfl (.loc rfl (.bi rfl (E.bin "range" (.type "range") (by simp)) (.bi rfl (E.bin "min" (.builtin "min") (by simp)) (.bi rfl (E.bin "len" (.builtin "len") (by simp)) (.nil)))))))
    (by show (["script", "draws", "k", "range", "min", "len"] : List Str).Nodup; decide) rfl rfl rfl ?_ (.inl rfl)
  refine EvS.cons (Ev1.assignF (EvF.lst (.cons EvE.cint (.cons EvE.cint (.cons EvE.cint (.cons EvE.cint (.cons EvE.cint (.cons EvE.cint .nil)))))) (by exact Nat.le_of_ble_eq_true rfl)) (.there (.here))) ?_
  refine EvS.forN (if (script.length : Int) < 24 then script.length else 24) (fun i ρ => ∃ c : LV, c.slot = true ∧ ρ = ([(("script" : Str), .dat (lI script)), (("draws" : Str), .own (lI (drawsAt script i))), (("k" : Str), c), (("range" : Str), .bi (.type "range")), (("min" : Str), .bi (.builtin "min")), (("len" : Str), .bi (.builtin "len"))] : Store)) (EvI.rangeI (.tail _ (.tail _ (.tail _ (.head _)))) (.cons (EvE.bi (.tail _ (.tail _ (.tail _ (.tail _ (.head _))))) (.cons EvE.cint (.cons (EvE.bi (.tail _ (.tail _ (.tail _ (.tail _ (.tail _ (.head _)))))) (.cons (EvE.name (.head _)) .nil) (.lenL (by rw [List.length_map]; lia))) .nil)) .min2) .nil) (by simp only [List.length_map]; split <;> rfl) (by split <;> lia)) ⟨.unb, rfl, rfl⟩ (fun i ρ hi hp => ?_) (fun ρ' hp => ?_)
  · obtain ⟨c, hc, rfl⟩ := hp
    obtain ⟨l1, l2⟩ := drawsAt_ok script i
    have q0 : 0 ≤ (i : Int).fmod 6 := Int.fmod_nonneg_of_pos _ (by decide)
    have q1 : (i : Int).fmod 6 < 6 := Int.fmod_lt_of_pos _ (by decide)
    have hq : (i : Int).fmod 6 < ((drawsAt script i).map D.int).length := by rw [List.length_map, l1]; exact q1
    have hz : ((drawsAt script i).map D.int).length ≤ sizeLine := by rw [List.length_map, l1]; decide
    have hi' : i < script.length := by split at hi <;> lia
    have r0 : (0 : Int) ≤ (i : Int) := by lia
    have hr : (i : Int) < (script.map D.int).length := by rw [List.length_map]; lia
    have rg : -(2 ^ 63) ≤ (i : Int) ∧ (i : Int) < 2 ^ 63 := ⟨by lia, by lia⟩
    have rq : -(2 ^ 63) ≤ (i : Int).fmod 6 ∧ (i : Int).fmod 6 < 2 ^ 63 := ⟨by lia, by lia⟩
    refine ⟨_, _, .name (.there (.there (.here))), EvS.one (Ev1.setL (.tail _ (.head _)) (EvE.bin (EvE.bin (EvE.item (EvL.own (.tail _ (.head _))) (EvE.bin (EvE.name (.tail _ (.tail _ (.head _)))) EvE.cint (.mod (by first | with_reducible assumption | decide | lia | exact Nat.le_of_ble_eq_true rfl | (have hsl : sizeLine = 2 ^ 24 := rfl; simp only [List.length_map, List.length_append, List.length_cons, List.length_nil, List.length_take, List.length_range, List.length_reverse]; lia)))) (sIdx q0 hq) (getD_some q0 hq) (by first | with_reducible assumption | decide | lia | exact Nat.le_of_ble_eq_true rfl | (have hsl : sizeLine = 2 ^ 24 := rfl; simp only [List.length_map, List.length_append, List.length_cons, List.length_nil, List.length_take, List.length_range, List.length_reverse]; lia))) (EvE.item (EvE.name (.head _)).evL (EvE.name (.tail _ (.tail _ (.head _)))) (sIdx r0 hr) (getD_some r0 hr) (by first | with_reducible assumption | decide | lia | exact Nat.le_of_ble_eq_true rfl | (have hsl : sizeLine = 2 ^ 24 := rfl; simp only [List.length_map, List.length_append, List.length_cons, List.length_nil, List.length_take, List.length_range, List.length_reverse]; lia))) .add) EvE.cint (.mod (by first | with_reducible assumption | decide | lia | exact Nat.le_of_ble_eq_true rfl | (have hsl : sizeLine = 2 ^ 24 := rfl; simp only [List.length_map, List.length_append, List.length_cons, List.length_nil, List.length_take, List.length_range, List.length_reverse]; lia)))) (EvE.bin (EvE.name (.tail _ (.tail _ (.head _)))) EvE.cint (.mod (by first | with_reducible assumption | decide | lia | exact Nat.le_of_ble_eq_true rfl | (have hsl : sizeLine = 2 ^ 24 := rfl; simp only [List.length_map, List.length_append, List.length_cons, List.length_nil, List.length_take, List.length_range, List.length_reverse]; lia)))) q0 hq hz (.there (.here))), .dat (.int (i : Int)), rfl, ?_⟩
    rw [drawsAt_succ]
    simp only [dstep, lI, List.map_set, Int.toNat_natCast]
  · obtain ⟨c, hc, rfl⟩ := hp
    refine EvS.freeze (.tail _ (.head _)) (.there (.here)) ?_
    exact EvS.one (Ev1.ret (EvE.name (.tail _ (.head _))))

def pathOf (y : Int) : List Int := [(y.fdiv 3).fmod 2, (y.fdiv 6).fmod 2, (y.fdiv 12).fmod 2].take (1 + y.fmod 3).toNat
theorem fn_path (E : Env0 C) (k : Nat) {y : Int} : FnOK C (k + 1) "_law_path" [.int y] (tI (pathOf y)) := by
  refine fn_intro (ps := ["y"]) (out := .ret (tI (pathOf y))) (E.hd 24 (by decide) rfl) (fun pm cd doc vs h => by obtain ⟨a0, rfl⟩ := len_1 h; rfl) (by decide) (by decide) rfl
    (.par rfl (.nil))
    (by show (["y"] : List Str).Nodup; decide) rfl rfl rfl ?_ (.inl rfl)
  exact EvS.one (Ev1.ret (EvE.tslT (xs := [(y.fdiv 3).fmod 2, (y.fdiv 6).fmod 2, (y.fdiv 12).fmod 2]) (EvE.tup (.cons (EvE.bin (EvE.bin (EvE.name (.head _)) EvE.cint (.fdiv (by first | with_reducible assumption | decide | lia | exact Nat.le_of_ble_eq_true rfl | (have hsl : sizeLine = 2 ^ 24 := rfl; simp only [List.length_map, List.length_append, List.length_cons, List.length_nil, List.length_take, List.length_range, List.length_reverse]; lia)) (by first | with_reducible assumption | decide | lia | exact Nat.le_of_ble_eq_true rfl | (have hsl : sizeLine = 2 ^ 24 := rfl; simp only [List.length_map, List.length_append, List.length_cons, List.length_nil, List.length_take, List.length_range, List.length_reverse]; lia)))) EvE.cint (.mod (by first | with_reducible assumption | decide | lia | exact Nat.le_of_ble_eq_true rfl | (have hsl : sizeLine = 2 ^ 24 := rfl; simp only [List.length_map, List.length_append, List.length_cons, List.length_nil, List.length_take, List.length_range, List.length_reverse]; lia)))) (.cons (EvE.bin (EvE.bin (EvE.name (.head _)) EvE.cint (.fdiv (by first | with_reducible assumption | decide | lia | exact Nat.le_of_ble_eq_true rfl | (have hsl : sizeLine = 2 ^ 24 := rfl; simp only [List.length_map, List.length_append, List.length_cons, List.length_nil, List.length_take, List.length_range, List.length_reverse]; lia)) (by first | with_reducible assumption | decide | lia | exact Nat.le_of_ble_eq_true rfl | (have hsl : sizeLine = 2 ^ 24 := rfl; simp only [List.length_map, List.length_append, List.length_cons, List.length_nil, List.length_take, List.length_range, List.length_reverse]; lia)))) EvE.cint (.mod (by first | with_reducible assumption | decide | lia | exact Nat.le_of_ble_eq_true rfl | (have hsl : sizeLine = 2 ^ 24 := rfl; simp only [List.length_map, List.length_append, List.length_cons, List.length_nil, List.length_take, List.length_range, List.length_reverse]; lia)))) (.cons (EvE.bin (EvE.bin (EvE.name (.head _)) EvE.cint (.fdiv (by first | with_reducible assumption | decide | lia | exact Nat.le_of_ble_eq_true rfl | (have hsl : sizeLine = 2 ^ 24 := rfl; simp only [List.length_map, List.length_append, List.length_cons, List.length_nil, List.length_take, List.length_range, List.length_reverse]; lia)) (by first | with_reducible assumption | decide | lia | exact Nat.le_of_ble_eq_true rfl | (have hsl : sizeLine = 2 ^ 24 := rfl; simp only [List.length_map, List.length_append, List.length_cons, List.length_nil, List.length_take, List.length_range, List.length_reverse]; lia)))) EvE.cint (.mod (by first | with_reducible assumption | decide | lia | exact Nat.le_of_ble_eq_true rfl | (have hsl : sizeLine = 2 ^ 24 := rfl; simp only [List.length_map, List.length_append, List.length_cons, List.length_nil, List.length_take, List.length_range, List.length_reverse]; lia)))) .nil))) (by exact Nat.le_of_ble_eq_true rfl)) (EvE.bin EvE.cint (EvE.bin (EvE.name (.head _)) EvE.cint (.mod (by first | with_reducible assumption | decide | lia | exact Nat.le_of_ble_eq_true rfl | (have hsl : sizeLine = 2 ^ 24 := rfl; simp only [List.length_map, List.length_append, List.length_cons, List.length_nil, List.length_take, List.length_range, List.length_reverse]; lia)))) .add) (by have := Int.fmod_nonneg_of_pos y (show (0 : Int) < 3 by decide); lia) (by show (3 : Nat) ≤ 1000; decide)))
end Mine
-- part Def7
open PySem
set_option Elab.async false
set_option linter.unusedVariables false
set_option maxRecDepth 100000
namespace Mine
variable {C : Cx}

def refTab : List (List Str) := [["&amp;", "&lt;", "&gt;", "\"", "\r", "\n", "\t"], ["&amp;", "&lt;", "&gt;", "\"", "&#xD;", "\n", "\t"], ["&amp;", "&lt;", "&gt;", "&quot;", "&#13;", "&#10;", "&#09;"], ["&amp;", "&lt;", ">", "&quot;", "&#xD;", "&#xA;", "&#x9;"], ["&amp;", "<", "&gt;", "&quot;", "\r", "\n", "\t"]]
def refOf (w c : Nat) : Str := (refTab.getD w []).getD c ""
def allPaths : List (List Int) := [[0], [1], [0, 0], [0, 1], [1, 0], [1, 1], [0, 0, 0], [0, 0, 1], [0, 1, 0], [0, 1, 1], [1, 0, 0], [1, 0, 1], [1, 1, 0], [1, 1, 1]]
def lbl (u : Str) (a : Int) : Str := if a = 0 then "b" else u
def spell (path : List Int) (u : Str) : List Str := path.reverse.map (lbl u) ++ [("local" : Str)]
def spelled (path : List Int) (r : Str) : Str := Txt.join "." (spell path (r ++ "b"))
def sgn (c : Nat) : Str := ⟨#[("&<>\"\r\n\t" : Str).cps.getD c 0]⟩
def escName : Nat → Str
  | 0 => "_escape_cdata" | 1 => "_escape_cdata_c14n" | 2 => "_escape_attrib" | 3 => "_escape_attrib_c14n" | _ => "_escape_attrib_html"
def escPairs : Nat → List (Str × Str)
  | 0 => prs_cdata | 1 => prs_cdata_c14n | 2 => prs_attrib | 3 => prs_attrib_c14n | _ => prs_attrib_html
theorem lab_at {u : Str} {a : Int} (h : a = 0 ∨ a = 1) : seqIndex? a ([D.str "b", D.str u]).length = some a.toNat ∧ ([D.str "b", D.str u])[a.toNat]? = some (D.str (lbl u a)) := by
  rcases h with rfl | rfl <;> exact ⟨rfl, rfl⟩
theorem bit_of {path : List Int} (h : path ∈ allPaths) : ∀ a ∈ path, a = 0 ∨ a = 1 := by
  revert path; decide
theorem len_of {path : List Int} (h : path ∈ allPaths) : 1 ≤ path.length ∧ path.length ≤ 3 := by
  revert path; decide
theorem join_ok : ∀ path ∈ allPaths, ∀ c, c < 7 → (JoinOk "." (spell path (sgn c ++ "b")) = true ∧ ∀ w, w < 5 → JoinOk "." (spell path (refOf w c ++ "b")) = true) := by decide +kernel
theorem join0_ok : ∀ c, c < 7 → ∀ w, w < 5 → JoinOk "." (spell [] (refOf w c ++ "b")) = true := by decide +kernel

theorem ref_row {i : Int} (h : i < ((refTab.map lS).length : Nat)) (h0 : 0 ≤ i) : (refTab.map lS)[i.toNat]? = some (lS (refTab.getD i.toNat [])) := by
  have : i.toNat < refTab.length := by simp at h; lia
  rw [List.getElem?_map, List.getElem?_eq_getElem this, List.getD_eq_getElem?_getD, List.getElem?_eq_getElem this]; rfl
theorem ref_len {i : Int} (h : i < ((refTab.map lS).length : Nat)) (h0 : 0 ≤ i) : ((refTab.getD i.toNat []).map D.str).length = 7 := by
  have h1 : i.toNat < 5 := by have : (refTab.map lS).length = 5 := rfl; lia
  have : ∀ n, n < 5 → ((refTab.getD n []).map D.str).length = 7 := by
    intro n hn
    match n, hn with
    | 0, _ => rfl
    | 1, _ => rfl
    | 2, _ => rfl
    | 3, _ => rfl
    | 4, _ => rfl
  exact this _ h1
theorem ref_at {i j : Int} (h : i < ((refTab.map lS).length : Nat)) (hj : j < 7) (h0 : 0 ≤ i) (h2 : 0 ≤ j) : ((refTab.getD i.toNat []).map D.str)[j.toNat]? = some (D.str (refOf i.toNat j.toNat)) := by
  have hl := ref_len h h0
  rw [List.length_map] at hl
  have : j.toNat < (refTab.getD i.toNat []).length := by lia
  unfold refOf
  generalize refTab.getD i.toNat [] = l at this ⊢
  rw [List.getElem?_map, List.getElem?_eq_getElem this, List.getD_eq_getElem?_getD, List.getElem?_eq_getElem this]; rfl
theorem lt_tab {i : Int} (h : i < 5) : i < ((refTab.map lS).length : Nat) := by
  have : (refTab.map lS).length = 5 := rfl
  lia
theorem mod_rng (t : Int) {m : Int} (hm : 0 < m) (hm2 : m ≤ 1000) : -(2 ^ 63) ≤ t.fmod m ∧ t.fmod m < 2 ^ 63 := by
  have := Int.fmod_nonneg_of_pos t hm
  have := Int.fmod_lt_of_pos t hm
  lia
set_option maxHeartbeats 2000000 in
theorem fn_reference (E : Env0 C) (k : Nat) {t : Int} : FnOK C (k + 1) "_law_reference" [.int t] (.str (refOf ((t.fdiv 7).fmod 5).toNat (t.fmod 7).toNat)) := by
  have w0 : 0 ≤ (t.fdiv 7).fmod 5 := Int.fmod_nonneg_of_pos _ (by decide)
  have w1 := lt_tab (Int.fmod_lt_of_pos (t.fdiv 7) (show (0 : Int) < 5 by decide))
  have c0 : 0 ≤ t.fmod 7 := Int.fmod_nonneg_of_pos _ (by decide)
  have c1 : t.fmod 7 < 7 := Int.fmod_lt_of_pos _ (by decide)
  have rw1 := mod_rng (t.fdiv 7) (m := 5) (by decide) (by decide)
  have rc1 := mod_rng t (m := 7) (by decide) (by decide)
  refine fn_intro (ps := ["total"]) (out := .ret (.str (refOf ((t.fdiv 7).fmod 5).toNat (t.fmod 7).toNat))) (E.hd 26 (by decide) rfl) (fun pm cd doc vs h => by obtain ⟨a0, rfl⟩ := len_1 h; rfl) (by decide) (by decide) rfl
    (.par rfl (.nil))
    (by show (["total"] : List Str).Nodup; decide) rfl rfl rfl ?_ (.inl rfl)
  refine EvS.one ?_
  refine Ev1.ret ?_
  refine EvE.item (ds := (refTab.getD ((t.fdiv 7).fmod 5).toNat []).map D.str) (i := t.fmod 7) (j := (t.fmod 7).toNat) ?_ ?_ ?_ ?_ ?_ ?_
  · refine EvE.evL ?_
    refine EvE.item (ds := refTab.map lS) (i := (t.fdiv 7).fmod 5) (j := ((t.fdiv 7).fmod 5).toNat) ?_ ?_ ?_ ?_ ?_ ?_
    · refine EvE.evL ?_
      refine EvE.eq (d := .list (refTab.map lS)) ?_ ?_
      · refine EvE.lst ?_ ?_
        · exact (.cons (EvE.lst (.cons EvE.cstr (.cons EvE.cstr (.cons EvE.cstr (.cons EvE.cstr (.cons EvE.cstr (.cons EvE.cstr (.cons EvE.cstr .nil))))))) (by exact Nat.le_of_ble_eq_true rfl)) (.cons (EvE.lst (.cons EvE.cstr (.cons EvE.cstr (.cons EvE.cstr (.cons EvE.cstr (.cons EvE.cstr (.cons EvE.cstr (.cons EvE.cstr .nil))))))) (by exact Nat.le_of_ble_eq_true rfl)) (.cons (EvE.lst (.cons EvE.cstr (.cons EvE.cstr (.cons EvE.cstr (.cons EvE.cstr (.cons EvE.cstr (.cons EvE.cstr (.cons EvE.cstr .nil))))))) (by exact Nat.le_of_ble_eq_true rfl)) (.cons (EvE.lst (.cons EvE.cstr (.cons EvE.cstr (.cons EvE.cstr (.cons EvE.cstr (.cons EvE.cstr (.cons EvE.cstr (.cons EvE.cstr .nil))))))) (by exact Nat.le_of_ble_eq_true rfl)) (.cons (EvE.lst (.cons EvE.cstr (.cons EvE.cstr (.cons EvE.cstr (.cons EvE.cstr (.cons EvE.cstr (.cons EvE.cstr (.cons EvE.cstr .nil))))))) (by exact Nat.le_of_ble_eq_true rfl)) .nil)))))
        · exact Nat.le_of_ble_eq_true rfl
      · rfl
    · exact (EvE.bin (EvE.bin (EvE.name (.head _)) EvE.cint (.fdiv (by first | decide | lia | with_reducible assumption | exact Nat.le_of_ble_eq_true rfl | (have hsl : sizeLine = 2 ^ 24 := rfl; simp only [List.length_map, List.length_append, List.length_cons, List.length_nil, List.length_take, List.length_range, List.length_reverse]; lia)) (by first | decide | lia | with_reducible assumption | exact Nat.le_of_ble_eq_true rfl | (have hsl : sizeLine = 2 ^ 24 := rfl; simp only [List.length_map, List.length_append, List.length_cons, List.length_nil, List.length_take, List.length_range, List.length_reverse]; lia)))) EvE.cint (.mod (by first | decide | lia | with_reducible assumption | exact Nat.le_of_ble_eq_true rfl | (have hsl : sizeLine = 2 ^ 24 := rfl; simp only [List.length_map, List.length_append, List.length_cons, List.length_nil, List.length_take, List.length_range, List.length_reverse]; lia))))
    · exact sIdx w0 w1
    · exact ref_row w1 w0
    · exact rw1
    · intro _ _; rfl
  · exact (EvE.bin (EvE.name (.head _)) EvE.cint (.mod (by first | decide | lia | with_reducible assumption | exact Nat.le_of_ble_eq_true rfl | (have hsl : sizeLine = 2 ^ 24 := rfl; simp only [List.length_map, List.length_append, List.length_cons, List.length_nil, List.length_take, List.length_range, List.length_reverse]; lia))))
  · exact sIdx c0 (by rw [ref_len w1 w0]; exact c1)
  · exact ref_at w1 c1 w0 c0
  · exact rc1
  · intro _ _; rfl

theorem fn_spelled (E : Env0 C) (k : Nat) {path : List Int} {r : Str} (hb : ∀ a ∈ path, a = 0 ∨ a = 1) (hl : path.length ≤ 3) (hr : r.length + (Str.ofString "b").length ≤ sizeLine) (hj : JoinOk "." (spell path (r ++ "b")) = true) : FnOK C (k + 1) "_law_spelled" [tI path, .str r] (.str (spelled path r)) := by
  refine fn_intro (ps := ["path", "reference"]) (out := .ret (.str (spelled path r))) (E.hd 27 (by decide) rfl) (fun pm cd doc vs h => by obtain ⟨a0, a1, rfl⟩ := len_2 h; rfl) (by decide) (by decide) rfl
    (.par rfl (.par rfl (.loc rfl (.kn (zs := ["labels"]) (by decide) (.nil)))))
    (by show (["path", "reference", "labels", ""] : List Str).Nodup; decide) rfl rfl rfl ?_ (.inl rfl)
  refine EvS.cons (Ev1.assign (EvE.lst (.cons EvE.cstr (.cons (EvE.bin (EvE.name (.tail _ (.head _))) EvE.cstr (.addS hr)) .nil)) (by exact Nat.le_of_ble_eq_true rfl)) (.there (.there (.here)))) ?_
  have hrg : ∀ a ∈ path, -(2 ^ 63) ≤ a ∧ a < 2 ^ 63 := fun a ha => by rcases hb a ha with rfl | rfl <;> decide
  exact EvS.one (Ev1.ret (EvE.join EvE.cstr (EvE.eq (EvE.bin (EvE.comp (clb := false) (EvI.tup (EvE.tslR (EvE.name (.head _)) (EvE.neg EvE.cint) (by first | decide | lia | with_reducible assumption | exact Nat.le_of_ble_eq_true rfl | (have hsl : sizeLine = 2 ^ 24 := rfl; simp only [List.length_map, List.length_append, List.length_cons, List.length_nil, List.length_take, List.length_range, List.length_reverse]; lia)))) ⟨rfl, by decide, rfl, rfl⟩ (.inr ⟨_, (.tail _ (.tail _ (.tail _ (.head _))))⟩) (by decide) (.skip (.skip (.dat rfl (.skip (.nil))))) (CompL.mapG (G := D.str) fun a ha => (EvE.item (EvE.name (.tail _ (.head _))).evL (EvE.name (.head _)) (lab_at (hb _ (List.mem_reverse.mp ha))).1 (lab_at (hb _ (List.mem_reverse.mp ha))).2 (hrg _ (List.mem_reverse.mp ha)))) (by simp only [List.length_map, List.length_reverse, List.length_range]; have : sizeLine = 2 ^ 24 := rfl; lia)) (EvE.lst (.cons EvE.cstr .nil) (by exact Nat.le_of_ble_eq_true rfl)) (.addL (by simp; have : sizeLine = 2 ^ 24 := rfl; lia))) (show D.list _ = lS (spell path (r ++ "b")) by unfold spell; rw [lS, List.map_append]; rfl)) hj))
end Mine
-- part Def8
open PySem
set_option Elab.async false
set_option linter.unusedVariables false
set_option linter.unusedSimpArgs false
set_option maxRecDepth 100000
namespace Mine
variable {C : Cx}

def textOf (path : List Int) (c : Nat) : Str := Txt.join "." (spell path (sgn c ++ "b"))
def written (path : List Int) (c w : Nat) : Str := escAll (escPairs w) (textOf path c)
theorem sgn_at {i : Int} (h0 : 0 ≤ i) (h1 : i < 7) : (seqIndex? i (Str.ofString "&<>\"\r\n\t").length).bind ((Str.ofString "&<>\"\r\n\t").cps[·]?) = some ((Str.ofString "&<>\"\r\n\t").cps.getD i.toNat 0) := by
  have : (Str.ofString "&<>\"\r\n\t").length = 7 := rfl
  rw [this, sIdx h0 (by lia)]
  have h2 : i.toNat < 7 := by lia
  have : ∀ n, n < 7 → (Str.ofString "&<>\"\r\n\t").cps[n]? = some ((Str.ofString "&<>\"\r\n\t").cps.getD n 0) := by decide +kernel
  exact this _ h2
def escTab : List Str := ["_escape_cdata", "_escape_cdata_c14n", "_escape_attrib", "_escape_attrib_c14n", "_escape_attrib_html"]
theorem esc_at {i : Int} (h0 : 0 ≤ i) (h1 : i < ((escTab.map D.fn).length : Nat)) : (escTab.map D.fn)[i.toNat]? = some (D.fn (escName i.toNat)) := by
  have h2 : i.toNat < 5 := by have : (escTab.map D.fn).length = 5 := rfl; lia
  match i.toNat, h2 with
  | 0, _ => rfl
  | 1, _ => rfl
  | 2, _ => rfl
  | 3, _ => rfl
  | 4, _ => rfl
theorem lt_esc {i : Int} (h : i < 5) : i < ((escTab.map D.fn).length : Nat) := by
  have : (escTab.map D.fn).length = 5 := rfl
  lia
theorem fn_esc (E : Env0 C) (k : Nat) (w : Nat) {x : Str} (hf : ∀ n, (escAll ((escPairs w).take n) x).length ≤ 100000) : FnOK C (k + 1) (escName w) [.str x] (.str (escAll (escPairs w) x)) := by
  match w with
  | 0 => exact fn_escape_cdata E k hf
  | 1 => exact fn_escape_cdata_c14n E k hf
  | 2 => exact fn_escape_attrib E k hf
  | 3 => exact fn_escape_attrib_c14n E k hf
  | _ + 4 => exact fn_escape_attrib_html E k hf
theorem esc_def (E : Env0 C) (w : Nat) : ∃ d, C.defs (escName w) = some d := by
  match w with
  | 0 => exact ⟨_, E.hd 17 (by decide) rfl⟩
  | 1 => exact ⟨_, E.hd 20 (by decide) rfl⟩
  | 2 => exact ⟨_, E.hd 18 (by decide) rfl⟩
  | 3 => exact ⟨_, E.hd 21 (by decide) rfl⟩
  | _ + 4 => exact ⟨_, E.hd 19 (by decide) rfl⟩
theorem fn_written (E : Env0 C) (k : Nat) {path : List Int} {t : Int} (hb : ∀ a ∈ path, a = 0 ∨ a = 1) (hl : path.length ≤ 3) (hj : JoinOk "." (spell path (sgn (t.fmod 7).toNat ++ "b")) = true)
    (hf : ∀ n, (escAll ((escPairs ((t.fdiv 7).fmod 5).toNat).take n) (textOf path (t.fmod 7).toNat)).length ≤ 100000) : FnOK C (k + 2) "_law_written" [tI path, .int t] (.str (written path (t.fmod 7).toNat ((t.fdiv 7).fmod 5).toNat)) := by
  have w0 : 0 ≤ (t.fdiv 7).fmod 5 := Int.fmod_nonneg_of_pos _ (by decide)
  have w1 := lt_esc (Int.fmod_lt_of_pos (t.fdiv 7) (show (0 : Int) < 5 by decide))
  have c0 : 0 ≤ t.fmod 7 := Int.fmod_nonneg_of_pos _ (by decide)
  have c1 : t.fmod 7 < 7 := Int.fmod_lt_of_pos _ (by decide)
  have rw1 := mod_rng (t.fdiv 7) (m := 5) (by decide) (by decide)
  have rc1 := mod_rng t (m := 7) (by decide) (by decide)
  have sb : (sgn (t.fmod 7).toNat).length + (Str.ofString "b").length ≤ sizeLine := by
    have e1 : (sgn (t.fmod 7).toNat).length = 1 := rfl
    have e2 : (Str.ofString "b").length = 1 := rfl
    have : sizeLine = 2 ^ 24 := rfl
    lia
  have hrg : ∀ a ∈ path, -(2 ^ 63) ≤ a ∧ a < 2 ^ 63 := fun a ha => by rcases hb a ha with rfl | rfl <;> decide
  refine fn_intro (ps := ["path", "total"]) (out := .ret (.str (written path (t.fmod 7).toNat ((t.fdiv 7).fmod 5).toNat))) (E.hd 25 (by decide) rfl) (fun pm cd doc vs h => by obtain ⟨a0, a1, rfl⟩ := len_2 h; rfl) (by decide) (by decide) rfl
    (.par rfl (.par rfl (.loc rfl (.loc rfl (.gl rfl (E.gld 17 (by decide) (f := "_escape_cdata") rfl) (.gl rfl (E.gld 20 (by decide) (f := "_escape_cdata_c14n") rfl) (.gl rfl (E.gld 18 (by decide) (f := "_escape_attrib") rfl) (.gl rfl (E.gld 21 (by decide) (f := "_escape_attrib_c14n") rfl) (.gl rfl (E.gld 19 (by decide) (f := "_escape_attrib_html") rfl) (.kn (zs := ["labels"]) (by decide) (.nil)))))))))))
    (by show (["path", "total", "labels", "write", "_escape_cdata", "_escape_cdata_c14n", "_escape_attrib", "_escape_attrib_c14n", "_escape_attrib_html", ""] : List Str).Nodup; decide) rfl rfl rfl ?_ (.inl rfl)
  refine EvS.cons (Ev1.assign (EvE.lst (.cons EvE.cstr (.cons (EvE.bin (EvE.itemS EvE.cstr (EvE.bin (EvE.name (.tail _ (.head _))) EvE.cint (.mod (by first | decide | lia | with_reducible assumption | exact Nat.le_of_ble_eq_true rfl | (have hsl : sizeLine = 2 ^ 24 := rfl; lia) | (have hsl : sizeLine = 2 ^ 24 := rfl; simp only [List.length_map, List.length_append, List.length_cons, List.length_nil, List.length_take, List.length_range, List.length_reverse]; lia)))) (sgn_at c0 c1) rc1) EvE.cstr (.addS sb)) .nil)) (by exact Nat.le_of_ble_eq_true rfl)) (.there (.there (.here)))) ?_
  refine EvS.cons (Ev1.assign (d := .fn (escName ((t.fdiv 7).fmod 5).toNat)) ?_ (.there (.there (.there (.here))))) ?_
  · refine EvE.item (ds := escTab.map D.fn) (i := (t.fdiv 7).fmod 5) (j := ((t.fdiv 7).fmod 5).toNat) ?_ ?_ ?_ ?_ ?_ ?_
    · refine EvE.evL ?_
      refine EvE.eq (d := .list (escTab.map D.fn)) ?_ ?_
      · refine EvE.lst ?_ ?_
        · exact (.cons (EvE.gname (memN 4 rfl)) (.cons (EvE.gname (memN 5 rfl)) (.cons (EvE.gname (memN 6 rfl)) (.cons (EvE.gname (memN 7 rfl)) (.cons (EvE.gname (memN 8 rfl)) .nil)))))
        · exact Nat.le_of_ble_eq_true rfl
      · rfl
    · exact (EvE.bin (EvE.bin (EvE.name (.tail _ (.head _))) EvE.cint (.fdiv (by first | decide | lia | with_reducible assumption | exact Nat.le_of_ble_eq_true rfl | (have hsl : sizeLine = 2 ^ 24 := rfl; lia) | (have hsl : sizeLine = 2 ^ 24 := rfl; simp only [List.length_map, List.length_append, List.length_cons, List.length_nil, List.length_take, List.length_range, List.length_reverse]; lia)) (by first | decide | lia | with_reducible assumption | exact Nat.le_of_ble_eq_true rfl | (have hsl : sizeLine = 2 ^ 24 := rfl; lia) | (have hsl : sizeLine = 2 ^ 24 := rfl; simp only [List.length_map, List.length_append, List.length_cons, List.length_nil, List.length_take, List.length_range, List.length_reverse]; lia)))) EvE.cint (.mod (by first | decide | lia | with_reducible assumption | exact Nat.le_of_ble_eq_true rfl | (have hsl : sizeLine = 2 ^ 24 := rfl; lia) | (have hsl : sizeLine = 2 ^ 24 := rfl; simp only [List.length_map, List.length_append, List.length_cons, List.length_nil, List.length_take, List.length_range, List.length_reverse]; lia))))
    · exact sIdx w0 w1
    · exact esc_at w0 w1
    · exact rw1
    · intro _ _; rfl
  · exact EvS.one (Ev1.ret (EvE.call (EvE.name (.tail _ (.tail _ (.tail _ (.head _))))) (.cons (EvE.join EvE.cstr (EvE.eq (EvE.bin (EvE.comp (clb := false) (EvI.tup (EvE.tslR (EvE.name (.head _)) (EvE.neg EvE.cint) (by first | decide | lia | with_reducible assumption | exact Nat.le_of_ble_eq_true rfl | (have hsl : sizeLine = 2 ^ 24 := rfl; lia) | (have hsl : sizeLine = 2 ^ 24 := rfl; simp only [List.length_map, List.length_append, List.length_cons, List.length_nil, List.length_take, List.length_range, List.length_reverse]; lia)))) ⟨rfl, by decide, rfl, rfl⟩ (.inr ⟨_, (memN 9 rfl)⟩) (by decide) (.skip (.skip (.dat rfl (.skip (.skip (.skip (.skip (.skip (.skip (.skip (.nil))))))))))) (CompL.mapG (G := D.str) fun a ha => (EvE.item (EvE.name (.tail _ (.head _))).evL (EvE.name (.head _)) (lab_at (hb _ (List.mem_reverse.mp ha))).1 (lab_at (hb _ (List.mem_reverse.mp ha))).2 (hrg _ (List.mem_reverse.mp ha)))) (by simp only [List.length_map, List.length_reverse, List.length_range]; have : sizeLine = 2 ^ 24 := rfl; lia)) (EvE.lst (.cons EvE.cstr .nil) (by exact Nat.le_of_ble_eq_true rfl)) (.addL (by simp; have : sizeLine = 2 ^ 24 := rfl; lia))) (show D.list _ = lS (spell path (sgn (t.fmod 7).toNat ++ "b")) by unfold spell; rw [lS, List.map_append]; rfl)) hj) .nil) (fn_esc E k _ hf) (esc_def E _)))

/-- a host that reach climbs -/
def hostOk (x : Str) : Bool := noIp x && decide (x.length ≤ 1000) && !(x == ("" : Str)) && (match (seqIndex? 0 x.length).bind (x.cps[·]?), (seqIndex? (-1) x.length).bind (x.cps[·]?) with
  | some a, some b => !((⟨#[a]⟩ : Str) == ".") && !((⟨#[b]⟩ : Str) == ".")
  | _, _ => false)
theorem hostOk_out {x : Str} (h : hostOk x = true) : ∃ c0 c1, noIp x = true ∧ x.length ≤ 1000 ∧ (x == ("" : Str)) = false ∧ (seqIndex? 0 x.length).bind (x.cps[·]?) = some c0 ∧ (seqIndex? (-1) x.length).bind (x.cps[·]?) = some c1 ∧ ((⟨#[c0]⟩ : Str) == ".") = false ∧ ((⟨#[c1]⟩ : Str) == ".") = false := by
  unfold hostOk at h
  simp only [Bool.and_eq_true, decide_eq_true_eq, Bool.not_eq_true'] at h
  obtain ⟨⟨⟨h1, h2⟩, h3⟩, h4⟩ := h
  split at h4
  · rename_i a b ha hb
    simp only [Bool.and_eq_true, Bool.not_eq_true'] at h4
    exact ⟨a, b, h1, h2, h3, ha, hb, h4.1, h4.2⟩
  · (first | cases h4 using Rp.intE | cases h4 using Rp.strE | cases h4 using Rp.boolE | cases h4 using RpAll.nilE | cases h4)
/-- up the ladder: hosts from the longest to one label below local -/
inductive Ladder : List Str → Prop
  | one {x : Str} (h : hostOk x = true) (hl : (x == ("local" : Str)) = false) (hz : (reachOf x).length ≤ 1000) (hs : Txt.slice (reachOf x) (some 1) none = "local") : Ladder [x]
  | cons {x y : Str} {l : List Str} (h : hostOk x = true) (hl : (x == ("local" : Str)) = false) (hz : (reachOf x).length ≤ 1000) (hs : Txt.slice (reachOf x) (some 1) none = y) (r : Ladder (y :: l)) : Ladder (x :: y :: l)
theorem tst {x : Str} {n : Nat} (h : (x == ("local" : Str)) = false) (hn : n < 5) : ((x != ("local" : Str)) && (decide ((n : Int) < 5) && true)) = true := by
  have : (n : Int) < 5 := by lia
  simp [bne, h, this]
theorem ladder_loop (E : Env0 C) (k : Nat) {test : Expr} {body orelse rest : List Stmt} {p : Pos} {st : Stmt} (hb : (dr 28).body = st :: .While test body orelse p :: rest) : ∀ (l : List Str) (x : Str) (done : List Str), Ladder (x :: l) → done.length + l.length + 1 ≤ 4 →
    ∃ n, LoopW C (k + 2) test body n ([(("host" : Str), .dat (.str x)), (("rungs" : Str), .own (lS done)), (("len" : Str), .bi (.builtin "len")), (("reach" : Str), .gl (.fn "reach"))] : Store) (.next ([(("host" : Str), .dat (.str "local")), (("rungs" : Str), .own (lS (done ++ x :: l))), (("len" : Str), .bi (.builtin "len")), (("reach" : Str), .gl (.fn "reach"))] : Store))
  | [], x, done, L, hd => by
    cases hb
    cases L with
    | one h hl hz hs =>
      obtain ⟨c0, c1, n1, n2, n3, n4, n5, n6, n7⟩ := hostOk_out h
      refine ⟨1, .turn (EvT.eq (EvT.and (EvAnd.cons (EvT.cmp (EvE.name (.head _)) EvE.cstr .neS) fun _ => (EvAnd.cons (EvT.cmp (EvE.lenO (.tail _ (.tail _ (.head _))) (.tail _ (.head _)) (by first | decide | lia | with_reducible assumption | exact Nat.le_of_ble_eq_true rfl | (have hsl : sizeLine = 2 ^ 24 := rfl; lia) | (have hsl : sizeLine = 2 ^ 24 := rfl; simp only [List.length_map, List.length_append, List.length_cons, List.length_nil, List.length_take, List.length_range, List.length_reverse]; lia))) EvE.cint .lt) fun _ => EvAnd.nil))) (tst hl (by simp only [List.length_map]; simp at hd; lia))) (EvS.cons (Ev1.cast (ρ'' := ([(("host" : Str), .dat (.str x)), (("rungs" : Str), .own (lS (done ++ [x]))), (("len" : Str), .bi (.builtin "len")), (("reach" : Str), .gl (.fn "reach"))] : Store)) (Ev1.append (.tail _ (.head _)) (EvE.name (.head _)) (.there (.here)) (by first | decide | lia | with_reducible assumption | exact Nat.le_of_ble_eq_true rfl | (have hsl : sizeLine = 2 ^ 24 := rfl; lia) | (have hsl : sizeLine = 2 ^ 24 := rfl; simp only [List.length_map, List.length_append, List.length_cons, List.length_nil, List.length_take, List.length_range, List.length_reverse]; lia))) (by first | rfl | (simp only [lS, List.map_append, List.map_cons, List.map_nil]))) (EvS.one (Ev1.cast (ρ'' := ([(("host" : Str), .dat (.str "local")), (("rungs" : Str), .own (lS (done ++ [x]))), (("len" : Str), .bi (.builtin "len")), (("reach" : Str), .gl (.fn "reach"))] : Store)) (Ev1.assign (EvE.ssl (EvE.call (EvE.gname (.tail _ (.tail _ (.tail _ (.head _))))) (.cons (EvE.name (.head _)) .nil) (fn_reach E k n1 n2 n3 n4 n5 n6 n7) ⟨_, E.hd 6 (by decide) rfl⟩) EvE.cint (by first | decide | lia | with_reducible assumption | exact Nat.le_of_ble_eq_true rfl | (have hsl : sizeLine = 2 ^ 24 := rfl; lia) | (have hsl : sizeLine = 2 ^ 24 := rfl; simp only [List.length_map, List.length_append, List.length_cons, List.length_nil, List.length_take, List.length_range, List.length_reverse]; lia))) (.here)) (by rw [hs])))) (.done (EvT.eq (EvT.and (EvAnd.cons (EvT.cmp (EvE.name (.head _)) EvE.cstr .neS) fun _ => (EvAnd.cons (EvT.cmp (EvE.lenO (.tail _ (.tail _ (.head _))) (.tail _ (.head _)) (by first | decide | lia | with_reducible assumption | exact Nat.le_of_ble_eq_true rfl | (have hsl : sizeLine = 2 ^ 24 := rfl; lia) | (have hsl : sizeLine = 2 ^ 24 := rfl; simp only [List.length_map, List.length_append, List.length_cons, List.length_nil, List.length_take, List.length_range, List.length_reverse]; lia))) EvE.cint .lt) fun _ => EvAnd.nil))) (by rfl)))⟩
  | y :: l, x, done, L, hd => by
    have hb' := hb
    cases hb
    cases L with
    | cons h hl hz hs r =>
      obtain ⟨c0, c1, n1, n2, n3, n4, n5, n6, n7⟩ := hostOk_out h
      obtain ⟨n, W⟩ := ladder_loop E k hb' l y (done ++ [x]) r (by simp at hd ⊢; lia)
      rw [List.append_assoc] at W
      exact ⟨n + 1, .turn (EvT.eq (EvT.and (EvAnd.cons (EvT.cmp (EvE.name (.head _)) EvE.cstr .neS) fun _ => (EvAnd.cons (EvT.cmp (EvE.lenO (.tail _ (.tail _ (.head _))) (.tail _ (.head _)) (by first | decide | lia | with_reducible assumption | exact Nat.le_of_ble_eq_true rfl | (have hsl : sizeLine = 2 ^ 24 := rfl; lia) | (have hsl : sizeLine = 2 ^ 24 := rfl; simp only [List.length_map, List.length_append, List.length_cons, List.length_nil, List.length_take, List.length_range, List.length_reverse]; lia))) EvE.cint .lt) fun _ => EvAnd.nil))) (tst hl (by simp only [List.length_map]; simp at hd; lia))) (EvS.cons (Ev1.cast (ρ'' := ([(("host" : Str), .dat (.str x)), (("rungs" : Str), .own (lS (done ++ [x]))), (("len" : Str), .bi (.builtin "len")), (("reach" : Str), .gl (.fn "reach"))] : Store)) (Ev1.append (.tail _ (.head _)) (EvE.name (.head _)) (.there (.here)) (by first | decide | lia | with_reducible assumption | exact Nat.le_of_ble_eq_true rfl | (have hsl : sizeLine = 2 ^ 24 := rfl; lia) | (have hsl : sizeLine = 2 ^ 24 := rfl; simp only [List.length_map, List.length_append, List.length_cons, List.length_nil, List.length_take, List.length_range, List.length_reverse]; lia))) (by first | rfl | (simp only [lS, List.map_append, List.map_cons, List.map_nil]))) (EvS.one (Ev1.cast (ρ'' := ([(("host" : Str), .dat (.str y)), (("rungs" : Str), .own (lS (done ++ [x]))), (("len" : Str), .bi (.builtin "len")), (("reach" : Str), .gl (.fn "reach"))] : Store)) (Ev1.assign (EvE.ssl (EvE.call (EvE.gname (.tail _ (.tail _ (.tail _ (.head _))))) (.cons (EvE.name (.head _)) .nil) (fn_reach E k n1 n2 n3 n4 n5 n6 n7) ⟨_, E.hd 6 (by decide) rfl⟩) EvE.cint (by first | decide | lia | with_reducible assumption | exact Nat.le_of_ble_eq_true rfl | (have hsl : sizeLine = 2 ^ 24 := rfl; lia) | (have hsl : sizeLine = 2 ^ 24 := rfl; simp only [List.length_map, List.length_append, List.length_cons, List.length_nil, List.length_take, List.length_range, List.length_reverse]; lia))) (.here)) (by rw [hs])))) W⟩
theorem fn_ladder (E : Env0 C) (k : Nat) {x : Str} {l : List Str} (L : Ladder (x :: l)) (hl : l.length ≤ 3) : FnOK C (k + 3) "_law_ladder" [.str x] (lS (x :: l)) := by
  refine fn_intro (ps := ["host"]) (out := .ret (lS (x :: l))) (E.hd 28 (by decide) rfl) (fun pm cd doc vs h => by obtain ⟨a0, rfl⟩ := len_1 h; rfl) (by decide) (by decide) rfl
    (.par rfl (.loc rfl (.bi rfl (E.bin "len" (.builtin "len") (by simp)) (.gl rfl (E.gld 6 (by decide) (f := "reach") rfl) (.nil)))))
    (by show (["host", "rungs", "len", "reach"] : List Str).Nodup; decide) rfl rfl rfl ?_ (.inl rfl)
  obtain ⟨n, W⟩ := ladder_loop E k rfl l x [] L (by simp; lia)
  refine EvS.cons (Ev1.assignF (EvF.lst .nil (by exact Nat.le_of_ble_eq_true rfl)) (.there (.here))) (EvS.cons (Ev1.while W) ?_)
  refine EvS.freeze (.tail _ (.head _)) (.there (.here)) ?_
  exact EvS.one (Ev1.ret (EvE.name (.tail _ (.head _))))
end Mine
-- part Def9
open PySem
set_option Elab.async false
set_option linter.unusedVariables false
set_option linter.unusedSimpArgs false
set_option maxRecDepth 100000
namespace Mine
variable {C : Cx}

abbrev lB (l : List Bool) : D := .list (l.map D.bool)
theorem gN1 {α : Type} {f : α → D} {l : List α} {i : Nat} (h : i < l.length) : seqIndex? (i : Int) (l.map f).length = some i := by
  rw [sIdx (by lia) (by rw [List.length_map]; lia)]; rfl
theorem gN2 {α : Type} {f : α → D} {l : List α} {i : Nat} (d : α) (h : i < l.length) : (l.map f)[i]? = some (f (l.getD i d)) := by
  rw [List.getElem?_map, List.getElem?_eq_getElem h, List.getD_eq_getElem?_getD, List.getElem?_eq_getElem h]; rfl
theorem EvE.lenDd {k : Nat} {ρ : Store} {f : Str} {p pos : Pos} {e : Expr} {ks : List (Str × Int)} (hx : (f, LV.bi (.builtin "len")) ∈ ρ) (h : EvE C k ρ e (.dic ks)) (hs : ks.length ≤ 1000) (hp : PlainE e := by intro _ _; rfl) (hd : (f == ("__debug__" : Str)) = false := by decide) :
    EvE C k ρ (.Call (.Name f p) [e] [] pos) (.int ks.length) :=
  EvE.lenD hx (fun A env X adr s E R o re => wpAny_mono (h A env X adr s E R o re) (fun v s' q => by
    obtain ⟨hk, r⟩ := q
    cases r using Rp.dicE with
    | dic _ h2 h3 h4 => exact ⟨hk, _, _, rfl, h2, h3, h4⟩) fun _ _ e => e) hs hp hd
def cstep (row other : List Bool) (names : List Str) (weights : List Int) (st : List (Str × Int) × Int × Int) (j : Nat) : List (Str × Int) × Int × Int :=
  if row.getD j false != other.getD j false then (kput st.1 (names.getD j "") 1, if row.getD j false then st.2.1 + weights.getD j 0 else st.2.1, st.2.2 + weights.getD j 0) else st
def cAt (row other : List Bool) (names : List Str) (weights : List Int) (n : Nat) : List (Str × Int) × Int × Int := (List.range n).foldl (cstep row other names weights) ([], 0, 0)
theorem cAt_succ (row other : List Bool) (names : List Str) (weights : List Int) (n : Nat) : cAt row other names weights (n + 1) = cstep row other names weights (cAt row other names weights n) n := by
  unfold cAt; rw [List.range_succ, List.foldl_append]; rfl
theorem cAt_len (row other : List Bool) (names : List Str) (weights : List Int) : ∀ n, (cAt row other names weights n).1.length ≤ n
  | 0 => Nat.le_refl _
  | n + 1 => by
    have ih := cAt_len row other names weights n
    rw [cAt_succ]
    unfold cstep
    split
    · have := kput_len (cAt row other names weights n).1 (names.getD n "") 1
      show (kput _ _ _).length ≤ _
      lia
    · lia
def callOf (row other : List Bool) (names : List Str) (weights : List Int) : Int × Int × Int × Int × List (Str × Int) :=
  (1, ((cAt row other names weights names.length).1.length : Int), (cAt row other names weights names.length).2.1, (cAt row other names weights names.length).2.2, (cAt row other names weights names.length).1)
theorem deqB (a b : Bool) : deq (.bool a) (.bool b) = (a == b) := by cases a <;> cases b <;> rfl
theorem fn_call (E : Env0 C) (k : Nat) {row other : List Bool} {names : List Str} {weights : List Int} (hn : names.length ≤ 400) (hr : row.length = names.length) (ho : other.length = names.length) (hw : weights.length = names.length) :
    FnOK C (k + 1) "_law_call" [lB row, lB other, lS names, lI weights] (fiveD (callOf row other names weights)) := by
  refine fn_intro (ps := ["row", "other", "names", "weights"]) (out := .ret (fiveD (callOf row other names weights))) (E.hd 29 (by decide) rfl) (fun pm cd doc vs h => by obtain ⟨a0, a1, a2, a3, rfl⟩ := len_4 h; rfl) (by decide) (by decide) rfl
    (.par rfl (.par rfl (.par rfl (.par rfl (.loc rfl (.loc rfl (.loc rfl (.loc rfl (.bi rfl (E.bin "range" (.type "range") (by simp)) (.bi rfl (E.bin "len" (.builtin "len") (by simp)) (.nil)))))))))))
    (by show (["row", "other", "names", "weights", "callers", "up", "whole", "j", "range", "len"] : List Str).Nodup; decide) rfl rfl rfl ?_ (.inl rfl)
  refine EvS.cons (Ev1.assignF EvF.dic (.there (.there (.there (.there (.here)))))) (EvS.cons (Ev1.assign EvE.cint (.there (.there (.there (.there (.there (.here))))))) (EvS.cons (Ev1.assign EvE.cint (.there (.there (.there (.there (.there (.there (.here)))))))) ?_))
  refine EvS.forN names.length (fun i ρ => ∃ c : LV, c.slot = true ∧ ρ = ([(("row" : Str), .dat (lB row)), (("other" : Str), .dat (lB other)), (("names" : Str), .dat (lS names)), (("weights" : Str), .dat (lI weights)), (("callers" : Str), .own (.dic (cAt row other names weights i).1)), (("up" : Str), .dat (.int (cAt row other names weights i).2.1)), (("whole" : Str), .dat (.int (cAt row other names weights i).2.2)), (("j" : Str), c), (("range" : Str), .bi (.type "range")), (("len" : Str), .bi (.builtin "len"))] : Store)) (EvI.rangeI (memN 8 rfl) (.cons (EvE.bi (memN 9 rfl) (.cons (EvE.name (.tail _ (.tail _ (.head _)))) .nil) (.lenL (by first | with_reducible assumption | decide | lia | rfl | exact Nat.le_of_ble_eq_true rfl | (have hsl : sizeLine = 2 ^ 24 := rfl; lia) | (have hsl : sizeLine = 2 ^ 24 := rfl; simp only [List.length_map, List.length_append, List.length_cons, List.length_nil, List.length_take, List.length_range, List.length_reverse]; lia)))) .nil) (by rw [List.length_map]) (by first | with_reducible assumption | decide | lia | rfl | exact Nat.le_of_ble_eq_true rfl | (have hsl : sizeLine = 2 ^ 24 := rfl; lia) | (have hsl : sizeLine = 2 ^ 24 := rfl; simp only [List.length_map, List.length_append, List.length_cons, List.length_nil, List.length_take, List.length_range, List.length_reverse]; lia))) ⟨.unb, rfl, rfl⟩ (fun i ρ hi hp => ?_) (fun ρ' hp => ?_)
  · obtain ⟨c, hc, rfl⟩ := hp
    have h_row : i < row.length := by lia
    have h_other : i < other.length := by lia
    have h_names : i < names.length := hi
    have h_weights : i < weights.length := by lia
    have hlen : (cAt row other names weights i).1.length ≤ 1000 := Nat.le_trans (cAt_len _ _ _ _ _) (by lia)
    rw [cAt_succ]
    generalize cAt row other names weights i = st at hlen ⊢
    unfold cstep
    cases hb : (row.getD i false != other.getD i false) with
    | false =>
      rw [if_neg (by decide)]
      exact ⟨_, _, .name (.there (.there (.there (.there (.there (.there (.there (.here)))))))), EvS.one (Ev1.iff (b := false) (EvT.eq (EvT.cmp (EvE.item (EvE.name (.head _)).evL (EvE.name (memN 7 rfl)) (gN1 h_row) (gN2 _ h_row) (by first | with_reducible assumption | decide | lia | rfl | exact Nat.le_of_ble_eq_true rfl | (have hsl : sizeLine = 2 ^ 24 := rfl; lia) | (have hsl : sizeLine = 2 ^ 24 := rfl; simp only [List.length_map, List.length_append, List.length_cons, List.length_nil, List.length_take, List.length_range, List.length_reverse]; lia))) (EvE.item (EvE.name (.tail _ (.head _))).evL (EvE.name (memN 7 rfl)) (gN1 h_other) (gN2 _ h_other) (by first | with_reducible assumption | decide | lia | rfl | exact Nat.le_of_ble_eq_true rfl | (have hsl : sizeLine = 2 ^ 24 := rfl; lia) | (have hsl : sizeLine = 2 ^ 24 := rfl; simp only [List.length_map, List.length_append, List.length_cons, List.length_nil, List.length_take, List.length_range, List.length_reverse]; lia))) (.ne 4 (by first | with_reducible assumption | decide | lia | rfl | exact Nat.le_of_ble_eq_true rfl | (have hsl : sizeLine = 2 ^ 24 := rfl; lia) | (have hsl : sizeLine = 2 ^ 24 := rfl; simp only [List.length_map, List.length_append, List.length_cons, List.length_nil, List.length_take, List.length_range, List.length_reverse]; lia)) (by first | with_reducible assumption | decide | lia | rfl | exact Nat.le_of_ble_eq_true rfl | (have hsl : sizeLine = 2 ^ 24 := rfl; lia) | (have hsl : sizeLine = 2 ^ 24 := rfl; simp only [List.length_map, List.length_append, List.length_cons, List.length_nil, List.length_take, List.length_range, List.length_reverse]; lia)))) (by rw [deqB]; exact hb)) (fun e => by cases e) fun _ => EvS.nil), .dat (.int (i : Int)), rfl, rfl⟩
    | true =>
      rw [if_pos rfl]
      cases hr2 : row.getD i false with
      | false =>
        rw [if_neg (by decide)]
        exact ⟨_, _, .name (.there (.there (.there (.there (.there (.there (.there (.here)))))))), EvS.one (Ev1.iff (b := true) (EvT.eq (EvT.cmp (EvE.item (EvE.name (.head _)).evL (EvE.name (memN 7 rfl)) (gN1 h_row) (gN2 _ h_row) (by first | with_reducible assumption | decide | lia | rfl | exact Nat.le_of_ble_eq_true rfl | (have hsl : sizeLine = 2 ^ 24 := rfl; lia) | (have hsl : sizeLine = 2 ^ 24 := rfl; simp only [List.length_map, List.length_append, List.length_cons, List.length_nil, List.length_take, List.length_range, List.length_reverse]; lia))) (EvE.item (EvE.name (.tail _ (.head _))).evL (EvE.name (memN 7 rfl)) (gN1 h_other) (gN2 _ h_other) (by first | with_reducible assumption | decide | lia | rfl | exact Nat.le_of_ble_eq_true rfl | (have hsl : sizeLine = 2 ^ 24 := rfl; lia) | (have hsl : sizeLine = 2 ^ 24 := rfl; simp only [List.length_map, List.length_append, List.length_cons, List.length_nil, List.length_take, List.length_range, List.length_reverse]; lia))) (.ne 4 (by first | with_reducible assumption | decide | lia | rfl | exact Nat.le_of_ble_eq_true rfl | (have hsl : sizeLine = 2 ^ 24 := rfl; lia) | (have hsl : sizeLine = 2 ^ 24 := rfl; simp only [List.length_map, List.length_append, List.length_cons, List.length_nil, List.length_take, List.length_range, List.length_reverse]; lia)) (by first | with_reducible assumption | decide | lia | rfl | exact Nat.le_of_ble_eq_true rfl | (have hsl : sizeLine = 2 ^ 24 := rfl; lia) | (have hsl : sizeLine = 2 ^ 24 := rfl; simp only [List.length_map, List.length_append, List.length_cons, List.length_nil, List.length_take, List.length_range, List.length_reverse]; lia)))) (by rw [deqB]; exact hb)) (fun _ => EvS.cons (Ev1.setD (memN 4 rfl) EvE.cint (EvE.item (EvE.name (.tail _ (.tail _ (.head _)))).evL (EvE.name (memN 7 rfl)) (gN1 h_names) (gN2 _ h_names) (by first | with_reducible assumption | decide | lia | rfl | exact Nat.le_of_ble_eq_true rfl | (have hsl : sizeLine = 2 ^ 24 := rfl; lia) | (have hsl : sizeLine = 2 ^ 24 := rfl; simp only [List.length_map, List.length_append, List.length_cons, List.length_nil, List.length_take, List.length_range, List.length_reverse]; lia))) (by first | with_reducible assumption | decide | lia | rfl | exact Nat.le_of_ble_eq_true rfl | (have hsl : sizeLine = 2 ^ 24 := rfl; lia) | (have hsl : sizeLine = 2 ^ 24 := rfl; simp only [List.length_map, List.length_append, List.length_cons, List.length_nil, List.length_take, List.length_range, List.length_reverse]; lia)) (.there (.there (.there (.there (.here)))))) (EvS.cons (Ev1.aug (memN 6 rfl) (EvE.item (EvE.name (.tail _ (.tail _ (.tail _ (.head _))))).evL (EvE.name (memN 7 rfl)) (gN1 h_weights) (gN2 _ h_weights) (by first | with_reducible assumption | decide | lia | rfl | exact Nat.le_of_ble_eq_true rfl | (have hsl : sizeLine = 2 ^ 24 := rfl; lia) | (have hsl : sizeLine = 2 ^ 24 := rfl; simp only [List.length_map, List.length_append, List.length_cons, List.length_nil, List.length_take, List.length_range, List.length_reverse]; lia))) .add (.there (.there (.there (.there (.there (.there (.here)))))))) (EvS.one (Ev1.iff (b := false) (EvT.eq (EvT.val (EvE.item (EvE.name (.head _)).evL (EvE.name (memN 7 rfl)) (gN1 h_row) (gN2 _ h_row) (by first | with_reducible assumption | decide | lia | rfl | exact Nat.le_of_ble_eq_true rfl | (have hsl : sizeLine = 2 ^ 24 := rfl; lia) | (have hsl : sizeLine = 2 ^ 24 := rfl; simp only [List.length_map, List.length_append, List.length_cons, List.length_nil, List.length_take, List.length_range, List.length_reverse]; lia))) .bool) hr2) (fun e => by cases e) fun _ => EvS.nil)))) fun e => by cases e), .dat (.int (i : Int)), rfl, rfl⟩
      | true =>
        rw [if_pos rfl]
        exact ⟨_, _, .name (.there (.there (.there (.there (.there (.there (.there (.here)))))))), EvS.one (Ev1.iff (b := true) (EvT.eq (EvT.cmp (EvE.item (EvE.name (.head _)).evL (EvE.name (memN 7 rfl)) (gN1 h_row) (gN2 _ h_row) (by first | with_reducible assumption | decide | lia | rfl | exact Nat.le_of_ble_eq_true rfl | (have hsl : sizeLine = 2 ^ 24 := rfl; lia) | (have hsl : sizeLine = 2 ^ 24 := rfl; simp only [List.length_map, List.length_append, List.length_cons, List.length_nil, List.length_take, List.length_range, List.length_reverse]; lia))) (EvE.item (EvE.name (.tail _ (.head _))).evL (EvE.name (memN 7 rfl)) (gN1 h_other) (gN2 _ h_other) (by first | with_reducible assumption | decide | lia | rfl | exact Nat.le_of_ble_eq_true rfl | (have hsl : sizeLine = 2 ^ 24 := rfl; lia) | (have hsl : sizeLine = 2 ^ 24 := rfl; simp only [List.length_map, List.length_append, List.length_cons, List.length_nil, List.length_take, List.length_range, List.length_reverse]; lia))) (.ne 4 (by first | with_reducible assumption | decide | lia | rfl | exact Nat.le_of_ble_eq_true rfl | (have hsl : sizeLine = 2 ^ 24 := rfl; lia) | (have hsl : sizeLine = 2 ^ 24 := rfl; simp only [List.length_map, List.length_append, List.length_cons, List.length_nil, List.length_take, List.length_range, List.length_reverse]; lia)) (by first | with_reducible assumption | decide | lia | rfl | exact Nat.le_of_ble_eq_true rfl | (have hsl : sizeLine = 2 ^ 24 := rfl; lia) | (have hsl : sizeLine = 2 ^ 24 := rfl; simp only [List.length_map, List.length_append, List.length_cons, List.length_nil, List.length_take, List.length_range, List.length_reverse]; lia)))) (by rw [deqB]; exact hb)) (fun _ => EvS.cons (Ev1.setD (memN 4 rfl) EvE.cint (EvE.item (EvE.name (.tail _ (.tail _ (.head _)))).evL (EvE.name (memN 7 rfl)) (gN1 h_names) (gN2 _ h_names) (by first | with_reducible assumption | decide | lia | rfl | exact Nat.le_of_ble_eq_true rfl | (have hsl : sizeLine = 2 ^ 24 := rfl; lia) | (have hsl : sizeLine = 2 ^ 24 := rfl; simp only [List.length_map, List.length_append, List.length_cons, List.length_nil, List.length_take, List.length_range, List.length_reverse]; lia))) (by first | with_reducible assumption | decide | lia | rfl | exact Nat.le_of_ble_eq_true rfl | (have hsl : sizeLine = 2 ^ 24 := rfl; lia) | (have hsl : sizeLine = 2 ^ 24 := rfl; simp only [List.length_map, List.length_append, List.length_cons, List.length_nil, List.length_take, List.length_range, List.length_reverse]; lia)) (.there (.there (.there (.there (.here)))))) (EvS.cons (Ev1.aug (memN 6 rfl) (EvE.item (EvE.name (.tail _ (.tail _ (.tail _ (.head _))))).evL (EvE.name (memN 7 rfl)) (gN1 h_weights) (gN2 _ h_weights) (by first | with_reducible assumption | decide | lia | rfl | exact Nat.le_of_ble_eq_true rfl | (have hsl : sizeLine = 2 ^ 24 := rfl; lia) | (have hsl : sizeLine = 2 ^ 24 := rfl; simp only [List.length_map, List.length_append, List.length_cons, List.length_nil, List.length_take, List.length_range, List.length_reverse]; lia))) .add (.there (.there (.there (.there (.there (.there (.here)))))))) (EvS.one (Ev1.iff (b := true) (EvT.eq (EvT.val (EvE.item (EvE.name (.head _)).evL (EvE.name (memN 7 rfl)) (gN1 h_row) (gN2 _ h_row) (by first | with_reducible assumption | decide | lia | rfl | exact Nat.le_of_ble_eq_true rfl | (have hsl : sizeLine = 2 ^ 24 := rfl; lia) | (have hsl : sizeLine = 2 ^ 24 := rfl; simp only [List.length_map, List.length_append, List.length_cons, List.length_nil, List.length_take, List.length_range, List.length_reverse]; lia))) .bool) hr2) (fun _ => EvS.one (Ev1.aug (memN 5 rfl) (EvE.item (EvE.name (.tail _ (.tail _ (.tail _ (.head _))))).evL (EvE.name (memN 7 rfl)) (gN1 h_weights) (gN2 _ h_weights) (by first | with_reducible assumption | decide | lia | rfl | exact Nat.le_of_ble_eq_true rfl | (have hsl : sizeLine = 2 ^ 24 := rfl; lia) | (have hsl : sizeLine = 2 ^ 24 := rfl; simp only [List.length_map, List.length_append, List.length_cons, List.length_nil, List.length_take, List.length_range, List.length_reverse]; lia))) .add (.there (.there (.there (.there (.there (.here)))))))) fun e => by cases e)))) fun e => by cases e), .dat (.int (i : Int)), rfl, rfl⟩
  · obtain ⟨c, hc, rfl⟩ := hp
    have hlen : (cAt row other names weights names.length).1.length ≤ 1000 := Nat.le_trans (cAt_len _ _ _ _ _) (by lia)
    refine EvS.freeze (memN 4 rfl) (.there (.there (.there (.there (.here))))) ?_
    exact EvS.one (Ev1.ret (EvE.tup (.cons EvE.cint (.cons (EvE.lenDd (memN 9 rfl) (EvE.name (memN 4 rfl)) (by first | with_reducible assumption | decide | lia | rfl | exact Nat.le_of_ble_eq_true rfl | (have hsl : sizeLine = 2 ^ 24 := rfl; lia) | (have hsl : sizeLine = 2 ^ 24 := rfl; simp only [List.length_map, List.length_append, List.length_cons, List.length_nil, List.length_take, List.length_range, List.length_reverse]; lia))) (.cons (EvE.name (memN 5 rfl)) (.cons (EvE.name (memN 6 rfl)) (.cons (EvE.name (memN 4 rfl)) .nil))))) (by exact Nat.le_of_ble_eq_true rfl)))
end Mine
-- part Pure2
open PySem
set_option Elab.async false
set_option linter.unusedVariables false
set_option maxRecDepth 100000
namespace Mine

theorem eqvAll_map {α : Type} [BEq α] [LawfulBEq α] (f : α → PyData) (hf : ∀ a b, PyData.eqv (f a) (f b) = (a == b)) : ∀ (xs ys : List α), PyData.eqvAll (xs.map f) (ys.map f) = (xs == ys)
  | [], [] => by simp [PyData.eqvAll]
  | x :: xs, [] => by simp [PyData.eqvAll]
  | [], y :: ys => by simp [PyData.eqvAll]
  | x :: xs, y :: ys => by
    rw [List.map_cons, List.map_cons, PyData.eqvAll, hf, eqvAll_map f hf xs ys]
    show _ = ((x :: xs) == (y :: ys))
    rw [List.cons_beq_cons]
theorem toPys_mapf {α : Type} (f : α → D) (l : List α) : toPys (l.map f) = l.map fun a => toPy (f a) := by rw [toPys_map, List.map_map]; rfl
theorem deqTm {α : Type} [BEq α] [LawfulBEq α] (f : α → D) (hf : ∀ a b, deq (f a) (f b) = (a == b)) (xs ys : List α) : deq (.tup (xs.map f)) (.tup (ys.map f)) = (xs == ys) := by
  unfold deq
  rw [toPy, toPy, toPys_mapf, toPys_mapf, PyData.eqv]
  exact eqvAll_map _ hf xs ys
theorem deqLm {α : Type} [BEq α] [LawfulBEq α] (f : α → D) (hf : ∀ a b, deq (f a) (f b) = (a == b)) (xs ys : List α) : deq (.list (xs.map f)) (.list (ys.map f)) = (xs == ys) := by
  unfold deq
  rw [toPy, toPy, toPys_mapf, toPys_mapf, PyData.eqv]
  exact eqvAll_map _ hf xs ys
theorem deqI (a b : Int) : deq (.int a) (.int b) = (a == b) := by unfold deq; rw [toPy, toPy, PyData.eqv]
theorem deqS (a b : Str) : deq (.str a) (.str b) = (a == b) := by unfold deq; rw [toPy, toPy, PyData.eqv]
theorem deqTI (a b : List Int) : deq (tI a) (tI b) = (a == b) := deqTm _ deqI a b
theorem deqLI (a b : List Int) : deq (lI a) (lI b) = (a == b) := deqLm _ deqI a b
theorem deqLS (a b : List Str) : deq (lS a) (lS b) = (a == b) := deqLm _ deqS a b
theorem deqLB (a b : List Bool) : deq (lB a) (lB b) = (a == b) := deqLm _ deqB a b
theorem cnt_tI (at' : List Int) (ps : List (List Int)) : cntL (tI at') (ps.map tI) = ps.countP (· == at') := by
  unfold cntL
  rw [List.countP_map]
  congr 1
  funext a
  exact deqTI a at'
theorem inL_tI (a : List Int) (ps : List (List Int)) : inL (tI a) (ps.map tI) = ps.contains a := by
  unfold inL
  rw [List.any_map, List.contains_eq_any_beq]
  congr 1
  funext b
  rw [Function.comp_apply, deqTI]
  exact Bool.beq_comm
theorem inL_S (a : Str) (ps : List Str) : inL (.str a) (ps.map D.str) = ps.contains a := by
  unfold inL
  rw [List.any_map, List.contains_eq_any_beq]
  congr 1
  funext b
  rw [Function.comp_apply, deqS]
  exact Bool.beq_comm
theorem okI (n : Nat) (l : List Int) : (l.map D.int).all (okD n) = true := by
  rw [List.all_map, List.all_eq_true]; intro a _; cases n <;> rfl
theorem okB (n : Nat) (l : List Bool) : (l.map D.bool).all (okD n) = true := by
  rw [List.all_map, List.all_eq_true]; intro a _; cases n <;> rfl
theorem okTI (n : Nat) (l : List Int) : okD (n + 1) (tI l) = true := by rw [okD]; exact okI n l
theorem okLI (n : Nat) (l : List Int) : okD (n + 1) (lI l) = true := by rw [okD]; exact okI n l
theorem okLB (n : Nat) (l : List Bool) : okD (n + 1) (lB l) = true := by rw [okD]; exact okB n l
theorem okTIs (n : Nat) (l : List (List Int)) : (l.map tI).all (okD (n + 1)) = true := by
  rw [List.all_map, List.all_eq_true]; intro a _; exact okTI n a
theorem bits_small {b : Int} (h : b.natAbs < 2 ^ 60) : Builtin.Int.intBits b ≤ 64 := by
  unfold Builtin.Int.intBits
  split
  · lia
  · have hb : b.natAbs ≠ 0 := by rename_i q; simp at q; lia
    have := (Nat.log2_lt hb).mpr h
    lia
theorem mulL {a b : Int} (h : a.natAbs < 2 ^ 60) : IntMulOk a b := IntMulOk.of_left (bits_small h)
theorem mulR {a b : Int} (h : b.natAbs < 2 ^ 60) : IntMulOk a b := IntMulOk.of_right (bits_small h)
theorem CompL.filtG {α : Type} {C : Cx} {k : Nat} {x : Str} {ρ : Store} {c elt : Expr} {l : List α} {g : α → D} {p : α → Bool} (H : ∀ a ∈ l, EvT C k ((x, .dat (g a)) :: ρ) c (p a)) (He : ∀ a ∈ l, EvE C k ((x, .dat (g a)) :: ρ) elt (g a)) :
    CompL C k x ρ [c] elt (l.map g) ((l.filter p).map g) := by
  induction l with
  | nil => exact .nil
  | cons a l ih =>
    have h1 := H a (.head _)
    rw [List.filter_cons]
    cases hp : p a with
    | true =>
      rw [hp] at h1
      exact .take (.one h1) (He a (.head _)) (ih (fun b hb => H b (.tail _ hb)) fun b hb => He b (.tail _ hb))
    | false =>
      rw [hp] at h1
      exact .skip (.one h1) (ih (fun b hb => H b (.tail _ hb)) fun b hb => He b (.tail _ hb))

/-! statements whose last store is not spelled -/
section
variable {C : Cx} {k : Nat} {ρ : Store} {R : Store → Prop}
theorem exNil (h : R ρ) : ∃ ρ2, EvS C k ρ [] (.next ρ2) ∧ R ρ2 := ⟨ρ, EvS.nil, h⟩
theorem exCons {st : Stmt} {ss : List Stmt} {ρ1 : Store} (h : Ev1 C k ρ st (.next ρ1)) (r : ∃ ρ2, EvS C k ρ1 ss (.next ρ2) ∧ R ρ2) : ∃ ρ2, EvS C k ρ (st :: ss) (.next ρ2) ∧ R ρ2 :=
  let ⟨ρ2, a, b⟩ := r; ⟨ρ2, EvS.cons h a, b⟩
theorem exFrz {x : Str} {d : D} {ρ' : Store} {ss : List Stmt} (hm : (x, LV.own d) ∈ ρ) (U : Upd x (.dat d) ρ ρ') (r : ∃ ρ2, EvS C k ρ' ss (.next ρ2) ∧ R ρ2) : ∃ ρ2, EvS C k ρ ss (.next ρ2) ∧ R ρ2 :=
  let ⟨ρ2, a, b⟩ := r; ⟨ρ2, EvS.freeze hm U a, b⟩
theorem exStep {tgt : Expr} {d : D} {body : List Stmt} {ρ1 : Store} (T : Tgt tgt d ρ ρ1) (h : ∃ ρ2, EvS C k ρ1 body (.next ρ2) ∧ R ρ2) : ∃ ρ1 ρ2, Tgt tgt d ρ ρ1 ∧ EvS C k ρ1 body (.next ρ2) ∧ R ρ2 :=
  let ⟨ρ2, a, b⟩ := h; ⟨ρ1, ρ2, T, a, b⟩
theorem exForL {α : Type} {tgt iter : Expr} {body ss : List Stmt} {pos : Pos} {fl : Bool} (l : List α) (P : Nat → Store → Prop) (f : α → D) (hi : EvI C k ρ iter (l.map f) fl) (h0 : P 0 ρ)
    (step : ∀ i a ρ, l[i]? = some a → P i ρ → ∃ ρ1 ρ2, Tgt tgt (f a) ρ ρ1 ∧ EvS C k ρ1 body (.next ρ2) ∧ P (i + 1) ρ2) (rest : ∀ ρ', P l.length ρ' → ∃ ρ2, EvS C k ρ' ss (.next ρ2) ∧ R ρ2)
    (hs : ∀ env x, foldedSetIterable iter env x = pure x := by intro _ _; rfl) (hfl : fl = true ∨ isTupE tgt = true := by first | exact .inl rfl | exact .inr rfl) : ∃ ρ2, EvS C k ρ (.For tgt iter body [] pos :: ss) (.next ρ2) ∧ R ρ2 := by
  obtain ⟨ρ', hp, L⟩ := LoopS.invL l P f step h0
  obtain ⟨ρ2, a, b⟩ := rest ρ' hp
  exact ⟨ρ2, EvS.cons (Ev1.for hi L hs hfl) a, b⟩
theorem exForN {tgt iter : Expr} {body ss : List Stmt} {pos : Pos} (n : Nat) (P : Nat → Store → Prop) (hi : EvI C k ρ iter ((List.range n).map fun i : Nat => D.int (i : Int)) true) (h0 : P 0 ρ)
    (step : ∀ (i : Nat) ρ, i < n → P i ρ → ∃ ρ1 ρ2, Tgt tgt (.int (i : Int)) ρ ρ1 ∧ EvS C k ρ1 body (.next ρ2) ∧ P (i + 1) ρ2) (rest : ∀ ρ', P n ρ' → ∃ ρ2, EvS C k ρ' ss (.next ρ2) ∧ R ρ2)
    (hs : ∀ env x, foldedSetIterable iter env x = pure x := by intro _ _; rfl) : ∃ ρ2, EvS C k ρ (.For tgt iter body [] pos :: ss) (.next ρ2) ∧ R ρ2 := by
  obtain ⟨ρ', hp, L⟩ := LoopS.inv (n := n) P (fun i => D.int (i : Int)) step h0
  obtain ⟨ρ2, a, b⟩ := rest ρ' hp
  exact ⟨ρ2, EvS.cons (Ev1.for hi L hs (.inl rfl)) a, b⟩
/-- an if of two known branches -/
theorem exIf {test : Expr} {body orelse ss : List Stmt} {pos : Pos} {b : Bool} (ht : EvT C k ρ test b) (ρ1 ρ2 : Store) (h1 : b = true → EvS C k ρ body (.next ρ1)) (h2 : b = false → EvS C k ρ orelse (.next ρ2)) (r : ∃ ρ3, EvS C k (if b then ρ1 else ρ2) ss (.next ρ3) ∧ R ρ3) :
    ∃ ρ3, EvS C k ρ (.If test body orelse pos :: ss) (.next ρ3) ∧ R ρ3 := by
  cases b with
  | true => exact exCons (Ev1.iff ht h1 fun e => by cases e) r
  | false => exact exCons (Ev1.iff ht (fun e => by cases e) h2) r
end
end Mine
-- part Def10
open PySem
set_option Elab.async false
set_option linter.unusedVariables false
set_option linter.unusedSimpArgs false
set_option maxRecDepth 100000
namespace Mine
variable {C : Cx}

def bestStep (sel : List (Int × Int)) (best row : List Int) : List Int := if cmpOf row best sel < 0 then row else best
def bestOf (sel : List (Int × Int)) (rows : List (List Int)) : List Int := rows.foldl (bestStep sel) (rows.getD 0 [])
theorem fold_in {α : Type} (f : α → α → α) (hf : ∀ a b, f a b = a ∨ f a b = b) (P : α → Prop) : ∀ (l : List α) (b : α), P b → (∀ a ∈ l, P a) → P (l.foldl f b)
  | [], b, hb, _ => hb
  | a :: l, b, hb, h => by
    rw [List.foldl_cons]
    refine fold_in f hf P l _ ?_ fun c hc => h c (.tail _ hc)
    rcases hf b a with e | e
    · rw [e]; exact hb
    · rw [e]; exact h a (.head _)
theorem bestStep_in (sel : List (Int × Int)) (a b : List Int) : bestStep sel a b = a ∨ bestStep sel a b = b := by
  unfold bestStep; split
  · exact .inr rfl
  · exact .inl rfl
theorem fn_first (E : Env0 C) (k : Nat) {rows : List (List Int)} {columns : List Int} {way : Int} {m : Nat} (hr : 0 < rows.length) (hr2 : rows.length ≤ 400) (hc2 : columns.length ≤ 400) (hm : m ≤ 400) (hrows : ∀ r ∈ rows, r.length = m) (hcol : ∀ j ∈ columns, 0 ≤ j ∧ j < m) :
    FnOK C (k + 4) "_law_first" [.list (rows.map lI), lI columns, .int way] (.tup [lI (bestOf (columns.map fun j => (j, way)) rows), .int ((rows.filter fun a => cmpOf a (bestOf (columns.map fun j => (j, way)) rows) (columns.map fun j => (j, way)) == 0).length : Nat)]) := by
  have hsel : ∀ (x y : List Int), x.length = m → y.length = m → ∀ q ∈ (columns.map fun j => (j, way)), 0 ≤ q.1 ∧ q.1 < x.length ∧ q.1 < y.length ∧ q.1 < 2 ^ 40 := by
    intro x y hx hy q hq
    obtain ⟨j, hj, rfl⟩ := List.mem_map.mp hq
    have := hcol j hj
    simp only
    lia
  have h0 : (rows.getD 0 []).length = m := by
    rw [List.getD_eq_getElem?_getD, List.getElem?_eq_getElem hr]
    exact hrows _ (List.getElem_mem hr)
  have hb1 : (bestOf (columns.map fun j => (j, way)) rows).length = m := fold_in _ (bestStep_in _) (fun x => x.length = m) rows _ h0 hrows
  refine fn_intro (ps := ["rows", "columns", "way"]) (out := _) (E.hd 30 (by decide) rfl) (fun pm cd doc vs h => by obtain ⟨a0, a1, a2, rfl⟩ := len_3 h; rfl) (by decide) (by decide) rfl
    (.par rfl (.par rfl (.par rfl (.loc rfl (.loc rfl (.loc rfl (.gl rfl E.glc (.bi rfl (E.bin "len" (.builtin "len") (by simp)) (.kn (zs := ["way", "comp", "best"]) (by decide) (.nil))))))))))
    (by show (["rows", "columns", "way", "comp", "best", "row", "TupleComp", "len", ""] : List Str).Nodup; decide) rfl rfl rfl ?_ (.inl rfl)
  refine EvS.cons (Ev1.assign (d := .inst (selD (columns.map fun j => (j, way)))) (EvE.make E.clsK E.initK rfl rfl (fun _ _ _ _ _ => rfl) rfl rfl rfl rfl rfl (EvE.gname (memN 6 rfl)) (EvE.comp (clb := false) (EvI.lst (EvE.name (.tail _ (.head _)))) ⟨rfl, by decide, rfl, rfl⟩ (.inr ⟨_, (memN 8 rfl)⟩) (by decide) (.skip (.skip (.dat rfl (.skip (.skip (.skip (.skip (.skip (.skip (.nil)))))))))) (CompL.mapG (G := fun p : Int × Int => D.tup [.int p.1, .int p.2]) (h := fun a => (a, way)) fun a ha => (EvE.tup (.cons (EvE.name (.head _)) (.cons (EvE.name (.tail _ (.head _))) .nil)) (by exact Nat.le_of_ble_eq_true rfl))) (by simp only [List.length_map, List.length_reverse, List.length_range]; have : sizeLine = 2 ^ 24 := rfl; lia))) (.there (.there (.there (.here))))) ?_
  refine EvS.cons (Ev1.assign (EvE.item (EvE.name (.head _)).evL EvE.cint (sIdx (by decide) (by rw [List.length_map]; lia)) (gN2 [] hr) (by first | decide | lia | rfl | with_reducible assumption | exact Nat.le_of_ble_eq_true rfl | (have hsl : sizeLine = 2 ^ 24 := rfl; lia) | (have hsl : sizeLine = 2 ^ 24 := rfl; simp only [List.length_map, List.length_append, List.length_cons, List.length_nil, List.length_take, List.length_range, List.length_reverse]; lia))) (.there (.there (.there (.there (.here)))))) ?_
  refine EvS.forL rows (fun i ρ => ∃ c : LV, c.slot = true ∧ ρ = ([(("rows" : Str), .dat (.list (rows.map lI))), (("columns" : Str), .dat (lI columns)), (("way" : Str), .dat (.int way)), (("comp" : Str), .dat (.inst (selD (columns.map fun j => (j, way))))), (("best" : Str), .dat (lI ((rows.take i).foldl (bestStep (columns.map fun j => (j, way))) (rows.getD 0 [])))), (("row" : Str), c), (("TupleComp" : Str), .gl .cls), (("len" : Str), .bi (.builtin "len")), ("", .kn ["way", "comp", "best"])] : Store)) lI (EvI.lst (EvE.name (.head _))) ⟨.unb, rfl, rfl⟩ (fun i row ρ hi hp => ?_) (fun ρ' hp => ?_)
  · obtain ⟨c, hc, rfl⟩ := hp
    have hrow : row.length = m := hrows row (List.mem_of_getElem? hi)
    rw [fold_snoc (bestStep (columns.map fun j => (j, way))) _ rows i row hi]
    have hbest : ((rows.take i).foldl (bestStep (columns.map fun j => (j, way))) (rows.getD 0 [])).length = m := fold_in _ (bestStep_in _) (fun x => x.length = m) _ _ h0 fun a ha => hrows a (List.mem_of_mem_take ha)
    generalize (rows.take i).foldl (bestStep (columns.map fun j => (j, way))) (rows.getD 0 []) = best at hbest ⊢
    unfold bestStep
    by_cases hlt : cmpOf row best (columns.map fun j => (j, way)) < 0
    · rw [if_pos hlt]
      exact ⟨_, _, .name (.there (.there (.there (.there (.there (.here)))))), EvS.one (Ev1.iff (b := true) (EvT.eq (EvT.cmp (EvE.meth2 E.clsK E.cmpK rfl rfl (EvE.name (.tail _ (.tail _ (.tail _ (.head _))))) (.cons (EvE.name (memN 5 rfl)) (.cons (EvE.name (memN 4 rfl)) .nil)) (fn_compare E (k + 2) (sel := columns.map fun j => (j, way)) (hsel _ _ hrow hbest))) EvE.cint .lt) (by simpa using hlt)) (fun _ => EvS.one (Ev1.assign (EvE.name (memN 5 rfl)) (.there (.there (.there (.there (.here))))))) fun e => by cases e), .dat (lI row), rfl, rfl⟩
    · rw [if_neg hlt]
      exact ⟨_, _, .name (.there (.there (.there (.there (.there (.here)))))), EvS.one (Ev1.iff (b := false) (EvT.eq (EvT.cmp (EvE.meth2 E.clsK E.cmpK rfl rfl (EvE.name (.tail _ (.tail _ (.tail _ (.head _))))) (.cons (EvE.name (memN 5 rfl)) (.cons (EvE.name (memN 4 rfl)) .nil)) (fn_compare E (k + 2) (sel := columns.map fun j => (j, way)) (hsel _ _ hrow hbest))) EvE.cint .lt) (by simpa using hlt)) (fun e => by cases e) fun _ => EvS.nil), .dat (lI row), rfl, rfl⟩
  · obtain ⟨c, hc, rfl⟩ := hp
    rw [List.take_length]
    refine EvS.one (Ev1.ret (EvE.eq (EvE.tup (.cons (EvE.name (memN 4 rfl)) (.cons (EvE.bi (memN 7 rfl) (.cons (EvE.comp (clb := false) (EvI.lst (EvE.name (.head _))) ⟨rfl, by decide, rfl, rfl⟩ (.inr ⟨_, (memN 8 rfl)⟩) (by decide) (.skip (.skip (.skip (.dat rfl (.dat rfl (.skip (.skip (.skip (.skip (.nil)))))))))) (CompL.filtG (p := fun a => cmpOf a (bestOf (columns.map fun j => (j, way)) rows) (columns.map fun j => (j, way)) == 0) (fun row hrow => (EvT.cmp (EvE.meth2 E.clsK E.cmpK rfl rfl (EvE.name (.tail _ (.head _))) (.cons (EvE.name (.head _)) (.cons (EvE.name (.tail _ (.tail _ (.head _)))) .nil)) (fn_compare E (k + 2) (sel := columns.map fun j => (j, way)) (hsel _ _ (hrows _ hrow) hb1))) EvE.cint .eqI)) fun row hrow => (EvE.name (.head _))) (by simp only [List.length_map, List.length_reverse, List.length_range]; have : sizeLine = 2 ^ 24 := rfl; lia)) .nil) (.lenL (by rw [List.length_map]; have := List.length_filter_le (fun a => cmpOf a (bestOf (columns.map fun j => (j, way)) rows) (columns.map fun j => (j, way)) == 0) rows; lia))) .nil)) (by exact Nat.le_of_ble_eq_true rfl)) ?_))
    rw [List.length_map]; rfl
end Mine
-- part Def11
open PySem
set_option Elab.async false
set_option linter.unusedVariables false
set_option linter.unusedSimpArgs false
set_option maxRecDepth 100000
namespace Mine
variable {C : Cx}

def turnsOf (n : Nat) : List Int := (List.range n).map fun j : Nat => 1 - 2 * ((j : Int).fmod 2)
def selO (columns : List Int) : List (Int × Int) := columns.map fun j => (j, (turnsOf columns.length).getD j.toNat 0)
def figStep (n : Nat) (row : List Int) (f j : Int) : Int := 8 * f + (turnsOf n).getD j.toNat 0 * row.getD j.toNat 0
def figOf (columns row : List Int) : Int := columns.foldl (figStep columns.length row) 0
def dueOf (x y : Int) : Int := if x < y then -1 else if x > y then 1 else 0
theorem turns_small (n i : Nat) : ((turnsOf n).getD i 0).natAbs < 2 ^ 60 := by
  unfold turnsOf
  rw [List.getD_eq_getElem?_getD, List.getElem?_map]
  cases h : (List.range n)[i]? with
  | none => decide
  | some j =>
    have h1 := Int.fmod_nonneg_of_pos (j : Int) (show (0 : Int) < 2 by decide)
    have h2 := Int.fmod_lt_of_pos (j : Int) (show (0 : Int) < 2 by decide)
    simp only [Option.map_some, Option.getD_some]
    lia
theorem fn_ordered (E : Env0 C) (k : Nat) {rows : List (List Int)} {columns : List Int} {m : Nat} (hr2 : rows.length ≤ 400) (hm : m ≤ 400) (hcm : columns.length = m) (hrows : ∀ r ∈ rows, r.length = m) (hcol : ∀ j ∈ columns, 0 ≤ j ∧ j < m)
    (hord : ∀ i, i < rows.length → ∀ j, j < i → cmpOf (rows.getD i []) (rows.getD j []) (selO columns) = dueOf (figOf columns (rows.getD i [])) (figOf columns (rows.getD j []))) :
    FnOK C (k + 4) "_law_ordered" [.list (rows.map lI), lI columns] (.bool true) := by
  have hsel : ∀ (x y : List Int), x.length = m → y.length = m → ∀ q ∈ selO columns, 0 ≤ q.1 ∧ q.1 < x.length ∧ q.1 < y.length ∧ q.1 < 2 ^ 40 := by
    intro x y hx hy q hq
    unfold selO at hq
    obtain ⟨j, hj, rfl⟩ := List.mem_map.mp hq
    have := hcol j hj
    simp only
    lia
  have hrow : ∀ i, i < rows.length → (rows.getD i []).length = m := fun i hi => by
    rw [List.getD_eq_getElem?_getD, List.getElem?_eq_getElem hi]
    exact hrows _ (List.getElem_mem hi)
  have htl : (turnsOf columns.length).length = m := by unfold turnsOf; rw [List.length_map, List.length_range, hcm]
  have ht : ∀ j ∈ columns, j < (((turnsOf columns.length).map D.int).length : Nat) := fun j hj => by rw [List.length_map, htl]; exact (hcol j hj).2
  have hrg : ∀ j ∈ columns, -(2 ^ 63) ≤ j ∧ j < 2 ^ 63 := fun j hj => by have := hcol j hj; lia
  refine fn_intro (ps := ["rows", "columns"]) (out := .ret (.bool true)) (E.hd 31 (by decide) rfl) (fun pm cd doc vs h => by obtain ⟨a0, a1, rfl⟩ := len_2 h; rfl) (by decide) (by decide) rfl
    (.par rfl (.par rfl (.loc rfl (.loc rfl (.loc rfl (.loc rfl (.loc rfl (.loc rfl (.loc rfl (.loc rfl (.loc rfl (.bi rfl (E.bin "range" (.type "range") (by simp)) (.bi rfl (E.bin "len" (.builtin "len") (by simp)) (.gl rfl E.glc (.kn (zs := ["turns"]) (by decide) (.nil))))))))))))))))
    (by show (["rows", "columns", "turns", "comp", "figures", "row", "figure", "j", "a", "b", "due", "range", "len", "TupleComp", ""] : List Str).Nodup; decide) rfl rfl rfl ?_ (.inl rfl)
  refine EvS.cons (Ev1.assignC (clb := false) (EvI.rangeI (memN 11 rfl) (.cons (EvE.bi (memN 12 rfl) (.cons (EvE.name (.tail _ (.head _))) .nil) (.lenL (by first | decide | lia | rfl | with_reducible assumption | exact Nat.le_of_ble_eq_true rfl | (have hsl : sizeLine = 2 ^ 24 := rfl; lia) | (have hsl : sizeLine = 2 ^ 24 := rfl; simp only [List.length_map, List.length_append, List.length_cons, List.length_nil, List.length_take, List.length_range, List.length_reverse]; lia)))) .nil) (by rw [List.length_map]) (by first | decide | lia | rfl | with_reducible assumption | exact Nat.le_of_ble_eq_true rfl | (have hsl : sizeLine = 2 ^ 24 := rfl; lia) | (have hsl : sizeLine = 2 ^ 24 := rfl; simp only [List.length_map, List.length_append, List.length_cons, List.length_nil, List.length_take, List.length_range, List.length_reverse]; lia))) ⟨rfl, by decide, rfl, rfl⟩ (.inl rfl) (by decide) (.skip (.skip (.skip (.skip (.skip (.skip (.skip (.skip (.skip (.skip (.skip (.skip (.skip (.skip (.skip (.nil)))))))))))))))) (CompL.mapG (G := D.int) (h := fun j : Nat => 1 - 2 * ((j : Int).fmod 2)) fun a ha => (EvE.bin EvE.cint (EvE.bin EvE.cint (EvE.bin (EvE.name (.head _)) EvE.cint (.mod (by first | decide | lia | rfl | with_reducible assumption | exact Nat.le_of_ble_eq_true rfl | (have hsl : sizeLine = 2 ^ 24 := rfl; lia) | (have hsl : sizeLine = 2 ^ 24 := rfl; simp only [List.length_map, List.length_append, List.length_cons, List.length_nil, List.length_take, List.length_range, List.length_reverse]; lia)))) (.mul (mulL (by decide)))) .sub)) (by simp only [List.length_map, List.length_reverse, List.length_range]; have : sizeLine = 2 ^ 24 := rfl; lia) (.there (.there (.here)))) ?_
  refine EvS.cons (Ev1.assign (d := .inst (selD (selO columns))) (EvE.make E.clsK E.initK rfl rfl (fun _ _ _ _ _ => rfl) rfl rfl rfl rfl rfl (EvE.gname (memN 13 rfl)) (EvE.comp (clb := false) (EvI.lst (EvE.name (.tail _ (.head _)))) ⟨rfl, by decide, rfl, rfl⟩ (.inr ⟨_, (memN 14 rfl)⟩) (by decide) (.skip (.skip (.dat rfl (.skip (.skip (.skip (.skip (.skip (.skip (.skip (.skip (.skip (.skip (.skip (.skip (.nil)))))))))))))))) (CompL.mapG (G := fun p : Int × Int => D.tup [.int p.1, .int p.2]) (h := fun a => (a, (turnsOf columns.length).getD a.toNat 0)) fun a ha => (EvE.tup (.cons (EvE.name (.head _)) (.cons (EvE.item (EvE.name (.tail _ (.head _))).evL (EvE.name (.head _)) (sIdx (hcol _ ha).1 (ht _ ha)) (getD_some (hcol _ ha).1 (ht _ ha)) (hrg _ ha)) .nil)) (by exact Nat.le_of_ble_eq_true rfl))) (by simp only [List.length_map, List.length_reverse, List.length_range]; have : sizeLine = 2 ^ 24 := rfl; lia))) (.there (.there (.there (.here))))) ?_
  refine EvS.cons (Ev1.assignF (EvF.lst .nil (by exact Nat.le_of_ble_eq_true rfl)) (.there (.there (.there (.there (.here)))))) ?_
  refine EvS.forL rows (fun i ρ => ∃ c d e : LV, c.slot = true ∧ d.slot = true ∧ e.slot = true ∧ ρ = ([(("rows" : Str), .dat (.list (rows.map lI))), (("columns" : Str), .dat (lI columns)), (("turns" : Str), .dat (lI (turnsOf columns.length))), (("comp" : Str), .dat (.inst (selD (selO columns)))), (("figures" : Str), .own (lI ((rows.take i).map (figOf columns)))), (("row" : Str), c), (("figure" : Str), d), (("j" : Str), e), (("a" : Str), .unb), (("b" : Str), .unb), (("due" : Str), .unb), (("range" : Str), .bi (.type "range")), (("len" : Str), .bi (.builtin "len")), (("TupleComp" : Str), .gl .cls), ("", .kn ["turns"])] : Store)) lI (EvI.lst (EvE.name (.head _))) ⟨.unb, .unb, .unb, rfl, rfl, rfl, rfl⟩ (fun i row ρ hi hp => ?_) (fun ρ' hp => ?_)
  · obtain ⟨c, d, e, hc, hd, he, rfl⟩ := hp
    have hrl : row.length = m := hrows row (List.mem_of_getElem? hi)
    refine exStep (.name (.there (.there (.there (.there (.there (.here))))))) (exCons (Ev1.assign EvE.cint (.there (.there (.there (.there (.there (.there (.here)))))))) ?_)
    refine exForL columns (fun i2 ρ => ∃ e : LV, e.slot = true ∧ ρ = ([(("rows" : Str), .dat (.list (rows.map lI))), (("columns" : Str), .dat (lI columns)), (("turns" : Str), .dat (lI (turnsOf columns.length))), (("comp" : Str), .dat (.inst (selD (selO columns)))), (("figures" : Str), .own (lI ((rows.take i).map (figOf columns)))), (("row" : Str), .dat (lI row)), (("figure" : Str), .dat (.int ((columns.take i2).foldl (figStep columns.length row) 0))), (("j" : Str), e), (("a" : Str), .unb), (("b" : Str), .unb), (("due" : Str), .unb), (("range" : Str), .bi (.type "range")), (("len" : Str), .bi (.builtin "len")), (("TupleComp" : Str), .gl .cls), ("", .kn ["turns"])] : Store)) D.int (EvI.lst (EvE.name (.tail _ (.head _)))) ⟨e, he, rfl⟩ (fun i2 j ρ hj hp => ?_) (fun ρ' hp => ?_)
    · obtain ⟨e, he, rfl⟩ := hp
      have hjm := List.mem_of_getElem? hj
      have hj0 := (hcol j hjm).1
      have hjt := ht j hjm
      have hjr : j < ((row.map D.int).length : Nat) := by rw [List.length_map, hrl]; exact (hcol j hjm).2
      have hjg := hrg j hjm
      refine exStep (.name (.there (.there (.there (.there (.there (.there (.there (.here))))))))) ?_
      rw [fold_snoc (figStep columns.length row) 0 columns i2 j hj]
      exact exCons (Ev1.assign (EvE.bin (EvE.bin EvE.cint (EvE.name (memN 6 rfl)) (.mul (mulL (by decide)))) (EvE.bin (EvE.item (EvE.name (.tail _ (.tail _ (.head _)))).evL (EvE.name (memN 7 rfl)) (sIdx hj0 hjt) (getD_some hj0 hjt) hjg) (EvE.item (EvE.name (memN 5 rfl)).evL (EvE.name (memN 7 rfl)) (sIdx hj0 hjr) (getD_some hj0 hjr) hjg) (.mul (mulL (turns_small _ _)))) .add) (.there (.there (.there (.there (.there (.there (.here)))))))) (exNil ⟨.dat (.int j), rfl, rfl⟩)
    · obtain ⟨e, he, rfl⟩ := hp
      rw [List.take_length]
      refine exCons (Ev1.cast (Ev1.append (memN 4 rfl) (EvE.name (memN 6 rfl)) (.there (.there (.there (.there (.here))))) (by first | decide | omega | rfl | with_reducible assumption | exact Nat.le_of_ble_eq_true rfl | (have hsl : sizeLine = 2 ^ 24 := rfl; omega) | (have hsl : sizeLine = 2 ^ 24 := rfl; simp only [List.length_map, List.length_append, List.length_cons, List.length_nil, List.length_take, List.length_range, List.length_reverse]; omega))) ?_) (exNil ⟨.dat (lI row), .dat (.int (figOf columns row)), e, rfl, rfl, he, rfl⟩)
      rw [List.take_add_one, hi]
      simp only [lI, List.map_append, Option.toList, List.map_cons, List.map_nil]
      rfl
  · obtain ⟨c, d, e, hc, hd, he, rfl⟩ := hp
    rw [List.take_length]
    refine EvS.freeze (memN 4 rfl) (.there (.there (.there (.there (.here))))) ?_
    refine EvS.forN rows.length (fun i ρ => ∃ x y z : LV, x.slot = true ∧ y.slot = true ∧ z.slot = true ∧ ρ = ([(("rows" : Str), .dat (.list (rows.map lI))), (("columns" : Str), .dat (lI columns)), (("turns" : Str), .dat (lI (turnsOf columns.length))), (("comp" : Str), .dat (.inst (selD (selO columns)))), (("figures" : Str), .dat (lI (rows.map (figOf columns)))), (("row" : Str), c), (("figure" : Str), d), (("j" : Str), e), (("a" : Str), x), (("b" : Str), y), (("due" : Str), z), (("range" : Str), .bi (.type "range")), (("len" : Str), .bi (.builtin "len")), (("TupleComp" : Str), .gl .cls), ("", .kn ["turns"])] : Store)) (EvI.rangeI (memN 11 rfl) (.cons (EvE.bi (memN 12 rfl) (.cons (EvE.name (.head _)) .nil) (.lenL (by first | decide | lia | rfl | with_reducible assumption | exact Nat.le_of_ble_eq_true rfl | (have hsl : sizeLine = 2 ^ 24 := rfl; lia) | (have hsl : sizeLine = 2 ^ 24 := rfl; simp only [List.length_map, List.length_append, List.length_cons, List.length_nil, List.length_take, List.length_range, List.length_reverse]; lia)))) .nil) (by rw [List.length_map]) (by first | decide | omega | rfl | with_reducible assumption | exact Nat.le_of_ble_eq_true rfl | (have hsl : sizeLine = 2 ^ 24 := rfl; omega) | (have hsl : sizeLine = 2 ^ 24 := rfl; simp only [List.length_map, List.length_append, List.length_cons, List.length_nil, List.length_take, List.length_range, List.length_reverse]; omega))) ⟨.unb, .unb, .unb, rfl, rfl, rfl, rfl⟩ (fun i ρ hi hp => ?_) (fun ρ' hp => ?_)
    · obtain ⟨x, y, z, hx, hy, hz, rfl⟩ := hp
      refine exStep (.name (.there (.there (.there (.there (.there (.there (.there (.there (.here)))))))))) ?_
      refine exForN i (fun j ρ => ∃ y z : LV, y.slot = true ∧ z.slot = true ∧ ρ = ([(("rows" : Str), .dat (.list (rows.map lI))), (("columns" : Str), .dat (lI columns)), (("turns" : Str), .dat (lI (turnsOf columns.length))), (("comp" : Str), .dat (.inst (selD (selO columns)))), (("figures" : Str), .dat (lI (rows.map (figOf columns)))), (("row" : Str), c), (("figure" : Str), d), (("j" : Str), e), (("a" : Str), .dat (.int (i : Int))), (("b" : Str), y), (("due" : Str), z), (("range" : Str), .bi (.type "range")), (("len" : Str), .bi (.builtin "len")), (("TupleComp" : Str), .gl .cls), ("", .kn ["turns"])] : Store)) (EvI.rangeI (memN 11 rfl) (.cons (EvE.name (memN 8 rfl)) .nil) rfl (by first | decide | lia | rfl | with_reducible assumption | exact Nat.le_of_ble_eq_true rfl | (have hsl : sizeLine = 2 ^ 24 := rfl; lia) | (have hsl : sizeLine = 2 ^ 24 := rfl; simp only [List.length_map, List.length_append, List.length_cons, List.length_nil, List.length_take, List.length_range, List.length_reverse]; lia))) ⟨y, z, hy, hz, rfl⟩ (fun j ρ hj hp => ?_) (fun ρ' hp => ?_)
      · obtain ⟨y, z, hy, hz, rfl⟩ := hp
        refine exStep (.name (.there (.there (.there (.there (.there (.there (.there (.there (.there (.here))))))))))) (exCons (Ev1.assign EvE.cint (.there (.there (.there (.there (.there (.there (.there (.there (.there (.there (.here)))))))))))) ?_)
        have e1 : (rows.map (figOf columns)).getD i 0 = figOf columns (rows.getD i []) := by
          rw [List.getD_eq_getElem?_getD, List.getD_eq_getElem?_getD, List.getElem?_map, List.getElem?_eq_getElem hi]; rfl
        have hj' : j < rows.length := by lia
        have e2 : (rows.map (figOf columns)).getD j 0 = figOf columns (rows.getD j []) := by
          rw [List.getD_eq_getElem?_getD, List.getD_eq_getElem?_getD, List.getElem?_map, List.getElem?_eq_getElem hj']; rfl
        have ho := hord i hi j hj
        rw [← e1, ← e2] at ho
        have g1 := gN2 (f := D.int) (l := rows.map (figOf columns)) (i := i) 0 (by rw [List.length_map]; lia)
        have g2 := gN2 (f := D.int) (l := rows.map (figOf columns)) (i := j) 0 (by rw [List.length_map]; lia)
        generalize (rows.map (figOf columns)).getD i 0 = fa at *
        generalize (rows.map (figOf columns)).getD j 0 = fb at *
        rcases Int.lt_trichotomy fa fb with h | h | h
        · have hdue : dueOf fa fb = -1 := by unfold dueOf; rw [if_pos h]
          rw [hdue] at ho
          exact exCons (Ev1.iff (b := false) (EvT.eq (EvT.cmp (EvE.item (EvE.name (memN 4 rfl)).evL (EvE.name (memN 8 rfl)) (gN1 (by rw [List.length_map]; lia)) g1 (by first | decide | lia | rfl | with_reducible assumption | exact Nat.le_of_ble_eq_true rfl | (have hsl : sizeLine = 2 ^ 24 := rfl; lia) | (have hsl : sizeLine = 2 ^ 24 := rfl; simp only [List.length_map, List.length_append, List.length_cons, List.length_nil, List.length_take, List.length_range, List.length_reverse]; lia))) (EvE.item (EvE.name (memN 4 rfl)).evL (EvE.name (memN 9 rfl)) (gN1 (by rw [List.length_map]; lia)) g2 (by first | decide | lia | rfl | with_reducible assumption | exact Nat.le_of_ble_eq_true rfl | (have hsl : sizeLine = 2 ^ 24 := rfl; lia) | (have hsl : sizeLine = 2 ^ 24 := rfl; simp only [List.length_map, List.length_append, List.length_cons, List.length_nil, List.length_take, List.length_range, List.length_reverse]; lia))) .gt) (by simp; lia)) (fun e => by cases e) fun _ => EvS.nil) (exCons (Ev1.iff (b := true) (EvT.eq (EvT.cmp (EvE.item (EvE.name (memN 4 rfl)).evL (EvE.name (memN 8 rfl)) (gN1 (by rw [List.length_map]; lia)) g1 (by first | decide | lia | rfl | with_reducible assumption | exact Nat.le_of_ble_eq_true rfl | (have hsl : sizeLine = 2 ^ 24 := rfl; lia) | (have hsl : sizeLine = 2 ^ 24 := rfl; simp only [List.length_map, List.length_append, List.length_cons, List.length_nil, List.length_take, List.length_range, List.length_reverse]; lia))) (EvE.item (EvE.name (memN 4 rfl)).evL (EvE.name (memN 9 rfl)) (gN1 (by rw [List.length_map]; lia)) g2 (by first | decide | lia | rfl | with_reducible assumption | exact Nat.le_of_ble_eq_true rfl | (have hsl : sizeLine = 2 ^ 24 := rfl; lia) | (have hsl : sizeLine = 2 ^ 24 := rfl; simp only [List.length_map, List.length_append, List.length_cons, List.length_nil, List.length_take, List.length_range, List.length_reverse]; lia))) .lt) (by simp; lia)) (fun _ => EvS.one (Ev1.assign (EvE.neg EvE.cint) (.there (.there (.there (.there (.there (.there (.there (.there (.there (.there (.here))))))))))))) fun e => by cases e)
            (exCons (Ev1.iff (b := false) (EvT.eq (EvT.cmp (EvE.meth2 E.clsK E.cmpK rfl rfl (EvE.name (.tail _ (.tail _ (.tail _ (.head _))))) (.cons (EvE.item (EvE.name (.head _)).evL (EvE.name (memN 8 rfl)) (gN1 (by lia)) (gN2 [] (by lia)) (by first | decide | lia | rfl | with_reducible assumption | exact Nat.le_of_ble_eq_true rfl | (have hsl : sizeLine = 2 ^ 24 := rfl; lia) | (have hsl : sizeLine = 2 ^ 24 := rfl; simp only [List.length_map, List.length_append, List.length_cons, List.length_nil, List.length_take, List.length_range, List.length_reverse]; lia))) (.cons (EvE.item (EvE.name (.head _)).evL (EvE.name (memN 9 rfl)) (gN1 (by lia)) (gN2 [] (by lia)) (by first | decide | lia | rfl | with_reducible assumption | exact Nat.le_of_ble_eq_true rfl | (have hsl : sizeLine = 2 ^ 24 := rfl; lia) | (have hsl : sizeLine = 2 ^ 24 := rfl; simp only [List.length_map, List.length_append, List.length_cons, List.length_nil, List.length_take, List.length_range, List.length_reverse]; lia))) .nil)) (fn_compare E (k + 2) (sel := selO columns) (hsel _ _ (hrow i (by lia)) (hrow j (by lia))))) (EvE.name (memN 10 rfl)) .neI) (by rw [ho]; rfl)) (fun e => by cases e) fun _ => EvS.nil) (exNil ⟨.dat (.int (j : Int)), .dat (.int (-1)), rfl, rfl, rfl⟩)))
        · subst h
          have hdue : dueOf fa fa = 0 := by unfold dueOf; rw [if_neg (by lia), if_neg (by lia)]
          rw [hdue] at ho
          exact exCons (Ev1.iff (b := false) (EvT.eq (EvT.cmp (EvE.item (EvE.name (memN 4 rfl)).evL (EvE.name (memN 8 rfl)) (gN1 (by rw [List.length_map]; lia)) g1 (by first | decide | lia | rfl | with_reducible assumption | exact Nat.le_of_ble_eq_true rfl | (have hsl : sizeLine = 2 ^ 24 := rfl; lia) | (have hsl : sizeLine = 2 ^ 24 := rfl; simp only [List.length_map, List.length_append, List.length_cons, List.length_nil, List.length_take, List.length_range, List.length_reverse]; lia))) (EvE.item (EvE.name (memN 4 rfl)).evL (EvE.name (memN 9 rfl)) (gN1 (by rw [List.length_map]; lia)) g2 (by first | decide | lia | rfl | with_reducible assumption | exact Nat.le_of_ble_eq_true rfl | (have hsl : sizeLine = 2 ^ 24 := rfl; lia) | (have hsl : sizeLine = 2 ^ 24 := rfl; simp only [List.length_map, List.length_append, List.length_cons, List.length_nil, List.length_take, List.length_range, List.length_reverse]; lia))) .gt) (by simp)) (fun e => by cases e) fun _ => EvS.nil) (exCons (Ev1.iff (b := false) (EvT.eq (EvT.cmp (EvE.item (EvE.name (memN 4 rfl)).evL (EvE.name (memN 8 rfl)) (gN1 (by rw [List.length_map]; lia)) g1 (by first | decide | lia | rfl | with_reducible assumption | exact Nat.le_of_ble_eq_true rfl | (have hsl : sizeLine = 2 ^ 24 := rfl; lia) | (have hsl : sizeLine = 2 ^ 24 := rfl; simp only [List.length_map, List.length_append, List.length_cons, List.length_nil, List.length_take, List.length_range, List.length_reverse]; lia))) (EvE.item (EvE.name (memN 4 rfl)).evL (EvE.name (memN 9 rfl)) (gN1 (by rw [List.length_map]; lia)) g2 (by first | decide | lia | rfl | with_reducible assumption | exact Nat.le_of_ble_eq_true rfl | (have hsl : sizeLine = 2 ^ 24 := rfl; lia) | (have hsl : sizeLine = 2 ^ 24 := rfl; simp only [List.length_map, List.length_append, List.length_cons, List.length_nil, List.length_take, List.length_range, List.length_reverse]; lia))) .lt) (by simp)) (fun e => by cases e) fun _ => EvS.nil)
            (exCons (Ev1.iff (b := false) (EvT.eq (EvT.cmp (EvE.meth2 E.clsK E.cmpK rfl rfl (EvE.name (.tail _ (.tail _ (.tail _ (.head _))))) (.cons (EvE.item (EvE.name (.head _)).evL (EvE.name (memN 8 rfl)) (gN1 (by lia)) (gN2 [] (by lia)) (by first | decide | lia | rfl | with_reducible assumption | exact Nat.le_of_ble_eq_true rfl | (have hsl : sizeLine = 2 ^ 24 := rfl; lia) | (have hsl : sizeLine = 2 ^ 24 := rfl; simp only [List.length_map, List.length_append, List.length_cons, List.length_nil, List.length_take, List.length_range, List.length_reverse]; lia))) (.cons (EvE.item (EvE.name (.head _)).evL (EvE.name (memN 9 rfl)) (gN1 (by lia)) (gN2 [] (by lia)) (by first | decide | lia | rfl | with_reducible assumption | exact Nat.le_of_ble_eq_true rfl | (have hsl : sizeLine = 2 ^ 24 := rfl; lia) | (have hsl : sizeLine = 2 ^ 24 := rfl; simp only [List.length_map, List.length_append, List.length_cons, List.length_nil, List.length_take, List.length_range, List.length_reverse]; lia))) .nil)) (fn_compare E (k + 2) (sel := selO columns) (hsel _ _ (hrow i (by lia)) (hrow j (by lia))))) (EvE.name (memN 10 rfl)) .neI) (by rw [ho]; rfl)) (fun e => by cases e) fun _ => EvS.nil) (exNil ⟨.dat (.int (j : Int)), .dat (.int 0), rfl, rfl, rfl⟩)))
        · have hdue : dueOf fa fb = 1 := by unfold dueOf; rw [if_neg (by lia), if_pos h]
          rw [hdue] at ho
          exact exCons (Ev1.iff (b := true) (EvT.eq (EvT.cmp (EvE.item (EvE.name (memN 4 rfl)).evL (EvE.name (memN 8 rfl)) (gN1 (by rw [List.length_map]; lia)) g1 (by first | decide | lia | rfl | with_reducible assumption | exact Nat.le_of_ble_eq_true rfl | (have hsl : sizeLine = 2 ^ 24 := rfl; lia) | (have hsl : sizeLine = 2 ^ 24 := rfl; simp only [List.length_map, List.length_append, List.length_cons, List.length_nil, List.length_take, List.length_range, List.length_reverse]; lia))) (EvE.item (EvE.name (memN 4 rfl)).evL (EvE.name (memN 9 rfl)) (gN1 (by rw [List.length_map]; lia)) g2 (by first | decide | lia | rfl | with_reducible assumption | exact Nat.le_of_ble_eq_true rfl | (have hsl : sizeLine = 2 ^ 24 := rfl; lia) | (have hsl : sizeLine = 2 ^ 24 := rfl; simp only [List.length_map, List.length_append, List.length_cons, List.length_nil, List.length_take, List.length_range, List.length_reverse]; lia))) .gt) (by simp; lia)) (fun _ => EvS.one (Ev1.assign EvE.cint (.there (.there (.there (.there (.there (.there (.there (.there (.there (.there (.here))))))))))))) fun e => by cases e) (exCons (Ev1.iff (b := false) (EvT.eq (EvT.cmp (EvE.item (EvE.name (memN 4 rfl)).evL (EvE.name (memN 8 rfl)) (gN1 (by rw [List.length_map]; lia)) g1 (by first | decide | lia | rfl | with_reducible assumption | exact Nat.le_of_ble_eq_true rfl | (have hsl : sizeLine = 2 ^ 24 := rfl; lia) | (have hsl : sizeLine = 2 ^ 24 := rfl; simp only [List.length_map, List.length_append, List.length_cons, List.length_nil, List.length_take, List.length_range, List.length_reverse]; lia))) (EvE.item (EvE.name (memN 4 rfl)).evL (EvE.name (memN 9 rfl)) (gN1 (by rw [List.length_map]; lia)) g2 (by first | decide | lia | rfl | with_reducible assumption | exact Nat.le_of_ble_eq_true rfl | (have hsl : sizeLine = 2 ^ 24 := rfl; lia) | (have hsl : sizeLine = 2 ^ 24 := rfl; simp only [List.length_map, List.length_append, List.length_cons, List.length_nil, List.length_take, List.length_range, List.length_reverse]; lia))) .lt) (by simp; lia)) (fun e => by cases e) fun _ => EvS.nil)
            (exCons (Ev1.iff (b := false) (EvT.eq (EvT.cmp (EvE.meth2 E.clsK E.cmpK rfl rfl (EvE.name (.tail _ (.tail _ (.tail _ (.head _))))) (.cons (EvE.item (EvE.name (.head _)).evL (EvE.name (memN 8 rfl)) (gN1 (by omega)) (gN2 [] (by omega)) (by first | decide | omega | rfl | with_reducible assumption | exact Nat.le_of_ble_eq_true rfl | (have hsl : sizeLine = 2 ^ 24 := rfl; omega) | (have hsl : sizeLine = 2 ^ 24 := rfl; simp only [List.length_map, List.length_append, List.length_cons, List.length_nil, List.length_take, List.length_range, List.length_reverse]; omega))) (.cons (EvE.item (EvE.name (.head _)).evL (EvE.name (memN 9 rfl)) (gN1 (by omega)) (gN2 [] (by omega)) (by first | decide | omega | rfl | with_reducible assumption | exact Nat.le_of_ble_eq_true rfl | (have hsl : sizeLine = 2 ^ 24 := rfl; omega) | (have hsl : sizeLine = 2 ^ 24 := rfl; simp only [List.length_map, List.length_append, List.length_cons, List.length_nil, List.length_take, List.length_range, List.length_reverse]; omega))) .nil)) (fn_compare E (k + 2) (sel := selO columns) (hsel _ _ (hrow i (by omega)) (hrow j (by omega))))) (EvE.name (memN 10 rfl)) .neI) (by rw [ho]; rfl)) (fun e => by cases e) fun _ => EvS.nil) (exNil ⟨.dat (.int (j : Int)), .dat (.int 1), rfl, rfl, rfl⟩)))
      · obtain ⟨y, z, hy, hz, rfl⟩ := hp
        exact exNil ⟨.dat (.int (i : Int)), y, z, rfl, hy, hz, rfl⟩
    · exact EvS.one (Ev1.ret EvE.cbool)
end Mine
-- part Def12
open PySem
set_option Elab.async false
set_option linter.unusedVariables false
set_option linter.unusedSimpArgs false
set_option maxRecDepth 100000
namespace Mine
variable {C : Cx}

def mnI (a b : Int) : Int := if b < a then b else a
def mxI (a b : Int) : Int := if b > a then b else a
def mlStep (places : List (List Int)) (sent taken : List Int) (p : List Int) (ml : Int × Int) (j : Nat) : Int × Int :=
  if (places.getD j []).dropLast == p then (if sent.getD j 0 > taken.getD j 0 then (ml.1 + (sent.getD j 0 - taken.getD j 0), ml.2) else (ml.1, ml.2 + (taken.getD j 0 - sent.getD j 0))) else ml
def mlAt (paths places : List (List Int)) (sent taken : List Int) (p : List Int) (n : Nat) : Int × Int := (List.range n).foldl (mlStep places sent taken p) (((paths.take 3).countP (· == p) : Nat), ((paths.drop 3).countP (· == p) : Nat))
theorem mlAt_succ (paths places : List (List Int)) (sent taken : List Int) (p : List Int) (n : Nat) : mlAt paths places sent taken p (n + 1) = mlStep places sent taken p (mlAt paths places sent taken p n) n := by
  unfold mlAt; rw [List.range_succ, List.foldl_append]; rfl
theorem mlAt_ok (paths places : List (List Int)) (sent taken : List Int) (p : List Int) (hs : ∀ i, 0 ≤ sent.getD i 0 ∧ sent.getD i 0 ≤ 3) (ht : ∀ i, 0 ≤ taken.getD i 0 ∧ taken.getD i 0 ≤ 3) : ∀ n, 0 ≤ (mlAt paths places sent taken p n).1 ∧ (mlAt paths places sent taken p n).1 ≤ paths.length + 3 * n ∧ 0 ≤ (mlAt paths places sent taken p n).2 ∧ (mlAt paths places sent taken p n).2 ≤ paths.length + 3 * n
  | 0 => by
    unfold mlAt
    have h1 := List.countP_le_length (l := paths.take 3) (p := (· == p))
    have h2 := List.countP_le_length (l := paths.drop 3) (p := (· == p))
    rw [List.length_take] at h1
    rw [List.length_drop] at h2
    simp only [List.range_zero, List.foldl_nil]
    lia
  | n + 1 => by
    have ih := mlAt_ok paths places sent taken p hs ht n
    rw [mlAt_succ]
    have h1 := hs n
    have h2 := ht n
    unfold mlStep
    split
    · split
      · simp only; lia
      · simp only; lia
    · lia
def waysAt (w : Int) (ml : Int × Int) (n : Nat) : Int := (List.range n).foldl (fun (w : Int) (k : Nat) => w * (mxI ml.1 ml.2 - (k : Int))) w
theorem waysAt_succ (w : Int) (ml : Int × Int) (n : Nat) : waysAt w ml (n + 1) = waysAt w ml n * (mxI ml.1 ml.2 - (n : Int)) := by
  unfold waysAt; rw [List.range_succ, List.foldl_append]; rfl
def cheapStep (paths places : List (List Int)) (sent taken : List Int) (w : Int) (p : List Int) : Int :=
  waysAt w (mlAt paths places sent taken p places.length) (mnI (mlAt paths places sent taken p places.length).1 (mlAt paths places sent taken p places.length).2).toNat
def cheapOf (paths places : List (List Int)) (sent taken : List Int) : Int := ([] :: places).foldl (cheapStep paths places sent taken) 1
theorem fn_cheap (E : Env0 C) (k : Nat) {paths places : List (List Int)} {sent taken : List Int} (hp6 : paths.length = 6) (hpl : places.length ≤ 400) (hp3l : ∀ p ∈ places, p.length ≤ 3) (hls : sent.length = places.length) (hlt : taken.length = places.length)
    (hs : ∀ i, 0 ≤ sent.getD i 0 ∧ sent.getD i 0 ≤ 3) (ht : ∀ i, 0 ≤ taken.getD i 0 ∧ taken.getD i 0 ≤ 3) :
    FnOK C (k + 1) "_law_cheap" [.list (paths.map tI), .list (places.map tI), lI sent, lI taken] (.int (cheapOf paths places sent taken)) := by
  have hp3 : 3 ≤ paths.length := by lia
  refine fn_intro (ps := ["paths", "places", "sent", "taken"]) (out := .ret (.int (cheapOf paths places sent taken))) (E.hd 32 (by decide) rfl) (fun pm cd doc vs h => by obtain ⟨a0, a1, a2, a3, rfl⟩ := len_4 h; rfl) (by decide) (by decide) rfl
    (.par rfl (.par rfl (.par rfl (.par rfl (.loc rfl (.loc rfl (.loc rfl (.loc rfl (.loc rfl (.loc rfl (.bi rfl (E.bin "range" (.type "range") (by simp)) (.bi rfl (E.bin "len" (.builtin "len") (by simp)) (.bi rfl (E.bin "min" (.builtin "min") (by simp)) (.bi rfl (E.bin "max" (.builtin "max") (by simp)) (.nil)))))))))))))))
    (by show (["paths", "places", "sent", "taken", "ways", "at", "more", "less", "j", "k", "range", "len", "min", "max"] : List Str).Nodup; decide) rfl rfl rfl ?_ (.inl rfl)
  refine EvS.cons (Ev1.assign EvE.cint (.there (.there (.there (.there (.here)))))) ?_
  refine EvS.forL ([] :: places) (fun i ρ => ∃ q1 q2 q3 q4 q5 : LV, q1.slot = true ∧ q2.slot = true ∧ q3.slot = true ∧ q4.slot = true ∧ q5.slot = true ∧ ρ = ([(("paths" : Str), .dat (.list (paths.map tI))), (("places" : Str), .dat (.list (places.map tI))), (("sent" : Str), .dat (lI sent)), (("taken" : Str), .dat (lI taken)), (("ways" : Str), .dat (.int ((([] :: places).take i).foldl (cheapStep paths places sent taken) 1))), (("at" : Str), q1), (("more" : Str), q2), (("less" : Str), q3), (("j" : Str), q4), (("k" : Str), q5), (("range" : Str), .bi (.type "range")), (("len" : Str), .bi (.builtin "len")), (("min" : Str), .bi (.builtin "min")), (("max" : Str), .bi (.builtin "max"))] : Store)) tI (EvI.lst (EvE.eq (EvE.bin (EvE.lst (.cons (EvE.tup .nil (by exact Nat.le_of_ble_eq_true rfl)) .nil) (by exact Nat.le_of_ble_eq_true rfl)) (EvE.name (.tail _ (.head _))) (.addL (by first | with_reducible assumption | decide | lia | rfl | exact Nat.le_of_ble_eq_true rfl | (have hsl : sizeLine = 2 ^ 24 := rfl; lia) | (have hsl : sizeLine = 2 ^ 24 := rfl; simp only [List.length_map, List.length_append, List.length_cons, List.length_nil, List.length_take, List.length_range, List.length_reverse]; lia)))) (show D.list _ = .list (([] :: places).map tI) from rfl))) ⟨.unb, .unb, .unb, .unb, .unb, rfl, rfl, rfl, rfl, rfl, rfl⟩ (fun i p ρ hi hp => ?_) (fun ρ' hp => ?_)
  · obtain ⟨q1, q2, q3, q4, q5, h1, h2, h3, h4, h5, rfl⟩ := hp
    rw [fold_snoc (cheapStep paths places sent taken) 1 ([] :: places) i p hi]
    generalize ((([] : List Int) :: places).take i).foldl (cheapStep paths places sent taken) 1 = w
    have hml := mlAt_ok paths places sent taken p hs ht places.length
    refine exStep (.name (.there (.there (.there (.there (.there (.here))))))) (exCons (Ev1.assign (EvE.eq (EvE.count 3 (EvE.lslT (EvE.name (.head _)) (EvE.cint (i := ((3 : Nat) : Int))) hp3 (by lia)) (EvE.name (memN 5 rfl)) (okTI 2 _) (okTIs 2 _)) (show D.int _ = D.int ((paths.take 3).countP (· == p) : Nat) by rw [cnt_tI])) (.there (.there (.there (.there (.there (.there (.here)))))))) (exCons (Ev1.assign (EvE.eq (EvE.count 3 (EvE.lslD (EvE.name (.head _)) (EvE.cint (i := ((3 : Nat) : Int))) hp3 (by lia)) (EvE.name (memN 5 rfl)) (okTI 2 _) (okTIs 2 _)) (show D.int _ = D.int ((paths.drop 3).countP (· == p) : Nat) by rw [cnt_tI])) (.there (.there (.there (.there (.there (.there (.there (.here))))))))) ?_))
    refine exForN places.length (fun j ρ => ∃ q4 : LV, q4.slot = true ∧ ρ = ([(("paths" : Str), .dat (.list (paths.map tI))), (("places" : Str), .dat (.list (places.map tI))), (("sent" : Str), .dat (lI sent)), (("taken" : Str), .dat (lI taken)), (("ways" : Str), .dat (.int w)), (("at" : Str), .dat (tI p)), (("more" : Str), .dat (.int (mlAt paths places sent taken p j).1)), (("less" : Str), .dat (.int (mlAt paths places sent taken p j).2)), (("j" : Str), q4), (("k" : Str), q5), (("range" : Str), .bi (.type "range")), (("len" : Str), .bi (.builtin "len")), (("min" : Str), .bi (.builtin "min")), (("max" : Str), .bi (.builtin "max"))] : Store)) (EvI.rangeI (memN 10 rfl) (.cons (EvE.bi (memN 11 rfl) (.cons (EvE.name (.tail _ (.head _))) .nil) (.lenL (by first | with_reducible assumption | decide | lia | rfl | exact Nat.le_of_ble_eq_true rfl | (have hsl : sizeLine = 2 ^ 24 := rfl; lia) | (have hsl : sizeLine = 2 ^ 24 := rfl; simp only [List.length_map, List.length_append, List.length_cons, List.length_nil, List.length_take, List.length_range, List.length_reverse]; lia)))) .nil) (by rw [List.length_map]) (by first | with_reducible assumption | decide | lia | rfl | exact Nat.le_of_ble_eq_true rfl | (have hsl : sizeLine = 2 ^ 24 := rfl; lia) | (have hsl : sizeLine = 2 ^ 24 := rfl; simp only [List.length_map, List.length_append, List.length_cons, List.length_nil, List.length_take, List.length_range, List.length_reverse]; lia))) ⟨q4, h4, rfl⟩ (fun j ρ hj hp => ?_) (fun ρ' hp => ?_)
    · obtain ⟨q4, h4, rfl⟩ := hp
      have hjs : j < sent.length := by lia
      have hjt : j < taken.length := by lia
      have hl3 : (places.getD j []).length ≤ 1000 := by
        rw [List.getD_eq_getElem?_getD, List.getElem?_eq_getElem hj]
        exact Nat.le_trans (hp3l _ (List.getElem_mem hj)) (by decide)
      rw [mlAt_succ]
      generalize mlAt paths places sent taken p j = ml
      unfold mlStep
      refine exStep (.name (.there (.there (.there (.there (.there (.there (.there (.there (.here)))))))))) ?_
      cases hd : ((places.getD j []).dropLast == p) with
      | false =>
        rw [if_neg (by decide)]
        exact exCons (Ev1.iff (b := false) (EvT.eq (EvT.cmp (EvE.tslI (EvE.item (EvE.name (.tail _ (.head _))).evL (EvE.name (memN 8 rfl)) (gN1 hj) (gN2 [] hj) (by first | with_reducible assumption | decide | lia | rfl | exact Nat.le_of_ble_eq_true rfl | (have hsl : sizeLine = 2 ^ 24 := rfl; lia) | (have hsl : sizeLine = 2 ^ 24 := rfl; simp only [List.length_map, List.length_append, List.length_cons, List.length_nil, List.length_take, List.length_range, List.length_reverse]; lia))) (EvE.neg EvE.cint) (by first | with_reducible assumption | decide | lia | rfl | exact Nat.le_of_ble_eq_true rfl | (have hsl : sizeLine = 2 ^ 24 := rfl; lia) | (have hsl : sizeLine = 2 ^ 24 := rfl; simp only [List.length_map, List.length_append, List.length_cons, List.length_nil, List.length_take, List.length_range, List.length_reverse]; lia))) (EvE.name (memN 5 rfl)) (.eq 4 (okTI 3 _) (okTI 3 _))) (by rw [deqTI]; exact hd)) (fun e => by cases e) fun _ => EvS.nil) (exNil ⟨.dat (.int (j : Int)), rfl, rfl⟩)
      | true =>
        rw [if_pos rfl]
        by_cases hg : sent.getD j 0 > taken.getD j 0
        · rw [if_pos hg]
          exact exCons (Ev1.iff (b := true) (EvT.eq (EvT.cmp (EvE.tslI (EvE.item (EvE.name (.tail _ (.head _))).evL (EvE.name (memN 8 rfl)) (gN1 hj) (gN2 [] hj) (by first | with_reducible assumption | decide | lia | rfl | exact Nat.le_of_ble_eq_true rfl | (have hsl : sizeLine = 2 ^ 24 := rfl; lia) | (have hsl : sizeLine = 2 ^ 24 := rfl; simp only [List.length_map, List.length_append, List.length_cons, List.length_nil, List.length_take, List.length_range, List.length_reverse]; lia))) (EvE.neg EvE.cint) (by first | with_reducible assumption | decide | lia | rfl | exact Nat.le_of_ble_eq_true rfl | (have hsl : sizeLine = 2 ^ 24 := rfl; lia) | (have hsl : sizeLine = 2 ^ 24 := rfl; simp only [List.length_map, List.length_append, List.length_cons, List.length_nil, List.length_take, List.length_range, List.length_reverse]; lia))) (EvE.name (memN 5 rfl)) (.eq 4 (okTI 3 _) (okTI 3 _))) (by rw [deqTI]; exact hd)) (fun _ => EvS.one (Ev1.iff (b := true) (EvT.eq (EvT.cmp (EvE.item (EvE.name (.tail _ (.tail _ (.head _)))).evL (EvE.name (memN 8 rfl)) (gN1 hjs) (gN2 0 hjs) (by first | with_reducible assumption | decide | lia | rfl | exact Nat.le_of_ble_eq_true rfl | (have hsl : sizeLine = 2 ^ 24 := rfl; lia) | (have hsl : sizeLine = 2 ^ 24 := rfl; simp only [List.length_map, List.length_append, List.length_cons, List.length_nil, List.length_take, List.length_range, List.length_reverse]; lia))) (EvE.item (EvE.name (.tail _ (.tail _ (.tail _ (.head _))))).evL (EvE.name (memN 8 rfl)) (gN1 hjt) (gN2 0 hjt) (by first | with_reducible assumption | decide | lia | rfl | exact Nat.le_of_ble_eq_true rfl | (have hsl : sizeLine = 2 ^ 24 := rfl; lia) | (have hsl : sizeLine = 2 ^ 24 := rfl; simp only [List.length_map, List.length_append, List.length_cons, List.length_nil, List.length_take, List.length_range, List.length_reverse]; lia))) .gt) (by simpa using hg)) (fun _ => EvS.one (Ev1.aug (memN 6 rfl) (EvE.bin (EvE.item (EvE.name (.tail _ (.tail _ (.head _)))).evL (EvE.name (memN 8 rfl)) (gN1 hjs) (gN2 0 hjs) (by first | with_reducible assumption | decide | lia | rfl | exact Nat.le_of_ble_eq_true rfl | (have hsl : sizeLine = 2 ^ 24 := rfl; lia) | (have hsl : sizeLine = 2 ^ 24 := rfl; simp only [List.length_map, List.length_append, List.length_cons, List.length_nil, List.length_take, List.length_range, List.length_reverse]; lia))) (EvE.item (EvE.name (.tail _ (.tail _ (.tail _ (.head _))))).evL (EvE.name (memN 8 rfl)) (gN1 hjt) (gN2 0 hjt) (by first | with_reducible assumption | decide | lia | rfl | exact Nat.le_of_ble_eq_true rfl | (have hsl : sizeLine = 2 ^ 24 := rfl; lia) | (have hsl : sizeLine = 2 ^ 24 := rfl; simp only [List.length_map, List.length_append, List.length_cons, List.length_nil, List.length_take, List.length_range, List.length_reverse]; lia))) .sub) .add (.there (.there (.there (.there (.there (.there (.here))))))))) fun e => by cases e)) fun e => by cases e) (exNil ⟨.dat (.int (j : Int)), rfl, rfl⟩)
        · rw [if_neg hg]
          exact exCons (Ev1.iff (b := true) (EvT.eq (EvT.cmp (EvE.tslI (EvE.item (EvE.name (.tail _ (.head _))).evL (EvE.name (memN 8 rfl)) (gN1 hj) (gN2 [] hj) (by first | with_reducible assumption | decide | lia | rfl | exact Nat.le_of_ble_eq_true rfl | (have hsl : sizeLine = 2 ^ 24 := rfl; lia) | (have hsl : sizeLine = 2 ^ 24 := rfl; simp only [List.length_map, List.length_append, List.length_cons, List.length_nil, List.length_take, List.length_range, List.length_reverse]; lia))) (EvE.neg EvE.cint) (by first | with_reducible assumption | decide | lia | rfl | exact Nat.le_of_ble_eq_true rfl | (have hsl : sizeLine = 2 ^ 24 := rfl; lia) | (have hsl : sizeLine = 2 ^ 24 := rfl; simp only [List.length_map, List.length_append, List.length_cons, List.length_nil, List.length_take, List.length_range, List.length_reverse]; lia))) (EvE.name (memN 5 rfl)) (.eq 4 (okTI 3 _) (okTI 3 _))) (by rw [deqTI]; exact hd)) (fun _ => EvS.one (Ev1.iff (b := false) (EvT.eq (EvT.cmp (EvE.item (EvE.name (.tail _ (.tail _ (.head _)))).evL (EvE.name (memN 8 rfl)) (gN1 hjs) (gN2 0 hjs) (by first | with_reducible assumption | decide | lia | rfl | exact Nat.le_of_ble_eq_true rfl | (have hsl : sizeLine = 2 ^ 24 := rfl; lia) | (have hsl : sizeLine = 2 ^ 24 := rfl; simp only [List.length_map, List.length_append, List.length_cons, List.length_nil, List.length_take, List.length_range, List.length_reverse]; lia))) (EvE.item (EvE.name (.tail _ (.tail _ (.tail _ (.head _))))).evL (EvE.name (memN 8 rfl)) (gN1 hjt) (gN2 0 hjt) (by first | with_reducible assumption | decide | lia | rfl | exact Nat.le_of_ble_eq_true rfl | (have hsl : sizeLine = 2 ^ 24 := rfl; lia) | (have hsl : sizeLine = 2 ^ 24 := rfl; simp only [List.length_map, List.length_append, List.length_cons, List.length_nil, List.length_take, List.length_range, List.length_reverse]; lia))) .gt) (by simpa using hg)) (fun e => by cases e) fun _ => EvS.one (Ev1.aug (memN 7 rfl) (EvE.bin (EvE.item (EvE.name (.tail _ (.tail _ (.tail _ (.head _))))).evL (EvE.name (memN 8 rfl)) (gN1 hjt) (gN2 0 hjt) (by first | with_reducible assumption | decide | lia | rfl | exact Nat.le_of_ble_eq_true rfl | (have hsl : sizeLine = 2 ^ 24 := rfl; lia) | (have hsl : sizeLine = 2 ^ 24 := rfl; simp only [List.length_map, List.length_append, List.length_cons, List.length_nil, List.length_take, List.length_range, List.length_reverse]; lia))) (EvE.item (EvE.name (.tail _ (.tail _ (.head _)))).evL (EvE.name (memN 8 rfl)) (gN1 hjs) (gN2 0 hjs) (by first | with_reducible assumption | decide | lia | rfl | exact Nat.le_of_ble_eq_true rfl | (have hsl : sizeLine = 2 ^ 24 := rfl; lia) | (have hsl : sizeLine = 2 ^ 24 := rfl; simp only [List.length_map, List.length_append, List.length_cons, List.length_nil, List.length_take, List.length_range, List.length_reverse]; lia))) .sub) .add (.there (.there (.there (.there (.there (.there (.there (.here))))))))))) fun e => by cases e) (exNil ⟨.dat (.int (j : Int)), rfl, rfl⟩)
    · obtain ⟨q4, h4, rfl⟩ := hp
      unfold cheapStep
      generalize mlAt paths places sent taken p places.length = ml at hml ⊢
      have hmn : (if ml.2 < ml.1 then ml.2 else ml.1) = (((mnI ml.1 ml.2).toNat : Nat) : Int) := by unfold mnI; split <;> lia
      have hmn2 : (mnI ml.1 ml.2).toNat < 2 ^ 40 := by unfold mnI; split <;> lia
      refine exForN (mnI ml.1 ml.2).toNat (fun n ρ => ∃ q5 : LV, q5.slot = true ∧ ρ = ([(("paths" : Str), .dat (.list (paths.map tI))), (("places" : Str), .dat (.list (places.map tI))), (("sent" : Str), .dat (lI sent)), (("taken" : Str), .dat (lI taken)), (("ways" : Str), .dat (.int (waysAt w ml n))), (("at" : Str), .dat (tI p)), (("more" : Str), .dat (.int ml.1)), (("less" : Str), .dat (.int ml.2)), (("j" : Str), q4), (("k" : Str), q5), (("range" : Str), .bi (.type "range")), (("len" : Str), .bi (.builtin "len")), (("min" : Str), .bi (.builtin "min")), (("max" : Str), .bi (.builtin "max"))] : Store)) (EvI.rangeI (memN 10 rfl) (.cons (EvE.bi (memN 12 rfl) (.cons (EvE.name (memN 6 rfl)) (.cons (EvE.name (memN 7 rfl)) .nil)) .min2) .nil) hmn hmn2) ⟨q5, h5, rfl⟩ (fun n ρ hn hp => ?_) (fun ρ' hp => ?_)
      · obtain ⟨q5, h5, rfl⟩ := hp
        rw [waysAt_succ]
        have hbig : ((if ml.2 > ml.1 then ml.2 else ml.1) - (n : Int)).natAbs < 2 ^ 60 := by unfold mnI at hn; split at hn <;> split <;> lia
        refine exStep (.name (.there (.there (.there (.there (.there (.there (.there (.there (.there (.here))))))))))) (exCons (Ev1.aug (memN 4 rfl) (EvE.bin (EvE.bi (memN 13 rfl) (.cons (EvE.name (memN 6 rfl)) (.cons (EvE.name (memN 7 rfl)) .nil)) .max2) (EvE.name (memN 9 rfl)) .sub) (.mul (mulR hbig)) (.there (.there (.there (.there (.here)))))) (exNil ⟨.dat (.int (n : Int)), rfl, rfl⟩))
      · obtain ⟨q5, h5, rfl⟩ := hp
        exact exNil ⟨.dat (tI p), .dat (.int ml.1), .dat (.int ml.2), q4, q5, rfl, rfl, rfl, h4, h5, rfl⟩
  · obtain ⟨q1, q2, q3, q4, q5, h1, h2, h3, h4, h5, rfl⟩ := hp
    rw [List.take_length]
    exact EvS.one (Ev1.ret (EvE.name (memN 4 rfl)))
end Mine
-- part Def13
open PySem
set_option Elab.async false
set_option linter.unusedVariables false
set_option linter.unusedSimpArgs false
set_option maxRecDepth 100000
namespace Mine
variable {C : Cx}

def meetStep (places : List (List Int)) (sent taken weights : List Int) (p : List Int) (c : Int) (j : Nat) : Int :=
  if p.take (places.getD j []).length == places.getD j [] then c + weights.getD j 0 * (6 - (sent.getD j 0 + taken.getD j 0)) else c + weights.getD j 0 * (sent.getD j 0 + taken.getD j 0)
def meetAt (places : List (List Int)) (sent taken weights : List Int) (p : List Int) (n : Nat) : Int := (List.range n).foldl (meetStep places sent taken weights p) 0
theorem meetAt_succ (places : List (List Int)) (sent taken weights : List Int) (p : List Int) (n : Nat) : meetAt places sent taken weights p (n + 1) = meetStep places sent taken weights p (meetAt places sent taken weights p n) n := by
  unfold meetAt; rw [List.range_succ, List.foldl_append]; rfl
def meetings (places : List (List Int)) (sent taken weights : List Int) : List Int := ([] :: places).map fun p => meetAt places sent taken weights p places.length
theorem fn_meetings (E : Env0 C) (k : Nat) {places : List (List Int)} {sent taken weights : List Int} (hpl : places.length ≤ 400) (hp3l : ∀ p ∈ places, p.length ≤ 3) (hls : sent.length = places.length) (hlt : taken.length = places.length) (hlw : weights.length = places.length)
    (hw : ∀ i, (weights.getD i 0).natAbs < 2 ^ 60) : FnOK C (k + 1) "_law_meetings" [.list (places.map tI), lI sent, lI taken, lI weights] (lI (meetings places sent taken weights)) := by
  refine fn_intro (ps := ["places", "sent", "taken", "weights"]) (out := .ret (lI (meetings places sent taken weights))) (E.hd 34 (by decide) rfl) (fun pm cd doc vs h => by obtain ⟨a0, a1, a2, a3, rfl⟩ := len_4 h; rfl) (by decide) (by decide) rfl
    (.par rfl (.par rfl (.par rfl (.par rfl (.loc rfl (.loc rfl (.loc rfl (.loc rfl (.loc rfl (.bi rfl (E.bin "range" (.type "range") (by simp)) (.bi rfl (E.bin "len" (.builtin "len") (by simp)) (.nil))))))))))))
    (by show (["places", "sent", "taken", "weights", "costs", "at", "cost", "j", "held", "range", "len"] : List Str).Nodup; decide) rfl rfl rfl ?_ (.inl rfl)
  refine EvS.cons (Ev1.assignF (EvF.lst .nil (by exact Nat.le_of_ble_eq_true rfl)) (.there (.there (.there (.there (.here)))))) ?_
  refine EvS.forL ([] :: places) (fun i ρ => ∃ q1 q2 q3 q4 : LV, q1.slot = true ∧ q2.slot = true ∧ q3.slot = true ∧ q4.slot = true ∧ ρ = ([(("places" : Str), .dat (.list (places.map tI))), (("sent" : Str), .dat (lI sent)), (("taken" : Str), .dat (lI taken)), (("weights" : Str), .dat (lI weights)), (("costs" : Str), .own (lI ((([] :: places).take i).map fun p => meetAt places sent taken weights p places.length))), (("at" : Str), q1), (("cost" : Str), q2), (("j" : Str), q3), (("held" : Str), q4), (("range" : Str), .bi (.type "range")), (("len" : Str), .bi (.builtin "len"))] : Store)) tI (EvI.lst (EvE.eq (EvE.bin (EvE.lst (.cons (EvE.tup .nil (by exact Nat.le_of_ble_eq_true rfl)) .nil) (by exact Nat.le_of_ble_eq_true rfl)) (EvE.name (.head _)) (.addL (by first | with_reducible assumption | decide | lia | rfl | exact Nat.le_of_ble_eq_true rfl | (have hsl : sizeLine = 2 ^ 24 := rfl; lia) | (have hsl : sizeLine = 2 ^ 24 := rfl; simp only [List.length_map, List.length_append, List.length_cons, List.length_nil, List.length_take, List.length_range, List.length_reverse]; lia)))) (show D.list _ = .list (([] :: places).map tI) from rfl))) ⟨.unb, .unb, .unb, .unb, rfl, rfl, rfl, rfl, rfl⟩ (fun i p ρ hi hp => ?_) (fun ρ' hp => ?_)
  · obtain ⟨q1, q2, q3, q4, h1, h2, h3, h4, rfl⟩ := hp
    have hpin : p.length ≤ 3 := by
      rcases List.mem_cons.mp (List.mem_of_getElem? hi) with e | e
      · rw [e]; decide
      · exact hp3l p e
    have hil : i < places.length + 1 := by
      have := (List.getElem?_eq_some_iff.mp hi).1
      simpa using this
    refine exStep (.name (.there (.there (.there (.there (.there (.here))))))) (exCons (Ev1.assign EvE.cint (.there (.there (.there (.there (.there (.there (.here)))))))) ?_)
    refine exForN places.length (fun j ρ => ∃ q3 q4 : LV, q3.slot = true ∧ q4.slot = true ∧ ρ = ([(("places" : Str), .dat (.list (places.map tI))), (("sent" : Str), .dat (lI sent)), (("taken" : Str), .dat (lI taken)), (("weights" : Str), .dat (lI weights)), (("costs" : Str), .own (lI ((([] :: places).take i).map fun p => meetAt places sent taken weights p places.length))), (("at" : Str), .dat (tI p)), (("cost" : Str), .dat (.int (meetAt places sent taken weights p j))), (("j" : Str), q3), (("held" : Str), q4), (("range" : Str), .bi (.type "range")), (("len" : Str), .bi (.builtin "len"))] : Store)) (EvI.rangeI (memN 9 rfl) (.cons (EvE.bi (memN 10 rfl) (.cons (EvE.name (.head _)) .nil) (.lenL (by first | with_reducible assumption | decide | lia | rfl | exact Nat.le_of_ble_eq_true rfl | (have hsl : sizeLine = 2 ^ 24 := rfl; lia) | (have hsl : sizeLine = 2 ^ 24 := rfl; simp only [List.length_map, List.length_append, List.length_cons, List.length_nil, List.length_take, List.length_range, List.length_reverse]; lia)))) .nil) (by rw [List.length_map]) (by first | with_reducible assumption | decide | lia | rfl | exact Nat.le_of_ble_eq_true rfl | (have hsl : sizeLine = 2 ^ 24 := rfl; lia) | (have hsl : sizeLine = 2 ^ 24 := rfl; simp only [List.length_map, List.length_append, List.length_cons, List.length_nil, List.length_take, List.length_range, List.length_reverse]; lia))) ⟨q3, q4, h3, h4, rfl⟩ (fun j ρ hj hp => ?_) (fun ρ' hp => ?_)
    · obtain ⟨q3, q4, h3, h4, rfl⟩ := hp
      have hjs : j < sent.length := by lia
      have hjt : j < taken.length := by lia
      have hjw : j < weights.length := by lia
      have hl3 : (places.getD j []).length ≤ 1000 := by
        rw [List.getD_eq_getElem?_getD, List.getElem?_eq_getElem hj]
        exact Nat.le_trans (hp3l _ (List.getElem_mem hj)) (by decide)
      have hbig := hw j
      rw [meetAt_succ]
      generalize meetAt places sent taken weights p j = c
      unfold meetStep
      refine exStep (.name (.there (.there (.there (.there (.there (.there (.there (.here))))))))) (exCons (Ev1.assign (EvE.bin (EvE.item (EvE.name (.tail _ (.head _))).evL (EvE.name (memN 7 rfl)) (gN1 hjs) (gN2 0 hjs) (by first | with_reducible assumption | decide | lia | rfl | exact Nat.le_of_ble_eq_true rfl | (have hsl : sizeLine = 2 ^ 24 := rfl; lia) | (have hsl : sizeLine = 2 ^ 24 := rfl; simp only [List.length_map, List.length_append, List.length_cons, List.length_nil, List.length_take, List.length_range, List.length_reverse]; lia))) (EvE.item (EvE.name (.tail _ (.tail _ (.head _)))).evL (EvE.name (memN 7 rfl)) (gN1 hjt) (gN2 0 hjt) (by first | with_reducible assumption | decide | lia | rfl | exact Nat.le_of_ble_eq_true rfl | (have hsl : sizeLine = 2 ^ 24 := rfl; lia) | (have hsl : sizeLine = 2 ^ 24 := rfl; simp only [List.length_map, List.length_append, List.length_cons, List.length_nil, List.length_take, List.length_range, List.length_reverse]; lia))) .add) (.there (.there (.there (.there (.there (.there (.there (.there (.here)))))))))) ?_)
      cases hd : (p.take (places.getD j []).length == places.getD j []) with
      | false =>
        rw [if_neg (by decide)]
        exact exCons (Ev1.iff (b := false) (EvT.eq (EvT.cmp (EvE.tslT (EvE.name (memN 5 rfl)) (EvE.bi (memN 10 rfl) (.cons (EvE.item (EvE.name (.head _)).evL (EvE.name (memN 7 rfl)) (gN1 hj) (gN2 [] hj) (by first | with_reducible assumption | decide | lia | rfl | exact Nat.le_of_ble_eq_true rfl | (have hsl : sizeLine = 2 ^ 24 := rfl; lia) | (have hsl : sizeLine = 2 ^ 24 := rfl; simp only [List.length_map, List.length_append, List.length_cons, List.length_nil, List.length_take, List.length_range, List.length_reverse]; lia))) .nil) (.lenT (by first | with_reducible assumption | decide | lia | rfl | exact Nat.le_of_ble_eq_true rfl | (have hsl : sizeLine = 2 ^ 24 := rfl; lia) | (have hsl : sizeLine = 2 ^ 24 := rfl; simp only [List.length_map, List.length_append, List.length_cons, List.length_nil, List.length_take, List.length_range, List.length_reverse]; lia)))) (by lia) (by lia)) (EvE.item (EvE.name (.head _)).evL (EvE.name (memN 7 rfl)) (gN1 hj) (gN2 [] hj) (by first | with_reducible assumption | decide | lia | rfl | exact Nat.le_of_ble_eq_true rfl | (have hsl : sizeLine = 2 ^ 24 := rfl; lia) | (have hsl : sizeLine = 2 ^ 24 := rfl; simp only [List.length_map, List.length_append, List.length_cons, List.length_nil, List.length_take, List.length_range, List.length_reverse]; lia))) (.eq 4 (okTI 3 _) (okTI 3 _))) (by rw [deqTI, List.length_map, Int.toNat_natCast]; exact hd)) (fun e => by cases e) fun _ => EvS.one (Ev1.aug (memN 6 rfl) (EvE.bin (EvE.item (EvE.name (.tail _ (.tail _ (.tail _ (.head _))))).evL (EvE.name (memN 7 rfl)) (gN1 hjw) (gN2 0 hjw) (by first | with_reducible assumption | decide | lia | rfl | exact Nat.le_of_ble_eq_true rfl | (have hsl : sizeLine = 2 ^ 24 := rfl; lia) | (have hsl : sizeLine = 2 ^ 24 := rfl; simp only [List.length_map, List.length_append, List.length_cons, List.length_nil, List.length_take, List.length_range, List.length_reverse]; lia))) (EvE.name (memN 8 rfl)) (.mul (mulL hbig))) .add (.there (.there (.there (.there (.there (.there (.here))))))))) (exNil ⟨.dat (.int (j : Int)), .dat (.int (sent.getD j 0 + taken.getD j 0)), rfl, rfl, rfl⟩)
      | true =>
        rw [if_pos rfl]
        exact exCons (Ev1.iff (b := true) (EvT.eq (EvT.cmp (EvE.tslT (EvE.name (memN 5 rfl)) (EvE.bi (memN 10 rfl) (.cons (EvE.item (EvE.name (.head _)).evL (EvE.name (memN 7 rfl)) (gN1 hj) (gN2 [] hj) (by first | with_reducible assumption | decide | lia | rfl | exact Nat.le_of_ble_eq_true rfl | (have hsl : sizeLine = 2 ^ 24 := rfl; lia) | (have hsl : sizeLine = 2 ^ 24 := rfl; simp only [List.length_map, List.length_append, List.length_cons, List.length_nil, List.length_take, List.length_range, List.length_reverse]; lia))) .nil) (.lenT (by first | with_reducible assumption | decide | lia | rfl | exact Nat.le_of_ble_eq_true rfl | (have hsl : sizeLine = 2 ^ 24 := rfl; lia) | (have hsl : sizeLine = 2 ^ 24 := rfl; simp only [List.length_map, List.length_append, List.length_cons, List.length_nil, List.length_take, List.length_range, List.length_reverse]; lia)))) (by lia) (by lia)) (EvE.item (EvE.name (.head _)).evL (EvE.name (memN 7 rfl)) (gN1 hj) (gN2 [] hj) (by first | with_reducible assumption | decide | lia | rfl | exact Nat.le_of_ble_eq_true rfl | (have hsl : sizeLine = 2 ^ 24 := rfl; lia) | (have hsl : sizeLine = 2 ^ 24 := rfl; simp only [List.length_map, List.length_append, List.length_cons, List.length_nil, List.length_take, List.length_range, List.length_reverse]; lia))) (.eq 4 (okTI 3 _) (okTI 3 _))) (by rw [deqTI, List.length_map, Int.toNat_natCast]; exact hd)) (fun _ => EvS.one (Ev1.aug (memN 6 rfl) (EvE.bin (EvE.item (EvE.name (.tail _ (.tail _ (.tail _ (.head _))))).evL (EvE.name (memN 7 rfl)) (gN1 hjw) (gN2 0 hjw) (by first | with_reducible assumption | decide | lia | rfl | exact Nat.le_of_ble_eq_true rfl | (have hsl : sizeLine = 2 ^ 24 := rfl; lia) | (have hsl : sizeLine = 2 ^ 24 := rfl; simp only [List.length_map, List.length_append, List.length_cons, List.length_nil, List.length_take, List.length_range, List.length_reverse]; lia))) (EvE.bin EvE.cint (EvE.name (memN 8 rfl)) .sub) (.mul (mulL hbig))) .add (.there (.there (.there (.there (.there (.there (.here))))))))) fun e => by cases e) (exNil ⟨.dat (.int (j : Int)), .dat (.int (sent.getD j 0 + taken.getD j 0)), rfl, rfl, rfl⟩)
    · obtain ⟨q3, q4, h3, h4, rfl⟩ := hp
      refine exCons (Ev1.cast (Ev1.append (memN 4 rfl) (EvE.name (memN 6 rfl)) (.there (.there (.there (.there (.here))))) (by first | with_reducible assumption | decide | lia | rfl | exact Nat.le_of_ble_eq_true rfl | (have hsl : sizeLine = 2 ^ 24 := rfl; lia) | (have hsl : sizeLine = 2 ^ 24 := rfl; simp only [List.length_map, List.length_append, List.length_cons, List.length_nil, List.length_take, List.length_range, List.length_reverse]; lia))) ?_) (exNil ⟨.dat (tI p), .dat (.int (meetAt places sent taken weights p places.length)), q3, q4, rfl, rfl, h3, h4, rfl⟩)
      rw [List.take_add_one, hi]
      simp only [lI, List.map_append, Option.toList, List.map_cons, List.map_nil]
  · obtain ⟨q1, q2, q3, q4, h1, h2, h3, h4, rfl⟩ := hp
    rw [List.take_length]
    refine EvS.freeze (memN 4 rfl) (.there (.there (.there (.there (.here))))) ?_
    exact EvS.one (Ev1.ret (EvE.name (memN 4 rfl)))

def heartStep (places : List (List Int)) (sent taken : List Int) (hp : List Int × List Int) (j : Nat) : List Int × List Int :=
  if sent.getD j 0 + taken.getD j 0 > 3 ∧ (places.getD j []).length > hp.1.length then (places.getD j [], [(3 - sent.getD j 0) * (3 - taken.getD j 0)]) else hp
def heartAt (places : List (List Int)) (sent taken : List Int) (n : Nat) : List Int × List Int := (List.range n).foldl (heartStep places sent taken) ([], [0])
theorem heartAt_succ (places : List (List Int)) (sent taken : List Int) (n : Nat) : heartAt places sent taken (n + 1) = heartStep places sent taken (heartAt places sent taken n) n := by
  unfold heartAt; rw [List.range_succ, List.foldl_append]; rfl
def prodStep (places : List (List Int)) (sent taken : List Int) (heart : List Int) (ps : List Int) (j : Nat) : List Int :=
  if (places.getD j []).dropLast == heart then ps ++ [sent.getD j 0 * taken.getD j 0] else ps
def prodAt (places : List (List Int)) (sent taken : List Int) (heart ps : List Int) (n : Nat) : List Int := (List.range n).foldl (prodStep places sent taken heart) ps
theorem prodAt_succ (places : List (List Int)) (sent taken : List Int) (heart ps : List Int) (n : Nat) : prodAt places sent taken heart ps (n + 1) = prodStep places sent taken heart (prodAt places sent taken heart ps n) n := by
  unfold prodAt; rw [List.range_succ, List.foldl_append]; rfl
def rookStep (r : Int × Int × Int) (p : Int) : Int × Int × Int := (r.1 + p * 1, r.2.1 + p * r.1, r.2.2 + p * r.2.1)
def rooksOf (ps : List Int) : Int × Int × Int := ps.foldl rookStep (0, 0, 0)
def dearOf (places : List (List Int)) (sent taken : List Int) : Int :=
  let h := heartAt places sent taken places.length
  let r := rooksOf (prodAt places sent taken h.1 h.2 places.length)
  6 * 1 - 2 * r.1 + r.2.1 - r.2.2

theorem heart_t {a b : Int} {m n : Nat} (h : a + b > 3 ∧ m > n) : (decide (a + b > 3) && (decide ((m : Int) > (n : Int)) && true)) = true := by
  simp only [Bool.and_true, Bool.and_eq_true, decide_eq_true_eq]; lia
theorem heart_f {a b : Int} {m n : Nat} (h : ¬ (a + b > 3 ∧ m > n)) : (decide (a + b > 3) && (decide ((m : Int) > (n : Int)) && true)) = false := by
  simp only [Bool.and_true, Bool.and_eq_false_iff, decide_eq_false_iff_not]; lia
theorem prods_small (places : List (List Int)) (sent taken : List Int) (hs : ∀ i, 0 ≤ sent.getD i 0 ∧ sent.getD i 0 ≤ 3) (ht : ∀ i, 0 ≤ taken.getD i 0 ∧ taken.getD i 0 ≤ 3) : (∀ n, ∀ p ∈ (heartAt places sent taken n).2, p.natAbs < 2 ^ 60) ∧ ∀ h ps, (∀ p ∈ ps, p.natAbs < 2 ^ 60) → ∀ n, ∀ p ∈ prodAt places sent taken h ps n, p.natAbs < 2 ^ 60 := by
  have small : ∀ a b : Int, 0 ≤ a → a ≤ 3 → 0 ≤ b → b ≤ 3 → (a * b).natAbs < 2 ^ 60 := by
    intro a b h1 h2 h3 h4
    have e : (a * b).natAbs = a.natAbs * b.natAbs := Int.natAbs_mul a b
    rw [e]
    have : a.natAbs * b.natAbs ≤ 3 * 3 := Nat.mul_le_mul (by lia) (by lia)
    lia
  constructor
  · intro n
    induction n with
    | zero => unfold heartAt; simp
    | succ n ih =>
      rw [heartAt_succ]
      unfold heartStep
      have h1 := hs n
      have h2 := ht n
      split
      · intro p hp
        simp only [List.mem_singleton] at hp
        rw [hp]
        exact small _ _ (by lia) (by lia) (by lia) (by lia)
      · exact ih
  · intro h ps hps n
    induction n with
    | zero => unfold prodAt; exact hps
    | succ n ih =>
      rw [prodAt_succ]
      unfold prodStep
      have h1 := hs n
      have h2 := ht n
      split
      · intro p hp
        rcases List.mem_append.mp hp with q | q
        · exact ih p q
        · simp only [List.mem_singleton] at q
          rw [q]
          exact small _ _ (by lia) (by lia) (by lia) (by lia)
      · exact ih
theorem heart_len (places : List (List Int)) (sent taken : List Int) (hp : ∀ p ∈ places, p.length ≤ 3) : ∀ n, n ≤ places.length → (heartAt places sent taken n).1.length ≤ 3 ∧ (heartAt places sent taken n).2.length = 1
  | 0, _ => by unfold heartAt; simp
  | n + 1, h => by
    have ih := heart_len places sent taken hp n (by lia)
    rw [heartAt_succ]
    unfold heartStep
    split
    · have hn : n < places.length := by lia
      refine ⟨?_, rfl⟩
      show (places.getD n []).length ≤ 3
      rw [List.getD_eq_getElem?_getD, List.getElem?_eq_getElem hn]
      exact hp _ (List.getElem_mem hn)
    · exact ih
theorem prod_len (places : List (List Int)) (sent taken h ps : List Int) : ∀ n, (prodAt places sent taken h ps n).length ≤ ps.length + n
  | 0 => by unfold prodAt; simp
  | n + 1 => by
    have ih := prod_len places sent taken h ps n
    rw [prodAt_succ]
    unfold prodStep
    split
    · simp; lia
    · lia
theorem fn_dear (E : Env0 C) (k : Nat) {places : List (List Int)} {sent taken : List Int} (hpl : places.length ≤ 400) (hp3l : ∀ p ∈ places, p.length ≤ 3) (hls : sent.length = places.length) (hlt : taken.length = places.length)
    (hs : ∀ i, 0 ≤ sent.getD i 0 ∧ sent.getD i 0 ≤ 3) (ht : ∀ i, 0 ≤ taken.getD i 0 ∧ taken.getD i 0 ≤ 3) :
    FnOK C (k + 1) "_law_dear" [.list (places.map tI), lI sent, lI taken] (.int (dearOf places sent taken)) := by
  obtain ⟨sm1, sm2⟩ := prods_small places sent taken hs ht
  refine fn_intro (ps := ["places", "sent", "taken"]) (out := .ret (.int (dearOf places sent taken))) (E.hd 33 (by decide) rfl) (fun pm cd doc vs h => by obtain ⟨a0, a1, a2, rfl⟩ := len_3 h; rfl) (by decide) (by decide) rfl
    (.par rfl (.par rfl (.par rfl (.loc rfl (.loc rfl (.loc rfl (.loc rfl (.loc rfl (.loc rfl (.bi rfl (E.bin "range" (.type "range") (by simp)) (.bi rfl (E.bin "len" (.builtin "len") (by simp)) (.nil))))))))))))
    (by show (["places", "sent", "taken", "heart", "products", "j", "rooks", "product", "k", "range", "len"] : List Str).Nodup; decide) rfl rfl rfl ?_ (.inl rfl)
  refine EvS.cons (Ev1.assign (EvE.eq (EvE.tup .nil (by exact Nat.le_of_ble_eq_true rfl)) (show D.tup [] = tI [] from rfl)) (.there (.there (.there (.here))))) ?_
  refine EvS.cons (Ev1.cast (ρ'' := ([(("places" : Str), .dat (.list (places.map tI))), (("sent" : Str), .dat (lI sent)), (("taken" : Str), .dat (lI taken)), (("heart" : Str), .dat (tI [])), (("products" : Str), .own (lI [0])), (("j" : Str), .unb), (("rooks" : Str), .unb), (("product" : Str), .unb), (("k" : Str), .unb), (("range" : Str), .bi (.type "range")), (("len" : Str), .bi (.builtin "len"))] : Store)) (Ev1.assignF (EvF.lst (.cons EvE.cint .nil) (by exact Nat.le_of_ble_eq_true rfl)) (.there (.there (.there (.there (.here)))))) rfl) ?_
  refine EvS.forN places.length (fun j ρ => ∃ q1 : LV, q1.slot = true ∧ ρ = ([(("places" : Str), .dat (.list (places.map tI))), (("sent" : Str), .dat (lI sent)), (("taken" : Str), .dat (lI taken)), (("heart" : Str), .dat (tI (heartAt places sent taken j).1)), (("products" : Str), .own (lI (heartAt places sent taken j).2)), (("j" : Str), q1), (("rooks" : Str), .unb), (("product" : Str), .unb), (("k" : Str), .unb), (("range" : Str), .bi (.type "range")), (("len" : Str), .bi (.builtin "len"))] : Store)) (EvI.rangeI (memN 9 rfl) (.cons (EvE.bi (memN 10 rfl) (.cons (EvE.name (.head _)) .nil) (.lenL (by first | with_reducible assumption | decide | lia | rfl | exact Nat.le_of_ble_eq_true rfl | (have hsl : sizeLine = 2 ^ 24 := rfl; lia) | (have hsl : sizeLine = 2 ^ 24 := rfl; simp only [List.length_map, List.length_append, List.length_cons, List.length_nil, List.length_take, List.length_range, List.length_reverse]; lia)))) .nil) (by rw [List.length_map]) (by first | with_reducible assumption | decide | lia | rfl | exact Nat.le_of_ble_eq_true rfl | (have hsl : sizeLine = 2 ^ 24 := rfl; lia) | (have hsl : sizeLine = 2 ^ 24 := rfl; simp only [List.length_map, List.length_append, List.length_cons, List.length_nil, List.length_take, List.length_range, List.length_reverse]; lia))) ⟨.unb, rfl, rfl⟩ (fun j ρ hj hp => ?_) (fun ρ' hp => ?_)
  · obtain ⟨q1, h1, rfl⟩ := hp
    have hjs : j < sent.length := by lia
    have hjt : j < taken.length := by lia
    have hl3 : (places.getD j []).length ≤ 1000 := by
      rw [List.getD_eq_getElem?_getD, List.getElem?_eq_getElem hj]
      exact Nat.le_trans (hp3l _ (List.getElem_mem hj)) (by decide)
    have hh3 := (heart_len places sent taken hp3l j (by lia)).1
    have hb1 : (3 - sent.getD j 0).natAbs < 2 ^ 60 := by have := hs j; lia
    rw [heartAt_succ]
    generalize heartAt places sent taken j = hh at hh3 ⊢
    unfold heartStep
    refine exStep (.name (.there (.there (.there (.there (.there (.here))))))) ?_
    by_cases hc : sent.getD j 0 + taken.getD j 0 > 3 ∧ (places.getD j []).length > hh.1.length
    · rw [if_pos hc]
      exact exCons (Ev1.iff (b := true) (EvT.eq (EvT.and (EvAnd.cons (EvT.cmp (EvE.bin (EvE.item (EvE.name (.tail _ (.head _))).evL (EvE.name (memN 5 rfl)) (gN1 hjs) (gN2 0 hjs) (by first | with_reducible assumption | decide | lia | rfl | exact Nat.le_of_ble_eq_true rfl | (have hsl : sizeLine = 2 ^ 24 := rfl; lia) | (have hsl : sizeLine = 2 ^ 24 := rfl; simp only [List.length_map, List.length_append, List.length_cons, List.length_nil, List.length_take, List.length_range, List.length_reverse]; lia))) (EvE.item (EvE.name (.tail _ (.tail _ (.head _)))).evL (EvE.name (memN 5 rfl)) (gN1 hjt) (gN2 0 hjt) (by first | with_reducible assumption | decide | lia | rfl | exact Nat.le_of_ble_eq_true rfl | (have hsl : sizeLine = 2 ^ 24 := rfl; lia) | (have hsl : sizeLine = 2 ^ 24 := rfl; simp only [List.length_map, List.length_append, List.length_cons, List.length_nil, List.length_take, List.length_range, List.length_reverse]; lia))) .add) EvE.cint .gt) fun _ => (EvAnd.cons (EvT.cmp (EvE.bi (memN 10 rfl) (.cons (EvE.item (EvE.name (.head _)).evL (EvE.name (memN 5 rfl)) (gN1 hj) (gN2 [] hj) (by first | with_reducible assumption | decide | lia | rfl | exact Nat.le_of_ble_eq_true rfl | (have hsl : sizeLine = 2 ^ 24 := rfl; lia) | (have hsl : sizeLine = 2 ^ 24 := rfl; simp only [List.length_map, List.length_append, List.length_cons, List.length_nil, List.length_take, List.length_range, List.length_reverse]; lia))) .nil) (.lenT (by first | with_reducible assumption | decide | lia | rfl | exact Nat.le_of_ble_eq_true rfl | (have hsl : sizeLine = 2 ^ 24 := rfl; lia) | (have hsl : sizeLine = 2 ^ 24 := rfl; simp only [List.length_map, List.length_append, List.length_cons, List.length_nil, List.length_take, List.length_range, List.length_reverse]; lia)))) (EvE.bi (memN 10 rfl) (.cons (EvE.name (.tail _ (.tail _ (.tail _ (.head _))))) .nil) (.lenT (by first | with_reducible assumption | decide | lia | rfl | exact Nat.le_of_ble_eq_true rfl | (have hsl : sizeLine = 2 ^ 24 := rfl; lia) | (have hsl : sizeLine = 2 ^ 24 := rfl; simp only [List.length_map, List.length_append, List.length_cons, List.length_nil, List.length_take, List.length_range, List.length_reverse]; lia)))) .gt) fun _ => EvAnd.nil))) (heart_t (by rw [List.length_map, List.length_map]; exact hc))) (fun _ => EvS.cons (Ev1.assign (EvE.item (EvE.name (.head _)).evL (EvE.name (memN 5 rfl)) (gN1 hj) (gN2 [] hj) (by first | with_reducible assumption | decide | lia | rfl | exact Nat.le_of_ble_eq_true rfl | (have hsl : sizeLine = 2 ^ 24 := rfl; lia) | (have hsl : sizeLine = 2 ^ 24 := rfl; simp only [List.length_map, List.length_append, List.length_cons, List.length_nil, List.length_take, List.length_range, List.length_reverse]; lia))) (.there (.there (.there (.here))))) (EvS.one (Ev1.cast (ρ'' := ([(("places" : Str), .dat (.list (places.map tI))), (("sent" : Str), .dat (lI sent)), (("taken" : Str), .dat (lI taken)), (("heart" : Str), .dat (tI (places.getD j []))), (("products" : Str), .own (lI [(3 - sent.getD j 0) * (3 - taken.getD j 0)])), (("j" : Str), .dat (.int (j : Int))), (("rooks" : Str), .unb), (("product" : Str), .unb), (("k" : Str), .unb), (("range" : Str), .bi (.type "range")), (("len" : Str), .bi (.builtin "len"))] : Store)) (Ev1.assignF (EvF.lst (.cons (EvE.bin (EvE.bin EvE.cint (EvE.item (EvE.name (.tail _ (.head _))).evL (EvE.name (memN 5 rfl)) (gN1 hjs) (gN2 0 hjs) (by first | with_reducible assumption | decide | lia | rfl | exact Nat.le_of_ble_eq_true rfl | (have hsl : sizeLine = 2 ^ 24 := rfl; lia) | (have hsl : sizeLine = 2 ^ 24 := rfl; simp only [List.length_map, List.length_append, List.length_cons, List.length_nil, List.length_take, List.length_range, List.length_reverse]; lia))) .sub) (EvE.bin EvE.cint (EvE.item (EvE.name (.tail _ (.tail _ (.head _)))).evL (EvE.name (memN 5 rfl)) (gN1 hjt) (gN2 0 hjt) (by first | with_reducible assumption | decide | lia | rfl | exact Nat.le_of_ble_eq_true rfl | (have hsl : sizeLine = 2 ^ 24 := rfl; lia) | (have hsl : sizeLine = 2 ^ 24 := rfl; simp only [List.length_map, List.length_append, List.length_cons, List.length_nil, List.length_take, List.length_range, List.length_reverse]; lia))) .sub) (.mul (mulL hb1))) .nil) (by exact Nat.le_of_ble_eq_true rfl)) (.there (.there (.there (.there (.here)))))) rfl))) fun e => by cases e) (exNil ⟨.dat (.int (j : Int)), rfl, rfl⟩)
    · rw [if_neg hc]
      exact exCons (Ev1.iff (b := false) (EvT.eq (EvT.and (EvAnd.cons (EvT.cmp (EvE.bin (EvE.item (EvE.name (.tail _ (.head _))).evL (EvE.name (memN 5 rfl)) (gN1 hjs) (gN2 0 hjs) (by first | with_reducible assumption | decide | lia | rfl | exact Nat.le_of_ble_eq_true rfl | (have hsl : sizeLine = 2 ^ 24 := rfl; lia) | (have hsl : sizeLine = 2 ^ 24 := rfl; simp only [List.length_map, List.length_append, List.length_cons, List.length_nil, List.length_take, List.length_range, List.length_reverse]; lia))) (EvE.item (EvE.name (.tail _ (.tail _ (.head _)))).evL (EvE.name (memN 5 rfl)) (gN1 hjt) (gN2 0 hjt) (by first | with_reducible assumption | decide | lia | rfl | exact Nat.le_of_ble_eq_true rfl | (have hsl : sizeLine = 2 ^ 24 := rfl; lia) | (have hsl : sizeLine = 2 ^ 24 := rfl; simp only [List.length_map, List.length_append, List.length_cons, List.length_nil, List.length_take, List.length_range, List.length_reverse]; lia))) .add) EvE.cint .gt) fun _ => (EvAnd.cons (EvT.cmp (EvE.bi (memN 10 rfl) (.cons (EvE.item (EvE.name (.head _)).evL (EvE.name (memN 5 rfl)) (gN1 hj) (gN2 [] hj) (by first | with_reducible assumption | decide | lia | rfl | exact Nat.le_of_ble_eq_true rfl | (have hsl : sizeLine = 2 ^ 24 := rfl; lia) | (have hsl : sizeLine = 2 ^ 24 := rfl; simp only [List.length_map, List.length_append, List.length_cons, List.length_nil, List.length_take, List.length_range, List.length_reverse]; lia))) .nil) (.lenT (by first | with_reducible assumption | decide | lia | rfl | exact Nat.le_of_ble_eq_true rfl | (have hsl : sizeLine = 2 ^ 24 := rfl; lia) | (have hsl : sizeLine = 2 ^ 24 := rfl; simp only [List.length_map, List.length_append, List.length_cons, List.length_nil, List.length_take, List.length_range, List.length_reverse]; lia)))) (EvE.bi (memN 10 rfl) (.cons (EvE.name (.tail _ (.tail _ (.tail _ (.head _))))) .nil) (.lenT (by first | with_reducible assumption | decide | lia | rfl | exact Nat.le_of_ble_eq_true rfl | (have hsl : sizeLine = 2 ^ 24 := rfl; lia) | (have hsl : sizeLine = 2 ^ 24 := rfl; simp only [List.length_map, List.length_append, List.length_cons, List.length_nil, List.length_take, List.length_range, List.length_reverse]; lia)))) .gt) fun _ => EvAnd.nil))) (heart_f (by rw [List.length_map, List.length_map]; exact hc))) (fun e => by cases e) fun _ => EvS.nil) (exNil ⟨.dat (.int (j : Int)), rfl, rfl⟩)
  · obtain ⟨q1, h1, rfl⟩ := hp
    have hhl := heart_len places sent taken hp3l places.length (Nat.le_refl _)
    have sm1' := sm1 places.length
    unfold dearOf
    generalize heartAt places sent taken places.length = hh at hhl sm1' ⊢
    dsimp only
    refine EvS.forN places.length (fun j ρ => ∃ q1 : LV, q1.slot = true ∧ ρ = ([(("places" : Str), .dat (.list (places.map tI))), (("sent" : Str), .dat (lI sent)), (("taken" : Str), .dat (lI taken)), (("heart" : Str), .dat (tI hh.1)), (("products" : Str), .own (lI (prodAt places sent taken hh.1 hh.2 j))), (("j" : Str), q1), (("rooks" : Str), .unb), (("product" : Str), .unb), (("k" : Str), .unb), (("range" : Str), .bi (.type "range")), (("len" : Str), .bi (.builtin "len"))] : Store)) (EvI.rangeI (memN 9 rfl) (.cons (EvE.bi (memN 10 rfl) (.cons (EvE.name (.head _)) .nil) (.lenL (by first | with_reducible assumption | decide | lia | rfl | exact Nat.le_of_ble_eq_true rfl | (have hsl : sizeLine = 2 ^ 24 := rfl; lia) | (have hsl : sizeLine = 2 ^ 24 := rfl; simp only [List.length_map, List.length_append, List.length_cons, List.length_nil, List.length_take, List.length_range, List.length_reverse]; lia)))) .nil) (by rw [List.length_map]) (by first | with_reducible assumption | decide | lia | rfl | exact Nat.le_of_ble_eq_true rfl | (have hsl : sizeLine = 2 ^ 24 := rfl; lia) | (have hsl : sizeLine = 2 ^ 24 := rfl; simp only [List.length_map, List.length_append, List.length_cons, List.length_nil, List.length_take, List.length_range, List.length_reverse]; lia))) ⟨q1, h1, rfl⟩ (fun j ρ hj hp => ?_) (fun ρ' hp => ?_)
    · obtain ⟨q1, h1, rfl⟩ := hp
      have hjs : j < sent.length := by lia
      have hjt : j < taken.length := by lia
      have hl3 : (places.getD j []).length ≤ 1000 := by
        rw [List.getD_eq_getElem?_getD, List.getElem?_eq_getElem hj]
        exact Nat.le_trans (hp3l _ (List.getElem_mem hj)) (by decide)
      have hb2 : (sent.getD j 0).natAbs < 2 ^ 60 := by have := hs j; lia
      have hpl2 : ((prodAt places sent taken hh.1 hh.2 j).map D.int).length ≤ sizeLine := by
        have := prod_len places sent taken hh.1 hh.2 j
        have e : sizeLine = 2 ^ 24 := rfl
        rw [List.length_map]
        lia
      rw [prodAt_succ]
      generalize prodAt places sent taken hh.1 hh.2 j = pp at hpl2 ⊢
      unfold prodStep
      refine exStep (.name (.there (.there (.there (.there (.there (.here))))))) ?_
      cases hd : ((places.getD j []).dropLast == hh.1) with
      | false =>
        rw [if_neg (by decide)]
        exact exCons (Ev1.iff (b := false) (EvT.eq (EvT.cmp (EvE.tslI (EvE.item (EvE.name (.head _)).evL (EvE.name (memN 5 rfl)) (gN1 hj) (gN2 [] hj) (by first | with_reducible assumption | decide | lia | rfl | exact Nat.le_of_ble_eq_true rfl | (have hsl : sizeLine = 2 ^ 24 := rfl; lia) | (have hsl : sizeLine = 2 ^ 24 := rfl; simp only [List.length_map, List.length_append, List.length_cons, List.length_nil, List.length_take, List.length_range, List.length_reverse]; lia))) (EvE.neg EvE.cint) (by first | with_reducible assumption | decide | lia | rfl | exact Nat.le_of_ble_eq_true rfl | (have hsl : sizeLine = 2 ^ 24 := rfl; lia) | (have hsl : sizeLine = 2 ^ 24 := rfl; simp only [List.length_map, List.length_append, List.length_cons, List.length_nil, List.length_take, List.length_range, List.length_reverse]; lia))) (EvE.name (.tail _ (.tail _ (.tail _ (.head _))))) (.eq 4 (okTI 3 _) (okTI 3 _))) (by rw [deqTI]; exact hd)) (fun e => by cases e) fun _ => EvS.nil) (exNil ⟨.dat (.int (j : Int)), rfl, rfl⟩)
      | true =>
        rw [if_pos rfl]
        exact exCons (Ev1.iff (b := true) (EvT.eq (EvT.cmp (EvE.tslI (EvE.item (EvE.name (.head _)).evL (EvE.name (memN 5 rfl)) (gN1 hj) (gN2 [] hj) (by first | with_reducible assumption | decide | lia | rfl | exact Nat.le_of_ble_eq_true rfl | (have hsl : sizeLine = 2 ^ 24 := rfl; lia) | (have hsl : sizeLine = 2 ^ 24 := rfl; simp only [List.length_map, List.length_append, List.length_cons, List.length_nil, List.length_take, List.length_range, List.length_reverse]; lia))) (EvE.neg EvE.cint) (by first | with_reducible assumption | decide | lia | rfl | exact Nat.le_of_ble_eq_true rfl | (have hsl : sizeLine = 2 ^ 24 := rfl; lia) | (have hsl : sizeLine = 2 ^ 24 := rfl; simp only [List.length_map, List.length_append, List.length_cons, List.length_nil, List.length_take, List.length_range, List.length_reverse]; lia))) (EvE.name (.tail _ (.tail _ (.tail _ (.head _))))) (.eq 4 (okTI 3 _) (okTI 3 _))) (by rw [deqTI]; exact hd)) (fun _ => EvS.one (Ev1.cast (ρ'' := ([(("places" : Str), .dat (.list (places.map tI))), (("sent" : Str), .dat (lI sent)), (("taken" : Str), .dat (lI taken)), (("heart" : Str), .dat (tI hh.1)), (("products" : Str), .own (lI (pp ++ [sent.getD j 0 * taken.getD j 0]))), (("j" : Str), .dat (.int (j : Int))), (("rooks" : Str), .unb), (("product" : Str), .unb), (("k" : Str), .unb), (("range" : Str), .bi (.type "range")), (("len" : Str), .bi (.builtin "len"))] : Store)) (Ev1.append (memN 4 rfl) (EvE.bin (EvE.item (EvE.name (.tail _ (.head _))).evL (EvE.name (memN 5 rfl)) (gN1 hjs) (gN2 0 hjs) (by first | with_reducible assumption | decide | lia | rfl | exact Nat.le_of_ble_eq_true rfl | (have hsl : sizeLine = 2 ^ 24 := rfl; lia) | (have hsl : sizeLine = 2 ^ 24 := rfl; simp only [List.length_map, List.length_append, List.length_cons, List.length_nil, List.length_take, List.length_range, List.length_reverse]; lia))) (EvE.item (EvE.name (.tail _ (.tail _ (.head _)))).evL (EvE.name (memN 5 rfl)) (gN1 hjt) (gN2 0 hjt) (by first | with_reducible assumption | decide | lia | rfl | exact Nat.le_of_ble_eq_true rfl | (have hsl : sizeLine = 2 ^ 24 := rfl; lia) | (have hsl : sizeLine = 2 ^ 24 := rfl; simp only [List.length_map, List.length_append, List.length_cons, List.length_nil, List.length_take, List.length_range, List.length_reverse]; lia))) (.mul (mulL hb2))) (.there (.there (.there (.there (.here))))) (by first | with_reducible assumption | decide | lia | rfl | exact Nat.le_of_ble_eq_true rfl | (have hsl : sizeLine = 2 ^ 24 := rfl; lia) | (have hsl : sizeLine = 2 ^ 24 := rfl; simp only [List.length_map, List.length_append, List.length_cons, List.length_nil, List.length_take, List.length_range, List.length_reverse]; lia))) (by simp only [lI, List.map_append, List.map_cons, List.map_nil]))) fun e => by cases e) (exNil ⟨.dat (.int (j : Int)), rfl, rfl⟩)
    · obtain ⟨q1, h1, rfl⟩ := hp
      have sm := sm2 hh.1 hh.2 sm1' places.length
      generalize prodAt places sent taken hh.1 hh.2 places.length = pp at sm ⊢
      refine EvS.cons (Ev1.cast (ρ'' := ([(("places" : Str), .dat (.list (places.map tI))), (("sent" : Str), .dat (lI sent)), (("taken" : Str), .dat (lI taken)), (("heart" : Str), .dat (tI hh.1)), (("products" : Str), .own (lI pp)), (("j" : Str), q1), (("rooks" : Str), .own (lI [1, 0, 0, 0])), (("product" : Str), .unb), (("k" : Str), .unb), (("range" : Str), .bi (.type "range")), (("len" : Str), .bi (.builtin "len"))] : Store)) (Ev1.assignF (EvF.lst (.cons EvE.cint (.cons EvE.cint (.cons EvE.cint (.cons EvE.cint .nil)))) (by exact Nat.le_of_ble_eq_true rfl)) (.there (.there (.there (.there (.there (.there (.here)))))))) rfl) ?_
      refine EvS.freeze (memN 4 rfl) (.there (.there (.there (.there (.here))))) ?_
      refine EvS.forL pp (fun i ρ => ∃ q2 q3 : LV, q2.slot = true ∧ q3.slot = true ∧ ρ = ([(("places" : Str), .dat (.list (places.map tI))), (("sent" : Str), .dat (lI sent)), (("taken" : Str), .dat (lI taken)), (("heart" : Str), .dat (tI hh.1)), (("products" : Str), .dat (lI pp)), (("j" : Str), q1), (("rooks" : Str), .own (lI [1, (rooksOf (pp.take i)).1, (rooksOf (pp.take i)).2.1, (rooksOf (pp.take i)).2.2])), (("product" : Str), q2), (("k" : Str), q3), (("range" : Str), .bi (.type "range")), (("len" : Str), .bi (.builtin "len"))] : Store)) D.int (EvI.lst (EvE.name (memN 4 rfl))) ⟨.unb, .unb, rfl, rfl, rfl⟩ (fun i p ρ hi hp => ?_) (fun ρ' hp => ?_)
      · obtain ⟨q2, q3, h2, h3, rfl⟩ := hp
        have hsm := sm p (List.mem_of_getElem? hi)
        unfold rooksOf
        rw [fold_snoc rookStep (0, 0, 0) pp i p hi]
        generalize (pp.take i).foldl rookStep (0, 0, 0) = R
        refine exStep (.name (.there (.there (.there (.there (.there (.there (.there (.here))))))))) (exCons (Ev1.cast (ρ'' := ([(("places" : Str), .dat (.list (places.map tI))), (("sent" : Str), .dat (lI sent)), (("taken" : Str), .dat (lI taken)), (("heart" : Str), .dat (tI hh.1)), (("products" : Str), .dat (lI pp)), (("j" : Str), q1), (("rooks" : Str), .own (lI [1, (rookStep R p).1, (rookStep R p).2.1, (rookStep R p).2.2])), (("product" : Str), .dat (.int p)), (("k" : Str), .dat (.int 1)), (("range" : Str), .bi (.type "range")), (("len" : Str), .bi (.builtin "len"))] : Store)) (Ev1.for (EvI.tup (EvE.tup (.cons EvE.cint (.cons EvE.cint (.cons EvE.cint .nil))) (by exact Nat.le_of_ble_eq_true rfl))) (.turn (.name (.there (.there (.there (.there (.there (.there (.there (.there (.here)))))))))) (EvS.one (Ev1.augL (memN 6 rfl) (EvE.name (memN 8 rfl)) (by decide) (by simp) (by exact Nat.le_of_ble_eq_true rfl) rfl (EvE.bin (EvE.name (memN 7 rfl)) (EvE.item (EvL.own (memN 6 rfl)) (EvE.bin (EvE.name (memN 8 rfl)) EvE.cint .sub) rfl rfl (by first | with_reducible assumption | decide | lia | rfl | exact Nat.le_of_ble_eq_true rfl | (have hsl : sizeLine = 2 ^ 24 := rfl; lia) | (have hsl : sizeLine = 2 ^ 24 := rfl; simp only [List.length_map, List.length_append, List.length_cons, List.length_nil, List.length_take, List.length_range, List.length_reverse]; lia))) (.mul (mulL hsm))) .add (.there (.there (.there (.there (.there (.there (.here))))))))) (.turn (.name (.there (.there (.there (.there (.there (.there (.there (.there (.here)))))))))) (EvS.one (Ev1.augL (memN 6 rfl) (EvE.name (memN 8 rfl)) (by decide) (by simp) (by exact Nat.le_of_ble_eq_true rfl) rfl (EvE.bin (EvE.name (memN 7 rfl)) (EvE.item (EvL.own (memN 6 rfl)) (EvE.bin (EvE.name (memN 8 rfl)) EvE.cint .sub) rfl rfl (by first | with_reducible assumption | decide | lia | rfl | exact Nat.le_of_ble_eq_true rfl | (have hsl : sizeLine = 2 ^ 24 := rfl; lia) | (have hsl : sizeLine = 2 ^ 24 := rfl; simp only [List.length_map, List.length_append, List.length_cons, List.length_nil, List.length_take, List.length_range, List.length_reverse]; lia))) (.mul (mulL hsm))) .add (.there (.there (.there (.there (.there (.there (.here))))))))) (.turn (.name (.there (.there (.there (.there (.there (.there (.there (.there (.here)))))))))) (EvS.one (Ev1.augL (memN 6 rfl) (EvE.name (memN 8 rfl)) (by decide) (by simp) (by exact Nat.le_of_ble_eq_true rfl) rfl (EvE.bin (EvE.name (memN 7 rfl)) (EvE.item (EvL.own (memN 6 rfl)) (EvE.bin (EvE.name (memN 8 rfl)) EvE.cint .sub) rfl rfl (by first | with_reducible assumption | decide | lia | rfl | exact Nat.le_of_ble_eq_true rfl | (have hsl : sizeLine = 2 ^ 24 := rfl; lia) | (have hsl : sizeLine = 2 ^ 24 := rfl; simp only [List.length_map, List.length_append, List.length_cons, List.length_nil, List.length_take, List.length_range, List.length_reverse]; lia))) (.mul (mulL hsm))) .add (.there (.there (.there (.there (.there (.there (.here))))))))) .done)))) rfl) (exNil ⟨.dat (.int p), .dat (.int 1), rfl, rfl, rfl⟩))
      · obtain ⟨q2, q3, h2, h3, rfl⟩ := hp
        rw [List.take_length]
        refine EvS.freeze (memN 6 rfl) (.there (.there (.there (.there (.there (.there (.here))))))) ?_
        exact EvS.one (Ev1.ret (EvE.bin (EvE.bin (EvE.bin (EvE.bin EvE.cint (EvE.item (EvE.name (memN 6 rfl)).evL EvE.cint rfl rfl (by first | with_reducible assumption | decide | lia | rfl | exact Nat.le_of_ble_eq_true rfl | (have hsl : sizeLine = 2 ^ 24 := rfl; lia) | (have hsl : sizeLine = 2 ^ 24 := rfl; simp only [List.length_map, List.length_append, List.length_cons, List.length_nil, List.length_take, List.length_range, List.length_reverse]; lia))) (.mul (mulL (by decide)))) (EvE.bin EvE.cint (EvE.item (EvE.name (memN 6 rfl)).evL EvE.cint rfl rfl (by first | with_reducible assumption | decide | lia | rfl | exact Nat.le_of_ble_eq_true rfl | (have hsl : sizeLine = 2 ^ 24 := rfl; lia) | (have hsl : sizeLine = 2 ^ 24 := rfl; simp only [List.length_map, List.length_append, List.length_cons, List.length_nil, List.length_take, List.length_range, List.length_reverse]; lia))) (.mul (mulL (by decide)))) .sub) (EvE.item (EvE.name (memN 6 rfl)).evL EvE.cint rfl rfl (by first | with_reducible assumption | decide | lia | rfl | exact Nat.le_of_ble_eq_true rfl | (have hsl : sizeLine = 2 ^ 24 := rfl; lia) | (have hsl : sizeLine = 2 ^ 24 := rfl; simp only [List.length_map, List.length_append, List.length_cons, List.length_nil, List.length_take, List.length_range, List.length_reverse]; lia))) .add) (EvE.item (EvE.name (memN 6 rfl)).evL EvE.cint rfl rfl (by first | with_reducible assumption | decide | lia | rfl | exact Nat.le_of_ble_eq_true rfl | (have hsl : sizeLine = 2 ^ 24 := rfl; lia) | (have hsl : sizeLine = 2 ^ 24 := rfl; simp only [List.length_map, List.length_append, List.length_cons, List.length_nil, List.length_take, List.length_range, List.length_reverse]; lia))) .sub))
end Mine
-- part Pure3
open PySem
set_option Elab.async false
set_option linter.unusedVariables false
set_option maxRecDepth 100000
namespace Mine
/-- one sign written by others, on code points -/
def rep (c : Nat) (z : List Nat) (l : List Nat) : List Nat := l.flatMap fun k => if k = c then z else [k]
theorem rep_append (c : Nat) (z a b : List Nat) : rep c z (a ++ b) = rep c z a ++ rep c z b := by unfold rep; rw [List.flatMap_append]
theorem rep_free (c : Nat) (z : List Nat) : ∀ l : List Nat, c ∉ l → rep c z l = l
  | [], _ => rfl
  | k :: r, h => by
    have h1 : ¬ k = c := fun e => h (e ▸ List.mem_cons_self ..)
    have h2 : c ∉ r := fun m => h (List.mem_cons_of_mem _ m)
    unfold rep
    rw [List.flatMap_cons, if_neg h1]
    show k :: rep c z r = _
    rw [rep_free c z r h2]
theorem rep_join (c : Nat) (z : Str) : ∀ parts : List Str, (∀ p ∈ parts, c ∉ p.cps.toList) → rep c z.cps.toList (Str.join ⟨#[c]⟩ parts).cps.toList = (Str.join z parts).cps.toList
  | [], _ => rfl
  | [p], h => rep_free c _ _ (h p (List.mem_singleton.mpr rfl))
  | p :: q :: r, h => by
    have ih := rep_join c z (q :: r) fun a ha => h a (List.mem_cons_of_mem _ ha)
    show rep c z.cps.toList (p ++ ⟨#[c]⟩ ++ Str.join ⟨#[c]⟩ (q :: r)).cps.toList = (p ++ z ++ Str.join z (q :: r)).cps.toList
    simp only [Str.cps_append, Array.toList_append]
    rw [rep_append, rep_append, ih, rep_free c _ _ (h p (List.mem_cons_self ..))]
    have : rep c z.cps.toList [c] = z.cps.toList := by simp [rep]
    show p.cps.toList ++ rep c z.cps.toList [c] ++ _ = _
    rw [this]
theorem replace_rep (x z : Str) (c : Nat) : (Txt.replace x ⟨#[c]⟩ z).cps.toList = rep c z.cps.toList x.cps.toList := by
  rw [StrLaws.replace_one]
  rw [← rep_join c z (Txt.split x ⟨#[c]⟩) (StrLaws.split_free x c), StrLaws.join_split]
theorem esc1_rep (x z : Str) (c : Nat) : (esc1 ⟨#[c]⟩ z x).cps.toList = rep c z.cps.toList x.cps.toList := by
  unfold esc1
  rw [StrLaws.found_one]
  by_cases h : c ∈ x.cps.toList
  · rw [if_pos (by simpa using h), replace_rep]
  · rw [if_neg (by simpa using h), rep_free c _ _ h]
def escL (l : List (Nat × Str)) (x : List Nat) : List Nat := l.foldl (fun y p => rep p.1 p.2.cps.toList y) x
theorem escAll_L : ∀ (l : List (Nat × Str)) (x : Str), (escAll (l.map fun p => (⟨#[p.1]⟩, p.2)) x).cps.toList = escL l x.cps.toList
  | [], x => rfl
  | p :: l, x => by
    have := escAll_L l (esc1 ⟨#[p.1]⟩ p.2 x)
    rw [esc1_rep] at this
    exact this
def escP (w : Nat) : List (Nat × Str) := (escPairs w).map fun p => (p.1.cps.getD 0 0, p.2)
theorem escP_eq : ∀ w, w < 5 → escPairs w = (escP w).map fun p => (⟨#[p.1]⟩, p.2) := by decide +kernel
def escFitL : List (Nat × Str) → List Nat → Bool
  | [], x => decide (x.length ≤ 100000)
  | p :: l, x => decide (x.length ≤ 100000) && escFitL l (rep p.1 p.2.cps.toList x)
theorem escFitL_all : ∀ (l : List (Nat × Str)) (x : List Nat), escFitL l x = true → ∀ n, (escL (l.take n) x).length ≤ 100000
  | [], x, h, n => by rw [List.take_nil]; exact of_decide_eq_true h
  | p :: l, x, h, 0 => by
    unfold escFitL at h
    exact of_decide_eq_true (Bool.and_eq_true_iff.mp h).1
  | p :: l, x, h, n + 1 => by
    unfold escFitL at h
    exact escFitL_all l _ (Bool.and_eq_true_iff.mp h).2 n
def sp (w c : Nat) (p : List Int) : Str := if p = [] then "local" else spelled p (refOf w c)
def okW (w c : Nat) (p : List Int) : Bool := (escL (escP w) (textOf p c).cps.toList == (sp w c p).cps.toList) && escFitL (escP w) (textOf p c).cps.toList && JoinOk "." (spell p (sgn c ++ "b")) && JoinOk "." (spell p (refOf w c ++ "b"))
theorem okW_all : (List.range 5).all (fun w => (List.range 7).all fun c => allPaths.all fun p => okW w c p) = true := by decide +kernel
theorem okW_at {w c : Nat} {p : List Int} (hw : w < 5) (hc : c < 7) (hp : p ∈ allPaths) : okW w c p = true := by
  have := okW_all
  rw [List.all_eq_true] at this
  have := this w (List.mem_range.mpr hw)
  rw [List.all_eq_true] at this
  have := this c (List.mem_range.mpr hc)
  rw [List.all_eq_true] at this
  exact this p hp
theorem written_sp {w c : Nat} {p : List Int} (hw : w < 5) (hc : c < 7) (hp : p ∈ allPaths) : written p c w = sp w c p := by
  have h := okW_at hw hc hp
  unfold okW at h
  simp only [Bool.and_eq_true] at h
  have h1 := eq_of_beq h.1.1.1
  unfold written
  rw [escP_eq w hw]
  have h2 := escAll_L (escP w) (textOf p c)
  rw [h1] at h2
  cases hx : escAll ((escP w).map fun p => (⟨#[p.1]⟩, p.2)) (textOf p c) with
  | mk a =>
    cases hy : sp w c p with
    | mk b =>
      rw [hx, hy] at h2
      congr 1
      exact Array.toList_inj.mp h2
theorem written_fit {w c : Nat} {p : List Int} (hw : w < 5) (hc : c < 7) (hp : p ∈ allPaths) : ∀ n, (escAll ((escPairs w).take n) (textOf p c)).length ≤ 100000 := by
  have h := okW_at hw hc hp
  unfold okW at h
  simp only [Bool.and_eq_true] at h
  have h1 := escFitL_all _ _ h.1.1.2
  intro n
  rw [escP_eq w hw, ← List.map_take]
  have h2 := escAll_L ((escP w).take n) (textOf p c)
  have h3 := h1 n
  rw [← h2] at h3
  simpa [Str.length] using h3
end Mine
-- part Pure4
open PySem
set_option Elab.async false
set_option linter.unusedVariables false
set_option maxRecDepth 100000
namespace Mine
def lowA (c : Nat) : Nat := if 65 ≤ c ∧ c ≤ 90 then c + 32 else c
theorem lowerOf_ascii : ∀ c, c < 128 → Unicode.lowerOf c = [lowA c] := by decide +kernel
theorem lowerAt_ascii {s : Array Nat} {i c : Nat} (h : s[i]? = some c) (hc : c < 128) : Unicode.lowerAt s i = [lowA c] := by
  unfold Unicode.lowerAt
  rw [h]
  have : (c == 0x3A3) = false := by rw [beq_eq_false_iff_ne]; lia
  simp only [this, Bool.false_and, Bool.false_eq_true, if_false]
  exact lowerOf_ascii c hc
theorem lower_ascii {x : Str} (h : ∀ c ∈ x.cps.toList, c < 128) : Txt.lower x = ⟨x.cps.map lowA⟩ := by
  unfold Txt.lower
  congr 1
  refine PyProof.Rows.placed_single x _ lowA fun i c hc => ?_
  exact lowerAt_ascii (by rw [← Array.getElem?_toList]; exact hc) (h c (List.mem_of_getElem? hc))
/-- what the lists of code points say of one host: r the way the sign is written -/
def spR (r : Str) (p : List Int) : Str := if p = [] then "local" else spelled p r
theorem sp_eq (w c : Nat) (p : List Int) : sp w c p = spR (refOf w c) p := rfl
def allRefs : List Str := ["&amp;", "&lt;", "&gt;", "\"", "\r", "\n", "\t", "&#xD;", "&quot;", "&#13;", "&#10;", "&#09;", ">", "&#xA;", "&#x9;", "<"]
theorem ref_in : ∀ w, w < 5 → ∀ c, c < 7 → refOf w c ∈ allRefs := by decide +kernel
def endsL (x y : List Nat) : Bool := decide (y.length ≤ x.length) && (x.drop (x.length - y.length) == y)
theorem endswith_L (x y : Str) : Txt.endswith x y = endsL x.cps.toList y.cps.toList := by
  unfold Txt.endswith endsL
  rw [StrLaws.subAt_eq]
  have e1 : x.length = x.cps.toList.length := by simp [Str.length]
  have e2 : y.length = y.cps.toList.length := by simp [Str.length]
  rw [e1, e2, Nat.zero_add]
  by_cases h : y.cps.toList.length ≤ x.cps.toList.length
  · have : (x.cps.toList.drop (x.cps.toList.length - y.cps.toList.length)).take y.cps.toList.length = x.cps.toList.drop (x.cps.toList.length - y.cps.toList.length) := by
      rw [List.take_of_length_le]; rw [List.length_drop]; lia
    rw [this]
  · rw [decide_eq_false h, Bool.false_and, Bool.false_and]

/-- a pair of places: r's hosts p and q, the texts as lists -/
def okPair (r : Str) (p q : List Int) : Bool :=
  let x := (spR r p).cps.toList
  let y := 46 :: (spR r q).cps.toList
  let t := p.take q.length == q
  (((x == (spR r q).cps.toList) || endsL (x.map lowA) (y.map lowA)) == t) && (((x == (spR r q).cps.toList) || endsL x y) == t)
def okAscii (r : Str) (p : List Int) : Bool := (spR r p).cps.toList.all fun c => decide (c < 128)
theorem okAscii_all : allRefs.all (fun r => allPaths.all fun p => okAscii r p) = true := by decide +kernel
theorem okPair_all : allRefs.all (fun r => allPaths.all fun p => allPaths.all fun q => okPair r p q) = true := by decide +kernel
end Mine
-- part Pure5
open PySem
set_option Elab.async false
set_option linter.unusedVariables false
set_option maxRecDepth 100000
namespace Mine
open Builtin Builtin.Str StrLaws in
theorem occ_full (s sub : Str) (hi limit : Nat) : ∀ (l : List Nat) (st : Array Nat × Nat), limit ≤ st.fst.size → (forIn l st (occBody s sub hi limit)).run = st
  | [], st, h => rfl
  | a :: l, st, h => by
    rw [List.forIn_cons]
    unfold occBody
    rw [if_neg (by lia)]
    exact occ_full s sub hi limit l st h
open Builtin Builtin.Str StrLaws in
theorem find3_empty (y : Str) {j : Int} (hj : 0 ≤ j) : find3 y "" 0 j = 0 := by
  unfold find3
  have e0 : fromIndex y.length 0 = 0 := rfl
  rw [e0, occ_eq]
  generalize min (fromIndex y.length j) y.length = hi
  rw [Nat.sub_zero, List.range'_succ, List.forIn_cons]
  have hb : occBody y "" hi 1 0 (#[], 0) = pure (ForInStep.yield (#[0], 0)) := by
    unfold occBody
    have hs : subAt y "" 0 = true := by rw [subAt_eq]; rfl
    rw [if_pos ⟨⟨⟨by decide, Nat.le_refl _⟩, Nat.zero_le _⟩, hs⟩]
    rfl
  rw [hb]
  have := occ_full y "" hi 1 (List.range' (0 + 1) hi) (#[0], 0) (by decide)
  show (match ((forIn (List.range' (0 + 1) hi) ((#[0] : Array Nat), 0) (occBody y "" hi 1)).run.fst.toList) with | k :: _ => (k : Int) | [] => -1) = 0
  rw [this]
  rfl
end Mine
-- part Fin1
open PySem
set_option Elab.async false
set_option linter.unusedVariables false
set_option maxRecDepth 100000
namespace Mine
/-- one host on the ladder -/
def okHost (r : Str) (p : List Int) : Bool := let x := spR r p
  noIp x && (match x.cps.toList.head?, x.cps.toList.getLast? with | some a, some b => a != 46 && b != 46 | _, _ => false) && !(x == ("local" : Str)) && decide (x.length ≤ 100) && decide ((reachOf x).length ≤ 1000) && (Txt.slice (reachOf x) (some 1) none == spR r p.dropLast)
theorem okHost_0 : allPaths.all (fun p => okHost "&amp;" p) = true := by decide +kernel
theorem okHost_1 : allPaths.all (fun p => okHost "&lt;" p) = true := by decide +kernel
theorem okHost_2 : allPaths.all (fun p => okHost "&gt;" p) = true := by decide +kernel
theorem okHost_3 : allPaths.all (fun p => okHost "\"" p) = true := by decide +kernel
theorem okHost_4 : allPaths.all (fun p => okHost "\r" p) = true := by decide +kernel
theorem okHost_5 : allPaths.all (fun p => okHost "\n" p) = true := by decide +kernel
theorem okHost_6 : allPaths.all (fun p => okHost "\t" p) = true := by decide +kernel
theorem okHost_7 : allPaths.all (fun p => okHost "&#xD;" p) = true := by decide +kernel
theorem okHost_8 : allPaths.all (fun p => okHost "&quot;" p) = true := by decide +kernel
theorem okHost_9 : allPaths.all (fun p => okHost "&#13;" p) = true := by decide +kernel
theorem okHost_10 : allPaths.all (fun p => okHost "&#10;" p) = true := by decide +kernel
theorem okHost_11 : allPaths.all (fun p => okHost "&#09;" p) = true := by decide +kernel
theorem okHost_12 : allPaths.all (fun p => okHost ">" p) = true := by decide +kernel
theorem okHost_13 : allPaths.all (fun p => okHost "&#xA;" p) = true := by decide +kernel
theorem okHost_14 : allPaths.all (fun p => okHost "&#x9;" p) = true := by decide +kernel
theorem okHost_15 : allPaths.all (fun p => okHost "<" p) = true := by decide +kernel
theorem okHost_at {r : Str} {p : List Int} (hr : r ∈ allRefs) (hp : p ∈ allPaths) : okHost r p = true := by
  have : allPaths.all (fun p => okHost r p) = true := by
    unfold allRefs at hr
    simp only [List.mem_cons, List.not_mem_nil, or_false] at hr
    rcases hr with rfl | rfl | rfl | rfl | rfl | rfl | rfl | rfl | rfl | rfl | rfl | rfl | rfl | rfl | rfl | rfl
    · exact okHost_0
    · exact okHost_1
    · exact okHost_2
    · exact okHost_3
    · exact okHost_4
    · exact okHost_5
    · exact okHost_6
    · exact okHost_7
    · exact okHost_8
    · exact okHost_9
    · exact okHost_10
    · exact okHost_11
    · exact okHost_12
    · exact okHost_13
    · exact okHost_14
    · exact okHost_15
  rw [List.all_eq_true] at this
  exact this p hp
end Mine
-- part Fin2
open PySem
set_option Elab.async false
set_option linter.unusedVariables false
set_option maxRecDepth 100000
namespace Mine
/-- a host in small letters, and with a dot ahead, is no number -/
def okLow (r : Str) (p : List Int) : Bool := noIp ⟨((spR r p).cps.toList.map lowA).toArray⟩ && noIp ⟨(46 :: (spR r p).cps.toList.map lowA).toArray⟩
theorem okLow_0 : allPaths.all (fun p => okLow "&amp;" p) = true := by decide +kernel
theorem okLow_1 : allPaths.all (fun p => okLow "&lt;" p) = true := by decide +kernel
theorem okLow_2 : allPaths.all (fun p => okLow "&gt;" p) = true := by decide +kernel
theorem okLow_3 : allPaths.all (fun p => okLow "\"" p) = true := by decide +kernel
theorem okLow_4 : allPaths.all (fun p => okLow "\r" p) = true := by decide +kernel
theorem okLow_5 : allPaths.all (fun p => okLow "\n" p) = true := by decide +kernel
theorem okLow_6 : allPaths.all (fun p => okLow "\t" p) = true := by decide +kernel
theorem okLow_7 : allPaths.all (fun p => okLow "&#xD;" p) = true := by decide +kernel
theorem okLow_8 : allPaths.all (fun p => okLow "&quot;" p) = true := by decide +kernel
theorem okLow_9 : allPaths.all (fun p => okLow "&#13;" p) = true := by decide +kernel
theorem okLow_10 : allPaths.all (fun p => okLow "&#10;" p) = true := by decide +kernel
theorem okLow_11 : allPaths.all (fun p => okLow "&#09;" p) = true := by decide +kernel
theorem okLow_12 : allPaths.all (fun p => okLow ">" p) = true := by decide +kernel
theorem okLow_13 : allPaths.all (fun p => okLow "&#xA;" p) = true := by decide +kernel
theorem okLow_14 : allPaths.all (fun p => okLow "&#x9;" p) = true := by decide +kernel
theorem okLow_15 : allPaths.all (fun p => okLow "<" p) = true := by decide +kernel
theorem okLow_at {r : Str} {p : List Int} (hr : r ∈ allRefs) (hp : p ∈ allPaths) : okLow r p = true := by
  have : allPaths.all (fun p => okLow r p) = true := by
    unfold allRefs at hr
    simp only [List.mem_cons, List.not_mem_nil, or_false] at hr
    rcases hr with rfl | rfl | rfl | rfl | rfl | rfl | rfl | rfl | rfl | rfl | rfl | rfl | rfl | rfl | rfl | rfl
    · exact okLow_0
    · exact okLow_1
    · exact okLow_2
    · exact okLow_3
    · exact okLow_4
    · exact okLow_5
    · exact okLow_6
    · exact okLow_7
    · exact okLow_8
    · exact okLow_9
    · exact okLow_10
    · exact okLow_11
    · exact okLow_12
    · exact okLow_13
    · exact okLow_14
    · exact okLow_15
  rw [List.all_eq_true] at this
  exact this p hp
end Mine
-- part Fin3
open PySem
set_option Elab.async false
set_option linter.unusedVariables false
set_option maxRecDepth 100000
namespace Mine
/-- four dots ahead of a place's name -/
def okDots (r : Str) (q : List Int) : Bool := let x := "...." ++ spR r q
  !(Builtin.Str.occurrences x "..." 0 x.length 1).isEmpty && decide ((Builtin.Str.partsBetween x (Builtin.Str.occurrences x "..." 0 x.length (x.length + 1)) (Str.ofString "...").length).length ≤ 1000) && (Txt.split x "..." == [("" : Str), "." ++ spR r q])
theorem okDots_0 : allPaths.all (fun p => okDots "&amp;" p) = true := by decide +kernel
theorem okDots_1 : allPaths.all (fun p => okDots "&lt;" p) = true := by decide +kernel
theorem okDots_2 : allPaths.all (fun p => okDots "&gt;" p) = true := by decide +kernel
theorem okDots_3 : allPaths.all (fun p => okDots "\"" p) = true := by decide +kernel
theorem okDots_4 : allPaths.all (fun p => okDots "\r" p) = true := by decide +kernel
theorem okDots_5 : allPaths.all (fun p => okDots "\n" p) = true := by decide +kernel
theorem okDots_6 : allPaths.all (fun p => okDots "\t" p) = true := by decide +kernel
theorem okDots_7 : allPaths.all (fun p => okDots "&#xD;" p) = true := by decide +kernel
theorem okDots_8 : allPaths.all (fun p => okDots "&quot;" p) = true := by decide +kernel
theorem okDots_9 : allPaths.all (fun p => okDots "&#13;" p) = true := by decide +kernel
theorem okDots_10 : allPaths.all (fun p => okDots "&#10;" p) = true := by decide +kernel
theorem okDots_11 : allPaths.all (fun p => okDots "&#09;" p) = true := by decide +kernel
theorem okDots_12 : allPaths.all (fun p => okDots ">" p) = true := by decide +kernel
theorem okDots_13 : allPaths.all (fun p => okDots "&#xA;" p) = true := by decide +kernel
theorem okDots_14 : allPaths.all (fun p => okDots "&#x9;" p) = true := by decide +kernel
theorem okDots_15 : allPaths.all (fun p => okDots "<" p) = true := by decide +kernel
theorem okDots_at {r : Str} {p : List Int} (hr : r ∈ allRefs) (hp : p ∈ allPaths) : okDots r p = true := by
  have : allPaths.all (fun p => okDots r p) = true := by
    unfold allRefs at hr
    simp only [List.mem_cons, List.not_mem_nil, or_false] at hr
    rcases hr with rfl | rfl | rfl | rfl | rfl | rfl | rfl | rfl | rfl | rfl | rfl | rfl | rfl | rfl | rfl | rfl
    · exact okDots_0
    · exact okDots_1
    · exact okDots_2
    · exact okDots_3
    · exact okDots_4
    · exact okDots_5
    · exact okDots_6
    · exact okDots_7
    · exact okDots_8
    · exact okDots_9
    · exact okDots_10
    · exact okDots_11
    · exact okDots_12
    · exact okDots_13
    · exact okDots_14
    · exact okDots_15
  rw [List.all_eq_true] at this
  exact this p hp
end Mine
-- part Pure6
open PySem
set_option Elab.async false
set_option linter.unusedVariables false
set_option maxRecDepth 100000
namespace Mine
variable {C : Cx}

theorem okPair_at {r : Str} {p q : List Int} (hr : r ∈ allRefs) (hp : p ∈ allPaths) (hq : q ∈ allPaths) : okPair r p q = true := by
  have := okPair_all
  rw [List.all_eq_true] at this
  have := this r hr
  rw [List.all_eq_true] at this
  have := this p hp
  rw [List.all_eq_true] at this
  exact this q hq
theorem ascii_at {r : Str} {p : List Int} (hr : r ∈ allRefs) (hp : p ∈ allPaths) : ∀ c ∈ (spR r p).cps.toList, c < 128 := by
  have := okAscii_all
  rw [List.all_eq_true] at this
  have := this r hr
  rw [List.all_eq_true] at this
  have := this p hp
  unfold okAscii at this
  rw [List.all_eq_true] at this
  exact fun c hc => of_decide_eq_true (this c hc)
theorem dot_list (y : Str) : (Str.ofString "." ++ y).cps.toList = 46 :: y.cps.toList := by
  rw [Str.cps_append, Array.toList_append]
  rfl
theorem dot_ascii {y : Str} (h : ∀ c ∈ y.cps.toList, c < 128) : ∀ c ∈ (Str.ofString "." ++ y).cps.toList, c < 128 := by
  rw [dot_list]
  intro c hc
  rcases List.mem_cons.mp hc with e | e
  · subst e; decide
  · exact h c e
theorem lower_list {x : Str} (h : ∀ c ∈ x.cps.toList, c < 128) : (Txt.lower x).cps.toList = x.cps.toList.map lowA := by
  rw [lower_ascii h, Array.toList_map]
theorem lower_mk {x : Str} (h : ∀ c ∈ x.cps.toList, c < 128) : Txt.lower x = ⟨(x.cps.toList.map lowA).toArray⟩ := by
  rw [lower_ascii h]
  congr 1
  apply Array.toList_inj.mp
  simp
theorem starts_dot (y : Str) (l : List Nat) (h : y.cps.toList = 46 :: l) : Txt.startswith y "." = true := by
  unfold Txt.startswith
  rw [StrLaws.subAt_eq, h]
  have hl : y.length = l.length + 1 := by
    have : y.length = y.cps.toList.length := by simp [Str.length]
    rw [this, h]; rfl
  rw [hl]
  have : (Str.ofString ".").length = 1 := rfl
  rw [this]
  simp
  rfl
theorem str_beq (x y : Str) : (x == y) = (x.cps.toList == y.cps.toList) := by
  by_cases h : x = y
  · subst h; simp
  · have h2 : x.cps.toList ≠ y.cps.toList := fun e => h (by cases x; cases y; congr 1; exact Array.toList_inj.mp e)
    rw [beq_eq_false_iff_ne.mpr h, beq_eq_false_iff_ne.mpr h2]
theorem small_len {r : Str} {p : List Int} (hr : r ∈ allRefs) (hp : p ∈ allPaths) : (spR r p).length ≤ 100 := by
  have := okHost_at hr hp
  unfold okHost at this
  simp only [Bool.and_eq_true, decide_eq_true_eq] at this
  exact this.1.1.2
/-- user_domain_match on a host and a place tells what the labels tell -/
theorem udm_pair {r : Str} {p q : List Int} (hr : r ∈ allRefs) (hp : p ∈ allPaths) (hq : q ∈ allPaths) : ((spR r p == spR r q) || udm (Txt.lower (spR r p)) (Txt.lower ("." ++ spR r q))) = (p.take q.length == q) := by
  have h := okPair_at hr hp hq
  unfold okPair at h
  simp only [Bool.and_eq_true] at h
  have h1 := eq_of_beq h.1
  have ha := ascii_at hr hp
  have hb := ascii_at hr hq
  have hl := lower_list (dot_ascii hb)
  rw [dot_list, List.map_cons] at hl
  have hs : Txt.startswith (Txt.lower ("." ++ spR r q)) "." = true := starts_dot _ _ hl
  unfold udm
  rw [hs, Bool.true_and, Bool.not_true, Bool.false_and, Bool.or_false, endswith_L, hl, lower_list ha, str_beq, ← h1, List.map_cons]
theorem ell_pair {r : Str} {p q : List Int} (hr : r ∈ allRefs) (hp : p ∈ allPaths) (hq : q ∈ allPaths) : ((spR r p == spR r q) || Txt.endswith (spR r p) ("." ++ spR r q)) = (p.take q.length == q) := by
  have h := okPair_at hr hp hq
  unfold okPair at h
  simp only [Bool.and_eq_true] at h
  have h1 := eq_of_beq h.2
  rw [endswith_L, dot_list, str_beq, ← h1]
end Mine
-- part Pure7
open PySem
set_option Elab.async false
set_option linter.unusedVariables false
set_option maxRecDepth 100000
namespace Mine
variable {C : Cx}

theorem low_at {r : Str} {p : List Int} (hr : r ∈ allRefs) (hp : p ∈ allPaths) : noIp (Txt.lower (spR r p)) = true ∧ noIp (Txt.lower ("." ++ spR r p)) = true := by
  have h := okLow_at hr hp
  unfold okLow at h
  simp only [Bool.and_eq_true] at h
  have ha := ascii_at hr hp
  refine ⟨by rw [lower_mk ha]; exact h.1, ?_⟩
  rw [lower_mk (dot_ascii ha), dot_list, List.map_cons]
  exact h.2
theorem lower_len {x : Str} (h : ∀ c ∈ x.cps.toList, c < 128) : (Txt.lower x).length = x.length := by
  rw [lower_ascii h]; simp [Str.length]
theorem app_len (x y : Str) : (x ++ y).length = x.length + y.length := by
  show (x ++ y).cps.size = x.cps.size + y.cps.size
  rw [Str.cps_append, Array.size_append]
theorem fn_udm_at (E : Env0 C) (k : Nat) {r : Str} {p q : List Int} (hr : r ∈ allRefs) (hp : p ∈ allPaths) (hq : q ∈ allPaths) :
    FnOK C (k + 2) "user_domain_match" [.str (spR r p), .str ("." ++ spR r q)] (.bool (udm (Txt.lower (spR r p)) (Txt.lower ("." ++ spR r q)))) := by
  have l1 := small_len hr hp
  have l2 := small_len hr hq
  have l3 : (Str.ofString "." ++ spR r q).length ≤ 101 := by rw [app_len]; have : (Str.ofString ".").length = 1 := rfl; lia
  exact fn_udm E k (by lia) (by lia) (low_at hr hp).1 (low_at hr hq).2 (by rw [lower_len (ascii_at hr hp)]; lia) (by rw [lower_len (dot_ascii (ascii_at hr hq))]; lia)
theorem fn_ell_at (E : Env0 C) (k : Nat) {r : Str} {p q : List Int} (hr : r ∈ allRefs) (hp : p ∈ allPaths) (hq : q ∈ allPaths) :
    FnOK C (k + 1) "_ellipsis_match" [.str ("...." ++ spR r q), .str (spR r p)] (.bool (Txt.endswith (spR r p) ("." ++ spR r q))) := by
  have l1 := small_len hr hp
  have l2 := small_len hr hq
  have h := okDots_at hr hq
  unfold okDots at h
  simp only [Bool.and_eq_true, decide_eq_true_eq] at h
  have ln : (Str.ofString "." ++ spR r q).length = 1 + (spR r q).length := by rw [app_len]; rfl
  have lx : (Str.ofString "...." ++ spR r q).length = 4 + (spR r q).length := by rw [app_len]; rfl
  have hsz : sizeLine = 2 ^ 24 := rfl
  refine fn_ellipsis E k h.1.1 (by rw [lx]; lia) (Nat.le_trans h.1.2 (by lia)) (eq_of_beq h.2) (by rw [ln]; lia) (by rw [ln]; lia) (by lia) fun he => ?_
  have hle : (Str.ofString "." ++ spR r q).length ≤ (spR r p).length := by
    unfold Txt.endswith at he
    simp only [Bool.and_eq_true, decide_eq_true_eq] at he
    lia
  exact ⟨hle, find3_empty _ (by lia)⟩
/-- the domains on a host's way up -/
def prefs : List Int → List (List Int)
  | [a] => [[a]]
  | [a, b] => [[a, b], [a]]
  | [a, b, c] => [[a, b, c], [a, b], [a]]
  | _ => []
theorem pre_in : ∀ p ∈ allPaths, ∀ q ∈ prefs p, q ∈ allPaths := by decide
theorem rung {r : Str} {p : List Int} (hr : r ∈ allRefs) (hp : p ∈ allPaths) : hostOk (spR r p) = true ∧ (spR r p == ("local" : Str)) = false ∧ (reachOf (spR r p)).length ≤ 1000 ∧ Txt.slice (reachOf (spR r p)) (some 1) none = spR r p.dropLast := by
  have h := okHost_at hr hp
  unfold okHost at h
  simp only [Bool.and_eq_true, decide_eq_true_eq, Bool.not_eq_true'] at h
  obtain ⟨⟨⟨⟨⟨h1, h2⟩, h3⟩, h4⟩, h5⟩, h6⟩ := h
  refine ⟨?_, h3, h5, eq_of_beq h6⟩
  generalize spR r p = x at h1 h2 h3 h4
  split at h2
  · rename_i a b ha hb
    simp only [Bool.and_eq_true, bne_iff_ne, ne_eq] at h2
    have hlen : x.length = x.cps.toList.length := by simp [Str.length]
    have hpos : 0 < x.cps.toList.length := by
      cases hx : x.cps.toList with
      | nil => rw [hx] at ha; cases ha
      | cons _ _ => simp
    have e0 : (seqIndex? 0 x.length).bind (x.cps[·]?) = some a := by
      rw [hlen]
      unfold seqIndex?
      have : (0 : Int) < (x.cps.toList.length : Int) := by lia
      simp only [show ¬ ((0 : Int) < 0) by decide, if_false, this, decide_true, Bool.and_true, Int.le_refl, if_true, Option.bind_some]
      rw [← Array.getElem?_toList]
      simpa [List.head?_eq_getElem?] using ha
    have e1 : (seqIndex? (-1) x.length).bind (x.cps[·]?) = some b := by
      rw [hlen]
      unfold seqIndex?
      have q1 : (0 : Int) ≤ -1 + (x.cps.toList.length : Int) := by lia
      have q2 : -1 + (x.cps.toList.length : Int) < (x.cps.toList.length : Int) := by lia
      simp only [show ((-1 : Int) < 0) by decide, if_true, q1, q2, decide_true, Bool.and_self, Option.bind_some]
      rw [← Array.getElem?_toList, show (-1 + (x.cps.toList.length : Int)).toNat = x.cps.toList.length - 1 by lia, ← List.getLast?_eq_getElem?]
      exact hb
    have one : ∀ c : Nat, c ≠ 46 → ((⟨#[c]⟩ : Str) == ".") = false := fun c hc => by
      rw [str_beq]
      have : (Str.ofString ".").cps.toList = [46] := rfl
      rw [this]
      simp [hc]
    unfold hostOk
    rw [e0, e1]
    have hx0 : (x == ("" : Str)) = false := by
      rw [str_beq, beq_eq_false_iff_ne]
      intro q
      rw [q] at hpos
      exact absurd hpos (by decide)
    have hx1 : decide (x.length ≤ 1000) = true := decide_eq_true (by lia)
    simp only [h1, hx0, hx1, one a h2.1, one b h2.2, Bool.not_false, Bool.and_true, Bool.true_and]
  · (first | cases h2 using Rp.intE | cases h2 using Rp.strE | cases h2 using Rp.boolE | cases h2 using RpAll.nilE | cases h2)
/-- the ladder of a host -/
theorem ladder_at {r : Str} {p : List Int} (hr : r ∈ allRefs) (hp : p ∈ allPaths) : Ladder ((prefs p).map (spR r)) := by
  have one : ∀ a, [a] ∈ allPaths → Ladder [spR r [a]] := fun a h => by
    obtain ⟨h1, h2, h3, h4⟩ := rung hr h
    exact .one h1 h2 h3 h4
  have two : ∀ a b, [a, b] ∈ allPaths → [a] ∈ allPaths → Ladder [spR r [a, b], spR r [a]] := fun a b h h' => by
    obtain ⟨h1, h2, h3, h4⟩ := rung hr h
    exact .cons h1 h2 h3 h4 (one a h')
  have three : ∀ a b c, [a, b, c] ∈ allPaths → [a, b] ∈ allPaths → [a] ∈ allPaths → Ladder [spR r [a, b, c], spR r [a, b], spR r [a]] := fun a b c h h' h'' => by
    obtain ⟨h1, h2, h3, h4⟩ := rung hr h
    exact .cons h1 h2 h3 h4 (two a b h' h'')
  have hl := len_of hp
  rcases p with _ | ⟨a, _ | ⟨b, _ | ⟨c, _ | ⟨d, l⟩⟩⟩⟩
  · exact absurd hl.1 (by decide)
  · exact one a hp
  · exact two a b hp (pre_in _ hp _ (List.mem_cons_of_mem _ List.mem_cons_self))
  · exact three a b c hp (pre_in _ hp _ (List.mem_cons_of_mem _ List.mem_cons_self)) (pre_in _ hp _ (List.mem_cons_of_mem _ (List.mem_cons_of_mem _ List.mem_cons_self)))
  · exact absurd hl.2 (fun q => absurd q (Nat.not_le.mpr (Nat.succ_lt_succ (Nat.succ_lt_succ (Nat.succ_lt_succ (Nat.succ_pos _))))))
end Mine
-- part Pure8
open PySem
set_option Elab.async false
set_option linter.unusedVariables false
set_option maxRecDepth 100000
namespace Mine
theorem spR_inj {r : Str} {p q : List Int} (hr : r ∈ allRefs) (hp : p ∈ allPaths) (hq : q ∈ allPaths) (h : spR r p = spR r q) : p = q := by
  have e1 := udm_pair hr hp hq
  have e2 := udm_pair hr hq hp
  rw [h, beq_self_eq_true, Bool.true_or] at e1
  rw [h, beq_self_eq_true, Bool.true_or] at e2
  have f1 := eq_of_beq e1.symm
  have f2 := eq_of_beq e2.symm
  have l1 : q.length ≤ p.length := by have := congrArg List.length f1; rw [List.length_take] at this; lia
  have l2 : p.length ≤ q.length := by have := congrArg List.length f2; rw [List.length_take] at this; lia
  rw [← f1, List.take_of_length_le l2]
theorem path_in (y : Int) : pathOf y ∈ allPaths := by
  have b1 : (y.fdiv 3).fmod 2 = 0 ∨ (y.fdiv 3).fmod 2 = 1 := by
    have h1 := Int.fmod_nonneg_of_pos (y.fdiv 3) (show (0 : Int) < 2 by decide)
    have h2 := Int.fmod_lt_of_pos (y.fdiv 3) (show (0 : Int) < 2 by decide)
    lia
  have b2 : (y.fdiv 6).fmod 2 = 0 ∨ (y.fdiv 6).fmod 2 = 1 := by
    have h1 := Int.fmod_nonneg_of_pos (y.fdiv 6) (show (0 : Int) < 2 by decide)
    have h2 := Int.fmod_lt_of_pos (y.fdiv 6) (show (0 : Int) < 2 by decide)
    lia
  have b3 : (y.fdiv 12).fmod 2 = 0 ∨ (y.fdiv 12).fmod 2 = 1 := by
    have h1 := Int.fmod_nonneg_of_pos (y.fdiv 12) (show (0 : Int) < 2 by decide)
    have h2 := Int.fmod_lt_of_pos (y.fdiv 12) (show (0 : Int) < 2 by decide)
    lia
  have b4 : y.fmod 3 = 0 ∨ y.fmod 3 = 1 ∨ y.fmod 3 = 2 := by
    have h1 := Int.fmod_nonneg_of_pos y (show (0 : Int) < 3 by decide)
    have h2 := Int.fmod_lt_of_pos y (show (0 : Int) < 3 by decide)
    lia
  unfold pathOf
  rcases b1 with h1 | h1 <;> rcases b2 with h2 | h2 <;> rcases b3 with h3 | h3 <;> rcases b4 with h4 | h4 | h4 <;> rw [h1, h2, h3, h4] <;> decide
end Mine
-- part Pure9
open PySem
set_option Elab.async false
set_option linter.unusedVariables false
set_option maxRecDepth 100000
namespace Mine
def addP (acc : List (List Int)) (q : List Int) : List (List Int) := if acc.contains q then acc else acc ++ [q]
def addN (acc : List Str) (q : Str) : List Str := if acc.contains q then acc else acc ++ [q]
def placesAt (paths : List (List Int)) (i : Nat) : List (List Int) := (paths.take i).foldl (fun a p => (prefs p).foldl addP a) []
def placesOf (paths : List (List Int)) : List (List Int) := placesAt paths paths.length
theorem prefs_in : ∀ p ∈ allPaths, ∀ q ∈ prefs p, q ∈ allPaths := by decide
theorem prefs_take : ∀ p ∈ allPaths, ∀ q ∈ prefs p, p.take q.length = q := by decide
theorem prefs_down : ∀ p ∈ allPaths, (prefs p).map (fun q => (q.length : Int)) = (List.range p.length).map fun (i : Nat) => (p.length : Int) - (i : Int) := by decide
theorem placesAt_succ {paths : List (List Int)} {i : Nat} {p : List Int} (h : paths[i]? = some p) : placesAt paths (i + 1) = (prefs p).foldl addP (placesAt paths i) := by
  unfold placesAt
  rw [List.take_add_one, h]
  simp only [Option.toList, List.foldl_append, List.foldl_cons, List.foldl_nil]
theorem addP_in {acc : List (List Int)} {q : List Int} (ha : ∀ p ∈ acc, p ∈ allPaths) (hq : q ∈ allPaths) : ∀ p ∈ addP acc q, p ∈ allPaths := by
  unfold addP
  intro p hp
  split at hp
  · exact ha p hp
  · rcases List.mem_append.mp hp with h | h
    · exact ha p h
    · rw [List.mem_singleton.mp h]; exact hq
theorem addP_fold_in : ∀ (l acc : List (List Int)), (∀ p ∈ acc, p ∈ allPaths) → (∀ q ∈ l, q ∈ allPaths) → ∀ p ∈ l.foldl addP acc, p ∈ allPaths
  | [], _, h, _ => h
  | q :: l, acc, h, hl => by
    rw [List.foldl_cons]
    exact addP_fold_in l _ (addP_in h (hl q List.mem_cons_self)) fun q' h' => hl q' (List.mem_cons_of_mem _ h')
theorem addP_nodup {acc : List (List Int)} {q : List Int} (h : acc.Nodup) : (addP acc q).Nodup := by
  unfold addP
  split
  · exact h
  · rename_i hc
    rw [List.nodup_append]
    refine ⟨h, by simp, ?_⟩
    intro a ha b hb e
    rw [List.mem_singleton.mp hb] at e
    subst e
    exact hc (by simpa using ha)
theorem addP_fold_nodup : ∀ (l acc : List (List Int)), acc.Nodup → (l.foldl addP acc).Nodup
  | [], _, h => h
  | q :: l, acc, h => by rw [List.foldl_cons]; exact addP_fold_nodup l _ (addP_nodup h)
theorem placesAt_in {paths : List (List Int)} (hp : ∀ p ∈ paths, p ∈ allPaths) : ∀ i, ∀ p ∈ placesAt paths i, p ∈ allPaths := by
  intro i
  induction i with
  | zero => unfold placesAt; simp
  | succ i ih =>
    cases h : paths[i]? with
    | none =>
      have : placesAt paths (i + 1) = placesAt paths i := by
        unfold placesAt; rw [List.take_add_one, h]; simp
      rw [this]; exact ih
    | some p =>
      rw [placesAt_succ h]
      exact addP_fold_in _ _ ih (prefs_in p (hp p (List.mem_of_getElem? h)))
theorem placesAt_nodup {paths : List (List Int)} : ∀ i, (placesAt paths i).Nodup := by
  intro i
  induction i with
  | zero => unfold placesAt; simp
  | succ i ih =>
    cases h : paths[i]? with
    | none =>
      have : placesAt paths (i + 1) = placesAt paths i := by
        unfold placesAt; rw [List.take_add_one, h]; simp
      rw [this]; exact ih
    | some p => rw [placesAt_succ h]; exact addP_fold_nodup _ _ ih
theorem addN_sp {r : Str} (hr : r ∈ allRefs) {acc : List (List Int)} {q : List Int} (ha : ∀ p ∈ acc, p ∈ allPaths) (hq : q ∈ allPaths) : addN (acc.map (spR r)) (spR r q) = (addP acc q).map (spR r) := by
  have e : (acc.map (spR r)).contains (spR r q) = acc.contains q := by
    rw [Bool.eq_iff_iff, List.contains_iff_mem, List.contains_iff_mem]
    constructor
    · intro h
      obtain ⟨p, hp, e⟩ := List.mem_map.mp h
      have := spR_inj hr (ha p hp) hq e
      rw [← this]; exact hp
    · intro h; exact List.mem_map_of_mem h
  unfold addN addP
  rw [e]
  split
  · rfl
  · rw [List.map_append]; rfl
theorem addN_fold {r : Str} (hr : r ∈ allRefs) : ∀ (l acc : List (List Int)), (∀ p ∈ acc, p ∈ allPaths) → (∀ q ∈ l, q ∈ allPaths) → (l.map (spR r)).foldl addN (acc.map (spR r)) = (l.foldl addP acc).map (spR r)
  | [], _, _, _ => rfl
  | q :: l, acc, h, hl => by
    rw [List.map_cons, List.foldl_cons, List.foldl_cons, addN_sp hr h (hl q List.mem_cons_self)]
    exact addN_fold hr l _ (addP_in h (hl q List.mem_cons_self)) fun q' h' => hl q' (List.mem_cons_of_mem _ h')
end Mine
-- part Pure10
open PySem
set_option Elab.async false
set_option linter.unusedVariables false
set_option maxRecDepth 100000
namespace Mine
variable {C : Cx}
abbrev wOf (t : Int) : Nat := ((t.fdiv 7).fmod 5).toNat
abbrev cOf (t : Int) : Nat := (t.fmod 7).toNat
abbrev rOf (t : Int) : Str := refOf (wOf t) (cOf t)
theorem wOf_lt (t : Int) : wOf t < 5 := by
  have h1 := Int.fmod_nonneg_of_pos (t.fdiv 7) (show (0 : Int) < 5 by decide)
  have h2 := Int.fmod_lt_of_pos (t.fdiv 7) (show (0 : Int) < 5 by decide)
  unfold wOf; lia
theorem cOf_lt (t : Int) : cOf t < 7 := by
  have h1 := Int.fmod_nonneg_of_pos t (show (0 : Int) < 7 by decide)
  have h2 := Int.fmod_lt_of_pos t (show (0 : Int) < 7 by decide)
  unfold cOf; lia
theorem rOf_in (t : Int) : rOf t ∈ allRefs := ref_in _ (wOf_lt t) _ (cOf_lt t)
theorem refs_len : ∀ r ∈ allRefs, r.length ≤ 6 := by decide +kernel
theorem spR_ne {r : Str} {p : List Int} (hp : p ∈ allPaths) : spR r p = spelled p r := by
  unfold spR
  rw [if_neg]
  intro e
  rw [e] at hp
  exact absurd hp (by decide)
theorem fn_wr (E : Env0 C) (k : Nat) {p : List Int} {t : Int} (hp : p ∈ allPaths) : FnOK C (k + 2) "_law_written" [tI p, .int t] (.str (spR (rOf t) p)) := by
  rw [← sp_eq, ← written_sp (wOf_lt t) (cOf_lt t) hp]
  exact fn_written E k (bit_of hp) (len_of hp).2 (join_ok p hp _ (cOf_lt t)).1 (written_fit (wOf_lt t) (cOf_lt t) hp)
theorem fn_spl (E : Env0 C) (k : Nat) {p : List Int} {t : Int} (hp : p ∈ allPaths) : FnOK C (k + 1) "_law_spelled" [tI p, .str (rOf t)] (.str (spR (rOf t) p)) := by
  rw [spR_ne hp]
  refine fn_spelled E k (bit_of hp) (len_of hp).2 ?_ ((join_ok p hp _ (cOf_lt t)).2 _ (wOf_lt t))
  have h1 := refs_len _ (rOf_in t)
  have h2 : (Str.ofString "b").length = 1 := rfl
  have h3 : sizeLine = 2 ^ 24 := rfl
  lia
theorem prefs_len : ∀ p ∈ allPaths, (prefs p).length ≤ 3 ∧ prefs p ≠ [] := by decide
theorem fn_lad (E : Env0 C) (k : Nat) {p : List Int} {r : Str} (hr : r ∈ allRefs) (hp : p ∈ allPaths) : FnOK C (k + 3) "_law_ladder" [.str (spR r p)] (lS ((prefs p).map (spR r))) := by
  have L := ladder_at hr hp
  have hl := prefs_len p hp
  have h0 : ∃ q l, prefs p = q :: l ∧ q = p := by
    have : ∀ p ∈ allPaths, prefs p = p :: (prefs p).tail := by decide
    exact ⟨p, _, this p hp, rfl⟩
  obtain ⟨q, l, e, rfl⟩ := h0
  rw [e] at L hl ⊢
  rw [List.map_cons] at L ⊢
  exact fn_ladder E k L (by rw [List.length_map]; have := hl.1; simp at this; lia)
end Mine
-- part Def14
open PySem
set_option Elab.async false
set_option linter.unusedVariables false
set_option linter.unusedSimpArgs false
set_option maxRecDepth 100000
namespace Mine
variable {C : Cx}

abbrev b2 := PyProof.Rows.b2i
def sumL (x y z : List Bool) (n : Nat) : List Int := (List.range n).map fun j : Nat => b2 (x.getD j false) + b2 (y.getD j false) + b2 (z.getD j false)
def weightsOf (ds : List Int) (n : Nat) : List Int := (List.range n).map fun j : Nat => 1 + ((ds.getD ((j : Int).fmod 6).toNat 0).fdiv 24 + 5 * (j : Int)).fmod 11
def cA (L : List (List Bool)) (names : List Str) (w : List Int) (a b : Int) : Int × Int × Int × Int × List (Str × Int) := callOf (L.getD a.toNat []) (L.getD b.toNat []) names w
theorem CompL.to {C : Cx} {k : Nat} {x : Str} {ρ : Store} {ifs : List Expr} {elt : Expr} {ds es es2 : List D} (h : CompL C k x ρ ifs elt ds es) (e : es = es2) : CompL C k x ρ ifs elt ds es2 := e ▸ h
theorem CompL.mapD {α : Type} {C : Cx} {k : Nat} {x : Str} {ρ : Store} {elt : Expr} {l : List α} {g h : α → D} (H : ∀ a ∈ l, EvE C k ((x, .dat (g a)) :: ρ) elt (h a)) : CompL C k x ρ [] elt (l.map g) (l.map h) := by
  induction l with
  | nil => exact .nil
  | cons a l ih => exact .take .none (H a (.head _)) (ih fun b hb => H b (.tail _ hb))
theorem m6 (a : Nat) : 0 ≤ (a : Int).fmod 6 ∧ (a : Int).fmod 6 < (6 : Nat) := ⟨Int.fmod_nonneg_of_pos _ (by decide), Int.fmod_lt_of_pos _ (by decide)⟩
theorem rg6 (a : Nat) : -(2 ^ 63) ≤ (a : Int).fmod 6 ∧ (a : Int).fmod 6 < 2 ^ 63 := by have := m6 a; lia
theorem lt6 {l : List Int} {a : Int} (h : a ∈ l) (hl : ∀ x ∈ l, 0 ≤ x ∧ x < (6 : Nat) := by decide) : 0 ≤ a ∧ a < (6 : Nat) := hl a h
theorem lt6n {l : List Int} {a : Int} (h : a ∈ l) (hl : ∀ x ∈ l, 0 ≤ x ∧ x < (6 : Nat) := by decide) : a.toNat < 6 := by have := hl a h; lia
theorem rgl {a : Int} (h : 0 ≤ a ∧ a < (6 : Nat)) : -(2 ^ 63) ≤ a ∧ a < 2 ^ 63 := by lia
abbrev T6 : List (Int × Int × Int) := [(0, 1, 2), (0, 2, 1), (1, 0, 2), (1, 2, 0), (2, 0, 1), (2, 1, 0)]
def sumOf (L : List (List Bool)) (names : List Str) (w : List Int) (p : Int × Int × Int) : Int × Int × Int × Int × List (Str × Int) := addF (addF (cA L names w 0 (3 + p.1)) (cA L names w 1 (3 + p.2.1))) (cA L names w 2 (3 + p.2.2))
def driftL (w s t : List Int) (n : Nat) : List Int := (List.range n).map fun j : Nat => w.getD j 0 * (s.getD j 0 - t.getD j 0)
def rowsOf (S : List (Int × Int × Int × Int × List (Str × Int))) (names : List Str) : List (List Int) := S.map fun f => names.map fun nm => (kget f.2.2.2.2 nm).getD 0
def columnsOf (t : Int) (n : Nat) : List Int := (List.range n).map fun j : Nat => ((j : Int) + t.fdiv 35).fmod n
def lowOf (s t : List Int) (n : Nat) : List Int := (List.range n).map fun j : Nat => if s.getD j 0 - t.getD j 0 < 0 then -(s.getD j 0 - t.getD j 0) else s.getD j 0 - t.getD j 0
def highOf (s t : List Int) (n : Nat) : List Int := (List.range n).map fun j : Nat => if 6 - s.getD j 0 - t.getD j 0 < s.getD j 0 + t.getD j 0 then 6 - s.getD j 0 - t.getD j 0 else s.getD j 0 + t.getD j 0
def costL (w l : List Int) (n : Nat) : List Int := (List.range n).map fun j : Nat => w.getD j 0 * l.getD j 0
theorem c345 (g : Int → D) {a : Int} (h : a = 0 ∨ a = 1 ∨ a = 2) : seqIndex? a (([3, 4, 5] : List Int).map g).length = some a.toNat ∧ (([3, 4, 5] : List Int).map g)[a.toNat]? = some (g (3 + a)) := by
  rcases h with rfl | rfl | rfl <;> exact ⟨rfl, rfl⟩
theorem rg012 {a : Int} (h : a = 0 ∨ a = 1 ∨ a = 2) : -(2 ^ 63) ≤ a ∧ a < 2 ^ 63 := by lia
theorem T6_at : ∀ p ∈ T6, (p.1 = 0 ∨ p.1 = 1 ∨ p.1 = 2) ∧ (p.2.1 = 0 ∨ p.2.1 = 1 ∨ p.2.1 = 2) ∧ (p.2.2 = 0 ∨ p.2.2 = 1 ∨ p.2.2 = 2) := by decide
theorem cA_len (L : List (List Bool)) (names : List Str) (w : List Int) (a b : Int) : (cA L names w a b).2.2.2.2.length ≤ names.length := cAt_len _ _ _ _ _
theorem addF_len (t s : Int × Int × Int × Int × List (Str × Int)) : (addF t s).2.2.2.2.length ≤ t.2.2.2.2.length + s.2.2.2.2.length := by
  show (addC _ _).length ≤ _
  unfold addC
  have h1 := foldS_len s.2.2.2.2 (t.2.2.2.2.foldl addT [])
  have h2 := foldT_len t.2.2.2.2 []
  simp only [List.length_nil] at h2
  lia
theorem b2_rg (b : Bool) : 0 ≤ b2 b ∧ b2 b ≤ 1 := by cases b <;> decide
theorem getD_map_range (f : Nat → Int) (n i : Nat) : ((List.range n).map f).getD i 0 = if i < n then f i else 0 := by
  rw [List.getD_eq_getElem?_getD, List.getElem?_map]
  by_cases h : i < n
  · rw [List.getElem?_range h, if_pos h]; rfl
  · rw [List.getElem?_eq_none (by simpa using h), if_neg h]; rfl
theorem sumL_ok (x y z : List Bool) (n i : Nat) : 0 ≤ (sumL x y z n).getD i 0 ∧ (sumL x y z n).getD i 0 ≤ 3 := by
  unfold sumL
  rw [getD_map_range]
  split
  · have h1 := b2_rg (x.getD i false)
    have h2 := b2_rg (y.getD i false)
    have h3 := b2_rg (z.getD i false)
    lia
  · lia
theorem weights_ok (ds : List Int) (n i : Nat) : 0 ≤ (weightsOf ds n).getD i 0 ∧ (weightsOf ds n).getD i 0 ≤ 11 := by
  unfold weightsOf
  rw [getD_map_range]
  split
  · have h1 := Int.fmod_nonneg_of_pos ((ds.getD ((i : Int).fmod 6).toNat 0).fdiv 24 + 5 * (i : Int)) (show (0 : Int) < 11 by decide)
    have h2 := Int.fmod_lt_of_pos ((ds.getD ((i : Int).fmod 6).toNat 0).fdiv 24 + 5 * (i : Int)) (show (0 : Int) < 11 by decide)
    lia
  · lia
theorem okPr (l : List Int) (i : Int) : okD 4 (.tup [lI l, .int i]) = true := by
  simp only [okD, List.all_cons, List.all_nil, Bool.and_true]
  exact okI 2 l
theorem deqPr (l : List Int) (i : Int) : deq (.tup [lI l, .int i]) (.tup [lI l, .int i]) = true := by
  have h := deqLI l l
  rw [beq_self_eq_true] at h
  unfold deq at h ⊢
  rw [toPy, PyData.eqv, toPys, toPys, toPys, PyData.eqvAll, PyData.eqvAll, PyData.eqvAll, h, toPy, PyData.eqv]
  simp
theorem gL {L : List (List Bool)} {a : Int} (h0 : 0 ≤ a) (h : a < (L.length : Nat)) : (L.map lB)[a.toNat]? = some (lB (L.getD a.toNat [])) := gN2 [] (by lia)
set_option maxHeartbeats 4000000 in
theorem law_back (E : Env0 C) (k : Nat) {script ds : List Int} {t : Int} {paths places : List (List Int)} {hosts names : List Str} {ref : Str} {L : List (List Bool)} {n : Nat} {sent taken weights dr columns low high costs cs : List Int} {rows : List (List Int)} {S : List (Int × Int × Int × Int × List (Str × Int))} (q1 q2 q3 : LV)
    (hq1 : q1.slot = true) (hq2 : q2.slot = true) (hq3 : q3.slot = true)
    (hd6 : ds.length = 6) (hp6 : paths.length = 6) (hp3l : ∀ p ∈ places, p.length ≤ 3) (hL : L.length = 6) (hn0 : 0 < n) (hn4 : n ≤ 100) (hnn : names.length = n) (hpn : places.length = n) (hll : ∀ i, i < 6 → (L.getD i []).length = n)
    (hsent : sumL (L.getD 0 []) (L.getD 1 []) (L.getD 2 []) n = sent) (htaken : sumL (L.getD 3 []) (L.getD 4 []) (L.getD 5 []) n = taken) (hweights : weightsOf ds n = weights)
    (hS : T6.map (sumOf L names weights) = S) (hdr : driftL weights sent taken n = dr) (hrows : rowsOf S names = rows) (hcolumns : columnsOf t n = columns) (hlow : lowOf sent taken n = low) (hhigh : highOf sent taken n = high) (hcosts : S.map (fun f => f.2.2.2.1) = costs) (hcs : costL weights low n = cs)
    (hdb : ∀ x ∈ dr, -(2 ^ 40) ≤ x ∧ x ≤ 2 ^ 40) (hcb : ∀ x ∈ cs, -(2 ^ 40) ≤ x ∧ x ≤ 2 ^ 40)
    (H1 : ∀ f ∈ S, f.1 = 3 ∧ f.2.1 = (f.2.2.2.2.map (·.2)).sum ∧ 2 * f.2.2.1 - f.2.2.2.1 = dr.sum)
    (H2 : D.tup [lI (bestOf (columns.map fun j => (j, 1)) rows), .int ((rows.filter fun a => cmpOf a (bestOf (columns.map fun j => (j, 1)) rows) (columns.map fun j => (j, 1)) == 0).length : Nat)] = .tup [lI low, .int (cheapOf paths places sent taken)])
    (H3 : D.tup [lI (bestOf (columns.map fun j => (j, -1)) rows), .int ((rows.filter fun a => cmpOf a (bestOf (columns.map fun j => (j, -1)) rows) (columns.map fun j => (j, -1)) == 0).length : Nat)] = .tup [lI high, .int (dearOf places sent taken)])
    (hord : ∀ i, i < rows.length → ∀ j, j < i → cmpOf (rows.getD i []) (rows.getD j []) (selO columns) = dueOf (figOf columns (rows.getD i [])) (figOf columns (rows.getD j [])))
    (H5 : lmin costs = cs.sum) (H6 : lmax costs = lmin (meetings places sent taken weights))
    : EvS C (k + 7) ((("script" : Str), .dat (lI script)) :: (("draws" : Str), .dat (lI ds)) :: (("total" : Str), .dat (.int t)) :: (("paths" : Str), .dat (.list (paths.map tI))) :: (("hosts" : Str), .dat (lS hosts)) :: (("reference" : Str), .dat (.str ref)) :: (("places" : Str), .dat (.list (places.map tI))) :: (("names" : Str), .dat (lS names)) :: (("i" : Str), q1) :: (("k" : Str), q2) :: (("rung" : Str), q3) :: (("lies" : Str), .dat (.list (L.map lB))) :: (("size" : Str), .unb) :: (("sent" : Str), .unb) :: (("taken" : Str), .unb) :: (("weights" : Str), .unb) :: (("calls" : Str), .unb) :: (("sums" : Str), .unb) :: (("a" : Str), .unb) :: (("b" : Str), .unb) :: (("c" : Str), .unb) :: (("drift" : Str), .unb) :: (("told" : Str), .unb) :: (("rows" : Str), .unb) :: (("columns" : Str), .unb) :: (("low" : Str), .unb) :: (("high" : Str), .unb) :: (("costs" : Str), .unb) :: (("_law_draws" : Str), .gl (.fn "_law_draws")) :: (("sum" : Str), .bi (.builtin "sum")) :: (("_law_reference" : Str), .gl (.fn "_law_reference")) :: (("range" : Str), .bi (.type "range")) :: (("len" : Str), .bi (.builtin "len")) :: (("_law_ladder" : Str), .gl (.fn "_law_ladder")) :: (("add_func_stats" : Str), .gl (.fn "add_func_stats")) :: (("count_calls" : Str), .gl (.fn "count_calls")) :: (("_law_first" : Str), .gl (.fn "_law_first")) :: (("_law_cheap" : Str), .gl (.fn "_law_cheap")) :: (("_law_dear" : Str), .gl (.fn "_law_dear")) :: (("_law_ordered" : Str), .gl (.fn "_law_ordered")) :: (("min" : Str), .bi (.builtin "min")) :: (("max" : Str), .bi (.builtin "max")) :: (("_law_meetings" : Str), .gl (.fn "_law_meetings")) :: ("", .kn ["draws", "total", "paths", "hosts", "reference", "names", "i", "lies", "size", "sent", "taken", "weights", "low"]) :: [] : Store) ((Mine.dr 35).body.drop 11) (.ret (.bool true)) := by
  have hlj : ∀ i, i < 6 → ∀ {a : Nat}, a ∈ List.range n → a < (L.getD i []).length := fun i hi a ha => by rw [hll i hi]; exact List.mem_range.mp ha
  have hrg : ∀ {a : Nat}, a ∈ List.range n → -(2 ^ 63) ≤ (a : Int) ∧ (a : Int) < 2 ^ 63 := fun ha => by have := List.mem_range.mp ha; lia
  have hwl : weights.length = n := by rw [← hweights]; unfold weightsOf; rw [List.length_map, List.length_range]
  have hsl : sent.length = n := by rw [← hsent]; unfold sumL; rw [List.length_map, List.length_range]
  have htl : taken.length = n := by rw [← htaken]; unfold sumL; rw [List.length_map, List.length_range]
  have hlowl : low.length = n := by rw [← hlow]; unfold lowOf; rw [List.length_map, List.length_range]
  have hcl : columns.length = n := by rw [← hcolumns]; unfold columnsOf; rw [List.length_map, List.length_range]
  have hdl : dr.length = n := by rw [← hdr]; unfold driftL; rw [List.length_map, List.length_range]
  have hcsl : cs.length = n := by rw [← hcs]; unfold costL; rw [List.length_map, List.length_range]
  have hS6 : S.length = 6 := by rw [← hS, List.length_map]; rfl
  have hrl6 : rows.length = 6 := by rw [← hrows]; unfold rowsOf; rw [List.length_map, hS6]
  have hcol6 : costs.length = 6 := by rw [← hcosts, List.length_map, hS6]
  have hw60 : ∀ i, (weights.getD i 0).natAbs < 2 ^ 60 := fun i => by have := weights_ok ds n i; rw [hweights] at this; lia
  have hs3 : ∀ i, 0 ≤ sent.getD i 0 ∧ sent.getD i 0 ≤ 3 := fun i => by rw [← hsent]; exact sumL_ok _ _ _ _ _
  have ht3 : ∀ i, 0 ≤ taken.getD i 0 ∧ taken.getD i 0 ≤ 3 := fun i => by rw [← htaken]; exact sumL_ok _ _ _ _ _
  have hr0 : 0 < rows.length := by lia
  have hr4 : rows.length ≤ 400 := by lia
  have hc4 : columns.length ≤ 400 := by lia
  have hrl : ∀ r ∈ rows, r.length = n := by
    rw [← hrows]; unfold rowsOf
    intro r hr
    obtain ⟨f, _, rfl⟩ := List.mem_map.mp hr
    rw [List.length_map, hnn]
  have hcr : ∀ j ∈ columns, 0 ≤ j ∧ j < n := by
    rw [← hcolumns]; unfold columnsOf
    intro j hj
    obtain ⟨i, _, rfl⟩ := List.mem_map.mp hj
    exact ⟨Int.fmod_nonneg_of_pos _ (by lia), Int.fmod_lt_of_pos _ (by lia)⟩
  refine EvS.cons (Ev1.cast (ρ'' := ((("script" : Str), .dat (lI script)) :: (("draws" : Str), .dat (lI ds)) :: (("total" : Str), .dat (.int t)) :: (("paths" : Str), .dat (.list (paths.map tI))) :: (("hosts" : Str), .dat (lS hosts)) :: (("reference" : Str), .dat (.str ref)) :: (("places" : Str), .dat (.list (places.map tI))) :: (("names" : Str), .dat (lS names)) :: (("i" : Str), q1) :: (("k" : Str), q2) :: (("rung" : Str), q3) :: (("lies" : Str), .dat (.list (L.map lB))) :: (("size" : Str), .dat (.int (n : Int))) :: (("sent" : Str), .unb) :: (("taken" : Str), .unb) :: (("weights" : Str), .unb) :: (("calls" : Str), .unb) :: (("sums" : Str), .unb) :: (("a" : Str), .unb) :: (("b" : Str), .unb) :: (("c" : Str), .unb) :: (("drift" : Str), .unb) :: (("told" : Str), .unb) :: (("rows" : Str), .unb) :: (("columns" : Str), .unb) :: (("low" : Str), .unb) :: (("high" : Str), .unb) :: (("costs" : Str), .unb) :: (("_law_draws" : Str), .gl (.fn "_law_draws")) :: (("sum" : Str), .bi (.builtin "sum")) :: (("_law_reference" : Str), .gl (.fn "_law_reference")) :: (("range" : Str), .bi (.type "range")) :: (("len" : Str), .bi (.builtin "len")) :: (("_law_ladder" : Str), .gl (.fn "_law_ladder")) :: (("add_func_stats" : Str), .gl (.fn "add_func_stats")) :: (("count_calls" : Str), .gl (.fn "count_calls")) :: (("_law_first" : Str), .gl (.fn "_law_first")) :: (("_law_cheap" : Str), .gl (.fn "_law_cheap")) :: (("_law_dear" : Str), .gl (.fn "_law_dear")) :: (("_law_ordered" : Str), .gl (.fn "_law_ordered")) :: (("min" : Str), .bi (.builtin "min")) :: (("max" : Str), .bi (.builtin "max")) :: (("_law_meetings" : Str), .gl (.fn "_law_meetings")) :: ("", .kn ["draws", "total", "paths", "hosts", "reference", "names", "i", "lies", "size", "sent", "taken", "weights", "low"]) :: [] : Store)) (Ev1.assign (EvE.bi (memN 32 rfl) (.cons (EvE.name (memN 7 rfl)) .nil) (.lenL (by first | decide | lia | rfl | with_reducible assumption | exact Nat.le_of_ble_eq_true rfl | (have hsl : sizeLine = 2 ^ 24 := rfl; lia) | (have hsl : sizeLine = 2 ^ 24 := rfl; simp only [List.length_map, List.length_append, List.length_cons, List.length_nil, List.length_take, List.length_range, List.length_reverse]; lia)))) (.there (.there (.there (.there (.there (.there (.there (.there (.there (.there (.there (.there (.here)))))))))))))) (by rw [List.length_map, hnn])) ?_
  refine EvS.cons (Ev1.assignC (clb := false) (EvI.rangeI (memN 31 rfl) (.cons (EvE.name (memN 12 rfl)) .nil) rfl (by first | decide | lia | rfl | with_reducible assumption | exact Nat.le_of_ble_eq_true rfl | (have hsl : sizeLine = 2 ^ 24 := rfl; lia) | (have hsl : sizeLine = 2 ^ 24 := rfl; simp only [List.length_map, List.length_append, List.length_cons, List.length_nil, List.length_take, List.length_range, List.length_reverse]; lia))) ⟨rfl, by decide, rfl, rfl⟩ (.inr ⟨_, (memN 43 rfl)⟩) (by decide) (.skip (.skip (.skip (.skip (.skip (.skip (.skip (.skip (.skip (.skip (.skip (.dat rfl (.skip (.skip (.skip (.skip (.skip (.skip (.skip (.skip (.skip (.skip (.skip (.skip (.skip (.skip (.skip (.skip (.skip (.skip (.skip (.skip (.skip (.skip (.skip (.skip (.skip (.skip (.skip (.skip (.skip (.skip (.skip (.skip (.nil))))))))))))))))))))))))))))))))))))))))))))) (CompL.to (es2 := sent.map D.int) (CompL.mapG (G := D.int) fun a ha => (EvE.bin (EvE.bin (EvE.item (EvE.item (EvE.name (.tail _ (.head _))).evL EvE.cint (gN1 (i := 0) (by lia)) (gN2 (f := lB) [] (by lia)) (by first | decide | lia | rfl | with_reducible assumption | exact Nat.le_of_ble_eq_true rfl | (have hsl : sizeLine = 2 ^ 24 := rfl; lia) | (have hsl : sizeLine = 2 ^ 24 := rfl; simp only [List.length_map, List.length_append, List.length_cons, List.length_nil, List.length_take, List.length_range, List.length_reverse]; lia))).evL (EvE.name (.head _)) (gN1 (hlj 0 (by decide) ha)) (gN2 false (hlj 0 (by decide) ha)) (hrg ha)) (EvE.item (EvE.item (EvE.name (.tail _ (.head _))).evL EvE.cint (gN1 (i := 1) (by lia)) (gN2 (f := lB) [] (by lia)) (by first | decide | lia | rfl | with_reducible assumption | exact Nat.le_of_ble_eq_true rfl | (have hsl : sizeLine = 2 ^ 24 := rfl; lia) | (have hsl : sizeLine = 2 ^ 24 := rfl; simp only [List.length_map, List.length_append, List.length_cons, List.length_nil, List.length_take, List.length_range, List.length_reverse]; lia))).evL (EvE.name (.head _)) (gN1 (hlj 1 (by decide) ha)) (gN2 false (hlj 1 (by decide) ha)) (hrg ha)) .addBB) (EvE.item (EvE.item (EvE.name (.tail _ (.head _))).evL EvE.cint (gN1 (i := 2) (by lia)) (gN2 (f := lB) [] (by lia)) (by first | decide | lia | rfl | with_reducible assumption | exact Nat.le_of_ble_eq_true rfl | (have hsl : sizeLine = 2 ^ 24 := rfl; lia) | (have hsl : sizeLine = 2 ^ 24 := rfl; simp only [List.length_map, List.length_append, List.length_cons, List.length_nil, List.length_take, List.length_range, List.length_reverse]; lia))).evL (EvE.name (.head _)) (gN1 (hlj 2 (by decide) ha)) (gN2 false (hlj 2 (by decide) ha)) (hrg ha)) .addIB)) (by rw [← hsent]; rfl)) (by first | exact Nat.le_of_ble_eq_true rfl | lia | (have hsl : sizeLine = 2 ^ 24 := rfl; simp only [List.length_map, List.length_range, List.length_cons, List.length_nil]; lia)) (.there (.there (.there (.there (.there (.there (.there (.there (.there (.there (.there (.there (.there (.here))))))))))))))) ?_
  refine EvS.cons (Ev1.assignC (clb := false) (EvI.rangeI (memN 31 rfl) (.cons (EvE.name (memN 12 rfl)) .nil) rfl (by first | decide | lia | rfl | with_reducible assumption | exact Nat.le_of_ble_eq_true rfl | (have hsl : sizeLine = 2 ^ 24 := rfl; lia) | (have hsl : sizeLine = 2 ^ 24 := rfl; simp only [List.length_map, List.length_append, List.length_cons, List.length_nil, List.length_take, List.length_range, List.length_reverse]; lia))) ⟨rfl, by decide, rfl, rfl⟩ (.inr ⟨_, (memN 43 rfl)⟩) (by decide) (.skip (.skip (.skip (.skip (.skip (.skip (.skip (.skip (.skip (.skip (.skip (.dat rfl (.skip (.skip (.skip (.skip (.skip (.skip (.skip (.skip (.skip (.skip (.skip (.skip (.skip (.skip (.skip (.skip (.skip (.skip (.skip (.skip (.skip (.skip (.skip (.skip (.skip (.skip (.skip (.skip (.skip (.skip (.skip (.skip (.nil))))))))))))))))))))))))))))))))))))))))))))) (CompL.to (es2 := taken.map D.int) (CompL.mapG (G := D.int) fun a ha => (EvE.bin (EvE.bin (EvE.item (EvE.item (EvE.name (.tail _ (.head _))).evL EvE.cint (gN1 (i := 3) (by lia)) (gN2 (f := lB) [] (by lia)) (by first | decide | lia | rfl | with_reducible assumption | exact Nat.le_of_ble_eq_true rfl | (have hsl : sizeLine = 2 ^ 24 := rfl; lia) | (have hsl : sizeLine = 2 ^ 24 := rfl; simp only [List.length_map, List.length_append, List.length_cons, List.length_nil, List.length_take, List.length_range, List.length_reverse]; lia))).evL (EvE.name (.head _)) (gN1 (hlj 3 (by decide) ha)) (gN2 false (hlj 3 (by decide) ha)) (hrg ha)) (EvE.item (EvE.item (EvE.name (.tail _ (.head _))).evL EvE.cint (gN1 (i := 4) (by lia)) (gN2 (f := lB) [] (by lia)) (by first | decide | lia | rfl | with_reducible assumption | exact Nat.le_of_ble_eq_true rfl | (have hsl : sizeLine = 2 ^ 24 := rfl; lia) | (have hsl : sizeLine = 2 ^ 24 := rfl; simp only [List.length_map, List.length_append, List.length_cons, List.length_nil, List.length_take, List.length_range, List.length_reverse]; lia))).evL (EvE.name (.head _)) (gN1 (hlj 4 (by decide) ha)) (gN2 false (hlj 4 (by decide) ha)) (hrg ha)) .addBB) (EvE.item (EvE.item (EvE.name (.tail _ (.head _))).evL EvE.cint (gN1 (i := 5) (by lia)) (gN2 (f := lB) [] (by lia)) (by first | decide | lia | rfl | with_reducible assumption | exact Nat.le_of_ble_eq_true rfl | (have hsl : sizeLine = 2 ^ 24 := rfl; lia) | (have hsl : sizeLine = 2 ^ 24 := rfl; simp only [List.length_map, List.length_append, List.length_cons, List.length_nil, List.length_take, List.length_range, List.length_reverse]; lia))).evL (EvE.name (.head _)) (gN1 (hlj 5 (by decide) ha)) (gN2 false (hlj 5 (by decide) ha)) (hrg ha)) .addIB)) (by rw [← htaken]; rfl)) (by first | exact Nat.le_of_ble_eq_true rfl | lia | (have hsl : sizeLine = 2 ^ 24 := rfl; simp only [List.length_map, List.length_range, List.length_cons, List.length_nil]; lia)) (.there (.there (.there (.there (.there (.there (.there (.there (.there (.there (.there (.there (.there (.there (.here)))))))))))))))) ?_
  refine EvS.cons (Ev1.assignC (clb := false) (EvI.rangeI (memN 31 rfl) (.cons (EvE.name (memN 12 rfl)) .nil) rfl (by first | decide | lia | rfl | with_reducible assumption | exact Nat.le_of_ble_eq_true rfl | (have hsl : sizeLine = 2 ^ 24 := rfl; lia) | (have hsl : sizeLine = 2 ^ 24 := rfl; simp only [List.length_map, List.length_append, List.length_cons, List.length_nil, List.length_take, List.length_range, List.length_reverse]; lia))) ⟨rfl, by decide, rfl, rfl⟩ (.inr ⟨_, (memN 43 rfl)⟩) (by decide) (.skip (.dat rfl (.skip (.skip (.skip (.skip (.skip (.skip (.skip (.skip (.skip (.skip (.skip (.skip (.skip (.skip (.skip (.skip (.skip (.skip (.skip (.skip (.skip (.skip (.skip (.skip (.skip (.skip (.skip (.skip (.skip (.skip (.skip (.skip (.skip (.skip (.skip (.skip (.skip (.skip (.skip (.skip (.skip (.skip (.nil))))))))))))))))))))))))))))))))))))))))))))) (CompL.to (es2 := weights.map D.int) (CompL.mapG (G := D.int) fun a ha => (EvE.bin EvE.cint (EvE.bin (EvE.bin (EvE.bin (EvE.item (EvE.name (.tail _ (.head _))).evL (EvE.bin (EvE.name (.head _)) EvE.cint (.mod (by first | decide | lia | rfl | with_reducible assumption | exact Nat.le_of_ble_eq_true rfl | (have hsl : sizeLine = 2 ^ 24 := rfl; lia) | (have hsl : sizeLine = 2 ^ 24 := rfl; simp only [List.length_map, List.length_append, List.length_cons, List.length_nil, List.length_take, List.length_range, List.length_reverse]; lia)))) (sIdx (m6 a).1 (by rw [List.length_map, hd6]; exact (m6 a).2)) (getD_some (m6 a).1 (by rw [List.length_map, hd6]; exact (m6 a).2)) (rg6 a)) EvE.cint (.fdiv (by first | decide | lia | rfl | with_reducible assumption | exact Nat.le_of_ble_eq_true rfl | (have hsl : sizeLine = 2 ^ 24 := rfl; lia) | (have hsl : sizeLine = 2 ^ 24 := rfl; simp only [List.length_map, List.length_append, List.length_cons, List.length_nil, List.length_take, List.length_range, List.length_reverse]; lia)) (by first | decide | lia | rfl | with_reducible assumption | exact Nat.le_of_ble_eq_true rfl | (have hsl : sizeLine = 2 ^ 24 := rfl; lia) | (have hsl : sizeLine = 2 ^ 24 := rfl; simp only [List.length_map, List.length_append, List.length_cons, List.length_nil, List.length_take, List.length_range, List.length_reverse]; lia)))) (EvE.bin EvE.cint (EvE.name (.head _)) (.mul (mulL (by decide)))) .add) EvE.cint (.mod (by first | decide | lia | rfl | with_reducible assumption | exact Nat.le_of_ble_eq_true rfl | (have hsl : sizeLine = 2 ^ 24 := rfl; lia) | (have hsl : sizeLine = 2 ^ 24 := rfl; simp only [List.length_map, List.length_append, List.length_cons, List.length_nil, List.length_take, List.length_range, List.length_reverse]; lia)))) .add)) (by rw [← hweights]; rfl)) (by first | exact Nat.le_of_ble_eq_true rfl | lia | (have hsl : sizeLine = 2 ^ 24 := rfl; simp only [List.length_map, List.length_range, List.length_cons, List.length_nil]; lia)) (.there (.there (.there (.there (.there (.there (.there (.there (.there (.there (.there (.there (.there (.there (.there (.here))))))))))))))))) ?_
  refine EvS.cons (Ev1.assignC (clb := true) (EvI.tup (EvE.tup (.cons EvE.cint (.cons EvE.cint (.cons EvE.cint .nil))) (by exact Nat.le_of_ble_eq_true rfl))) ⟨rfl, by decide, rfl, rfl⟩ (.inr ⟨_, (memN 43 rfl)⟩) (by decide) (.kn (y := "") (zs := (["a", "names", "lies", "weights"] : List Str)) (by decide) (.skip (.skip (.skip (.skip (.skip (.skip (.skip (.dat rfl (.skip (.skip (.skip (.dat rfl (.skip (.skip (.skip (.dat rfl (.skip (.skip (.skip (.skip (.skip (.skip (.skip (.skip (.skip (.skip (.skip (.skip (.skip (.skip (.skip (.skip (.skip (.skip (.skip (.skip (.skip (.skip (.skip (.skip (.skip (.skip (.skip (.skip (.nil)))))))))))))))))))))))))))))))))))))))))))))) (CompL.mapD (l := ([0, 1, 2] : List Int)) (g := D.int) (h := fun a => D.list (([3, 4, 5] : List Int).map fun b => fiveD (cA L names weights a b))) fun a ha => (EvE.comp (clb := false) (EvI.tup (EvE.tup (.cons EvE.cint (.cons EvE.cint (.cons EvE.cint .nil))) (by exact Nat.le_of_ble_eq_true rfl))) ⟨rfl, by decide, rfl, rfl⟩ (.inr ⟨_, (.tail _ (.head _))⟩) (by decide) (.gl rfl (E.gld 29 (by decide) (f := "_law_call") rfl) (.dat rfl (.skip (.dat rfl (.dat rfl (.dat rfl (.nil))))))) (CompL.mapD (l := ([3, 4, 5] : List Int)) (g := D.int) (h := fun b => fiveD (cA L names weights a b)) fun b hb => (EvE.call (EvE.gname (.tail _ (.head _))) (.cons (EvE.item (EvE.name (memN 4 rfl)).evL (EvE.name (.tail _ (.tail _ (.head _)))) (sIdx (lt6 ha).1 (by rw [List.length_map, hL]; exact (lt6 ha).2)) (gL (lt6 ha).1 (by rw [hL]; exact (lt6 ha).2)) (rgl (lt6 ha))) (.cons (EvE.item (EvE.name (memN 4 rfl)).evL (EvE.name (.head _)) (sIdx (lt6 hb).1 (by rw [List.length_map, hL]; exact (lt6 hb).2)) (gL (lt6 hb).1 (by rw [hL]; exact (lt6 hb).2)) (rgl (lt6 hb))) (.cons (EvE.name (.tail _ (.tail _ (.tail _ (.head _))))) (.cons (EvE.name (memN 5 rfl)) .nil)))) (fn_call E _ (by lia) (by rw [hnn]; exact hll _ (lt6n ha)) (by rw [hnn]; exact hll _ (lt6n hb)) (by lia)) ⟨_, E.hd 29 (by decide) rfl⟩)) (by first | exact Nat.le_of_ble_eq_true rfl | lia | (have hsl : sizeLine = 2 ^ 24 := rfl; simp only [List.length_map, List.length_range, List.length_cons, List.length_nil]; lia)))) (by first | exact Nat.le_of_ble_eq_true rfl | lia | (have hsl : sizeLine = 2 ^ 24 := rfl; simp only [List.length_map, List.length_range, List.length_cons, List.length_nil]; lia)) (.there (.there (.there (.there (.there (.there (.there (.there (.there (.there (.there (.there (.there (.there (.there (.there (.here)))))))))))))))))) ?_
  refine EvS.cons (Ev1.assignF (EvF.lst .nil (by exact Nat.le_of_ble_eq_true rfl)) (.there (.there (.there (.there (.there (.there (.there (.there (.there (.there (.there (.there (.there (.there (.there (.there (.there (.here))))))))))))))))))) ?_
  generalize hx : Expr.List _ _ = X
  refine EvS.forL (hs := fun env v => by rw [← hx]; rfl) T6 (fun i ρ => ∃ ra rb rc : LV, ra.slot = true ∧ rb.slot = true ∧ rc.slot = true ∧ ρ = ((("script" : Str), .dat (lI script)) :: (("draws" : Str), .dat (lI ds)) :: (("total" : Str), .dat (.int t)) :: (("paths" : Str), .dat (.list (paths.map tI))) :: (("hosts" : Str), .dat (lS hosts)) :: (("reference" : Str), .dat (.str ref)) :: (("places" : Str), .dat (.list (places.map tI))) :: (("names" : Str), .dat (lS names)) :: (("i" : Str), q1) :: (("k" : Str), q2) :: (("rung" : Str), q3) :: (("lies" : Str), .dat (.list (L.map lB))) :: (("size" : Str), .dat (.int (n : Int))) :: (("sent" : Str), .dat (lI sent)) :: (("taken" : Str), .dat (lI taken)) :: (("weights" : Str), .dat (lI weights)) :: (("calls" : Str), .dat (.list (([0, 1, 2] : List Int).map fun a => D.list (([3, 4, 5] : List Int).map fun b => fiveD (cA L names weights a b))))) :: (("sums" : Str), .own (.list (((T6.take i).map (sumOf L names weights)).map fiveD))) :: (("a" : Str), ra) :: (("b" : Str), rb) :: (("c" : Str), rc) :: (("drift" : Str), .unb) :: (("told" : Str), .unb) :: (("rows" : Str), .unb) :: (("columns" : Str), .unb) :: (("low" : Str), .unb) :: (("high" : Str), .unb) :: (("costs" : Str), .unb) :: (("_law_draws" : Str), .gl (.fn "_law_draws")) :: (("sum" : Str), .bi (.builtin "sum")) :: (("_law_reference" : Str), .gl (.fn "_law_reference")) :: (("range" : Str), .bi (.type "range")) :: (("len" : Str), .bi (.builtin "len")) :: (("_law_ladder" : Str), .gl (.fn "_law_ladder")) :: (("add_func_stats" : Str), .gl (.fn "add_func_stats")) :: (("count_calls" : Str), .gl (.fn "count_calls")) :: (("_law_first" : Str), .gl (.fn "_law_first")) :: (("_law_cheap" : Str), .gl (.fn "_law_cheap")) :: (("_law_dear" : Str), .gl (.fn "_law_dear")) :: (("_law_ordered" : Str), .gl (.fn "_law_ordered")) :: (("min" : Str), .bi (.builtin "min")) :: (("max" : Str), .bi (.builtin "max")) :: (("_law_meetings" : Str), .gl (.fn "_law_meetings")) :: ("", .kn ["draws", "total", "paths", "hosts", "reference", "names", "i", "lies", "size", "sent", "taken", "weights", "low"]) :: [] : Store)) (fun p => .tup [.int p.1, .int p.2.1, .int p.2.2]) ?_ ⟨.unb, .unb, .unb, rfl, rfl, rfl, rfl⟩ (fun i p ρ hi hp => ?_) (fun ρ' hp => ?_)
  · refine EvI.lst ?_
    refine EvE.eq (d := .list (T6.map fun p => .tup [.int p.1, .int p.2.1, .int p.2.2])) ?_ rfl
    rw [← hx]
    refine EvE.lst ?_ ?_
    · exact (.cons (EvE.tup (.cons EvE.cint (.cons EvE.cint (.cons EvE.cint .nil))) (by exact Nat.le_of_ble_eq_true rfl)) (.cons (EvE.tup (.cons EvE.cint (.cons EvE.cint (.cons EvE.cint .nil))) (by exact Nat.le_of_ble_eq_true rfl)) (.cons (EvE.tup (.cons EvE.cint (.cons EvE.cint (.cons EvE.cint .nil))) (by exact Nat.le_of_ble_eq_true rfl)) (.cons (EvE.tup (.cons EvE.cint (.cons EvE.cint (.cons EvE.cint .nil))) (by exact Nat.le_of_ble_eq_true rfl)) (.cons (EvE.tup (.cons EvE.cint (.cons EvE.cint (.cons EvE.cint .nil))) (by exact Nat.le_of_ble_eq_true rfl)) (.cons (EvE.tup (.cons EvE.cint (.cons EvE.cint (.cons EvE.cint .nil))) (by exact Nat.le_of_ble_eq_true rfl)) .nil))))))
    · exact Nat.le_of_ble_eq_true rfl
  · obtain ⟨ra, rb, rc, h1, h2, h3, rfl⟩ := hp
    obtain ⟨hp0, hp1, hp2⟩ := T6_at p (List.mem_of_getElem? hi)
    have hil : i < 6 := (List.getElem?_eq_some_iff.mp hi).1
    refine ⟨_, _, (.three (.there (.there (.there (.there (.there (.there (.there (.there (.there (.there (.there (.there (.there (.there (.there (.there (.there (.there (.here))))))))))))))))))) (.there (.there (.there (.there (.there (.there (.there (.there (.there (.there (.there (.there (.there (.there (.there (.there (.there (.there (.there (.here)))))))))))))))))))) (.there (.there (.there (.there (.there (.there (.there (.there (.there (.there (.there (.there (.there (.there (.there (.there (.there (.there (.there (.there (.here)))))))))))))))))))))), EvS.one (Ev1.cast (ρ'' := ((("script" : Str), .dat (lI script)) :: (("draws" : Str), .dat (lI ds)) :: (("total" : Str), .dat (.int t)) :: (("paths" : Str), .dat (.list (paths.map tI))) :: (("hosts" : Str), .dat (lS hosts)) :: (("reference" : Str), .dat (.str ref)) :: (("places" : Str), .dat (.list (places.map tI))) :: (("names" : Str), .dat (lS names)) :: (("i" : Str), q1) :: (("k" : Str), q2) :: (("rung" : Str), q3) :: (("lies" : Str), .dat (.list (L.map lB))) :: (("size" : Str), .dat (.int (n : Int))) :: (("sent" : Str), .dat (lI sent)) :: (("taken" : Str), .dat (lI taken)) :: (("weights" : Str), .dat (lI weights)) :: (("calls" : Str), .dat (.list (([0, 1, 2] : List Int).map fun a => D.list (([3, 4, 5] : List Int).map fun b => fiveD (cA L names weights a b))))) :: (("sums" : Str), .own (.list (((T6.take (i + 1)).map (sumOf L names weights)).map fiveD))) :: (("a" : Str), .dat (.int p.1)) :: (("b" : Str), .dat (.int p.2.1)) :: (("c" : Str), .dat (.int p.2.2)) :: (("drift" : Str), .unb) :: (("told" : Str), .unb) :: (("rows" : Str), .unb) :: (("columns" : Str), .unb) :: (("low" : Str), .unb) :: (("high" : Str), .unb) :: (("costs" : Str), .unb) :: (("_law_draws" : Str), .gl (.fn "_law_draws")) :: (("sum" : Str), .bi (.builtin "sum")) :: (("_law_reference" : Str), .gl (.fn "_law_reference")) :: (("range" : Str), .bi (.type "range")) :: (("len" : Str), .bi (.builtin "len")) :: (("_law_ladder" : Str), .gl (.fn "_law_ladder")) :: (("add_func_stats" : Str), .gl (.fn "add_func_stats")) :: (("count_calls" : Str), .gl (.fn "count_calls")) :: (("_law_first" : Str), .gl (.fn "_law_first")) :: (("_law_cheap" : Str), .gl (.fn "_law_cheap")) :: (("_law_dear" : Str), .gl (.fn "_law_dear")) :: (("_law_ordered" : Str), .gl (.fn "_law_ordered")) :: (("min" : Str), .bi (.builtin "min")) :: (("max" : Str), .bi (.builtin "max")) :: (("_law_meetings" : Str), .gl (.fn "_law_meetings")) :: ("", .kn ["draws", "total", "paths", "hosts", "reference", "names", "i", "lies", "size", "sent", "taken", "weights", "low"]) :: [] : Store)) (Ev1.append (memN 17 rfl) (EvE.call (EvE.gname (memN 34 rfl)) (.cons (EvE.call (EvE.gname (memN 34 rfl)) (.cons (EvE.item (EvE.item (EvE.name (memN 16 rfl)).evL EvE.cint rfl rfl (by first | decide | lia | rfl | with_reducible assumption | exact Nat.le_of_ble_eq_true rfl | (have hsl : sizeLine = 2 ^ 24 := rfl; lia) | (have hsl : sizeLine = 2 ^ 24 := rfl; simp only [List.length_map, List.length_append, List.length_cons, List.length_nil, List.length_take, List.length_range, List.length_reverse]; lia))).evL (EvE.name (memN 18 rfl)) (c345 _ hp0).1 (c345 _ hp0).2 (rg012 hp0)) (.cons (EvE.item (EvE.item (EvE.name (memN 16 rfl)).evL EvE.cint rfl rfl (by first | decide | lia | rfl | with_reducible assumption | exact Nat.le_of_ble_eq_true rfl | (have hsl : sizeLine = 2 ^ 24 := rfl; lia) | (have hsl : sizeLine = 2 ^ 24 := rfl; simp only [List.length_map, List.length_append, List.length_cons, List.length_nil, List.length_take, List.length_range, List.length_reverse]; lia))).evL (EvE.name (memN 19 rfl)) (c345 _ hp1).1 (c345 _ hp1).2 (rg012 hp1)) .nil)) (fn_addF E _ (t := cA L names weights 0 (3 + p.1)) (s := cA L names weights 1 (3 + p.2.1)) (by have e1 := cA_len L names weights 0 (3 + p.1); have e2 := cA_len L names weights 1 (3 + p.2.1); lia)) ⟨_, E.hd 12 (by decide) rfl⟩) (.cons (EvE.item (EvE.item (EvE.name (memN 16 rfl)).evL EvE.cint rfl rfl (by first | decide | lia | rfl | with_reducible assumption | exact Nat.le_of_ble_eq_true rfl | (have hsl : sizeLine = 2 ^ 24 := rfl; lia) | (have hsl : sizeLine = 2 ^ 24 := rfl; simp only [List.length_map, List.length_append, List.length_cons, List.length_nil, List.length_take, List.length_range, List.length_reverse]; lia))).evL (EvE.name (memN 20 rfl)) (c345 _ hp2).1 (c345 _ hp2).2 (rg012 hp2)) .nil)) (fn_addF E _ (t := addF (cA L names weights 0 (3 + p.1)) (cA L names weights 1 (3 + p.2.1))) (s := cA L names weights 2 (3 + p.2.2)) (by have e1 := cA_len L names weights 0 (3 + p.1); have e2 := cA_len L names weights 1 (3 + p.2.1); have e3 := cA_len L names weights 2 (3 + p.2.2); have e4 := addF_len (cA L names weights 0 (3 + p.1)) (cA L names weights 1 (3 + p.2.1)); lia)) ⟨_, E.hd 12 (by decide) rfl⟩) (.there (.there (.there (.there (.there (.there (.there (.there (.there (.there (.there (.there (.there (.there (.there (.there (.there (.here)))))))))))))))))) (by first | decide | lia | rfl | with_reducible assumption | exact Nat.le_of_ble_eq_true rfl | (have hsl : sizeLine = 2 ^ 24 := rfl; lia) | (have hsl : sizeLine = 2 ^ 24 := rfl; simp only [List.length_map, List.length_append, List.length_cons, List.length_nil, List.length_take, List.length_range, List.length_reverse]; lia))) ?_), .dat (.int p.1), .dat (.int p.2.1), .dat (.int p.2.2), rfl, rfl, rfl, rfl⟩
    rw [List.take_add_one, hi]
    simp only [List.map_append, Option.toList, List.map_cons, List.map_nil]
    rfl
  obtain ⟨ra, rb, rc, h1, h2, h3, rfl⟩ := hp
  rw [List.take_length, hS]
  refine EvS.freeze (memN 17 rfl) (.there (.there (.there (.there (.there (.there (.there (.there (.there (.there (.there (.there (.there (.there (.there (.there (.there (.here)))))))))))))))))) ?_
  refine EvS.cons (Ev1.assign (EvE.bi (memN 29 rfl) (.cons (EvE.comp (clb := false) (EvI.rangeI (memN 31 rfl) (.cons (EvE.name (memN 12 rfl)) .nil) rfl (by first | decide | lia | rfl | with_reducible assumption | exact Nat.le_of_ble_eq_true rfl | (have hsl : sizeLine = 2 ^ 24 := rfl; lia) | (have hsl : sizeLine = 2 ^ 24 := rfl; simp only [List.length_map, List.length_append, List.length_cons, List.length_nil, List.length_take, List.length_range, List.length_reverse]; lia))) ⟨rfl, by decide, rfl, rfl⟩ (.inr ⟨_, (memN 43 rfl)⟩) (by decide) (.skip (.skip (.skip (.skip (.skip (.skip (.skip (.skip (.skip (.skip (.skip (.skip (.skip (.dat rfl (.dat rfl (.dat rfl (.skip (.skip (.skip (.skip (.skip (.skip (.skip (.skip (.skip (.skip (.skip (.skip (.skip (.skip (.skip (.skip (.skip (.skip (.skip (.skip (.skip (.skip (.skip (.skip (.skip (.skip (.skip (.skip (.nil))))))))))))))))))))))))))))))))))))))))))))) (CompL.to (es2 := dr.map D.int) (CompL.mapG (G := D.int) fun a ha => (EvE.bin (EvE.item (EvE.name (.tail _ (.tail _ (.tail _ (.head _))))).evL (EvE.name (.head _)) (gN1 (by have := List.mem_range.mp ha; lia)) (gN2 0 (by have := List.mem_range.mp ha; lia)) (hrg ha)) (EvE.bin (EvE.item (EvE.name (.tail _ (.head _))).evL (EvE.name (.head _)) (gN1 (by have := List.mem_range.mp ha; lia)) (gN2 0 (by have := List.mem_range.mp ha; lia)) (hrg ha)) (EvE.item (EvE.name (.tail _ (.tail _ (.head _)))).evL (EvE.name (.head _)) (gN1 (by have := List.mem_range.mp ha; lia)) (gN2 0 (by have := List.mem_range.mp ha; lia)) (hrg ha)) .sub) (.mul (mulL (hw60 a))))) (by rw [← hdr]; rfl)) (by first | exact Nat.le_of_ble_eq_true rfl | lia | (have hsl : sizeLine = 2 ^ 24 := rfl; simp only [List.length_map, List.length_range, List.length_cons, List.length_nil]; lia))) .nil) (.sumI hdb (by lia))) (.there (.there (.there (.there (.there (.there (.there (.there (.there (.there (.there (.there (.there (.there (.there (.there (.there (.there (.there (.there (.there (.here))))))))))))))))))))))) ?_
  refine EvS.forL S (fun i ρ => ∃ q4 : LV, q4.slot = true ∧ ρ = ((("script" : Str), .dat (lI script)) :: (("draws" : Str), .dat (lI ds)) :: (("total" : Str), .dat (.int t)) :: (("paths" : Str), .dat (.list (paths.map tI))) :: (("hosts" : Str), .dat (lS hosts)) :: (("reference" : Str), .dat (.str ref)) :: (("places" : Str), .dat (.list (places.map tI))) :: (("names" : Str), .dat (lS names)) :: (("i" : Str), q1) :: (("k" : Str), q2) :: (("rung" : Str), q3) :: (("lies" : Str), .dat (.list (L.map lB))) :: (("size" : Str), .dat (.int (n : Int))) :: (("sent" : Str), .dat (lI sent)) :: (("taken" : Str), .dat (lI taken)) :: (("weights" : Str), .dat (lI weights)) :: (("calls" : Str), .dat (.list (([0, 1, 2] : List Int).map fun a => D.list (([3, 4, 5] : List Int).map fun b => fiveD (cA L names weights a b))))) :: (("sums" : Str), .dat (.list (S.map fiveD))) :: (("a" : Str), ra) :: (("b" : Str), rb) :: (("c" : Str), rc) :: (("drift" : Str), .dat (.int dr.sum)) :: (("told" : Str), q4) :: (("rows" : Str), .unb) :: (("columns" : Str), .unb) :: (("low" : Str), .unb) :: (("high" : Str), .unb) :: (("costs" : Str), .unb) :: (("_law_draws" : Str), .gl (.fn "_law_draws")) :: (("sum" : Str), .bi (.builtin "sum")) :: (("_law_reference" : Str), .gl (.fn "_law_reference")) :: (("range" : Str), .bi (.type "range")) :: (("len" : Str), .bi (.builtin "len")) :: (("_law_ladder" : Str), .gl (.fn "_law_ladder")) :: (("add_func_stats" : Str), .gl (.fn "add_func_stats")) :: (("count_calls" : Str), .gl (.fn "count_calls")) :: (("_law_first" : Str), .gl (.fn "_law_first")) :: (("_law_cheap" : Str), .gl (.fn "_law_cheap")) :: (("_law_dear" : Str), .gl (.fn "_law_dear")) :: (("_law_ordered" : Str), .gl (.fn "_law_ordered")) :: (("min" : Str), .bi (.builtin "min")) :: (("max" : Str), .bi (.builtin "max")) :: (("_law_meetings" : Str), .gl (.fn "_law_meetings")) :: ("", .kn ["draws", "total", "paths", "hosts", "reference", "names", "i", "lies", "size", "sent", "taken", "weights", "low"]) :: [] : Store)) fiveD (EvI.lst (EvE.name (memN 17 rfl))) ⟨.unb, rfl, rfl⟩ (fun i f ρ hi hp => ?_) (fun ρ' hp => ?_)
  · obtain ⟨q4, h4, rfl⟩ := hp
    obtain ⟨e1, e2, e3⟩ := H1 f (List.mem_of_getElem? hi)
    refine ⟨_, _, .name (.there (.there (.there (.there (.there (.there (.there (.there (.there (.there (.there (.there (.there (.there (.there (.there (.there (.there (.there (.there (.there (.there (.here))))))))))))))))))))))), EvS.one (Ev1.iff (b := false) (EvT.eq (EvT.or (EvOr.cons (EvT.cmp (EvE.itemT (EvE.name (memN 22 rfl)) EvE.cint rfl rfl (by first | decide | lia | rfl | with_reducible assumption | exact Nat.le_of_ble_eq_true rfl | (have hsl : sizeLine = 2 ^ 24 := rfl; lia) | (have hsl : sizeLine = 2 ^ 24 := rfl; simp only [List.length_map, List.length_append, List.length_cons, List.length_nil, List.length_take, List.length_range, List.length_reverse]; lia))) EvE.cint .neI) fun _ => (EvOr.cons (EvT.cmp (EvE.itemT (EvE.name (memN 22 rfl)) EvE.cint rfl rfl (by first | decide | lia | rfl | with_reducible assumption | exact Nat.le_of_ble_eq_true rfl | (have hsl : sizeLine = 2 ^ 24 := rfl; lia) | (have hsl : sizeLine = 2 ^ 24 := rfl; simp only [List.length_map, List.length_append, List.length_cons, List.length_nil, List.length_take, List.length_range, List.length_reverse]; lia))) (EvE.call (EvE.gname (memN 35 rfl)) (.cons (EvE.itemT (EvE.name (memN 22 rfl)) EvE.cint rfl rfl (by first | decide | lia | rfl | with_reducible assumption | exact Nat.le_of_ble_eq_true rfl | (have hsl : sizeLine = 2 ^ 24 := rfl; lia) | (have hsl : sizeLine = 2 ^ 24 := rfl; simp only [List.length_map, List.length_append, List.length_cons, List.length_nil, List.length_take, List.length_range, List.length_reverse]; lia))) .nil) (fn_count E _) ⟨_, E.hd 14 (by decide) rfl⟩) .neI) fun _ => (EvOr.cons (EvT.cmp (EvE.bin (EvE.bin EvE.cint (EvE.itemT (EvE.name (memN 22 rfl)) EvE.cint rfl rfl (by first | decide | lia | rfl | with_reducible assumption | exact Nat.le_of_ble_eq_true rfl | (have hsl : sizeLine = 2 ^ 24 := rfl; lia) | (have hsl : sizeLine = 2 ^ 24 := rfl; simp only [List.length_map, List.length_append, List.length_cons, List.length_nil, List.length_take, List.length_range, List.length_reverse]; lia))) (.mul (mulL (by decide)))) (EvE.itemT (EvE.name (memN 22 rfl)) EvE.cint rfl rfl (by first | decide | lia | rfl | with_reducible assumption | exact Nat.le_of_ble_eq_true rfl | (have hsl : sizeLine = 2 ^ 24 := rfl; lia) | (have hsl : sizeLine = 2 ^ 24 := rfl; simp only [List.length_map, List.length_append, List.length_cons, List.length_nil, List.length_take, List.length_range, List.length_reverse]; lia))) .sub) (EvE.name (memN 21 rfl)) .neI) fun _ => EvOr.nil)))) ?_) (fun e => by cases e) fun _ => EvS.nil), .dat (fiveD f), rfl, rfl⟩
    rw [e1, e2, e3]
    simp
  obtain ⟨q4, h4, rfl⟩ := hp
  refine EvS.cons (Ev1.assignC (clb := true) (EvI.lst (EvE.name (memN 17 rfl))) ⟨rfl, by decide, rfl, rfl⟩ (.inr ⟨_, (memN 43 rfl)⟩) (by decide) (.kn (y := "") (zs := (["told"] : List Str)) (by decide) (.skip (.skip (.skip (.skip (.skip (.skip (.skip (.dat rfl (.skip (.skip (.skip (.skip (.skip (.skip (.skip (.skip (.skip (.skip (.skip (.skip (.skip (.skip (.skip (.skip (.skip (.skip (.skip (.skip (.skip (.skip (.skip (.skip (.skip (.skip (.skip (.skip (.skip (.skip (.skip (.skip (.skip (.skip (.skip (.skip (.nil)))))))))))))))))))))))))))))))))))))))))))))) (CompL.to (es2 := rows.map lI) (CompL.mapG (l := S) (g := fiveD) (G := lI) (h := fun f => names.map fun nm => (kget f.2.2.2.2 nm).getD 0) fun a ha => (EvE.comp (clb := false) (EvI.lst (EvE.name (.tail _ (.tail _ (.head _))))) ⟨rfl, by decide, rfl, rfl⟩ (.inr ⟨_, (.tail _ (.head _))⟩) (by decide) (.dat rfl (.skip (.skip (.nil)))) (CompL.mapG (G := D.int) fun a ha => (EvE.getD (EvE.itemT (EvE.name (.tail _ (.head _))) EvE.cint rfl rfl (by first | decide | lia | rfl | with_reducible assumption | exact Nat.le_of_ble_eq_true rfl | (have hsl : sizeLine = 2 ^ 24 := rfl; lia) | (have hsl : sizeLine = 2 ^ 24 := rfl; simp only [List.length_map, List.length_append, List.length_cons, List.length_nil, List.length_take, List.length_range, List.length_reverse]; lia))) (EvE.name (.head _)) EvE.cint)) (by first | exact Nat.le_of_ble_eq_true rfl | lia | (have hsl : sizeLine = 2 ^ 24 := rfl; simp only [List.length_map, List.length_range, List.length_cons, List.length_nil]; lia)))) (by rw [← hrows]; rfl)) (by first | exact Nat.le_of_ble_eq_true rfl | lia | (have hsl : sizeLine = 2 ^ 24 := rfl; simp only [List.length_map, List.length_range, List.length_cons, List.length_nil]; lia)) (.there (.there (.there (.there (.there (.there (.there (.there (.there (.there (.there (.there (.there (.there (.there (.there (.there (.there (.there (.there (.there (.there (.there (.here))))))))))))))))))))))))) ?_
  refine EvS.cons (Ev1.assignC (clb := false) (EvI.rangeI (memN 31 rfl) (.cons (EvE.name (memN 12 rfl)) .nil) rfl (by first | decide | lia | rfl | with_reducible assumption | exact Nat.le_of_ble_eq_true rfl | (have hsl : sizeLine = 2 ^ 24 := rfl; lia) | (have hsl : sizeLine = 2 ^ 24 := rfl; simp only [List.length_map, List.length_append, List.length_cons, List.length_nil, List.length_take, List.length_range, List.length_reverse]; lia))) ⟨rfl, by decide, rfl, rfl⟩ (.inr ⟨_, (memN 43 rfl)⟩) (by decide) (.skip (.skip (.dat rfl (.skip (.skip (.skip (.skip (.skip (.skip (.skip (.skip (.skip (.dat rfl (.skip (.skip (.skip (.skip (.skip (.skip (.skip (.skip (.skip (.skip (.skip (.skip (.skip (.skip (.skip (.skip (.skip (.skip (.skip (.skip (.skip (.skip (.skip (.skip (.skip (.skip (.skip (.skip (.skip (.skip (.skip (.nil))))))))))))))))))))))))))))))))))))))))))))) (CompL.to (es2 := columns.map D.int) (CompL.mapG (G := D.int) fun a ha => (EvE.bin (EvE.bin (EvE.name (.head _)) (EvE.bin (EvE.name (.tail _ (.head _))) EvE.cint (.fdiv (by first | decide | lia | rfl | with_reducible assumption | exact Nat.le_of_ble_eq_true rfl | (have hsl : sizeLine = 2 ^ 24 := rfl; lia) | (have hsl : sizeLine = 2 ^ 24 := rfl; simp only [List.length_map, List.length_append, List.length_cons, List.length_nil, List.length_take, List.length_range, List.length_reverse]; lia)) (by first | decide | lia | rfl | with_reducible assumption | exact Nat.le_of_ble_eq_true rfl | (have hsl : sizeLine = 2 ^ 24 := rfl; lia) | (have hsl : sizeLine = 2 ^ 24 := rfl; simp only [List.length_map, List.length_append, List.length_cons, List.length_nil, List.length_take, List.length_range, List.length_reverse]; lia)))) .add) (EvE.name (.tail _ (.tail _ (.head _)))) (.mod (by first | decide | lia | rfl | with_reducible assumption | exact Nat.le_of_ble_eq_true rfl | (have hsl : sizeLine = 2 ^ 24 := rfl; lia) | (have hsl : sizeLine = 2 ^ 24 := rfl; simp only [List.length_map, List.length_append, List.length_cons, List.length_nil, List.length_take, List.length_range, List.length_reverse]; lia))))) (by rw [← hcolumns]; rfl)) (by first | exact Nat.le_of_ble_eq_true rfl | lia | (have hsl : sizeLine = 2 ^ 24 := rfl; simp only [List.length_map, List.length_range, List.length_cons, List.length_nil]; lia)) (.there (.there (.there (.there (.there (.there (.there (.there (.there (.there (.there (.there (.there (.there (.there (.there (.there (.there (.there (.there (.there (.there (.there (.there (.here)))))))))))))))))))))))))) ?_
  refine EvS.cons (Ev1.assignC (clb := false) (EvI.rangeI (memN 31 rfl) (.cons (EvE.name (memN 12 rfl)) .nil) rfl (by first | decide | lia | rfl | with_reducible assumption | exact Nat.le_of_ble_eq_true rfl | (have hsl : sizeLine = 2 ^ 24 := rfl; lia) | (have hsl : sizeLine = 2 ^ 24 := rfl; simp only [List.length_map, List.length_append, List.length_cons, List.length_nil, List.length_take, List.length_range, List.length_reverse]; lia))) ⟨rfl, by decide, rfl, rfl⟩ (.inr ⟨_, (memN 43 rfl)⟩) (by decide) (.bi rfl (E.bin "abs" (.builtin "abs") (by simp)) (.skip (.skip (.skip (.skip (.skip (.skip (.skip (.skip (.skip (.skip (.skip (.skip (.skip (.dat rfl (.dat rfl (.skip (.skip (.skip (.skip (.skip (.skip (.skip (.skip (.skip (.skip (.skip (.skip (.skip (.skip (.skip (.skip (.skip (.skip (.skip (.skip (.skip (.skip (.skip (.skip (.skip (.skip (.skip (.skip (.skip (.nil)))))))))))))))))))))))))))))))))))))))))))))) (CompL.to (es2 := low.map D.int) (CompL.mapG (G := D.int) fun a ha => (EvE.bi (.tail _ (.head _)) (.cons (EvE.bin (EvE.item (EvE.name (.tail _ (.tail _ (.head _)))).evL (EvE.name (.head _)) (gN1 (by have := List.mem_range.mp ha; lia)) (gN2 0 (by have := List.mem_range.mp ha; lia)) (hrg ha)) (EvE.item (EvE.name (.tail _ (.tail _ (.tail _ (.head _))))).evL (EvE.name (.head _)) (gN1 (by have := List.mem_range.mp ha; lia)) (gN2 0 (by have := List.mem_range.mp ha; lia)) (hrg ha)) .sub) .nil) .abs)) (by rw [← hlow]; rfl)) (by first | exact Nat.le_of_ble_eq_true rfl | lia | (have hsl : sizeLine = 2 ^ 24 := rfl; simp only [List.length_map, List.length_range, List.length_cons, List.length_nil]; lia)) (.there (.there (.there (.there (.there (.there (.there (.there (.there (.there (.there (.there (.there (.there (.there (.there (.there (.there (.there (.there (.there (.there (.there (.there (.there (.here))))))))))))))))))))))))))) ?_
  refine EvS.cons (Ev1.assignC (clb := false) (EvI.rangeI (memN 31 rfl) (.cons (EvE.name (memN 12 rfl)) .nil) rfl (by first | decide | lia | rfl | with_reducible assumption | exact Nat.le_of_ble_eq_true rfl | (have hsl : sizeLine = 2 ^ 24 := rfl; lia) | (have hsl : sizeLine = 2 ^ 24 := rfl; simp only [List.length_map, List.length_append, List.length_cons, List.length_nil, List.length_take, List.length_range, List.length_reverse]; lia))) ⟨rfl, by decide, rfl, rfl⟩ (.inr ⟨_, (memN 43 rfl)⟩) (by decide) (.bi rfl (E.bin "min" (.builtin "min") (by simp)) (.skip (.skip (.skip (.skip (.skip (.skip (.skip (.skip (.skip (.skip (.skip (.skip (.skip (.dat rfl (.dat rfl (.skip (.skip (.skip (.skip (.skip (.skip (.skip (.skip (.skip (.skip (.skip (.skip (.skip (.skip (.skip (.skip (.skip (.skip (.skip (.skip (.skip (.skip (.skip (.skip (.skip (.skip (.skip (.skip (.skip (.nil)))))))))))))))))))))))))))))))))))))))))))))) (CompL.to (es2 := high.map D.int) (CompL.mapG (G := D.int) fun a ha => (EvE.bi (.tail _ (.head _)) (.cons (EvE.bin (EvE.item (EvE.name (.tail _ (.tail _ (.head _)))).evL (EvE.name (.head _)) (gN1 (by have := List.mem_range.mp ha; lia)) (gN2 0 (by have := List.mem_range.mp ha; lia)) (hrg ha)) (EvE.item (EvE.name (.tail _ (.tail _ (.tail _ (.head _))))).evL (EvE.name (.head _)) (gN1 (by have := List.mem_range.mp ha; lia)) (gN2 0 (by have := List.mem_range.mp ha; lia)) (hrg ha)) .add) (.cons (EvE.bin (EvE.bin EvE.cint (EvE.item (EvE.name (.tail _ (.tail _ (.head _)))).evL (EvE.name (.head _)) (gN1 (by have := List.mem_range.mp ha; lia)) (gN2 0 (by have := List.mem_range.mp ha; lia)) (hrg ha)) .sub) (EvE.item (EvE.name (.tail _ (.tail _ (.tail _ (.head _))))).evL (EvE.name (.head _)) (gN1 (by have := List.mem_range.mp ha; lia)) (gN2 0 (by have := List.mem_range.mp ha; lia)) (hrg ha)) .sub) .nil)) .min2)) (by rw [← hhigh]; rfl)) (by first | exact Nat.le_of_ble_eq_true rfl | lia | (have hsl : sizeLine = 2 ^ 24 := rfl; simp only [List.length_map, List.length_range, List.length_cons, List.length_nil]; lia)) (.there (.there (.there (.there (.there (.there (.there (.there (.there (.there (.there (.there (.there (.there (.there (.there (.there (.there (.there (.there (.there (.there (.there (.there (.there (.there (.here)))))))))))))))))))))))))))) ?_
  refine EvS.cons (Ev1.iff (b := false) (EvT.eq (EvT.cmp (EvE.call (EvE.gname (memN 36 rfl)) (.cons (EvE.name (memN 23 rfl)) (.cons (EvE.name (memN 24 rfl)) (.cons EvE.cint .nil))) (fn_first E _ (m := n) hr0 hr4 hc4 (by lia) hrl hcr) ⟨_, E.hd 30 (by decide) rfl⟩) (EvE.tup (.cons (EvE.name (memN 25 rfl)) (.cons (EvE.call (EvE.gname (memN 37 rfl)) (.cons (EvE.name (.tail _ (.tail _ (.tail _ (.head _))))) (.cons (EvE.name (memN 6 rfl)) (.cons (EvE.name (memN 13 rfl)) (.cons (EvE.name (memN 14 rfl)) .nil)))) (fn_cheap E _ hp6 (by lia) hp3l (by lia) (by lia) hs3 ht3) ⟨_, E.hd 32 (by decide) rfl⟩) .nil)) (by exact Nat.le_of_ble_eq_true rfl)) (.ne 4 (okPr _ _) (okPr _ _))) (by rw [H2, deqPr]; rfl)) (fun e => by cases e) fun _ => EvS.nil) ?_
  refine EvS.cons (Ev1.iff (b := false) (EvT.eq (EvT.cmp (EvE.call (EvE.gname (memN 36 rfl)) (.cons (EvE.name (memN 23 rfl)) (.cons (EvE.name (memN 24 rfl)) (.cons (EvE.neg EvE.cint) .nil))) (fn_first E _ (m := n) hr0 hr4 hc4 (by lia) hrl hcr) ⟨_, E.hd 30 (by decide) rfl⟩) (EvE.tup (.cons (EvE.name (memN 26 rfl)) (.cons (EvE.call (EvE.gname (memN 38 rfl)) (.cons (EvE.name (memN 6 rfl)) (.cons (EvE.name (memN 13 rfl)) (.cons (EvE.name (memN 14 rfl)) .nil))) (fn_dear E _ (by lia) hp3l (by lia) (by lia) hs3 ht3) ⟨_, E.hd 33 (by decide) rfl⟩) .nil)) (by exact Nat.le_of_ble_eq_true rfl)) (.ne 4 (okPr _ _) (okPr _ _))) (by rw [H3, deqPr]; rfl)) (fun e => by cases e) fun _ => EvS.nil) ?_
  refine EvS.cons (Ev1.iff (b := false) (EvT.not (EvT.val (EvE.call (EvE.gname (memN 39 rfl)) (.cons (EvE.name (memN 23 rfl)) (.cons (EvE.name (memN 24 rfl)) .nil)) (fn_ordered E _ (m := n) hr4 (by lia) hcl hrl hcr hord) ⟨_, E.hd 31 (by decide) rfl⟩) .bool)) (fun e => by cases e) fun _ => EvS.nil) ?_
  refine EvS.cons (Ev1.assignC (clb := false) (EvI.lst (EvE.name (memN 17 rfl))) ⟨rfl, by decide, rfl, rfl⟩ (.inl rfl) (by decide) (.skip (.skip (.skip (.skip (.skip (.skip (.skip (.skip (.skip (.skip (.skip (.skip (.skip (.skip (.skip (.skip (.skip (.skip (.skip (.skip (.skip (.skip (.skip (.skip (.skip (.skip (.skip (.skip (.skip (.skip (.skip (.skip (.skip (.skip (.skip (.skip (.skip (.skip (.skip (.skip (.skip (.skip (.skip (.skip (.nil))))))))))))))))))))))))))))))))))))))))))))) (CompL.to (es2 := costs.map D.int) (CompL.mapG (l := S) (g := fiveD) (G := D.int) fun a ha => (EvE.itemT (EvE.name (.head _)) EvE.cint rfl rfl (by first | decide | lia | rfl | with_reducible assumption | exact Nat.le_of_ble_eq_true rfl | (have hsl : sizeLine = 2 ^ 24 := rfl; lia) | (have hsl : sizeLine = 2 ^ 24 := rfl; simp only [List.length_map, List.length_append, List.length_cons, List.length_nil, List.length_take, List.length_range, List.length_reverse]; lia)))) (by rw [← hcosts])) (by first | exact Nat.le_of_ble_eq_true rfl | lia | (have hsl : sizeLine = 2 ^ 24 := rfl; simp only [List.length_map, List.length_range, List.length_cons, List.length_nil]; lia)) (.there (.there (.there (.there (.there (.there (.there (.there (.there (.there (.there (.there (.there (.there (.there (.there (.there (.there (.there (.there (.there (.there (.there (.there (.there (.there (.there (.here))))))))))))))))))))))))))))) ?_
  refine EvS.cons (Ev1.iff (b := false) (EvT.eq (EvT.cmp (EvE.bi (memN 40 rfl) (.cons (EvE.name (memN 27 rfl)) .nil) (.minL (by lia))) (EvE.bi (memN 29 rfl) (.cons (EvE.comp (clb := false) (EvI.rangeI (memN 31 rfl) (.cons (EvE.name (memN 12 rfl)) .nil) rfl (by first | decide | lia | rfl | with_reducible assumption | exact Nat.le_of_ble_eq_true rfl | (have hsl : sizeLine = 2 ^ 24 := rfl; lia) | (have hsl : sizeLine = 2 ^ 24 := rfl; simp only [List.length_map, List.length_append, List.length_cons, List.length_nil, List.length_take, List.length_range, List.length_reverse]; lia))) ⟨rfl, by decide, rfl, rfl⟩ (.inr ⟨_, (memN 43 rfl)⟩) (by decide) (.skip (.skip (.skip (.skip (.skip (.skip (.skip (.skip (.skip (.skip (.skip (.skip (.skip (.skip (.skip (.dat rfl (.skip (.skip (.skip (.skip (.skip (.skip (.skip (.skip (.skip (.dat rfl (.skip (.skip (.skip (.skip (.skip (.skip (.skip (.skip (.skip (.skip (.skip (.skip (.skip (.skip (.skip (.skip (.skip (.skip (.nil))))))))))))))))))))))))))))))))))))))))))))) (CompL.to (es2 := cs.map D.int) (CompL.mapG (G := D.int) fun a ha => (EvE.bin (EvE.item (EvE.name (.tail _ (.head _))).evL (EvE.name (.head _)) (gN1 (by have := List.mem_range.mp ha; lia)) (gN2 0 (by have := List.mem_range.mp ha; lia)) (hrg ha)) (EvE.item (EvE.name (.tail _ (.tail _ (.head _)))).evL (EvE.name (.head _)) (gN1 (by have := List.mem_range.mp ha; lia)) (gN2 0 (by have := List.mem_range.mp ha; lia)) (hrg ha)) (.mul (mulL (hw60 a))))) (by rw [← hcs]; rfl)) (by first | exact Nat.le_of_ble_eq_true rfl | lia | (have hsl : sizeLine = 2 ^ 24 := rfl; simp only [List.length_map, List.length_range, List.length_cons, List.length_nil]; lia))) .nil) (.sumI hcb (by lia))) .neI) (by rw [H5]; simp)) (fun e => by cases e) fun _ => EvS.nil) ?_
  exact EvS.one (Ev1.ret (EvE.eq (EvE.cmp (EvE.bi (memN 41 rfl) (.cons (EvE.name (memN 27 rfl)) .nil) (.maxL (by lia))) (EvE.bi (memN 40 rfl) (.cons (EvE.call (EvE.gname (memN 42 rfl)) (.cons (EvE.name (memN 6 rfl)) (.cons (EvE.name (memN 13 rfl)) (.cons (EvE.name (memN 14 rfl)) (.cons (EvE.name (memN 15 rfl)) .nil)))) (fn_meetings E _ (by lia) hp3l (by lia) (by lia) (by lia) hw60) ⟨_, E.hd 34 (by decide) rfl⟩) .nil) (.minL (by unfold meetings; simp))) .eqI) (by rw [H6, beq_self_eq_true])))
end Mine
-- part Def15
open PySem
set_option Elab.async false
set_option linter.unusedVariables false
set_option linter.unusedSimpArgs false
set_option maxRecDepth 100000
namespace Mine
variable {C : Cx}

def lieOf (places : List (List Int)) (p : List Int) : List Bool := places.map fun q => p.take q.length == q
abbrev sentP (L : List (List Bool)) (n : Nat) : List Int := sumL (L.getD 0 []) (L.getD 1 []) (L.getD 2 []) n
abbrev takenP (L : List (List Bool)) (n : Nat) : List Int := sumL (L.getD 3 []) (L.getD 4 []) (L.getD 5 []) n
structure Plain (ds : List Int) (t : Int) (paths places : List (List Int)) (names : List Str) (L : List (List Bool)) (n : Nat) : Prop where
  hn0 : 0 < n
  hdb : ∀ x ∈ driftL (weightsOf ds n) (sentP L n) (takenP L n) n, -(2 ^ 40) ≤ x ∧ x ≤ 2 ^ 40
  hcb : ∀ x ∈ costL (weightsOf ds n) (lowOf (sentP L n) (takenP L n) n) n, -(2 ^ 40) ≤ x ∧ x ≤ 2 ^ 40
  H1 : ∀ f ∈ T6.map (sumOf L names (weightsOf ds n)), f.1 = 3 ∧ f.2.1 = (f.2.2.2.2.map (·.2)).sum ∧ 2 * f.2.2.1 - f.2.2.2.1 = (driftL (weightsOf ds n) (sentP L n) (takenP L n) n).sum
  H2 : D.tup [lI (bestOf ((columnsOf t n).map fun j => (j, 1)) (rowsOf (T6.map (sumOf L names (weightsOf ds n))) names)), .int (((rowsOf (T6.map (sumOf L names (weightsOf ds n))) names).filter fun a => cmpOf a (bestOf ((columnsOf t n).map fun j => (j, 1)) (rowsOf (T6.map (sumOf L names (weightsOf ds n))) names)) ((columnsOf t n).map fun j => (j, 1)) == 0).length : Nat)] = .tup [lI (lowOf (sentP L n) (takenP L n) n), .int (cheapOf paths places (sentP L n) (takenP L n))]
  H3 : D.tup [lI (bestOf ((columnsOf t n).map fun j => (j, -1)) (rowsOf (T6.map (sumOf L names (weightsOf ds n))) names)), .int (((rowsOf (T6.map (sumOf L names (weightsOf ds n))) names).filter fun a => cmpOf a (bestOf ((columnsOf t n).map fun j => (j, -1)) (rowsOf (T6.map (sumOf L names (weightsOf ds n))) names)) ((columnsOf t n).map fun j => (j, -1)) == 0).length : Nat)] = .tup [lI (highOf (sentP L n) (takenP L n) n), .int (dearOf places (sentP L n) (takenP L n))]
  hord : ∀ i, i < (rowsOf (T6.map (sumOf L names (weightsOf ds n))) names).length → ∀ j, j < i → cmpOf ((rowsOf (T6.map (sumOf L names (weightsOf ds n))) names).getD i []) ((rowsOf (T6.map (sumOf L names (weightsOf ds n))) names).getD j []) (selO (columnsOf t n)) = dueOf (figOf (columnsOf t n) ((rowsOf (T6.map (sumOf L names (weightsOf ds n))) names).getD i [])) (figOf (columnsOf t n) ((rowsOf (T6.map (sumOf L names (weightsOf ds n))) names).getD j []))
  H5 : lmin ((T6.map (sumOf L names (weightsOf ds n))).map fun f => f.2.2.2.1) = (costL (weightsOf ds n) (lowOf (sentP L n) (takenP L n) n) n).sum
  H6 : lmax ((T6.map (sumOf L names (weightsOf ds n))).map fun f => f.2.2.2.1) = lmin (meetings places (sentP L n) (takenP L n) (weightsOf ds n))
theorem down_eq {p : List Int} (hp : p ∈ allPaths) : ranged ((p.map D.int).length : Nat) (-1) (p.map D.int).length = (prefs p).map fun q => D.int (q.length : Int) := by
  have h := prefs_down p hp
  have e : (prefs p).map (fun q => D.int (q.length : Int)) = ((prefs p).map fun q => (q.length : Int)).map D.int := by rw [List.map_map]; rfl
  rw [e, h, List.map_map, List.length_map]
  unfold ranged
  apply List.map_congr_left
  intro i _
  show D.int ((p.length : Int) + (i : Int) * (-1)) = D.int ((p.length : Int) - (i : Int))
  congr 1
  lia
theorem strOk_sp {r : Str} {p : List Int} (hr : r ∈ allRefs) (hp : p ∈ allPaths) : PyData.strOk (spR r p) = true := by
  have h := ascii_at hr hp
  unfold PyData.strOk
  rw [← Array.all_toList, List.all_eq_true]
  intro c hc
  have := h c hc
  simp only [decide_eq_true_eq]
  lia
theorem okLS {t : Int} {places : List (List Int)} (hp : ∀ p ∈ places, p ∈ allPaths) : okD 4 (lS (places.map (spR (rOf t)))) = true := by
  rw [okD, List.all_map, List.all_map, List.all_eq_true]
  intro p h
  exact strOk_sp (rOf_in t) (hp p h)
theorem addP_len (acc : List (List Int)) (q : List Int) : (addP acc q).length ≤ acc.length + 1 := by
  unfold addP
  split
  · lia
  · simp
theorem addP_fold_len : ∀ (l acc : List (List Int)), (l.foldl addP acc).length ≤ acc.length + l.length
  | [], acc => by simp
  | q :: l, acc => by
    have h1 := addP_fold_len l (addP acc q)
    have h2 := addP_len acc q
    simp only [List.foldl_cons, List.length_cons]
    lia
theorem placesAt_len {paths : List (List Int)} (hp : ∀ p ∈ paths, p ∈ allPaths) : ∀ i, (placesAt paths i).length ≤ 3 * i := by
  intro i
  induction i with
  | zero => unfold placesAt; simp
  | succ i ih =>
    cases h : paths[i]? with
    | none =>
      have : placesAt paths (i + 1) = placesAt paths i := by
        unfold placesAt; rw [List.take_add_one, h]; simp
      rw [this]; lia
    | some p =>
      rw [placesAt_succ h]
      have h1 := addP_fold_len (prefs p) (placesAt paths i)
      have h2 := (prefs_len p (hp p (List.mem_of_getElem? h))).1
      lia
theorem CompL.mapN {C : Cx} {k : Nat} {x : Str} {ρ : Store} {elt : Expr} {sp : List Int → Str} {h : List Int → Bool} (l : List (List Int)) (H : ∀ a ∈ l, EvE C k ((x, .dat (.str (sp a))) :: ρ) elt (.bool (h a))) : CompL C k x ρ [] elt ((l.map sp).map D.str) ((l.map h).map D.bool) := by
  have := CompL.mapG (C := C) (k := k) (x := x) (ρ := ρ) (elt := elt) (l := l) (g := fun a => D.str (sp a)) (G := D.bool) (h := h) H
  rw [List.map_map]
  exact this
theorem addN_len (acc : List Str) (q : Str) : (addN acc q).length ≤ acc.length + 1 := by
  unfold addN
  split
  · lia
  · simp
theorem addN_fold_len : ∀ (l acc : List Str), (l.foldl addN acc).length ≤ acc.length + l.length
  | [], acc => by simp
  | q :: l, acc => by
    have h1 := addN_fold_len l (addN acc q)
    have h2 := addN_len acc q
    simp only [List.foldl_cons, List.length_cons]
    lia
theorem addN_ok : ∀ (l acc : List Str), (∀ x ∈ l, PyData.strOk x = true) → (∀ x ∈ acc, PyData.strOk x = true) → ∀ x ∈ l.foldl addN acc, PyData.strOk x = true
  | [], acc, _, h => h
  | q :: l, acc, hl, h => by
    rw [List.foldl_cons]
    refine addN_ok l _ (fun x hx => hl x (.tail _ hx)) fun x hx => ?_
    unfold addN at hx
    split at hx
    · exact h x hx
    · rcases List.mem_append.mp hx with q1 | q1
      · exact h x q1
      · rw [List.mem_singleton.mp q1]; exact hl q (.head _)
theorem dot1 {x : Str} (h : x.length ≤ 100) : (Str.ofString ".").length + x.length ≤ sizeLine := by
  have h1 : (Str.ofString ".").length = 1 := rfl
  have h2 : sizeLine = 2 ^ 24 := rfl
  lia
theorem dot4 {x : Str} (h : x.length ≤ 100) : (Str.ofString "....").length + x.length ≤ sizeLine := by
  have h1 : (Str.ofString "....").length = 4 := rfl
  have h2 : sizeLine = 2 ^ 24 := rfl
  lia
theorem inI_all {l : List Str} (h : ∀ x ∈ l, PyData.strOk x = true) : (l.map D.str).all (okD 4) = true := by
  rw [List.all_map, List.all_eq_true]; exact h
set_option maxHeartbeats 4000000 in
theorem law_walk (E : Env0 C) (k : Nat) {script : List Int} (hs : script.length ≤ 63)
    (HP : ∀ (ds : List Int) (t : Int), ds.length = 6 → Plain ds t (ds.map pathOf) (placesAt (ds.map pathOf) 6) ((placesAt (ds.map pathOf) 6).map (spR (rOf t))) ((ds.map pathOf).map (lieOf (placesAt (ds.map pathOf) 6))) (placesAt (ds.map pathOf) 6).length) :
    FnOK C (k + 8) "law" [lI script] (.bool true) := by
  refine fn_intro (ps := ["script"]) (out := .ret (.bool true)) (E.hd 35 (by decide) rfl) (fun pm cd doc vs h => by obtain ⟨a0, rfl⟩ := len_1 h; rfl) (by decide) (by decide) rfl
    (.par rfl (.loc rfl (.loc rfl (.loc rfl (.loc rfl (.loc rfl (.loc rfl (.loc rfl (.loc rfl (.loc rfl (.loc rfl (.loc rfl (.loc rfl (.loc rfl (.loc rfl (.loc rfl (.loc rfl (.loc rfl (.loc rfl (.loc rfl (.loc rfl (.loc rfl (.loc rfl (.loc rfl (.loc rfl (.loc rfl (.loc rfl (.loc rfl (.gl rfl (E.gld 23 (by decide) (f := "_law_draws") rfl) (.bi rfl (E.bin "sum" (.builtin "sum") (by simp)) (.gl rfl (E.gld 26 (by decide) (f := "_law_reference") rfl) (.bi rfl (E.bin "range" (.type "range") (by simp)) (.bi rfl (E.bin "len" (.builtin "len") (by simp)) (.gl rfl (E.gld 28 (by decide) (f := "_law_ladder") rfl) (.gl rfl (E.gld 12 (by decide) (f := "add_func_stats") rfl) (.gl rfl (E.gld 14 (by decide) (f := "count_calls") rfl) (.gl rfl (E.gld 30 (by decide) (f := "_law_first") rfl) (.gl rfl (E.gld 32 (by decide) (f := "_law_cheap") rfl) (.gl rfl (E.gld 33 (by decide) (f := "_law_dear") rfl) (.gl rfl (E.gld 31 (by decide) (f := "_law_ordered") rfl) (.bi rfl (E.bin "min" (.builtin "min") (by simp)) (.bi rfl (E.bin "max" (.builtin "max") (by simp)) (.gl rfl (E.gld 34 (by decide) (f := "_law_meetings") rfl) (.kn (zs := (["draws", "total", "paths", "hosts", "reference", "names", "i", "lies", "size", "sent", "taken", "weights", "low"] : List Str)) (by decide) (.nil)))))))))))))))))))))))))))))))))))))))))))))
    (by show ("script" :: "draws" :: "total" :: "paths" :: "hosts" :: "reference" :: "places" :: "names" :: "i" :: "k" :: "rung" :: "lies" :: "size" :: "sent" :: "taken" :: "weights" :: "calls" :: "sums" :: "a" :: "b" :: "c" :: "drift" :: "told" :: "rows" :: "columns" :: "low" :: "high" :: "costs" :: "_law_draws" :: "sum" :: "_law_reference" :: "range" :: "len" :: "_law_ladder" :: "add_func_stats" :: "count_calls" :: "_law_first" :: "_law_cheap" :: "_law_dear" :: "_law_ordered" :: "min" :: "max" :: "_law_meetings" :: "" :: [] : List Str).Nodup; decide) rfl rfl rfl ?_ (.inl rfl)
  have hd6 := (drawsAt_ok script (if (script.length : Int) < 24 then script.length else 24)).1
  have hds := (drawsAt_ok script (if (script.length : Int) < 24 then script.length else 24)).2
  refine EvS.cons (Ev1.assign (EvE.call (EvE.gname (memN 28 rfl)) (.cons (EvE.name (.head _)) .nil) (fn_draws E _ hs) ⟨_, E.hd 23 (by decide) rfl⟩) (.there (.here))) ?_
  unfold drawsOf
  generalize drawsAt script (if (script.length : Int) < 24 then script.length else 24) = ds at hd6 hds ⊢
  refine EvS.cons (Ev1.assign (EvE.bi (memN 29 rfl) (.cons (EvE.name (.tail _ (.head _))) .nil) (.sumI (fun x hx => by have := hds x hx; lia) (by rw [hd6]; decide))) (.there (.there (.here)))) ?_
  generalize hsum : ds.sum = t
  have HP := HP ds t hd6
  refine EvS.cons (Ev1.assignC (clb := false) (EvI.lst (EvE.name (.tail _ (.head _)))) ⟨rfl, by decide, rfl, rfl⟩ (.inl rfl) (by decide) (.gl rfl (E.gld 24 (by decide) (f := "_law_path") rfl) (.skip (.skip (.skip (.skip (.skip (.skip (.skip (.skip (.skip (.skip (.skip (.skip (.skip (.skip (.skip (.skip (.skip (.skip (.skip (.skip (.skip (.skip (.skip (.skip (.skip (.skip (.skip (.skip (.skip (.skip (.skip (.skip (.skip (.skip (.skip (.skip (.skip (.skip (.skip (.skip (.skip (.skip (.skip (.skip (.nil)))))))))))))))))))))))))))))))))))))))))))))) (CompL.mapG (G := _) fun a ha => (EvE.call (EvE.gname (.tail _ (.head _))) (.cons (EvE.name (.head _)) .nil) (fn_path E _) ⟨_, E.hd 24 (by decide) rfl⟩)) (by first | exact Nat.le_of_ble_eq_true rfl | lia | (have hsl : sizeLine = 2 ^ 24 := rfl; simp only [List.length_map, List.length_range, List.length_cons, List.length_nil]; lia)) (.there (.there (.there (.here))))) ?_
  have hP : ∀ p ∈ ds.map pathOf, p ∈ allPaths := by
    intro p hp
    obtain ⟨y, _, rfl⟩ := List.mem_map.mp hp
    exact path_in y
  have hp6 : (ds.map pathOf).length = 6 := by rw [List.length_map]; exact hd6
  generalize hpaths : ds.map pathOf = paths at hP hp6 HP ⊢
  refine EvS.cons (Ev1.assignC (clb := false) (EvI.lst (EvE.name (.tail _ (.tail _ (.tail _ (.head _)))))) ⟨rfl, by decide, rfl, rfl⟩ (.inr ⟨_, (memN 43 rfl)⟩) (by decide) (.gl rfl (E.gld 25 (by decide) (f := "_law_written") rfl) (.skip (.skip (.dat rfl (.skip (.skip (.skip (.skip (.skip (.skip (.skip (.skip (.skip (.skip (.skip (.skip (.skip (.skip (.skip (.skip (.skip (.skip (.skip (.skip (.skip (.skip (.skip (.skip (.skip (.skip (.skip (.skip (.skip (.skip (.skip (.skip (.skip (.skip (.skip (.skip (.skip (.skip (.skip (.skip (.skip (.nil)))))))))))))))))))))))))))))))))))))))))))))) (CompL.mapG (G := D.str) fun a ha => (EvE.call (EvE.gname (.tail _ (.head _))) (.cons (EvE.name (.head _)) (.cons (EvE.name (.tail _ (.tail _ (.head _)))) .nil)) (fn_wr E _ (hP _ ha)) ⟨_, E.hd 25 (by decide) rfl⟩)) (by first | exact Nat.le_of_ble_eq_true rfl | lia | (have hsl : sizeLine = 2 ^ 24 := rfl; simp only [List.length_map, List.length_range, List.length_cons, List.length_nil]; lia)) (.there (.there (.there (.there (.here)))))) ?_
  refine EvS.cons (Ev1.assign (EvE.call (EvE.gname (memN 30 rfl)) (.cons (EvE.name (.tail _ (.tail _ (.head _)))) .nil) (fn_reference E _) ⟨_, E.hd 26 (by decide) rfl⟩) (.there (.there (.there (.there (.there (.here))))))) ?_
  refine EvS.cons (Ev1.assignF (EvF.lst .nil (by exact Nat.le_of_ble_eq_true rfl)) (.there (.there (.there (.there (.there (.there (.here)))))))) (EvS.cons (Ev1.assignF (EvF.lst .nil (by exact Nat.le_of_ble_eq_true rfl)) (.there (.there (.there (.there (.there (.there (.there (.here))))))))) ?_)
  refine EvS.forN 6 (fun i ρ => ∃ q1 q2 q3 : LV, q1.slot = true ∧ q2.slot = true ∧ q3.slot = true ∧ ρ = ((("script" : Str), .dat (lI script)) :: (("draws" : Str), .dat (lI ds)) :: (("total" : Str), .dat (.int t)) :: (("paths" : Str), .dat (.list (paths.map tI))) :: (("hosts" : Str), .dat (lS (paths.map (spR (rOf t))))) :: (("reference" : Str), .dat (.str (rOf t))) :: (("places" : Str), .own (.list ((placesAt paths i).map tI))) :: (("names" : Str), .own (lS ((placesAt paths i).map (spR (rOf t))))) :: (("i" : Str), q1) :: (("k" : Str), q2) :: (("rung" : Str), q3) :: (("lies" : Str), .unb) :: (("size" : Str), .unb) :: (("sent" : Str), .unb) :: (("taken" : Str), .unb) :: (("weights" : Str), .unb) :: (("calls" : Str), .unb) :: (("sums" : Str), .unb) :: (("a" : Str), .unb) :: (("b" : Str), .unb) :: (("c" : Str), .unb) :: (("drift" : Str), .unb) :: (("told" : Str), .unb) :: (("rows" : Str), .unb) :: (("columns" : Str), .unb) :: (("low" : Str), .unb) :: (("high" : Str), .unb) :: (("costs" : Str), .unb) :: (("_law_draws" : Str), .gl (.fn "_law_draws")) :: (("sum" : Str), .bi (.builtin "sum")) :: (("_law_reference" : Str), .gl (.fn "_law_reference")) :: (("range" : Str), .bi (.type "range")) :: (("len" : Str), .bi (.builtin "len")) :: (("_law_ladder" : Str), .gl (.fn "_law_ladder")) :: (("add_func_stats" : Str), .gl (.fn "add_func_stats")) :: (("count_calls" : Str), .gl (.fn "count_calls")) :: (("_law_first" : Str), .gl (.fn "_law_first")) :: (("_law_cheap" : Str), .gl (.fn "_law_cheap")) :: (("_law_dear" : Str), .gl (.fn "_law_dear")) :: (("_law_ordered" : Str), .gl (.fn "_law_ordered")) :: (("min" : Str), .bi (.builtin "min")) :: (("max" : Str), .bi (.builtin "max")) :: (("_law_meetings" : Str), .gl (.fn "_law_meetings")) :: ("", .kn ["draws", "total", "paths", "hosts", "reference", "names", "i", "lies", "size", "sent", "taken", "weights", "low"]) :: [] : Store)) (EvI.rangeI (memN 31 rfl) (.cons EvE.cint .nil) (by first | with_reducible assumption | decide | lia | rfl | exact Nat.le_of_ble_eq_true rfl | (have hsl : sizeLine = 2 ^ 24 := rfl; lia) | (have hsl : sizeLine = 2 ^ 24 := rfl; simp only [List.length_map, List.length_append, List.length_cons, List.length_nil, List.length_take, List.length_range, List.length_reverse]; lia)) (by first | with_reducible assumption | decide | lia | rfl | exact Nat.le_of_ble_eq_true rfl | (have hsl : sizeLine = 2 ^ 24 := rfl; lia) | (have hsl : sizeLine = 2 ^ 24 := rfl; simp only [List.length_map, List.length_append, List.length_cons, List.length_nil, List.length_take, List.length_range, List.length_reverse]; lia))) ⟨.unb, .unb, .unb, rfl, rfl, rfl, rfl⟩ (fun i ρ hi hp => ?_) (fun ρ' hp => ?_)
  · obtain ⟨q1, q2, q3, h1, h2, h3, rfl⟩ := hp
    have hi6 : i < paths.length := by lia
    have hget : paths[i]? = some (paths.getD i []) := by rw [List.getD_eq_getElem?_getD, List.getElem?_eq_getElem hi6]; rfl
    have hpi : paths.getD i [] ∈ allPaths := hP _ (List.mem_of_getElem? hget)
    have hh0 : seqIndex? (i : Int) ((paths.map (spR (rOf t))).map D.str).length = some i := gN1 (by rw [List.length_map]; exact hi6)
    have hh1 : ((paths.map (spR (rOf t))).map D.str)[i]? = some (D.str (spR (rOf t) (paths.getD i []))) := by rw [List.getElem?_map, List.getElem?_map, hget]; rfl
    have hl3 := (len_of hpi).2
    have hpr := (prefs_len _ hpi).1
    have hpl := placesAt_in hP i
    have hnd := placesAt_nodup (paths := paths) i
    have hln := placesAt_len hP i
    rw [placesAt_succ hget]
    refine exStep (.name (.there (.there (.there (.there (.there (.there (.there (.there (.here)))))))))) ?_
    refine exForL (prefs (paths.getD i [])) (fun j ρ => ∃ q2 : LV, q2.slot = true ∧ ρ = ((("script" : Str), .dat (lI script)) :: (("draws" : Str), .dat (lI ds)) :: (("total" : Str), .dat (.int t)) :: (("paths" : Str), .dat (.list (paths.map tI))) :: (("hosts" : Str), .dat (lS (paths.map (spR (rOf t))))) :: (("reference" : Str), .dat (.str (rOf t))) :: (("places" : Str), .own (.list ((List.foldl addP (placesAt paths i) ((prefs (paths.getD i [])).take j)).map tI))) :: (("names" : Str), .own (lS ((placesAt paths i).map (spR (rOf t))))) :: (("i" : Str), .dat (.int (i : Int))) :: (("k" : Str), q2) :: (("rung" : Str), q3) :: (("lies" : Str), .unb) :: (("size" : Str), .unb) :: (("sent" : Str), .unb) :: (("taken" : Str), .unb) :: (("weights" : Str), .unb) :: (("calls" : Str), .unb) :: (("sums" : Str), .unb) :: (("a" : Str), .unb) :: (("b" : Str), .unb) :: (("c" : Str), .unb) :: (("drift" : Str), .unb) :: (("told" : Str), .unb) :: (("rows" : Str), .unb) :: (("columns" : Str), .unb) :: (("low" : Str), .unb) :: (("high" : Str), .unb) :: (("costs" : Str), .unb) :: (("_law_draws" : Str), .gl (.fn "_law_draws")) :: (("sum" : Str), .bi (.builtin "sum")) :: (("_law_reference" : Str), .gl (.fn "_law_reference")) :: (("range" : Str), .bi (.type "range")) :: (("len" : Str), .bi (.builtin "len")) :: (("_law_ladder" : Str), .gl (.fn "_law_ladder")) :: (("add_func_stats" : Str), .gl (.fn "add_func_stats")) :: (("count_calls" : Str), .gl (.fn "count_calls")) :: (("_law_first" : Str), .gl (.fn "_law_first")) :: (("_law_cheap" : Str), .gl (.fn "_law_cheap")) :: (("_law_dear" : Str), .gl (.fn "_law_dear")) :: (("_law_ordered" : Str), .gl (.fn "_law_ordered")) :: (("min" : Str), .bi (.builtin "min")) :: (("max" : Str), .bi (.builtin "max")) :: (("_law_meetings" : Str), .gl (.fn "_law_meetings")) :: ("", .kn ["draws", "total", "paths", "hosts", "reference", "names", "i", "lies", "size", "sent", "taken", "weights", "low"]) :: [] : Store)) (fun q => .int (q.length : Int)) (by rw [← down_eq hpi]; exact (EvI.rangeDown (memN 31 rfl) (.cons (EvE.bi (memN 32 rfl) (.cons (EvE.item (EvE.name (.tail _ (.tail _ (.tail _ (.head _))))).evL (EvE.name (memN 8 rfl)) (gN1 hi6) (gN2 [] hi6) (by first | with_reducible assumption | decide | lia | rfl | exact Nat.le_of_ble_eq_true rfl | (have hsl : sizeLine = 2 ^ 24 := rfl; lia) | (have hsl : sizeLine = 2 ^ 24 := rfl; simp only [List.length_map, List.length_append, List.length_cons, List.length_nil, List.length_take, List.length_range, List.length_reverse]; lia))) .nil) (.lenT (by first | with_reducible assumption | decide | lia | rfl | exact Nat.le_of_ble_eq_true rfl | (have hsl : sizeLine = 2 ^ 24 := rfl; lia) | (have hsl : sizeLine = 2 ^ 24 := rfl; simp only [List.length_map, List.length_append, List.length_cons, List.length_nil, List.length_take, List.length_range, List.length_reverse]; lia)))) (.cons EvE.cint (.cons (EvE.neg EvE.cint) .nil))) (by rw [List.length_map]; lia))) ⟨q2, h2, rfl⟩ (fun j q ρ hj hp => ?_) (fun ρ' hp => ?_)
    · obtain ⟨q2, h2, rfl⟩ := hp
      rw [fold_snoc addP (placesAt paths i) (prefs (paths.getD i [])) j q hj]
      have hq := List.mem_of_getElem? hj
      have htake := prefs_take _ hpi q hq
      have hal := addP_fold_len ((prefs (paths.getD i [])).take j) (placesAt paths i)
      rw [List.length_take] at hal
      generalize List.foldl addP (placesAt paths i) ((prefs (paths.getD i [])).take j) = acc at hal ⊢
      refine exStep (.name (.there (.there (.there (.there (.there (.there (.there (.there (.there (.here))))))))))) ?_
      unfold addP
      cases hc : acc.contains q with
      | true =>
        rw [if_pos rfl]
        exact exCons (Ev1.iff (b := false) (EvT.eq (EvT.notin 4 (EvE.tslT (EvE.item (EvE.name (.tail _ (.tail _ (.tail _ (.head _))))).evL (EvE.name (memN 8 rfl)) (gN1 hi6) (gN2 [] hi6) (by first | with_reducible assumption | decide | lia | rfl | exact Nat.le_of_ble_eq_true rfl | (have hsl : sizeLine = 2 ^ 24 := rfl; lia) | (have hsl : sizeLine = 2 ^ 24 := rfl; simp only [List.length_map, List.length_append, List.length_cons, List.length_nil, List.length_take, List.length_range, List.length_reverse]; lia))) (EvE.name (memN 9 rfl)) (by lia) (by lia)) (EvL.own (memN 6 rfl)) (okTI 3 _) (okTIs 3 _)) (by rw [inL_tI, Int.toNat_natCast, htake, hc]; rfl)) (fun e => by cases e) fun _ => EvS.nil) (exNil ⟨.dat (.int (q.length : Int)), rfl, rfl⟩)
      | false =>
        rw [if_neg (by decide)]
        exact exCons (Ev1.iff (b := true) (EvT.eq (EvT.notin 4 (EvE.tslT (EvE.item (EvE.name (.tail _ (.tail _ (.tail _ (.head _))))).evL (EvE.name (memN 8 rfl)) (gN1 hi6) (gN2 [] hi6) (by first | with_reducible assumption | decide | lia | rfl | exact Nat.le_of_ble_eq_true rfl | (have hsl : sizeLine = 2 ^ 24 := rfl; lia) | (have hsl : sizeLine = 2 ^ 24 := rfl; simp only [List.length_map, List.length_append, List.length_cons, List.length_nil, List.length_take, List.length_range, List.length_reverse]; lia))) (EvE.name (memN 9 rfl)) (by lia) (by lia)) (EvL.own (memN 6 rfl)) (okTI 3 _) (okTIs 3 _)) (by rw [inL_tI, Int.toNat_natCast, htake, hc]; rfl)) (fun _ => EvS.one (Ev1.cast (ρ'' := ((("script" : Str), .dat (lI script)) :: (("draws" : Str), .dat (lI ds)) :: (("total" : Str), .dat (.int t)) :: (("paths" : Str), .dat (.list (paths.map tI))) :: (("hosts" : Str), .dat (lS (paths.map (spR (rOf t))))) :: (("reference" : Str), .dat (.str (rOf t))) :: (("places" : Str), .own (.list ((acc ++ [q]).map tI))) :: (("names" : Str), .own (lS ((placesAt paths i).map (spR (rOf t))))) :: (("i" : Str), .dat (.int (i : Int))) :: (("k" : Str), .dat (.int (q.length : Int))) :: (("rung" : Str), q3) :: (("lies" : Str), .unb) :: (("size" : Str), .unb) :: (("sent" : Str), .unb) :: (("taken" : Str), .unb) :: (("weights" : Str), .unb) :: (("calls" : Str), .unb) :: (("sums" : Str), .unb) :: (("a" : Str), .unb) :: (("b" : Str), .unb) :: (("c" : Str), .unb) :: (("drift" : Str), .unb) :: (("told" : Str), .unb) :: (("rows" : Str), .unb) :: (("columns" : Str), .unb) :: (("low" : Str), .unb) :: (("high" : Str), .unb) :: (("costs" : Str), .unb) :: (("_law_draws" : Str), .gl (.fn "_law_draws")) :: (("sum" : Str), .bi (.builtin "sum")) :: (("_law_reference" : Str), .gl (.fn "_law_reference")) :: (("range" : Str), .bi (.type "range")) :: (("len" : Str), .bi (.builtin "len")) :: (("_law_ladder" : Str), .gl (.fn "_law_ladder")) :: (("add_func_stats" : Str), .gl (.fn "add_func_stats")) :: (("count_calls" : Str), .gl (.fn "count_calls")) :: (("_law_first" : Str), .gl (.fn "_law_first")) :: (("_law_cheap" : Str), .gl (.fn "_law_cheap")) :: (("_law_dear" : Str), .gl (.fn "_law_dear")) :: (("_law_ordered" : Str), .gl (.fn "_law_ordered")) :: (("min" : Str), .bi (.builtin "min")) :: (("max" : Str), .bi (.builtin "max")) :: (("_law_meetings" : Str), .gl (.fn "_law_meetings")) :: ("", .kn ["draws", "total", "paths", "hosts", "reference", "names", "i", "lies", "size", "sent", "taken", "weights", "low"]) :: [] : Store)) (Ev1.append (memN 6 rfl) (EvE.tslT (EvE.item (EvE.name (.tail _ (.tail _ (.tail _ (.head _))))).evL (EvE.name (memN 8 rfl)) (gN1 hi6) (gN2 [] hi6) (by first | with_reducible assumption | decide | lia | rfl | exact Nat.le_of_ble_eq_true rfl | (have hsl : sizeLine = 2 ^ 24 := rfl; lia) | (have hsl : sizeLine = 2 ^ 24 := rfl; simp only [List.length_map, List.length_append, List.length_cons, List.length_nil, List.length_take, List.length_range, List.length_reverse]; lia))) (EvE.name (memN 9 rfl)) (by lia) (by lia)) (.there (.there (.there (.there (.there (.there (.here))))))) (by first | with_reducible assumption | decide | lia | rfl | exact Nat.le_of_ble_eq_true rfl | (have hsl : sizeLine = 2 ^ 24 := rfl; lia) | (have hsl : sizeLine = 2 ^ 24 := rfl; simp only [List.length_map, List.length_append, List.length_cons, List.length_nil, List.length_take, List.length_range, List.length_reverse]; lia))) (by rw [Int.toNat_natCast, htake, List.map_append]; rfl))) fun e => by cases e) (exNil ⟨.dat (.int (q.length : Int)), rfl, rfl⟩)
    · obtain ⟨q2, h2, rfl⟩ := hp
      rw [List.take_length]
      refine exForL ((prefs (paths.getD i [])).map (spR (rOf t))) (fun j ρ => ∃ q3 : LV, q3.slot = true ∧ ρ = ((("script" : Str), .dat (lI script)) :: (("draws" : Str), .dat (lI ds)) :: (("total" : Str), .dat (.int t)) :: (("paths" : Str), .dat (.list (paths.map tI))) :: (("hosts" : Str), .dat (lS (paths.map (spR (rOf t))))) :: (("reference" : Str), .dat (.str (rOf t))) :: (("places" : Str), .own (.list ((List.foldl addP (placesAt paths i) (prefs (paths.getD i []))).map tI))) :: (("names" : Str), .own (lS (List.foldl addN ((placesAt paths i).map (spR (rOf t))) (((prefs (paths.getD i [])).map (spR (rOf t))).take j)))) :: (("i" : Str), .dat (.int (i : Int))) :: (("k" : Str), q2) :: (("rung" : Str), q3) :: (("lies" : Str), .unb) :: (("size" : Str), .unb) :: (("sent" : Str), .unb) :: (("taken" : Str), .unb) :: (("weights" : Str), .unb) :: (("calls" : Str), .unb) :: (("sums" : Str), .unb) :: (("a" : Str), .unb) :: (("b" : Str), .unb) :: (("c" : Str), .unb) :: (("drift" : Str), .unb) :: (("told" : Str), .unb) :: (("rows" : Str), .unb) :: (("columns" : Str), .unb) :: (("low" : Str), .unb) :: (("high" : Str), .unb) :: (("costs" : Str), .unb) :: (("_law_draws" : Str), .gl (.fn "_law_draws")) :: (("sum" : Str), .bi (.builtin "sum")) :: (("_law_reference" : Str), .gl (.fn "_law_reference")) :: (("range" : Str), .bi (.type "range")) :: (("len" : Str), .bi (.builtin "len")) :: (("_law_ladder" : Str), .gl (.fn "_law_ladder")) :: (("add_func_stats" : Str), .gl (.fn "add_func_stats")) :: (("count_calls" : Str), .gl (.fn "count_calls")) :: (("_law_first" : Str), .gl (.fn "_law_first")) :: (("_law_cheap" : Str), .gl (.fn "_law_cheap")) :: (("_law_dear" : Str), .gl (.fn "_law_dear")) :: (("_law_ordered" : Str), .gl (.fn "_law_ordered")) :: (("min" : Str), .bi (.builtin "min")) :: (("max" : Str), .bi (.builtin "max")) :: (("_law_meetings" : Str), .gl (.fn "_law_meetings")) :: ("", .kn ["draws", "total", "paths", "hosts", "reference", "names", "i", "lies", "size", "sent", "taken", "weights", "low"]) :: [] : Store)) D.str (EvI.lst (EvE.call (EvE.gname (memN 33 rfl)) (.cons (EvE.item (EvE.name (memN 4 rfl)).evL (EvE.name (memN 8 rfl)) hh0 hh1 (by first | with_reducible assumption | decide | lia | rfl | exact Nat.le_of_ble_eq_true rfl | (have hsl : sizeLine = 2 ^ 24 := rfl; lia) | (have hsl : sizeLine = 2 ^ 24 := rfl; simp only [List.length_map, List.length_append, List.length_cons, List.length_nil, List.length_take, List.length_range, List.length_reverse]; lia))) .nil) (fn_lad E _ (rOf_in _) hpi) ⟨_, E.hd 28 (by decide) rfl⟩)) ⟨q3, h3, rfl⟩ (fun j x ρ hj hp => ?_) (fun ρ' hp => ?_)
      · obtain ⟨q3, h3, rfl⟩ := hp
        rw [fold_snoc addN ((placesAt paths i).map (spR (rOf t))) ((prefs (paths.getD i [])).map (spR (rOf t))) j x hj]
        have hok : ∀ x ∈ (prefs (paths.getD i [])).map (spR (rOf t)), PyData.strOk x = true := by
          intro y hy
          obtain ⟨q, hq, rfl⟩ := List.mem_map.mp hy
          exact strOk_sp (rOf_in t) (prefs_in _ hpi q hq)
        have hxo : okD 4 (.str x) = true := hok x (List.mem_of_getElem? hj)
        have hao := addN_ok (((prefs (paths.getD i [])).map (spR (rOf t))).take j) ((placesAt paths i).map (spR (rOf t))) (fun x hx => hok x (List.mem_of_mem_take hx)) (by
          intro y hy
          obtain ⟨q, hq, rfl⟩ := List.mem_map.mp hy
          exact strOk_sp (rOf_in t) (hpl q hq))
        have hal := addN_fold_len (((prefs (paths.getD i [])).map (spR (rOf t))).take j) ((placesAt paths i).map (spR (rOf t)))
        rw [List.length_take, List.length_map, List.length_map] at hal
        generalize List.foldl addN ((placesAt paths i).map (spR (rOf t))) (((prefs (paths.getD i [])).map (spR (rOf t))).take j) = acc at hal hao ⊢
        refine exStep (.name (.there (.there (.there (.there (.there (.there (.there (.there (.there (.there (.here)))))))))))) ?_
        unfold addN
        cases hc : acc.contains x with
        | true =>
          rw [if_pos rfl]
          exact exCons (Ev1.iff (b := false) (EvT.eq (EvT.notin 4 (EvE.name (memN 10 rfl)) (EvL.own (memN 7 rfl)) hxo (inI_all hao)) (by rw [inL_S, hc]; rfl)) (fun e => by cases e) fun _ => EvS.nil) (exNil ⟨.dat (.str x), rfl, rfl⟩)
        | false =>
          rw [if_neg (by decide)]
          exact exCons (Ev1.iff (b := true) (EvT.eq (EvT.notin 4 (EvE.name (memN 10 rfl)) (EvL.own (memN 7 rfl)) hxo (inI_all hao)) (by rw [inL_S, hc]; rfl)) (fun _ => EvS.one (Ev1.cast (ρ'' := ((("script" : Str), .dat (lI script)) :: (("draws" : Str), .dat (lI ds)) :: (("total" : Str), .dat (.int t)) :: (("paths" : Str), .dat (.list (paths.map tI))) :: (("hosts" : Str), .dat (lS (paths.map (spR (rOf t))))) :: (("reference" : Str), .dat (.str (rOf t))) :: (("places" : Str), .own (.list ((List.foldl addP (placesAt paths i) (prefs (paths.getD i []))).map tI))) :: (("names" : Str), .own (lS (acc ++ [x]))) :: (("i" : Str), .dat (.int (i : Int))) :: (("k" : Str), q2) :: (("rung" : Str), .dat (.str x)) :: (("lies" : Str), .unb) :: (("size" : Str), .unb) :: (("sent" : Str), .unb) :: (("taken" : Str), .unb) :: (("weights" : Str), .unb) :: (("calls" : Str), .unb) :: (("sums" : Str), .unb) :: (("a" : Str), .unb) :: (("b" : Str), .unb) :: (("c" : Str), .unb) :: (("drift" : Str), .unb) :: (("told" : Str), .unb) :: (("rows" : Str), .unb) :: (("columns" : Str), .unb) :: (("low" : Str), .unb) :: (("high" : Str), .unb) :: (("costs" : Str), .unb) :: (("_law_draws" : Str), .gl (.fn "_law_draws")) :: (("sum" : Str), .bi (.builtin "sum")) :: (("_law_reference" : Str), .gl (.fn "_law_reference")) :: (("range" : Str), .bi (.type "range")) :: (("len" : Str), .bi (.builtin "len")) :: (("_law_ladder" : Str), .gl (.fn "_law_ladder")) :: (("add_func_stats" : Str), .gl (.fn "add_func_stats")) :: (("count_calls" : Str), .gl (.fn "count_calls")) :: (("_law_first" : Str), .gl (.fn "_law_first")) :: (("_law_cheap" : Str), .gl (.fn "_law_cheap")) :: (("_law_dear" : Str), .gl (.fn "_law_dear")) :: (("_law_ordered" : Str), .gl (.fn "_law_ordered")) :: (("min" : Str), .bi (.builtin "min")) :: (("max" : Str), .bi (.builtin "max")) :: (("_law_meetings" : Str), .gl (.fn "_law_meetings")) :: ("", .kn ["draws", "total", "paths", "hosts", "reference", "names", "i", "lies", "size", "sent", "taken", "weights", "low"]) :: [] : Store)) (Ev1.append (memN 7 rfl) (EvE.name (memN 10 rfl)) (.there (.there (.there (.there (.there (.there (.there (.here)))))))) (by first | with_reducible assumption | decide | lia | rfl | exact Nat.le_of_ble_eq_true rfl | (have hsl : sizeLine = 2 ^ 24 := rfl; lia) | (have hsl : sizeLine = 2 ^ 24 := rfl; simp only [List.length_map, List.length_append, List.length_cons, List.length_nil, List.length_take, List.length_range, List.length_reverse]; lia))) (by simp only [lS, List.map_append, List.map_cons, List.map_nil]))) fun e => by cases e) (exNil ⟨.dat (.str x), rfl, rfl⟩)
      · obtain ⟨q3, h3, rfl⟩ := hp
        rw [List.take_length, addN_fold (rOf_in t) _ _ hpl (prefs_in _ hpi)]
        exact exNil ⟨.dat (.int (i : Int)), q2, q3, rfl, h2, h3, rfl⟩
  obtain ⟨q1, q2, q3, h1, h2, h3, rfl⟩ := hp
  have hpl6 := placesAt_in hP 6
  have hnl6 := placesAt_len hP 6
  generalize placesAt paths 6 = places at hpl6 hnl6 HP ⊢
  refine EvS.freeze (memN 6 rfl) (.there (.there (.there (.there (.there (.there (.here))))))) ?_
  refine EvS.freeze (memN 7 rfl) (.there (.there (.there (.there (.there (.there (.there (.here)))))))) ?_
  refine EvS.cons (Ev1.iff (b := false) (EvT.eq (EvT.cmp (EvE.name (memN 7 rfl)) (EvE.comp (clb := false) (EvI.lst (EvE.name (memN 6 rfl))) ⟨rfl, by decide, rfl, rfl⟩ (.inr ⟨_, (memN 43 rfl)⟩) (by decide) (.gl rfl (E.gld 27 (by decide) (f := "_law_spelled") rfl) (.skip (.skip (.skip (.skip (.skip (.dat rfl (.skip (.skip (.skip (.skip (.skip (.skip (.skip (.skip (.skip (.skip (.skip (.skip (.skip (.skip (.skip (.skip (.skip (.skip (.skip (.skip (.skip (.skip (.skip (.skip (.skip (.skip (.skip (.skip (.skip (.skip (.skip (.skip (.skip (.skip (.skip (.skip (.skip (.skip (.nil)))))))))))))))))))))))))))))))))))))))))))))) (CompL.to (es2 := ((places.map (spR (rOf t))).map D.str)) (CompL.mapG (l := places) (g := tI) (G := D.str) (h := spR (rOf t)) fun a ha => (EvE.call (EvE.gname (.tail _ (.head _))) (.cons (EvE.name (.head _)) (.cons (EvE.name (.tail _ (.tail _ (.head _)))) .nil)) (fn_spl E _ (hpl6 _ ha)) ⟨_, E.hd 27 (by decide) rfl⟩)) rfl) (by first | exact Nat.le_of_ble_eq_true rfl | lia | (have hsl : sizeLine = 2 ^ 24 := rfl; simp only [List.length_map, List.length_range, List.length_cons, List.length_nil]; lia))) (.ne 4 (okLS hpl6) (okLS hpl6))) (by rw [deqLS]; simp)) (fun e => by cases e) fun _ => EvS.nil) ?_
  refine EvS.cons (Ev1.assignF (EvF.lst .nil (by exact Nat.le_of_ble_eq_true rfl)) (.there (.there (.there (.there (.there (.there (.there (.there (.there (.there (.there (.here))))))))))))) ?_
  refine EvS.forN 6 (fun i ρ => ∃ q1 : LV, q1.slot = true ∧ ρ = ((("script" : Str), .dat (lI script)) :: (("draws" : Str), .dat (lI ds)) :: (("total" : Str), .dat (.int t)) :: (("paths" : Str), .dat (.list (paths.map tI))) :: (("hosts" : Str), .dat (lS (paths.map (spR (rOf t))))) :: (("reference" : Str), .dat (.str (rOf t))) :: (("places" : Str), .dat (.list (places.map tI))) :: (("names" : Str), .dat (lS (places.map (spR (rOf t))))) :: (("i" : Str), q1) :: (("k" : Str), q2) :: (("rung" : Str), q3) :: (("lies" : Str), .own (.list (((paths.take i).map (lieOf places)).map lB))) :: (("size" : Str), .unb) :: (("sent" : Str), .unb) :: (("taken" : Str), .unb) :: (("weights" : Str), .unb) :: (("calls" : Str), .unb) :: (("sums" : Str), .unb) :: (("a" : Str), .unb) :: (("b" : Str), .unb) :: (("c" : Str), .unb) :: (("drift" : Str), .unb) :: (("told" : Str), .unb) :: (("rows" : Str), .unb) :: (("columns" : Str), .unb) :: (("low" : Str), .unb) :: (("high" : Str), .unb) :: (("costs" : Str), .unb) :: (("_law_draws" : Str), .gl (.fn "_law_draws")) :: (("sum" : Str), .bi (.builtin "sum")) :: (("_law_reference" : Str), .gl (.fn "_law_reference")) :: (("range" : Str), .bi (.type "range")) :: (("len" : Str), .bi (.builtin "len")) :: (("_law_ladder" : Str), .gl (.fn "_law_ladder")) :: (("add_func_stats" : Str), .gl (.fn "add_func_stats")) :: (("count_calls" : Str), .gl (.fn "count_calls")) :: (("_law_first" : Str), .gl (.fn "_law_first")) :: (("_law_cheap" : Str), .gl (.fn "_law_cheap")) :: (("_law_dear" : Str), .gl (.fn "_law_dear")) :: (("_law_ordered" : Str), .gl (.fn "_law_ordered")) :: (("min" : Str), .bi (.builtin "min")) :: (("max" : Str), .bi (.builtin "max")) :: (("_law_meetings" : Str), .gl (.fn "_law_meetings")) :: ("", .kn ["draws", "total", "paths", "hosts", "reference", "names", "i", "lies", "size", "sent", "taken", "weights", "low"]) :: [] : Store)) (EvI.rangeI (memN 31 rfl) (.cons EvE.cint .nil) (by first | with_reducible assumption | decide | lia | rfl | exact Nat.le_of_ble_eq_true rfl | (have hsl : sizeLine = 2 ^ 24 := rfl; lia) | (have hsl : sizeLine = 2 ^ 24 := rfl; simp only [List.length_map, List.length_append, List.length_cons, List.length_nil, List.length_take, List.length_range, List.length_reverse]; lia)) (by first | with_reducible assumption | decide | lia | rfl | exact Nat.le_of_ble_eq_true rfl | (have hsl : sizeLine = 2 ^ 24 := rfl; lia) | (have hsl : sizeLine = 2 ^ 24 := rfl; simp only [List.length_map, List.length_append, List.length_cons, List.length_nil, List.length_take, List.length_range, List.length_reverse]; lia))) ⟨q1, h1, rfl⟩ (fun i ρ hi hp => ?_) (fun ρ' hp => ?_)
  · obtain ⟨q1, h1, rfl⟩ := hp
    have hi6 : i < paths.length := by lia
    have hget : paths[i]? = some (paths.getD i []) := by rw [List.getD_eq_getElem?_getD, List.getElem?_eq_getElem hi6]; rfl
    have hpi : paths.getD i [] ∈ allPaths := hP _ (List.mem_of_getElem? hget)
    have hh0 : seqIndex? (i : Int) ((paths.map (spR (rOf t))).map D.str).length = some i := gN1 (by rw [List.length_map]; exact hi6)
    have hh1 : ((paths.map (spR (rOf t))).map D.str)[i]? = some (D.str (spR (rOf t) (paths.getD i []))) := by rw [List.getElem?_map, List.getElem?_map, hget]; rfl
    have hrg : -(2 ^ 63) ≤ (i : Int) ∧ (i : Int) < 2 ^ 63 := by lia
    have htl : (((paths.take i).map (lieOf places)).map lB).length = i := by rw [List.length_map, List.length_map, List.length_take]; lia
    have hlast : ((paths.take (i + 1)).map (lieOf places)).map lB = ((paths.take i).map (lieOf places)).map lB ++ [lB (places.map fun q => (paths.getD i []).take q.length == q)] := by
      rw [List.take_add_one, hget, List.map_append, List.map_append]; rfl
    have gl0 : seqIndex? (i : Int) ((((paths.take (i + 1)).map (lieOf places)).map lB)).length = some i := gN1 (by rw [List.length_map, List.length_take]; lia)
    have gl1 : (((paths.take (i + 1)).map (lieOf places)).map lB)[i]? = some (lB (places.map fun q => (paths.getD i []).take q.length == q)) := by
      rw [hlast, List.getElem?_append_right (by lia), htl, Nat.sub_self]; rfl
    refine exStep (.name (.there (.there (.there (.there (.there (.there (.there (.there (.here)))))))))) ?_
    refine exCons (ρ1 := ((("script" : Str), .dat (lI script)) :: (("draws" : Str), .dat (lI ds)) :: (("total" : Str), .dat (.int t)) :: (("paths" : Str), .dat (.list (paths.map tI))) :: (("hosts" : Str), .dat (lS (paths.map (spR (rOf t))))) :: (("reference" : Str), .dat (.str (rOf t))) :: (("places" : Str), .dat (.list (places.map tI))) :: (("names" : Str), .dat (lS (places.map (spR (rOf t))))) :: (("i" : Str), .dat (.int (i : Int))) :: (("k" : Str), q2) :: (("rung" : Str), q3) :: (("lies" : Str), .own (.list (((paths.take (i + 1)).map (lieOf places)).map lB))) :: (("size" : Str), .unb) :: (("sent" : Str), .unb) :: (("taken" : Str), .unb) :: (("weights" : Str), .unb) :: (("calls" : Str), .unb) :: (("sums" : Str), .unb) :: (("a" : Str), .unb) :: (("b" : Str), .unb) :: (("c" : Str), .unb) :: (("drift" : Str), .unb) :: (("told" : Str), .unb) :: (("rows" : Str), .unb) :: (("columns" : Str), .unb) :: (("low" : Str), .unb) :: (("high" : Str), .unb) :: (("costs" : Str), .unb) :: (("_law_draws" : Str), .gl (.fn "_law_draws")) :: (("sum" : Str), .bi (.builtin "sum")) :: (("_law_reference" : Str), .gl (.fn "_law_reference")) :: (("range" : Str), .bi (.type "range")) :: (("len" : Str), .bi (.builtin "len")) :: (("_law_ladder" : Str), .gl (.fn "_law_ladder")) :: (("add_func_stats" : Str), .gl (.fn "add_func_stats")) :: (("count_calls" : Str), .gl (.fn "count_calls")) :: (("_law_first" : Str), .gl (.fn "_law_first")) :: (("_law_cheap" : Str), .gl (.fn "_law_cheap")) :: (("_law_dear" : Str), .gl (.fn "_law_dear")) :: (("_law_ordered" : Str), .gl (.fn "_law_ordered")) :: (("min" : Str), .bi (.builtin "min")) :: (("max" : Str), .bi (.builtin "max")) :: (("_law_meetings" : Str), .gl (.fn "_law_meetings")) :: ("", .kn ["draws", "total", "paths", "hosts", "reference", "names", "i", "lies", "size", "sent", "taken", "weights", "low"]) :: [] : Store)) ?_ ?_
    · by_cases h3 : (i : Int) < 3
      · exact Ev1.iff (b := true) (EvT.eq (EvT.cmp (EvE.name (memN 8 rfl)) EvE.cint .lt) (by simpa using h3)) (fun _ => EvS.one (Ev1.cast (Ev1.append (memN 11 rfl) (EvE.comp (clb := false) (EvI.lst (EvE.name (memN 7 rfl))) ⟨rfl, by decide, rfl, rfl⟩ (.inr ⟨_, (memN 43 rfl)⟩) (by decide) (.gl rfl (E.gld 5 (by decide) (f := "user_domain_match") rfl) (.skip (.skip (.skip (.skip (.dat rfl (.skip (.skip (.skip (.dat rfl (.skip (.skip (.skip (.skip (.skip (.skip (.skip (.skip (.skip (.skip (.skip (.skip (.skip (.skip (.skip (.skip (.skip (.skip (.skip (.skip (.skip (.skip (.skip (.skip (.skip (.skip (.skip (.skip (.skip (.skip (.skip (.skip (.skip (.skip (.skip (.nil)))))))))))))))))))))))))))))))))))))))))))))) (CompL.mapN (places) (fun a ha => EvE.eq (EvE.or (EvE.cmp (EvE.item (EvE.name (.tail _ (.tail _ (.head _)))).evL (EvE.name (.tail _ (.tail _ (.tail _ (.head _))))) hh0 hh1 (by first | with_reducible assumption | decide | lia | rfl | exact Nat.le_of_ble_eq_true rfl | (have hsl : sizeLine = 2 ^ 24 := rfl; lia) | (have hsl : sizeLine = 2 ^ 24 := rfl; simp only [List.length_map, List.length_append, List.length_cons, List.length_nil, List.length_take, List.length_range, List.length_reverse]; lia))) (EvE.name (.head _)) .eqS) fun _ => (EvE.call (EvE.gname (.tail _ (.head _))) (.cons (EvE.item (EvE.name (.tail _ (.tail _ (.head _)))).evL (EvE.name (.tail _ (.tail _ (.tail _ (.head _))))) hh0 hh1 (by first | with_reducible assumption | decide | lia | rfl | exact Nat.le_of_ble_eq_true rfl | (have hsl : sizeLine = 2 ^ 24 := rfl; lia) | (have hsl : sizeLine = 2 ^ 24 := rfl; simp only [List.length_map, List.length_append, List.length_cons, List.length_nil, List.length_take, List.length_range, List.length_reverse]; lia))) (.cons (EvE.bin EvE.cstr (EvE.name (.head _)) (.addS (dot1 (small_len (rOf_in t) (hpl6 _ ha))))) .nil)) (fn_udm_at E (k + 5) (rOf_in t) hpi (hpl6 _ ha)) ⟨_, E.hd 5 (by decide) rfl⟩)) (by rw [udm_pair (rOf_in _) hpi (hpl6 _ ha)]))) (by first | exact Nat.le_of_ble_eq_true rfl | lia | (have hsl : sizeLine = 2 ^ 24 := rfl; simp only [List.length_map, List.length_range, List.length_cons, List.length_nil]; lia))) (.there (.there (.there (.there (.there (.there (.there (.there (.there (.there (.there (.here)))))))))))) (by first | with_reducible assumption | decide | lia | rfl | exact Nat.le_of_ble_eq_true rfl | (have hsl : sizeLine = 2 ^ 24 := rfl; lia) | (have hsl : sizeLine = 2 ^ 24 := rfl; simp only [List.length_map, List.length_append, List.length_cons, List.length_nil, List.length_take, List.length_range, List.length_reverse]; lia))) (by rw [hlast]))) fun e => by cases e
      · exact Ev1.iff (b := false) (EvT.eq (EvT.cmp (EvE.name (memN 8 rfl)) EvE.cint .lt) (by simpa using h3)) (fun e => by cases e) fun _ => EvS.one (Ev1.cast (Ev1.append (memN 11 rfl) (EvE.comp (clb := false) (EvI.lst (EvE.name (memN 7 rfl))) ⟨rfl, by decide, rfl, rfl⟩ (.inr ⟨_, (memN 43 rfl)⟩) (by decide) (.gl rfl (E.gld 9 (by decide) (f := "_ellipsis_match") rfl) (.skip (.skip (.skip (.skip (.dat rfl (.skip (.skip (.skip (.dat rfl (.skip (.skip (.skip (.skip (.skip (.skip (.skip (.skip (.skip (.skip (.skip (.skip (.skip (.skip (.skip (.skip (.skip (.skip (.skip (.skip (.skip (.skip (.skip (.skip (.skip (.skip (.skip (.skip (.skip (.skip (.skip (.skip (.skip (.skip (.skip (.nil)))))))))))))))))))))))))))))))))))))))))))))) (CompL.mapN (places) (fun a ha => EvE.eq (EvE.or (EvE.cmp (EvE.item (EvE.name (.tail _ (.tail _ (.head _)))).evL (EvE.name (.tail _ (.tail _ (.tail _ (.head _))))) hh0 hh1 (by first | with_reducible assumption | decide | lia | rfl | exact Nat.le_of_ble_eq_true rfl | (have hsl : sizeLine = 2 ^ 24 := rfl; lia) | (have hsl : sizeLine = 2 ^ 24 := rfl; simp only [List.length_map, List.length_append, List.length_cons, List.length_nil, List.length_take, List.length_range, List.length_reverse]; lia))) (EvE.name (.head _)) .eqS) fun _ => (EvE.call (EvE.gname (.tail _ (.head _))) (.cons (EvE.bin EvE.cstr (EvE.name (.head _)) (.addS (dot4 (small_len (rOf_in t) (hpl6 _ ha))))) (.cons (EvE.item (EvE.name (.tail _ (.tail _ (.head _)))).evL (EvE.name (.tail _ (.tail _ (.tail _ (.head _))))) hh0 hh1 (by first | with_reducible assumption | decide | lia | rfl | exact Nat.le_of_ble_eq_true rfl | (have hsl : sizeLine = 2 ^ 24 := rfl; lia) | (have hsl : sizeLine = 2 ^ 24 := rfl; simp only [List.length_map, List.length_append, List.length_cons, List.length_nil, List.length_take, List.length_range, List.length_reverse]; lia))) .nil)) (fn_ell_at E (k + 6) (rOf_in t) hpi (hpl6 _ ha)) ⟨_, E.hd 9 (by decide) rfl⟩)) (by rw [ell_pair (rOf_in _) hpi (hpl6 _ ha)]))) (by first | exact Nat.le_of_ble_eq_true rfl | lia | (have hsl : sizeLine = 2 ^ 24 := rfl; simp only [List.length_map, List.length_range, List.length_cons, List.length_nil]; lia))) (.there (.there (.there (.there (.there (.there (.there (.there (.there (.there (.there (.here)))))))))))) (by first | with_reducible assumption | decide | lia | rfl | exact Nat.le_of_ble_eq_true rfl | (have hsl : sizeLine = 2 ^ 24 := rfl; lia) | (have hsl : sizeLine = 2 ^ 24 := rfl; simp only [List.length_map, List.length_append, List.length_cons, List.length_nil, List.length_take, List.length_range, List.length_reverse]; lia))) (by rw [hlast]))
    · exact exCons (Ev1.iff (b := false) (EvT.eq (EvT.cmp (EvE.item (EvL.own (memN 11 rfl)) (EvE.name (memN 8 rfl)) gl0 gl1 (by first | with_reducible assumption | decide | lia | rfl | exact Nat.le_of_ble_eq_true rfl | (have hsl : sizeLine = 2 ^ 24 := rfl; lia) | (have hsl : sizeLine = 2 ^ 24 := rfl; simp only [List.length_map, List.length_append, List.length_cons, List.length_nil, List.length_take, List.length_range, List.length_reverse]; lia))) (EvE.comp (clb := false) (EvI.lst (EvE.name (memN 6 rfl))) ⟨rfl, by decide, rfl, rfl⟩ (.inr ⟨_, (memN 43 rfl)⟩) (by decide) (.bi rfl (E.bin "len" (.builtin "len") (by simp)) (.skip (.skip (.skip (.dat rfl (.skip (.skip (.skip (.skip (.dat rfl (.skip (.skip (.skip (.skip (.skip (.skip (.skip (.skip (.skip (.skip (.skip (.skip (.skip (.skip (.skip (.skip (.skip (.skip (.skip (.skip (.skip (.skip (.skip (.skip (.skip (.skip (.skip (.skip (.skip (.skip (.skip (.skip (.skip (.skip (.skip (.nil)))))))))))))))))))))))))))))))))))))))))))))) (CompL.mapG (l := places) (g := tI) (G := D.bool) (h := fun q => (paths.getD i []).take q.length == q) fun a ha => EvE.eq (EvE.cmp (EvE.tslT (EvE.item (EvE.name (.tail _ (.tail _ (.head _)))).evL (EvE.name (.tail _ (.tail _ (.tail _ (.head _))))) (gN1 hi6) (gN2 [] hi6) (by first | with_reducible assumption | decide | lia | rfl | exact Nat.le_of_ble_eq_true rfl | (have hsl : sizeLine = 2 ^ 24 := rfl; lia) | (have hsl : sizeLine = 2 ^ 24 := rfl; simp only [List.length_map, List.length_append, List.length_cons, List.length_nil, List.length_take, List.length_range, List.length_reverse]; lia))) (EvE.bi (.tail _ (.head _)) (.cons (EvE.name (.head _)) .nil) (.lenT (by have := (len_of (hpl6 _ ha)).2; rw [List.length_map]; lia))) (by lia) (by have := (len_of hpi).2; lia)) (EvE.name (.head _)) (.eq 4 (okTI 3 _) (okTI 3 _))) (by rw [deqTI, List.length_map, Int.toNat_natCast])) (by first | exact Nat.le_of_ble_eq_true rfl | lia | (have hsl : sizeLine = 2 ^ 24 := rfl; simp only [List.length_map, List.length_range, List.length_cons, List.length_nil]; lia))) (.ne 4 (okLB 3 _) (okLB 3 _))) (by rw [deqLB]; simp)) (fun e => by cases e) fun _ => EvS.nil) (exNil ⟨.dat (.int (i : Int)), rfl, rfl⟩)
  obtain ⟨q1, h1, rfl⟩ := hp
  have htk : paths.take 6 = paths := List.take_of_length_le (by lia)
  rw [htk]
  refine EvS.freeze (memN 11 rfl) (.there (.there (.there (.there (.there (.there (.there (.there (.there (.there (.there (.here)))))))))))) ?_
  have hlie : ∀ i, i < 6 → ((paths.map (lieOf places)).getD i []).length = places.length := by
    intro i hi
    rw [List.getD_eq_getElem?_getD, List.getElem?_map, List.getElem?_eq_getElem (show i < paths.length by lia)]
    show (lieOf places _).length = _
    unfold lieOf
    rw [List.length_map]
  exact law_back E k q1 q2 q3 h1 h2 h3 hd6 hp6 (fun p hp => (len_of (hpl6 p hp)).2) (by rw [List.length_map]; exact hp6) HP.hn0 (by lia) (by rw [List.length_map]) rfl hlie rfl rfl rfl rfl rfl rfl rfl rfl rfl rfl rfl HP.hdb HP.hcb HP.H1 HP.H2 HP.H3 HP.hord HP.H5 HP.H6
end Mine
-- part Pl1
open PySem
set_option Elab.async false
set_option linter.unusedVariables false
set_option linter.unusedSimpArgs false
set_option maxRecDepth 100000
namespace Mine
/-! dicts of counts -/
abbrev Dc := List (Str × Int)
def keys (d : Dc) : List Str := d.map (·.1)
def vs (d : Dc) (y : Str) : Int := (d.map fun p => if p.1 = y then p.2 else 0).sum
def sm (d : Dc) : Int := (d.map (·.2)).sum
theorem vs_cons (p : Str × Int) (d : Dc) (y : Str) : vs (p :: d) y = (if p.1 = y then p.2 else 0) + vs d y := by
  unfold vs; rw [List.map_cons, List.sum_cons]
theorem sm_cons (p : Str × Int) (d : Dc) : sm (p :: d) = p.2 + sm d := by
  unfold sm; rw [List.map_cons, List.sum_cons]
theorem vs_absent : ∀ (d : Dc) (y : Str), y ∉ keys d → vs d y = 0
  | [], _, _ => rfl
  | p :: d, y, h => by
    have h1 : ¬ p.1 = y := fun e => h (by rw [← e]; exact List.mem_cons_self)
    have h2 : y ∉ keys d := fun m => h (List.mem_cons_of_mem _ m)
    rw [vs_cons, if_neg h1, vs_absent d y h2]; rfl
theorem kput_absent {d : Dc} {x : Str} (i : Int) (h : x ∉ keys d) : kput d x i = d ++ [(x, i)] := by
  unfold kput
  rw [if_neg]
  intro q
  obtain ⟨p, hp, e⟩ := List.any_eq_true.mp q
  exact h (List.mem_map.mpr ⟨p, hp, by simpa using e⟩)
theorem map_absent (x : Str) (i : Int) : ∀ d : Dc, x ∉ keys d → d.map (fun q => if q.1 = x then (q.1, i) else q) = d
  | [], _ => rfl
  | p :: d, h => by
    have h1 : ¬ p.1 = x := fun e => h (by rw [← e]; exact List.mem_cons_self)
    rw [List.map_cons, if_neg h1, map_absent x i d fun m => h (List.mem_cons_of_mem _ m)]
theorem kput_facts (x : Str) (i : Int) : ∀ d : Dc, (keys d).Nodup → (keys (kput d x i)).Nodup ∧ (∀ y, vs (kput d x i) y = if y = x then i else vs d y) ∧ sm (kput d x i) = sm d - vs d x + i ∧ (∀ y, y ∈ keys (kput d x i) → y = x ∨ y ∈ keys d) := by
  intro d hn
  by_cases h : x ∈ keys d
  · have e : kput d x i = d.map fun q => if q.1 = x then (q.1, i) else q := by
      unfold kput
      rw [if_pos]
      obtain ⟨p, hp, e⟩ := List.mem_map.mp h
      exact List.any_eq_true.mpr ⟨p, hp, by simpa using e⟩
    rw [e]
    clear e
    have ek : keys (d.map fun q => if q.1 = x then (q.1, i) else q) = keys d := by
      unfold keys
      rw [List.map_map]
      apply List.map_congr_left
      intro q _
      show (if q.1 = x then (q.1, i) else q).1 = q.1
      split <;> rfl
    refine ⟨by rw [ek]; exact hn, ?_, ?_, fun y hy => .inr (by rw [ek] at hy; exact hy)⟩
    · intro y
      clear ek
      induction d with
      | nil => (first | cases h using Rp.intE | cases h using Rp.strE | cases h using Rp.boolE | cases h using RpAll.nilE | cases h)
      | cons p d ih =>
        have hn1 := (List.nodup_cons.mp hn).1
        have hn2 := (List.nodup_cons.mp hn).2
        rw [List.map_cons, vs_cons, vs_cons]
        by_cases hp : p.1 = x
        · rw [if_pos hp, map_absent x i d (by rw [← hp]; exact hn1)]
          by_cases hy : y = x
          · rw [if_pos hy]
            have : vs d y = 0 := vs_absent d y (by rw [hy, ← hp]; exact hn1)
            show (if p.1 = y then i else 0) + vs d y = i
            rw [if_pos (by rw [hp, hy]), this]; lia
          · rw [if_neg hy]
            have : ¬ p.1 = y := fun e => hy (by rw [← e, hp])
            show (if p.1 = y then i else 0) + vs d y = _
            rw [if_neg this, if_neg this]
        · have hx : x ∈ keys d := by
            rcases List.mem_cons.mp h with q | q
            · exact absurd q.symm hp
            · exact q
          rw [if_neg hp, ih hn2 hx]
          by_cases hy : y = x
          · rw [if_pos hy, if_pos hy, if_neg (by rw [hy]; exact hp)]; lia
          · rw [if_neg hy, if_neg hy]
    · clear ek
      induction d with
      | nil => (first | cases h using Rp.intE | cases h using Rp.strE | cases h using Rp.boolE | cases h using RpAll.nilE | cases h)
      | cons p d ih =>
        have hn1 := (List.nodup_cons.mp hn).1
        have hn2 := (List.nodup_cons.mp hn).2
        rw [List.map_cons, sm_cons, sm_cons, vs_cons]
        by_cases hp : p.1 = x
        · have : vs d x = 0 := vs_absent d x (by rw [← hp]; exact hn1)
          rw [if_pos hp, map_absent x i d (by rw [← hp]; exact hn1), if_pos hp, this]
          show i + sm d = _
          lia
        · have hx : x ∈ keys d := by
            rcases List.mem_cons.mp h with q | q
            · exact absurd q.symm hp
            · exact q
          rw [if_neg hp, ih hn2 hx, if_neg hp]
          lia
  · rw [kput_absent i h]
    have h0 := vs_absent d x h
    refine ⟨?_, ?_, ?_, ?_⟩
    · unfold keys
      rw [List.map_append, List.nodup_append]
      refine ⟨hn, by simp, ?_⟩
      intro a ha b hb e
      simp only [List.map_cons, List.map_nil, List.mem_singleton] at hb
      subst e
      subst hb
      exact h ha
    · intro y
      unfold vs
      rw [List.map_append, List.sum_append]
      simp only [List.map_cons, List.map_nil, List.sum_cons, List.sum_nil]
      by_cases hy : y = x
      · subst hy
        unfold vs at h0
        rw [if_pos rfl, if_pos rfl, h0]; lia
      · rw [if_neg hy, if_neg (fun e => hy e.symm)]; lia
    · unfold sm
      rw [List.map_append, List.sum_append, h0]
      simp
    · intro y hy
      unfold keys at hy ⊢
      rw [List.map_append] at hy
      rcases List.mem_append.mp hy with q | q
      · exact .inr q
      · exact .inl (by simpa using q)
theorem kget_vs : ∀ (d : Dc) (y : Str), (keys d).Nodup → (kget d y).getD 0 = vs d y
  | [], _, _ => rfl
  | p :: d, y, hn => by
    have hn1 := (List.nodup_cons.mp hn).1
    have hn2 := (List.nodup_cons.mp hn).2
    have ih := kget_vs d y hn2
    rw [vs_cons]
    unfold kget at ih ⊢
    rw [List.find?_cons]
    by_cases hp : p.1 = y
    · have : vs d y = 0 := vs_absent d y (by rw [← hp]; exact hn1)
      simp [hp, this]
    · simp only [hp, decide_false, if_false]
      rw [ih]; lia
theorem addS_eq {d : Dc} (hn : (keys d).Nodup) (p : Str × Int) : addS d p = kput d p.1 (vs d p.1 + p.2) := by
  have h := kget_vs d p.1 hn
  unfold addS
  cases hk : kget d p.1 with
  | none => rw [hk] at h; simp only [Option.getD_none] at h; rw [← h]; simp
  | some a => rw [hk] at h; simp only [Option.getD_some] at h; rw [← h]
theorem foldS_facts : ∀ (s d : Dc), (keys d).Nodup → (keys (s.foldl addS d)).Nodup ∧ (∀ y, vs (s.foldl addS d) y = vs d y + vs s y) ∧ sm (s.foldl addS d) = sm d + sm s
  | [], d, hn => ⟨hn, fun y => by show vs d y = vs d y + 0; lia, by show sm d = sm d + 0; lia⟩
  | p :: s, d, hn => by
    obtain ⟨k1, k2, k3, _⟩ := kput_facts p.1 (vs d p.1 + p.2) d hn
    have e := addS_eq hn p
    obtain ⟨i1, i2, i3⟩ := foldS_facts s (addS d p) (by rw [e]; exact k1)
    rw [List.foldl_cons]
    refine ⟨i1, fun y => ?_, ?_⟩
    · rw [i2, e, k2, vs_cons]
      by_cases hy : y = p.1
      · subst hy; rw [if_pos rfl, if_pos rfl]; lia
      · rw [if_neg hy, if_neg (fun q => hy q.symm)]; lia
    · rw [i3, e, k3, sm_cons]; lia
theorem foldT_id : ∀ (t acc : Dc), (keys (acc ++ t)).Nodup → t.foldl addT acc = acc ++ t
  | [], acc, _ => by simp
  | p :: t, acc, hn => by
    have h : p.1 ∉ keys acc := by
      unfold keys at hn
      rw [List.map_append, List.nodup_append] at hn
      intro m
      exact hn.2.2 _ m _ (by simp) rfl
    rw [List.foldl_cons]
    unfold addT
    rw [kput_absent _ h]
    have := foldT_id t (acc ++ [(p.1, p.2)]) (by simpa using hn)
    unfold addT at this
    rw [this]
    simp
theorem addC_facts {t s : Dc} (ht : (keys t).Nodup) : (keys (addC t s)).Nodup ∧ (∀ y, vs (addC t s) y = vs t y + vs s y) ∧ sm (addC t s) = sm t + sm s := by
  unfold addC
  rw [foldT_id t [] (by simpa using ht)]
  exact foldS_facts s _ (by simpa using ht)
/-! one call -/
theorem getD_inj {names : List Str} (hn : names.Nodup) {i j : Nat} (hi : i < names.length) (hj : j < names.length) (h : names.getD i "" = names.getD j "") : i = j := by
  rw [List.getD_eq_getElem?_getD, List.getElem?_eq_getElem hi, List.getD_eq_getElem?_getD, List.getElem?_eq_getElem hj] at h
  exact (List.getElem_inj hn).mp h
theorem sum_range_succ (f : Nat → Int) (m : Nat) : ((List.range (m + 1)).map f).sum = ((List.range m).map f).sum + f m := by
  rw [List.range_succ, List.map_append, List.sum_append]; simp
theorem cAt_facts {row other : List Bool} {names : List Str} {w : List Int} (hn : names.Nodup) : ∀ m, m ≤ names.length →
    (keys (cAt row other names w m).1).Nodup ∧ (∀ y ∈ keys (cAt row other names w m).1, ∃ j, j < m ∧ y = names.getD j "") ∧ (∀ j, j < names.length → vs (cAt row other names w m).1 (names.getD j "") = if j < m then b2 (row.getD j false != other.getD j false) else 0) ∧
    sm (cAt row other names w m).1 = ((cAt row other names w m).1.length : Int) ∧
    (cAt row other names w m).2.2 = ((List.range m).map fun j => w.getD j 0 * b2 (row.getD j false != other.getD j false)).sum ∧
    2 * (cAt row other names w m).2.1 - (cAt row other names w m).2.2 = ((List.range m).map fun j => w.getD j 0 * (b2 (row.getD j false) - b2 (other.getD j false))).sum
  | 0, _ => by
    unfold cAt
    refine ⟨List.nodup_nil, (fun y hy => nomatch hy), fun j hj => ?_, rfl, rfl, rfl⟩
    rw [if_neg (by lia)]; rfl
  | m + 1, hm => by
    obtain ⟨i1, i2, i3, i4, i5, i6⟩ := cAt_facts (row := row) (other := other) (w := w) hn m (by lia)
    have hm1 : m < names.length := by lia
    have hab : names.getD m "" ∉ keys (cAt row other names w m).1 := by
      intro q
      obtain ⟨j, hj, e⟩ := i2 _ q
      have := getD_inj hn hm1 (by lia) e
      lia
    rw [cAt_succ, sum_range_succ, sum_range_succ]
    generalize cAt row other names w m = st at i1 i2 i3 i4 i5 i6 hab ⊢
    unfold cstep
    cases hb : (row.getD m false != other.getD m false) with
    | false =>
      rw [if_neg (by decide)]
      have hz : b2 (row.getD m false) - b2 (other.getD m false) = 0 := by
        generalize row.getD m false = x at hb ⊢
        generalize other.getD m false = y at hb ⊢
        cases x <;> cases y <;> first | rfl | cases hb
      refine ⟨i1, fun y hy => let ⟨j, hj, e⟩ := i2 y hy; ⟨j, by lia, e⟩, fun j hj => ?_, i4, ?_, ?_⟩
      · rw [i3 j hj]
        by_cases h1 : j < m
        · rw [if_pos h1, if_pos (by lia)]
        · rw [if_neg h1]
          by_cases h2 : j = m
          · subst h2; rw [if_pos (by lia), hb]; rfl
          · rw [if_neg (by lia)]
      · rw [i5, show b2 false = 0 from rfl]; lia
      · rw [i6, hz]; lia
    | true =>
      rw [if_pos rfl]
      have hk := kput_absent (d := st.1) 1 hab
      obtain ⟨k1, k2, k3, k4⟩ := kput_facts (names.getD m "") 1 st.1 i1
      refine ⟨k1, fun y hy => ?_, fun j hj => ?_, ?_, ?_, ?_⟩
      · rcases k4 y hy with q | q
        · exact ⟨m, by lia, q⟩
        · obtain ⟨j, hj, e⟩ := i2 y q; exact ⟨j, by lia, e⟩
      · show vs (kput st.1 (names.getD m "") 1) _ = _
        rw [k2]
        by_cases h2 : j = m
        · subst h2; rw [if_pos rfl, if_pos (by lia), hb]; rfl
        · rw [if_neg (fun e => h2 (getD_inj hn hj hm1 e)), i3 j hj]
          by_cases h1 : j < m
          · rw [if_pos h1, if_pos (by lia)]
          · rw [if_neg h1, if_neg (by lia)]
      · show sm (kput st.1 (names.getD m "") 1) = ((kput st.1 (names.getD m "") 1).length : Int)
        rw [k3, vs_absent _ _ hab, i4, hk, List.length_append]; simp
      · show st.2.2 + w.getD m 0 = _
        rw [i5, show b2 true = 1 from rfl]; lia
      · show 2 * (if row.getD m false then st.2.1 + w.getD m 0 else st.2.1) - (st.2.2 + w.getD m 0) = _
        rw [← i6]
        generalize row.getD m false = x at hb ⊢
        generalize other.getD m false = y at hb ⊢
        cases x <;> cases y <;> first | (cases hb; done) | skip
        · rw [if_neg (by decide), show b2 false - b2 true = -1 from rfl]; lia
        · rw [if_pos rfl, show b2 true - b2 false = 1 from rfl]; lia
end Mine
-- part Pl2
open PySem
set_option Elab.async false
set_option linter.unusedVariables false
set_option linter.unusedSimpArgs false
set_option maxRecDepth 100000
namespace Mine
abbrev at' (l : List Int) (j : Int) : Int := l.getD j.toNat 0
theorem cmp_cons (l r : List Int) (j d : Int) (rest : List (Int × Int)) : cmpOf l r ((j, d) :: rest) = if at' l j < at' r j then -d else if at' l j > at' r j then d else cmpOf l r rest := rfl
theorem cmp_ge {way : Int} (hw : way = 1 ∨ way = -1) (l r : List Int) : ∀ cols : List Int, (∀ j ∈ cols, way * at' r j ≤ way * at' l j) → 0 ≤ cmpOf l r (cols.map fun j => (j, way)) ∧ (cmpOf l r (cols.map fun j => (j, way)) = 0 ↔ ∀ j ∈ cols, at' l j = at' r j)
  | [], _ => ⟨Int.le_refl _, ⟨fun _ j hj => (by cases hj), fun _ => rfl⟩⟩
  | j :: cols, h => by
    have h1 := h j List.mem_cons_self
    obtain ⟨i1, i2⟩ := cmp_ge hw l r cols fun j' hj => h j' (List.mem_cons_of_mem _ hj)
    rw [List.map_cons, cmp_cons]
    by_cases e : at' l j = at' r j
    · rw [if_neg (by lia), if_neg (by lia)]
      refine ⟨i1, i2.trans ⟨fun q j' hj => ?_, fun q j' hj => q j' (List.mem_cons_of_mem _ hj)⟩⟩
      rcases List.mem_cons.mp hj with q1 | q1
      · rw [q1]; exact e
      · exact q j' q1
    · have hne : ¬ ∀ j' ∈ j :: cols, at' l j' = at' r j' := fun q => e (q j List.mem_cons_self)
      rcases hw with rfl | rfl
      · rw [if_neg (by lia), if_pos (by lia)]
        exact ⟨by decide, ⟨fun q => (by cases q), fun q => absurd q hne⟩⟩
      · rw [if_pos (by lia)]
        exact ⟨by decide, ⟨fun q => (by cases q), fun q => absurd q hne⟩⟩
theorem cmp_lt {way : Int} (hw : way = 1 ∨ way = -1) (l r : List Int) : ∀ cols : List Int, (∀ j ∈ cols, way * at' l j ≤ way * at' r j) → ¬ (cmpOf l r (cols.map fun j => (j, way)) < 0) → ∀ j ∈ cols, at' l j = at' r j
  | [], _, _ => fun j hj => nomatch hj
  | j :: cols, h, hn => by
    have h1 := h j List.mem_cons_self
    rw [List.map_cons, cmp_cons] at hn
    by_cases e : at' l j = at' r j
    · rw [if_neg (by lia), if_neg (by lia)] at hn
      have ih := cmp_lt hw l r cols (fun j' hj => h j' (List.mem_cons_of_mem _ hj)) hn
      intro j' hj
      rcases List.mem_cons.mp hj with q1 | q1
      · rw [q1]; exact e
      · exact ih j' q1
    · rcases hw with rfl | rfl
      · rw [if_pos (by lia)] at hn; exact absurd (by decide) hn
      · rw [if_neg (by lia), if_pos (by lia)] at hn; exact absurd (by decide) hn
theorem best_fold {way : Int} (hw : way = 1 ∨ way = -1) (cols m : List Int) : ∀ (l : List (List Int)) (b : List Int), (∀ x, x ∈ l ∨ x = b → (∀ j ∈ cols, way * at' m j ≤ way * at' x j) ∧ ((∀ j ∈ cols, at' x j = at' m j) → x = m)) → (m ∈ l ∨ b = m) → l.foldl (bestStep (cols.map fun j => (j, way))) b = m
  | [], b, _, h => h.elim (fun q => nomatch q) id
  | x :: l, b, hg, h => by
    rw [List.foldl_cons]
    have gx := hg x (.inl List.mem_cons_self)
    have gb := hg b (.inr rfl)
    have hg' : ∀ y, y ∈ l ∨ y = bestStep (cols.map fun j => (j, way)) b x → (∀ j ∈ cols, way * at' m j ≤ way * at' y j) ∧ ((∀ j ∈ cols, at' y j = at' m j) → y = m) := by
      intro y hy
      rcases hy with q | q
      · exact hg y (.inl (List.mem_cons_of_mem _ q))
      · rcases bestStep_in (cols.map fun j => (j, way)) b x with e | e
        · rw [e] at q; exact hg y (.inr q)
        · rw [e] at q; rw [q]; exact gx
    refine best_fold hw cols m l _ hg' ?_
    by_cases hb : b = m
    · right
      unfold bestStep
      subst hb
      have := (cmp_ge hw x b cols gx.1).1
      rw [if_neg (by lia)]
    · rcases h with h | h
      · rcases List.mem_cons.mp h with q | q
        · right
          unfold bestStep
          subst q
          by_cases hc : cmpOf m b (cols.map fun j => (j, way)) < 0
          · rw [if_pos hc]
          · exact absurd (gb.2 fun j hj => (cmp_lt hw m b cols gb.1 hc j hj).symm) hb
        · exact .inl q
      · exact absurd h hb
theorem first_is {way : Int} (hw : way = 1 ∨ way = -1) (cols m : List Int) (rows : List (List Int)) (hm : m ∈ rows) (hg : ∀ x ∈ rows, (∀ j ∈ cols, way * at' m j ≤ way * at' x j) ∧ ((∀ j ∈ cols, at' x j = at' m j) → x = m)) :
    bestOf (cols.map fun j => (j, way)) rows = m ∧ (rows.filter fun a => cmpOf a (bestOf (cols.map fun j => (j, way)) rows) (cols.map fun j => (j, way)) == 0) = rows.filter (· == m) := by
  have e : bestOf (cols.map fun j => (j, way)) rows = m := by
    unfold bestOf
    refine best_fold hw cols m rows _ (fun x hx => ?_) (.inl hm)
    rcases hx with q | q
    · exact hg x q
    · have hr : 0 < rows.length := List.length_pos_of_mem hm
      rw [List.getD_eq_getElem?_getD, List.getElem?_eq_getElem hr] at q
      exact hg x (by rw [q]; exact List.getElem_mem hr)
  refine ⟨e, ?_⟩
  rw [e]
  apply List.filter_congr
  intro x hx
  obtain ⟨g1, g2⟩ := hg x hx
  have := (cmp_ge hw x m cols g1).2
  rw [Bool.eq_iff_iff, beq_iff_eq, beq_iff_eq, this]
  exact ⟨g2, fun q => by rw [q]; exact fun _ _ => rfl⟩
/-! ordered -/
theorem fig_sign (tn a b : List Int) (n : Nat) (htn : turnsOf n = tn) : ∀ (cols : List Int), (∀ j ∈ cols, (at' tn j = 1 ∨ at' tn j = -1) ∧ 0 ≤ at' a j ∧ at' a j ≤ 7 ∧ 0 ≤ at' b j ∧ at' b j ≤ 7) → ∀ x y : Int,
    (x < y → cols.foldl (figStep n a) x < cols.foldl (figStep n b) y) ∧ (y < x → cols.foldl (figStep n b) y < cols.foldl (figStep n a) x) ∧ (x = y → cmpOf a b (cols.map fun j => (j, at' tn j)) = dueOf (cols.foldl (figStep n a) x) (cols.foldl (figStep n b) y))
  | [], _, x, y => by
    refine ⟨fun h => h, fun h => h, fun h => ?_⟩
    show (0 : Int) = dueOf x y
    unfold dueOf
    rw [if_neg (by lia), if_neg (by lia)]
  | j :: cols, h, x, y => by
    obtain ⟨ht, ha0, ha7, hb0, hb7⟩ := h j List.mem_cons_self
    obtain ⟨i1, i2, i3⟩ := fig_sign tn a b n htn cols (fun j' hj => h j' (List.mem_cons_of_mem _ hj)) (figStep n a x j) (figStep n b y j)
    rw [List.foldl_cons, List.foldl_cons, List.map_cons, cmp_cons]
    have ea : figStep n a x j = 8 * x + at' tn j * at' a j := by unfold figStep; rw [htn]
    have eb : figStep n b y j = 8 * y + at' tn j * at' b j := by unfold figStep; rw [htn]
    rw [ea, eb] at i1 i2 i3 ⊢
    refine ⟨fun q => i1 ?_, fun q => i2 ?_, fun q => ?_⟩
    · rcases ht with e | e <;> rw [e] <;> lia
    · rcases ht with e | e <;> rw [e] <;> lia
    · subst q
      have d1 : ∀ u v : Int, u < v → dueOf u v = -1 := fun u v q => by unfold dueOf; rw [if_pos q]
      have d2 : ∀ u v : Int, v < u → dueOf u v = 1 := fun u v q => by unfold dueOf; rw [if_neg (by lia), if_pos q]
      by_cases e1 : at' a j < at' b j
      · rw [if_pos e1]
        rcases ht with e | e
        · rw [d1 _ _ (i1 (by rw [e]; lia)), e]
        · rw [d2 _ _ (i2 (by rw [e]; lia)), e]; rfl
      · rw [if_neg e1]
        by_cases e2 : at' a j > at' b j
        · rw [if_pos e2]
          rcases ht with e | e
          · rw [d2 _ _ (i2 (by rw [e]; lia)), e]
          · rw [d1 _ _ (i1 (by rw [e]; lia)), e]
        · rw [if_neg e2]
          exact i3 (by rw [show at' a j = at' b j by lia])
theorem turn_at {n : Nat} {j : Int} (h0 : 0 ≤ j) (h : j < n) : at' (turnsOf n) j = 1 ∨ at' (turnsOf n) j = -1 := by
  unfold at' turnsOf
  rw [getD_map_range, if_pos (by lia)]
  have h1 := Int.fmod_nonneg_of_pos ((j.toNat : Nat) : Int) (show (0 : Int) < 2 by decide)
  have h2 := Int.fmod_lt_of_pos ((j.toNat : Nat) : Int) (show (0 : Int) < 2 by decide)
  lia
theorem ordered_is (cols a b : List Int) (hc : ∀ j ∈ cols, 0 ≤ j ∧ j < cols.length) (ha : ∀ i, 0 ≤ a.getD i 0 ∧ a.getD i 0 ≤ 7) (hb : ∀ i, 0 ≤ b.getD i 0 ∧ b.getD i 0 ≤ 7) : cmpOf a b (selO cols) = dueOf (figOf cols a) (figOf cols b) := by
  unfold selO figOf
  exact (fig_sign (turnsOf cols.length) a b cols.length rfl cols (fun j hj => ⟨turn_at (hc j hj).1 (hc j hj).2, (ha _).1, (ha _).2, (hb _).1, (hb _).2⟩) 0 0).2.2 rfl
theorem columns_cover (t : Int) {n : Nat} {i : Nat} (hi : i < n) : ∃ c ∈ columnsOf t n, c.toNat = i := by
  have hn : (0 : Int) < n := by lia
  have h0 := Int.emod_nonneg ((i : Int) - t.fdiv 35) (show (n : Int) ≠ 0 by lia)
  have h1 := Int.emod_lt_of_pos ((i : Int) - t.fdiv 35) hn
  have e : (((((i : Int) - t.fdiv 35) % n).toNat : Int) + t.fdiv 35).fmod n = i := by
    rw [Int.toNat_of_nonneg h0, Int.fmod_eq_emod_of_nonneg _ (by lia), Int.emod_add_emod, Int.sub_add_cancel]
    exact Int.emod_eq_of_lt (by lia) (by lia)
  refine ⟨(i : Int), ?_, rfl⟩
  unfold columnsOf
  exact List.mem_map.mpr ⟨(((i : Int) - t.fdiv 35) % n).toNat, List.mem_range.mpr (by lia), e⟩
theorem columns_rg (t : Int) {n : Nat} (hn : 0 < n) : ∀ j ∈ columnsOf t n, 0 ≤ j ∧ j < n := by
  unfold columnsOf
  intro j hj
  obtain ⟨i, _, rfl⟩ := List.mem_map.mp hj
  exact ⟨Int.fmod_nonneg_of_pos _ (by lia), Int.fmod_lt_of_pos _ (by lia)⟩
theorem columns_len (t : Int) (n : Nat) : (columnsOf t n).length = n := by unfold columnsOf; rw [List.length_map, List.length_range]
/-- rows of one length that agree on the columns agree -/
theorem columns_eq (t : Int) {n : Nat} {x m : List Int} (hx : x.length = n) (hm : m.length = n) (h : ∀ j ∈ columnsOf t n, at' x j = at' m j) : x = m := by
  apply List.ext_getElem (by lia)
  intro i h1 h2
  obtain ⟨c, hc, e⟩ := columns_cover t (show i < n by lia)
  have := h c hc
  unfold at' at this
  rw [e, List.getD_eq_getElem?_getD, List.getElem?_eq_getElem h1, List.getD_eq_getElem?_getD, List.getElem?_eq_getElem h2] at this
  exact this
end Mine
-- part Pl3
open PySem
set_option Elab.async false
set_option linter.unusedVariables false
set_option linter.unusedSimpArgs false
set_option maxRecDepth 100000
namespace Mine
abbrev Five := Int × Int × Int × Int × Dc
abbrev rD (l : List (List Bool)) (i : Nat) (j : Nat) : Bool := (l.getD i []).getD j false
theorem sum3 (f g h : Nat → Int) : ∀ n, ((List.range n).map f).sum + ((List.range n).map g).sum + ((List.range n).map h).sum = ((List.range n).map fun j => f j + g j + h j).sum
  | 0 => rfl
  | n + 1 => by
    have ih := sum3 f g h n
    rw [sum_range_succ, sum_range_succ, sum_range_succ, sum_range_succ, ← ih]
    lia
theorem sum_range_congr {f g : Nat → Int} {n : Nat} (h : ∀ j, j < n → f j = g j) : ((List.range n).map f).sum = ((List.range n).map g).sum := by
  congr 1
  apply List.map_congr_left
  intro j hj
  exact h j (List.mem_range.mp hj)
abbrev xor3 (L : List (List Bool)) (p : Int × Int × Int) (j : Nat) : Int := b2 (rD L 0 j != rD L (3 + p.1).toNat j) + b2 (rD L 1 j != rD L (3 + p.2.1).toNat j) + b2 (rD L 2 j != rD L (3 + p.2.2).toNat j)
theorem sum_facts {L : List (List Bool)} {names : List Str} {w : List Int} (hn : names.Nodup) (p : Int × Int × Int) :
    (sumOf L names w p).1 = 3 ∧ (sumOf L names w p).2.1 = sm (sumOf L names w p).2.2.2.2 ∧
    2 * (sumOf L names w p).2.2.1 - (sumOf L names w p).2.2.2.1 = ((List.range names.length).map fun j => w.getD j 0 * (b2 (rD L 0 j) - b2 (rD L (3 + p.1).toNat j)) + w.getD j 0 * (b2 (rD L 1 j) - b2 (rD L (3 + p.2.1).toNat j)) + w.getD j 0 * (b2 (rD L 2 j) - b2 (rD L (3 + p.2.2).toNat j))).sum ∧
    (sumOf L names w p).2.2.2.1 = ((List.range names.length).map fun j => w.getD j 0 * xor3 L p j).sum ∧
    (∀ j, j < names.length → (kget (sumOf L names w p).2.2.2.2 (names.getD j "")).getD 0 = xor3 L p j) := by
  obtain ⟨a1, a2, a3, a4, a5, a6⟩ := cAt_facts (row := L.getD 0 []) (other := L.getD (3 + p.1).toNat []) (w := w) hn names.length (Nat.le_refl _)
  obtain ⟨b1, b2', b3, b4, b5, b6⟩ := cAt_facts (row := L.getD 1 []) (other := L.getD (3 + p.2.1).toNat []) (w := w) hn names.length (Nat.le_refl _)
  obtain ⟨c1, c2, c3, c4, c5, c6⟩ := cAt_facts (row := L.getD 2 []) (other := L.getD (3 + p.2.2).toNat []) (w := w) hn names.length (Nat.le_refl _)
  unfold sumOf addF cA callOf
  dsimp only
  simp only [show (0 : Int).toNat = 0 from rfl, show (1 : Int).toNat = 1 from rfl, show (2 : Int).toNat = 2 from rfl]
  generalize cAt (L.getD 0 []) (L.getD (3 + p.1).toNat []) names w names.length = x at *
  generalize cAt (L.getD 1 []) (L.getD (3 + p.2.1).toNat []) names w names.length = y at *
  generalize cAt (L.getD 2 []) (L.getD (3 + p.2.2).toNat []) names w names.length = z at *
  obtain ⟨k1, k2, k3⟩ := addC_facts (s := y.1) a1
  obtain ⟨m1, m2, m3⟩ := addC_facts (s := z.1) k1
  refine ⟨by decide, ?_, ?_, ?_, ?_⟩
  · rw [m3, k3, a4, b4, c4]; lia
  · rw [← sum3, ← a6, ← b6, ← c6]; lia
  · have e : (fun j => w.getD j 0 * xor3 L p j) = fun j => w.getD j 0 * b2 (rD L 0 j != rD L (3 + p.1).toNat j) + w.getD j 0 * b2 (rD L 1 j != rD L (3 + p.2.1).toNat j) + w.getD j 0 * b2 (rD L 2 j != rD L (3 + p.2.2).toNat j) := by
      funext j; rw [Int.mul_add, Int.mul_add]
    rw [e, ← sum3, ← a5, ← b5, ← c5]; lia
  · intro j hj
    rw [kget_vs _ _ m1, m2, k2, a3 j hj, b3 j hj, c3 j hj, if_pos hj, if_pos hj, if_pos hj]
/-! places -/
abbrev bitP (paths : List (List Int)) (i : Nat) (q : List Int) : Bool := (paths.getD i []).take q.length == q
def sndP (paths : List (List Int)) (q : List Int) : Int := b2 (bitP paths 0 q) + b2 (bitP paths 1 q) + b2 (bitP paths 2 q)
def tknP (paths : List (List Int)) (q : List Int) : Int := b2 (bitP paths 3 q) + b2 (bitP paths 4 q) + b2 (bitP paths 5 q)
def crossP (paths : List (List Int)) (p : Int × Int × Int) (q : List Int) : Int := b2 (bitP paths 0 q != bitP paths (3 + p.1).toNat q) + b2 (bitP paths 1 q != bitP paths (3 + p.2.1).toNat q) + b2 (bitP paths 2 q != bitP paths (3 + p.2.2).toNat q)
abbrev LP (paths places : List (List Int)) : List (List Bool) := paths.map (lieOf places)
theorem rD_lie {paths places : List (List Int)} (hp : paths.length = 6) {i j : Nat} (hi : i < 6) (hj : j < places.length) : rD (LP paths places) i j = bitP paths i (places.getD j []) := by
  unfold rD LP bitP
  rw [List.getD_eq_getElem?_getD (l := List.map (lieOf places) paths), List.getElem?_map, List.getD_eq_getElem?_getD (l := paths), List.getElem?_eq_getElem (show i < paths.length by lia)]
  simp only [Option.map_some, Option.getD_some]
  unfold lieOf
  rw [List.getD_eq_getElem?_getD, List.getElem?_map, List.getD_eq_getElem?_getD, List.getElem?_eq_getElem hj]
  rfl
theorem range_map {α β : Type} (l : List α) (f : Nat → β) (g : α → β) (d : α) (h : ∀ j, j < l.length → f j = g (l.getD j d)) : (List.range l.length).map f = l.map g := by
  apply List.ext_getElem (by simp)
  intro i h1 h2
  have hi : i < l.length := by simpa using h1
  rw [List.getElem_map, List.getElem_map, List.getElem_range, h i hi, List.getD_eq_getElem?_getD, List.getElem?_eq_getElem hi]
  rfl
theorem sent_eq {paths places : List (List Int)} (hp : paths.length = 6) : sentP (LP paths places) places.length = places.map (sndP paths) := by
  unfold sentP sumL
  refine range_map places _ _ [] fun j hj => ?_
  have h0 := rD_lie hp (i := 0) (by decide) hj
  have h1 := rD_lie hp (i := 1) (by decide) hj
  have h2 := rD_lie hp (i := 2) (by decide) hj
  unfold rD at h0 h1 h2
  rw [h0, h1, h2]; rfl
theorem taken_eq {paths places : List (List Int)} (hp : paths.length = 6) : takenP (LP paths places) places.length = places.map (tknP paths) := by
  unfold takenP sumL
  refine range_map places _ _ [] fun j hj => ?_
  have h0 := rD_lie hp (i := 3) (by decide) hj
  have h1 := rD_lie hp (i := 4) (by decide) hj
  have h2 := rD_lie hp (i := 5) (by decide) hj
  unfold rD at h0 h1 h2
  rw [h0, h1, h2]; rfl
theorem T6_lt : ∀ p ∈ T6, (3 + p.1).toNat < 6 ∧ (3 + p.2.1).toNat < 6 ∧ (3 + p.2.2).toNat < 6 := by decide
theorem xor3_eq {paths places : List (List Int)} (hp : paths.length = 6) {p : Int × Int × Int} (ht : p ∈ T6) {j : Nat} (hj : j < places.length) : xor3 (LP paths places) p j = crossP paths p (places.getD j []) := by
  obtain ⟨t1, t2, t3⟩ := T6_lt p ht
  unfold xor3 crossP
  rw [rD_lie hp (i := 0) (by decide) hj, rD_lie hp (i := 1) (by decide) hj, rD_lie hp (i := 2) (by decide) hj, rD_lie hp t1 hj, rD_lie hp t2 hj, rD_lie hp t3 hj]
theorem rows_eq {paths places : List (List Int)} {names : List Str} {w : List Int} (hp : paths.length = 6) (hn : names.Nodup) (hl : names.length = places.length) :
    rowsOf (T6.map (sumOf (LP paths places) names w)) names = T6.map fun p => places.map (crossP paths p) := by
  unfold rowsOf
  rw [List.map_map]
  apply List.map_congr_left
  intro p ht
  obtain ⟨_, _, _, _, h⟩ := sum_facts (L := LP paths places) (w := w) hn p
  show (names.map fun nm => (kget (sumOf (LP paths places) names w p).2.2.2.2 nm).getD 0) = _
  have e1 : (names.map fun nm => (kget (sumOf (LP paths places) names w p).2.2.2.2 nm).getD 0) = (List.range names.length).map fun j => (kget (sumOf (LP paths places) names w p).2.2.2.2 (names.getD j "")).getD 0 :=
    (range_map names _ _ "" fun j hj => rfl).symm
  rw [e1, hl]
  refine range_map places _ _ [] fun j hj => ?_
  rw [h j (by lia), xor3_eq hp ht hj]
theorem wdist3 (w a b c a' b' c' : Int) (h : a - a' + (b - b') + (c - c') = s) : w * (a - a') + w * (b - b') + w * (c - c') = w * s := by
  rw [← h, Int.mul_add, Int.mul_add]
theorem drift_eq {paths places : List (List Int)} {names : List Str} {w : List Int} (hp : paths.length = 6) (hn : names.Nodup) (hl : names.length = places.length) {p : Int × Int × Int} (ht : p ∈ T6) :
    2 * (sumOf (LP paths places) names w p).2.2.1 - (sumOf (LP paths places) names w p).2.2.2.1 = (driftL w (sentP (LP paths places) places.length) (takenP (LP paths places) places.length) places.length).sum := by
  obtain ⟨_, _, h, _, _⟩ := sum_facts (L := LP paths places) (w := w) hn p
  rw [h, hl]
  unfold driftL
  apply sum_range_congr
  intro j hj
  refine wdist3 _ _ _ _ _ _ _ ?_
  unfold sentP takenP sumL
  rw [getD_map_range, getD_map_range, if_pos hj, if_pos hj]
  generalize LP paths places = L
  simp only [T6, List.mem_cons, List.not_mem_nil, or_false] at ht
  show b2 (rD L 0 j) - b2 (rD L (3 + p.1).toNat j) + (b2 (rD L 1 j) - b2 (rD L (3 + p.2.1).toNat j)) + (b2 (rD L 2 j) - b2 (rD L (3 + p.2.2).toNat j)) = b2 (rD L 0 j) + b2 (rD L 1 j) + b2 (rD L 2 j) - (b2 (rD L 3 j) + b2 (rD L 4 j) + b2 (rD L 5 j))
  have e0 : (3 + (0 : Int)).toNat = 3 := rfl
  have e1 : (3 + (1 : Int)).toNat = 4 := rfl
  have e2 : (3 + (2 : Int)).toNat = 5 := rfl
  rcases ht with rfl | rfl | rfl | rfl | rfl | rfl <;> dsimp only <;> rw [e0, e1, e2] <;> lia
theorem cost_eq {paths places : List (List Int)} {names : List Str} {w : List Int} (hp : paths.length = 6) (hn : names.Nodup) (hl : names.length = places.length) {p : Int × Int × Int} (ht : p ∈ T6) :
    (sumOf (LP paths places) names w p).2.2.2.1 = ((List.range places.length).map fun j => w.getD j 0 * crossP paths p (places.getD j [])).sum := by
  obtain ⟨_, _, _, h, _⟩ := sum_facts (L := LP paths places) (w := w) hn p
  rw [h, hl]
  apply sum_range_congr
  intro j hj
  rw [xor3_eq hp ht hj]
end Mine
-- part Pl4
open PySem
set_option Elab.async false
set_option linter.unusedVariables false
set_option linter.unusedSimpArgs false
set_option maxRecDepth 100000
namespace Mine
/-! masks of six hosts, sets of six ways -/
def sumW : Nat → (Nat → Bool) → Nat
  | 0, _ => 0
  | i + 1, f => sumW i f + 2 ^ i * (f i).toNat
def clTab : List Nat := [63, 63, 63, 63, 63, 63, 63, 63, 63, 3, 20, 23, 40, 43, 60, 63, 63, 12, 33, 45, 18, 30, 51, 63, 63, 15, 53, 5, 58, 10, 48, 63, 63, 48, 10, 58, 5, 53, 15, 63, 63, 51, 30, 18, 45, 33, 12, 63, 63, 60, 43, 40, 23, 20, 3, 63, 63, 63, 63, 63, 63, 63, 63, 63]
def chTab : List Nat := [63, 63, 63, 63, 63, 63, 63, 63, 63, 60, 43, 40, 23, 20, 3, 63, 63, 51, 30, 18, 45, 33, 12, 63, 63, 48, 10, 58, 5, 53, 15, 63, 63, 15, 53, 5, 58, 10, 48, 63, 63, 12, 33, 45, 18, 30, 51, 63, 63, 3, 20, 23, 40, 43, 60, 63, 63, 63, 63, 63, 63, 63, 63, 63]
def rcTab : List (List Nat) := [[63], [63], [63], [63], [63], [63], [63], [63], [63], [3], [20], [3, 20, 23], [40], [3, 40, 43], [20, 40, 60], [3, 20, 23, 40, 43, 60, 63], [63], [12], [33], [12, 33, 45], [18], [12, 18, 30], [18, 33, 51], [12, 18, 30, 33, 45, 51, 63], [63], [3, 12, 15], [20, 33, 53], [1, 4, 5], [18, 40, 58], [2, 8, 10], [16, 32, 48], [1, 2, 3, 4, 5, 8, 10, 12, 15, 16, 18, 20, 23, 30, 32, 33, 40, 43, 45, 48, 51, 53, 58, 60, 63], [63], [48], [10], [10, 48, 58], [5], [5, 48, 53], [5, 10, 15], [5, 10, 15, 48, 53, 58, 63], [63], [3, 48, 51], [10, 20, 30], [2, 16, 18], [5, 40, 45], [1, 32, 33], [4, 8, 12], [1, 2, 3, 4, 5, 8, 10, 12, 15, 16, 18, 20, 23, 30, 32, 33, 40, 43, 45, 48, 51, 53, 58, 60, 63], [63], [12, 48, 60], [10, 33, 43], [8, 32, 40], [5, 18, 23], [4, 16, 20], [1, 2, 3], [1, 2, 3, 4, 5, 8, 10, 12, 15, 16, 18, 20, 23, 30, 32, 33, 40, 43, 45, 48, 51, 53, 58, 60, 63], [63], [3, 12, 15, 48, 51, 60, 63], [10, 20, 30, 33, 43, 53, 63], [1, 2, 3, 4, 5, 8, 10, 12, 15, 16, 18, 20, 23, 30, 32, 33, 40, 43, 45, 48, 51, 53, 58, 60, 63], [5, 18, 23, 40, 45, 58, 63], [1, 2, 3, 4, 5, 8, 10, 12, 15, 16, 18, 20, 23, 30, 32, 33, 40, 43, 45, 48, 51, 53, 58, 60, 63], [1, 2, 3, 4, 5, 8, 10, 12, 15, 16, 18, 20, 23, 30, 32, 33, 40, 43, 45, 48, 51, 53, 58, 60, 63], [1, 2, 3, 4, 5, 8, 10, 12, 15, 16, 18, 20, 23, 30, 32, 33, 40, 43, 45, 48, 51, 53, 58, 60, 63]]
def CL (m : Nat) : Nat := clTab.getD m 0
def CH (m : Nat) : Nat := chTab.getD m 0
def RC (m : Nat) : List Nat := rcTab.getD m []
def sN (m : Nat) : Nat := m % 2 + m / 2 % 2 + m / 4 % 2
def kN (m : Nat) : Nat := m / 8 % 2 + m / 16 % 2 + m / 32 % 2
def pcN (c : Nat) : Nat := c % 2 + c / 2 % 2 + c / 4 % 2 + c / 8 % 2 + c / 16 % 2 + c / 32 % 2
def ffN (a b : Nat) : Nat := match min a b with
  | 0 => 1
  | 1 => max a b
  | 2 => max a b * (max a b - 1)
  | _ => max a b * (max a b - 1) * (max a b - 2)
def f3 (m : Nat) : Nat := match min (sN m) (kN m) with
  | 0 => 6
  | 1 => 2
  | _ => 1
def moreN (o a b : Nat) : Nat := sN o + (sN a - kN a) + (sN b - kN b)
def lessN (o a b : Nat) : Nat := kN o + (kN a - sN a) + (kN b - sN b)
def check (o a b : Nat) : Bool :=
  let m := o + a + b
  let y := ffN (moreN o a b) (lessN o a b)
  let fm := f3 m
  let fab := f3 a * f3 b
  let cm := CL m
  let rm := RC m
  decide (moreN o a b ≤ 3) && decide (lessN o a b ≤ 3) && (RC a).all fun c1 => (RC b).all fun c2 => let c := cm &&& (c1 &&& c2); rm.contains c && (pcN c * fab == y * (pcN c1 * pcN c2) * fm) && decide (c < 64) && !(c == 0)
def chkAll : Nat → Nat → Nat → Nat → Bool
  | 0, o, a, b => check o a b
  | i + 1, o, a, b => chkAll i o a b && (chkAll i (o + 2 ^ i) a b && (chkAll i o (a + 2 ^ i) b && chkAll i o a (b + 2 ^ i)))
theorem chk_step (i o a b : Nat) (h0 : chkAll i o a b = true) (h1 : chkAll i (o + 2 ^ i) a b = true) (h2 : chkAll i o (a + 2 ^ i) b = true) (h3 : chkAll i o a (b + 2 ^ i) = true) : chkAll (i + 1) o a b = true := by
  show (chkAll i o a b && (chkAll i (o + 2 ^ i) a b && (chkAll i o (a + 2 ^ i) b && chkAll i o a (b + 2 ^ i)))) = true
  rw [h0, h1, h2, h3]; rfl
theorem chk_00 : chkAll 4 0 0 0 = true := by decide +kernel
theorem chk_01 : chkAll 4 16 0 0 = true := by decide +kernel
theorem chk_02 : chkAll 4 0 16 0 = true := by decide +kernel
theorem chk_03 : chkAll 4 0 0 16 = true := by decide +kernel
theorem chk_10 : chkAll 4 32 0 0 = true := by decide +kernel
theorem chk_11 : chkAll 4 48 0 0 = true := by decide +kernel
theorem chk_12 : chkAll 4 32 16 0 = true := by decide +kernel
theorem chk_13 : chkAll 4 32 0 16 = true := by decide +kernel
theorem chk_20 : chkAll 4 0 32 0 = true := by decide +kernel
theorem chk_21 : chkAll 4 16 32 0 = true := by decide +kernel
theorem chk_22 : chkAll 4 0 48 0 = true := by decide +kernel
theorem chk_23 : chkAll 4 0 32 16 = true := by decide +kernel
theorem chk_30 : chkAll 4 0 0 32 = true := by decide +kernel
theorem chk_31 : chkAll 4 16 0 32 = true := by decide +kernel
theorem chk_32 : chkAll 4 0 16 32 = true := by decide +kernel
theorem chk_33 : chkAll 4 0 0 48 = true := by decide +kernel
theorem chk_ok : chkAll 6 0 0 0 = true := chk_step 5 0 0 0 (chk_step 4 0 0 0 chk_00 chk_01 chk_02 chk_03) (chk_step 4 32 0 0 chk_10 chk_11 chk_12 chk_13) (chk_step 4 0 32 0 chk_20 chk_21 chk_22 chk_23) (chk_step 4 0 0 32 chk_30 chk_31 chk_32 chk_33)
end Mine
-- part Pl5
open PySem
set_option Elab.async false
set_option linter.unusedVariables false
set_option linter.unusedSimpArgs false
set_option maxRecDepth 100000
namespace Mine
theorem sumW_congr {f g : Nat → Bool} : ∀ n, (∀ i, i < n → f i = g i) → sumW n f = sumW n g
  | 0, _ => rfl
  | n + 1, h => by
    show sumW n f + _ = sumW n g + _
    rw [sumW_congr n fun i hi => h i (by lia), h n (by lia)]
theorem sumW_split (x : Nat → Nat) (hx : ∀ i, x i < 4) : ∀ n, sumW n (fun i => x i != 0) = sumW n (fun i => x i == 3) + sumW n (fun i => x i == 1) + sumW n (fun i => x i == 2)
  | 0 => rfl
  | n + 1 => by
    have ih := sumW_split x hx n
    show sumW n _ + 2 ^ n * (x n != 0).toNat = (sumW n _ + 2 ^ n * (x n == 3).toNat) + (sumW n _ + 2 ^ n * (x n == 1).toNat) + (sumW n _ + 2 ^ n * (x n == 2).toNat)
    rw [ih]
    have h := hx n
    generalize 2 ^ n = z
    generalize x n = v at h
    match v, h with
    | 0, _ => show _ + z * 0 = (_ + z * 0) + (_ + z * 0) + (_ + z * 0); lia
    | 1, _ => show _ + z * 1 = (_ + z * 0) + (_ + z * 1) + (_ + z * 0); lia
    | 2, _ => show _ + z * 1 = (_ + z * 0) + (_ + z * 0) + (_ + z * 1); lia
    | 3, _ => show _ + z * 1 = (_ + z * 1) + (_ + z * 0) + (_ + z * 0); lia
theorem chk_spec (x : Nat → Nat) (hx : ∀ i, x i < 4) : ∀ (n o a b : Nat), chkAll n o a b = true → check (o + sumW n (fun i => x i == 3)) (a + sumW n (fun i => x i == 1)) (b + sumW n (fun i => x i == 2)) = true
  | 0, o, a, b, h => h
  | n + 1, o, a, b, h => by
    have h' : (chkAll n o a b && (chkAll n (o + 2 ^ n) a b && (chkAll n o (a + 2 ^ n) b && chkAll n o a (b + 2 ^ n)))) = true := h
    simp only [Bool.and_eq_true] at h'
    obtain ⟨h0, h1, h2, h3⟩ := h'
    show check (o + (sumW n _ + 2 ^ n * (x n == 3).toNat)) (a + (sumW n _ + 2 ^ n * (x n == 1).toNat)) (b + (sumW n _ + 2 ^ n * (x n == 2).toNat)) = true
    have hn := hx n
    generalize x n = v at hn
    match v, hn with
    | 0, _ =>
      show check (o + (sumW n _ + 2 ^ n * 0)) (a + (sumW n _ + 2 ^ n * 0)) (b + (sumW n _ + 2 ^ n * 0)) = true
      simp only [Nat.mul_zero, Nat.add_zero]
      exact chk_spec x hx n o a b h0
    | 3, _ =>
      show check (o + (sumW n _ + 2 ^ n * 1)) (a + (sumW n _ + 2 ^ n * 0)) (b + (sumW n _ + 2 ^ n * 0)) = true
      simp only [Nat.mul_zero, Nat.add_zero, Nat.mul_one]
      have := chk_spec x hx n (o + 2 ^ n) a b h1
      rw [show o + 2 ^ n + sumW n (fun i => x i == 3) = o + (sumW n (fun i => x i == 3) + 2 ^ n) by lia] at this
      exact this
    | 1, _ =>
      show check (o + (sumW n _ + 2 ^ n * 0)) (a + (sumW n _ + 2 ^ n * 1)) (b + (sumW n _ + 2 ^ n * 0)) = true
      simp only [Nat.mul_zero, Nat.add_zero, Nat.mul_one]
      have := chk_spec x hx n o (a + 2 ^ n) b h2
      rw [show a + 2 ^ n + sumW n (fun i => x i == 1) = a + (sumW n (fun i => x i == 1) + 2 ^ n) by lia] at this
      exact this
    | 2, _ =>
      show check (o + (sumW n _ + 2 ^ n * 0)) (a + (sumW n _ + 2 ^ n * 0)) (b + (sumW n _ + 2 ^ n * 1)) = true
      simp only [Nat.mul_zero, Nat.add_zero, Nat.mul_one]
      have := chk_spec x hx n o a (b + 2 ^ n) h3
      rw [show b + 2 ^ n + sumW n (fun i => x i == 2) = b + (sumW n (fun i => x i == 2) + 2 ^ n) by lia] at this
      exact this
/-! masks of places -/
def nodes : List (List Int) := [] :: allPaths
abbrev mP (paths : List (List Int)) (t : List Int) : Nat := sumW 6 fun i => bitP paths i t
abbrev oP (paths : List (List Int)) (t : List Int) : Nat := sumW 6 fun i => paths.getD i [] == t
def slot (p t : List Int) : Nat := if p.take (t.length + 1) == t ++ [0] then 1 else if p.take (t.length + 1) == t ++ [1] then 2 else if p == t then 3 else 0
theorem slot_lt (p t : List Int) : slot p t < 4 := by unfold slot; repeat (first | split | lia)
theorem slot_all : ∀ p ∈ allPaths, ∀ t ∈ nodes, (p.take t.length == t) = (slot p t != 0) ∧ (p.take (t ++ [0]).length == t ++ [0]) = (slot p t == 1) ∧ (p.take (t ++ [1]).length == t ++ [1]) = (slot p t == 2) ∧ (p == t) = (slot p t == 3) := by decide +kernel
section
variable {paths : List (List Int)} (h6 : paths.length = 6) (hP : ∀ p ∈ paths, p ∈ allPaths)
include h6 hP
theorem path_mem {i : Nat} (hi : i < 6) : paths.getD i [] ∈ allPaths := by
  rw [List.getD_eq_getElem?_getD, List.getElem?_eq_getElem (show i < paths.length by lia)]
  exact hP _ (List.getElem_mem _)
theorem masks {t : List Int} (ht : t ∈ nodes) : mP paths t = oP paths t + mP paths (t ++ [0]) + mP paths (t ++ [1]) ∧ check (oP paths t) (mP paths (t ++ [0])) (mP paths (t ++ [1])) = true := by
  have e0 : mP paths t = sumW 6 fun i => slot (paths.getD i []) t != 0 := sumW_congr 6 fun i hi => (slot_all _ (path_mem h6 hP hi) t ht).1
  have e1 : mP paths (t ++ [0]) = sumW 6 fun i => slot (paths.getD i []) t == 1 := sumW_congr 6 fun i hi => (slot_all _ (path_mem h6 hP hi) t ht).2.1
  have e2 : mP paths (t ++ [1]) = sumW 6 fun i => slot (paths.getD i []) t == 2 := sumW_congr 6 fun i hi => (slot_all _ (path_mem h6 hP hi) t ht).2.2.1
  have e3 : oP paths t = sumW 6 fun i => slot (paths.getD i []) t == 3 := sumW_congr 6 fun i hi => (slot_all _ (path_mem h6 hP hi) t ht).2.2.2
  rw [e0, e1, e2, e3]
  refine ⟨sumW_split _ (fun i => slot_lt _ _) 6, ?_⟩
  have := chk_spec (fun i => slot (paths.getD i []) t) (fun i => slot_lt _ _) 6 0 0 0 chk_ok
  simpa only [Nat.zero_add] using this
theorem deep_mask {t : List Int} (ht : 3 < t.length) : mP paths t = 0 := by
  have : mP paths t = sumW 6 fun _ => false := sumW_congr 6 fun i hi => by
    have hl := (len_of (path_mem h6 hP hi)).2
    unfold bitP
    rw [beq_eq_false_iff_ne]
    intro e
    have := congrArg List.length e
    rw [List.length_take] at this
    lia
  rw [this]; rfl
end
theorem node_in : ∀ (t : List Int), t.length ≤ 3 → (∀ a ∈ t, a = 0 ∨ a = 1) → t ∈ nodes
  | [], _, _ => by decide
  | [a], _, h => by
    rcases h a (by simp) with rfl | rfl <;> decide
  | [a, b], _, h => by
    rcases h a (by simp) with rfl | rfl <;> rcases h b (by simp) with rfl | rfl <;> decide
  | [a, b, c], _, h => by
    rcases h a (by simp) with rfl | rfl <;> rcases h b (by simp) with rfl | rfl <;> rcases h c (by simp) with rfl | rfl <;> decide
  | _ :: _ :: _ :: _ :: _, hl, _ => by simp at hl
/-! the tree -/
def Cn (paths : List (List Int)) : Nat → List Int → Nat
  | 0, _ => 63
  | d + 1, t => CL (mP paths t) &&& (Cn paths d (t ++ [0]) &&& Cn paths d (t ++ [1]))
def wy (paths : List (List Int)) (t : List Int) : Nat := ffN (moreN (oP paths t) (mP paths (t ++ [0])) (mP paths (t ++ [1]))) (lessN (oP paths t) (mP paths (t ++ [0])) (mP paths (t ++ [1])))
def Wn (paths : List (List Int)) : Nat → List Int → Nat
  | 0, _ => 1
  | d + 1, t => wy paths t * (Wn paths d (t ++ [0]) * Wn paths d (t ++ [1]))
theorem f3_pos (m : Nat) : 0 < f3 m := by unfold f3; split <;> decide
theorem node_ok {paths : List (List Int)} (h6 : paths.length = 6) (hP : ∀ p ∈ paths, p ∈ allPaths) : ∀ (d : Nat) (t : List Int), t.length + d = 4 → (∀ a ∈ t, a = 0 ∨ a = 1) →
    Cn paths d t ∈ RC (mP paths t) ∧ pcN (Cn paths d t) = Wn paths d t * f3 (mP paths t) ∧ Cn paths d t < 64 ∧ Cn paths d t ≠ 0
  | 0, t, hl, _ => by
    rw [deep_mask h6 hP (t := t) (by lia)]
    show 63 ∈ RC 0 ∧ pcN 63 = 1 * f3 0 ∧ 63 < 64 ∧ 63 ≠ 0
    decide
  | d + 1, t, hl, hb => by
    have b0 : ∀ a ∈ t ++ [(0 : Int)], a = 0 ∨ a = 1 := by
      intro a ha
      rcases List.mem_append.mp ha with q | q
      · exact hb a q
      · exact .inl (List.mem_singleton.mp q)
    have b1 : ∀ a ∈ t ++ [(1 : Int)], a = 0 ∨ a = 1 := by
      intro a ha
      rcases List.mem_append.mp ha with q | q
      · exact hb a q
      · exact .inr (List.mem_singleton.mp q)
    obtain ⟨x1, x2, x3, x4⟩ := node_ok h6 hP d (t ++ [0]) (by simp; lia) b0
    obtain ⟨y1, y2, y3, y4⟩ := node_ok h6 hP d (t ++ [1]) (by simp; lia) b1
    obtain ⟨em, hc⟩ := masks h6 hP (node_in t (by lia) hb)
    unfold check at hc
    simp only [Bool.and_eq_true, List.all_eq_true] at hc
    have hc' := hc.2 _ x1 _ y1
    rw [← em] at hc'
    simp only [Bool.and_eq_true, decide_eq_true_eq, Bool.not_eq_true', beq_eq_false_iff_ne, beq_iff_eq] at hc'
    obtain ⟨⟨⟨z1, z2⟩, z3⟩, z4⟩ := hc'
    show (CL (mP paths t) &&& (Cn paths d (t ++ [0]) &&& Cn paths d (t ++ [1]))) ∈ _ ∧ pcN (CL (mP paths t) &&& (Cn paths d (t ++ [0]) &&& Cn paths d (t ++ [1]))) = (wy paths t * (Wn paths d (t ++ [0]) * Wn paths d (t ++ [1]))) * f3 (mP paths t) ∧ (CL (mP paths t) &&& (Cn paths d (t ++ [0]) &&& Cn paths d (t ++ [1]))) < 64 ∧ (CL (mP paths t) &&& (Cn paths d (t ++ [0]) &&& Cn paths d (t ++ [1]))) ≠ 0
    refine ⟨by simpa using z1, ?_, z3, z4⟩
    rw [x2, y2] at z2
    have p0 := f3_pos (mP paths (t ++ [0]))
    have p1 := f3_pos (mP paths (t ++ [1]))
    refine Nat.eq_of_mul_eq_mul_right (Nat.mul_pos p0 p1) (z2.trans ?_)
    show wy paths t * _ * _ = _
    simp only [Nat.mul_assoc, Nat.mul_comm, Nat.mul_left_comm]
theorem more_le {paths : List (List Int)} (h6 : paths.length = 6) (hP : ∀ p ∈ paths, p ∈ allPaths) {t : List Int} (ht : t ∈ nodes) : moreN (oP paths t) (mP paths (t ++ [0])) (mP paths (t ++ [1])) ≤ 3 ∧ lessN (oP paths t) (mP paths (t ++ [0])) (mP paths (t ++ [1])) ≤ 3 := by
  obtain ⟨_, hc⟩ := masks h6 hP ht
  unfold check at hc
  simp only [Bool.and_eq_true, decide_eq_true_eq] at hc
  exact hc.1
theorem root_mask (paths : List (List Int)) : mP paths [] = 63 := by
  have : mP paths [] = sumW 6 fun _ => true := sumW_congr 6 fun i hi => by unfold bitP; simp
  rw [this]; rfl
theorem root_ok {paths : List (List Int)} (h6 : paths.length = 6) (hP : ∀ p ∈ paths, p ∈ allPaths) : pcN (Cn paths 4 []) = Wn paths 4 [] ∧ Cn paths 4 [] < 64 ∧ Cn paths 4 [] ≠ 0 := by
  obtain ⟨_, h2, h3, h4⟩ := node_ok h6 hP 4 [] rfl (fun a ha => nomatch ha)
  rw [root_mask] at h2
  exact ⟨by rw [h2]; show _ * 1 = _; lia, h3, h4⟩
/-! the nodes below -/
def subs : Nat → List Int → List (List Int)
  | 0, _ => []
  | d + 1, t => t :: (subs d (t ++ [0]) ++ subs d (t ++ [1]))
theorem Cn_bit (paths : List (List Int)) {i : Nat} (hi : i < 6) : ∀ d t, (Cn paths d t).testBit i = (subs d t).all fun q => (CL (mP paths q)).testBit i
  | 0, t => by
    show Nat.testBit 63 i = true
    match i, hi with
    | 0, _ => rfl
    | 1, _ => rfl
    | 2, _ => rfl
    | 3, _ => rfl
    | 4, _ => rfl
    | 5, _ => rfl
  | d + 1, t => by
    show Nat.testBit (_ &&& (_ &&& _)) i = _
    rw [Nat.testBit_and, Nat.testBit_and, Cn_bit paths hi d, Cn_bit paths hi d]
    show _ = (t :: (subs d (t ++ [0]) ++ subs d (t ++ [1]))).all fun q => (CL (mP paths q)).testBit i
    rw [List.all_cons, List.all_append]
def prodN (f : List Int → Nat) (l : List (List Int)) : Nat := l.foldr (fun q y => f q * y) 1
theorem prodN_append (f : List Int → Nat) : ∀ a b, prodN f (a ++ b) = prodN f a * prodN f b
  | [], b => by show prodN f b = 1 * _; lia
  | q :: a, b => by
    show f q * prodN f (a ++ b) = (f q * prodN f a) * prodN f b
    rw [prodN_append f a b, Nat.mul_assoc]
theorem Wn_prod (paths : List (List Int)) : ∀ d t, Wn paths d t = prodN (wy paths) (subs d t)
  | 0, t => rfl
  | d + 1, t => by
    show wy paths t * (_ * _) = wy paths t * prodN (wy paths) (_ ++ _)
    rw [prodN_append, Wn_prod paths d, Wn_prod paths d]
theorem prodN_perm (f : List Int → Nat) {a b : List (List Int)} (h : a.Perm b) : prodN f a = prodN f b := by
  induction h with
  | nil => rfl
  | cons x _ ih => show f x * prodN f _ = f x * prodN f _; rw [ih]
  | swap x y l => show f y * (f x * _) = f x * (f y * _); exact Nat.mul_left_comm _ _ _
  | trans _ _ i1 i2 => rw [i1, i2]
theorem subs_nodes : (subs 4 []).Perm nodes := (List.perm_ext_iff_of_nodup (by decide +kernel) (by decide +kernel)).mpr (by
  intro a
  have h1 : ∀ a ∈ subs 4 [], a ∈ nodes := by decide +kernel
  have h2 : ∀ a ∈ nodes, a ∈ subs 4 [] := by decide +kernel
  exact ⟨h1 a, h2 a⟩)
theorem perm_sub {l1 l2 : List (List Int)} (h1 : l1.Nodup) (h2 : l2.Nodup) (hs : ∀ a ∈ l1, a ∈ l2) : l2.Perm (l1 ++ l2.filter fun a => !l1.contains a) := by
  refine (List.perm_ext_iff_of_nodup h2 ?_).mpr fun a => ?_
  · rw [List.nodup_append]
    refine ⟨h1, h2.filter _, ?_⟩
    intro a ha b hb e
    subst e
    have := (List.mem_filter.mp hb).2
    rw [List.contains_iff_mem.mpr ha] at this
    cases this
  · rw [List.mem_append, List.mem_filter]
    constructor
    · intro h
      by_cases q : a ∈ l1
      · exact .inl q
      · exact .inr ⟨h, by rw [Bool.not_eq_true', ← Bool.not_eq_true, List.contains_iff_mem]; exact q⟩
    · rintro (q | q)
      · exact hs a q
      · exact q.1
theorem prodN_one (f : List Int → Nat) : ∀ l : List (List Int), (∀ q ∈ l, f q = 1) → prodN f l = 1
  | [], _ => rfl
  | q :: l, h => by
    show f q * prodN f l = 1
    rw [h q List.mem_cons_self, prodN_one f l fun x hx => h x (List.mem_cons_of_mem _ hx)]
theorem prodN_sub (f : List Int → Nat) {l1 l2 : List (List Int)} (h1 : l1.Nodup) (h2 : l2.Nodup) (hs : ∀ a ∈ l1, a ∈ l2) (ho : ∀ q ∈ l2, q ∉ l1 → f q = 1) : prodN f l2 = prodN f l1 := by
  rw [prodN_perm f (perm_sub h1 h2 hs), prodN_append, prodN_one f (l2.filter _) (fun q hq => ?_), Nat.mul_one]
  obtain ⟨a, b⟩ := List.mem_filter.mp hq
  exact ho q a fun m => by rw [List.contains_iff_mem.mpr m] at b; cases b
theorem sum_perm (f : List Int → Int) {a b : List (List Int)} (h : a.Perm b) : (a.map f).sum = (b.map f).sum := by
  induction h with
  | nil => rfl
  | cons x _ ih => rw [List.map_cons, List.map_cons, List.sum_cons, List.sum_cons, ih]
  | swap x y l => simp only [List.map_cons, List.sum_cons]; lia
  | trans _ _ i1 i2 => rw [i1, i2]
theorem sum_zero (f : List Int → Int) : ∀ l : List (List Int), (∀ q ∈ l, f q = 0) → (l.map f).sum = 0
  | [], _ => rfl
  | q :: l, h => by
    rw [List.map_cons, List.sum_cons, h q List.mem_cons_self, sum_zero f l fun x hx => h x (List.mem_cons_of_mem _ hx)]; rfl
theorem sum_sub (f : List Int → Int) {l1 l2 : List (List Int)} (h1 : l1.Nodup) (h2 : l2.Nodup) (hs : ∀ a ∈ l1, a ∈ l2) (ho : ∀ q ∈ l2, q ∉ l1 → f q = 0) : (l2.map f).sum = (l1.map f).sum := by
  rw [sum_perm f (perm_sub h1 h2 hs), List.map_append, List.sum_append, sum_zero f (l2.filter _) (fun q hq => ?_)]
  · lia
  · obtain ⟨a, b⟩ := List.mem_filter.mp hq
    exact ho q a fun m => by rw [List.contains_iff_mem.mpr m] at b; cases b
end Mine
-- part Pl6
open PySem
set_option Elab.async false
set_option linter.unusedVariables false
set_option linter.unusedSimpArgs false
set_option maxRecDepth 100000
namespace Mine
def lowP (paths : List (List Int)) (q : List Int) : Int := if sndP paths q - tknP paths q < 0 then -(sndP paths q - tknP paths q) else sndP paths q - tknP paths q
def highP (paths : List (List Int)) (q : List Int) : Int := if 6 - sndP paths q - tknP paths q < sndP paths q + tknP paths q then 6 - sndP paths q - tknP paths q else sndP paths q + tknP paths q
def pAt (i : Nat) : Int × Int × Int := T6.getD i (0, 0, 0)
theorem T6_range : T6 = (List.range 6).map pAt := by decide
/-! over the six truths -/
def W6 (a b c d e f : Bool) : Nat := 0 + 2 ^ 0 * a.toNat + 2 ^ 1 * b.toNat + 2 ^ 2 * c.toNat + 2 ^ 3 * d.toNat + 2 ^ 4 * e.toNat + 2 ^ 5 * f.toNat
theorem sumW6 (f : Nat → Bool) : sumW 6 f = W6 (f 0) (f 1) (f 2) (f 3) (f 4) (f 5) := rfl
def sI (a b c : Bool) : Int := b2 a + b2 b + b2 c
def xI (a b c : Bool) (d e f : Bool) : Nat → Int
  | 0 => b2 (a != d) + b2 (b != e) + b2 (c != f)
  | 1 => b2 (a != d) + b2 (b != f) + b2 (c != e)
  | 2 => b2 (a != e) + b2 (b != d) + b2 (c != f)
  | 3 => b2 (a != e) + b2 (b != f) + b2 (c != d)
  | 4 => b2 (a != f) + b2 (b != d) + b2 (c != e)
  | _ => b2 (a != f) + b2 (b != e) + b2 (c != d)
def loI (s t : Int) : Int := if s - t < 0 then -(s - t) else s - t
def hiI (s t : Int) : Int := if 6 - s - t < s + t then 6 - s - t else s + t
theorem cross_xI (paths : List (List Int)) (q : List Int) : ∀ i, i < 6 → crossP paths (pAt i) q = xI (bitP paths 0 q) (bitP paths 1 q) (bitP paths 2 q) (bitP paths 3 q) (bitP paths 4 q) (bitP paths 5 q) i
  | 0, _ => rfl
  | 1, _ => rfl
  | 2, _ => rfl
  | 3, _ => rfl
  | 4, _ => rfl
  | 5, _ => rfl
theorem six : ∀ a b c d e f : Bool, ∀ i, i < 6 → (CL (W6 a b c d e f)).testBit i = (xI a b c d e f i == loI (sI a b c) (sI d e f)) ∧ (CH (W6 a b c d e f)).testBit i = (xI a b c d e f i == hiI (sI a b c) (sI d e f)) ∧ loI (sI a b c) (sI d e f) ≤ xI a b c d e f i ∧ xI a b c d e f i ≤ hiI (sI a b c) (sI d e f) ∧ 0 ≤ xI a b c d e f i ∧ xI a b c d e f i ≤ 3 := by decide +kernel
theorem six2 : ∀ a b c d e f : Bool, ((sN (W6 a b c d e f) : Nat) : Int) = sI a b c ∧ ((kN (W6 a b c d e f) : Nat) : Int) = sI d e f := by decide +kernel
theorem cl_bit (paths : List (List Int)) (q : List Int) {i : Nat} (hi : i < 6) : (CL (mP paths q)).testBit i = (crossP paths (pAt i) q == lowP paths q) := by
  rw [cross_xI paths q i hi]
  exact (six _ _ _ _ _ _ i hi).1
theorem ch_bit (paths : List (List Int)) (q : List Int) {i : Nat} (hi : i < 6) : (CH (mP paths q)).testBit i = (crossP paths (pAt i) q == highP paths q) := by
  rw [cross_xI paths q i hi]
  exact (six _ _ _ _ _ _ i hi).2.1
theorem cross_rg (paths : List (List Int)) (q : List Int) {p : Int × Int × Int} (hp : p ∈ T6) : lowP paths q ≤ crossP paths p q ∧ crossP paths p q ≤ highP paths q ∧ 0 ≤ crossP paths p q ∧ crossP paths p q ≤ 3 := by
  rw [T6_range] at hp
  obtain ⟨i, hi, rfl⟩ := List.mem_map.mp hp
  have hi' := List.mem_range.mp hi
  rw [cross_xI paths q i hi']
  exact (six _ _ _ _ _ _ i hi').2.2
theorem sN_eq (paths : List (List Int)) (q : List Int) : ((sN (mP paths q) : Nat) : Int) = sndP paths q ∧ ((kN (mP paths q) : Nat) : Int) = tknP paths q := six2 _ _ _ _ _ _
theorem own_eq {paths : List (List Int)} (h6 : paths.length = 6) (t : List Int) : (((paths.take 3).countP (· == t) : Nat) : Int) = ((sN (oP paths t) : Nat) : Int) ∧ (((paths.drop 3).countP (· == t) : Nat) : Int) = ((kN (oP paths t) : Nat) : Int) := by
  match paths, h6 with
  | [p0, p1, p2, p3, p4, p5], _ =>
    have := six2 (p0 == t) (p1 == t) (p2 == t) (p3 == t) (p4 == t) (p5 == t)
    have e : oP [p0, p1, p2, p3, p4, p5] t = W6 (p0 == t) (p1 == t) (p2 == t) (p3 == t) (p4 == t) (p5 == t) := rfl
    rw [e, this.1, this.2]
    have cnt : ∀ x y z : List Int, (((([x, y, z] : List (List Int)).countP (· == t)) : Nat) : Int) = sI (x == t) (y == t) (z == t) := by
      intro x y z
      simp only [List.countP_cons, List.countP_nil]
      unfold sI b2 PyProof.Rows.b2i
      cases x == t <;> cases y == t <;> cases z == t <;> rfl
    exact ⟨cnt p0 p1 p2, cnt p3 p4 p5⟩
/-! which places are there -/
theorem addP_mem (acc : List (List Int)) (q x : List Int) : x ∈ addP acc q ↔ x ∈ acc ∨ x = q := by
  unfold addP
  split
  · rename_i h
    constructor
    · exact .inl
    · rintro (h1 | h1)
      · exact h1
      · rw [h1]; exact List.contains_iff_mem.mp h
  · simp
theorem addP_fold_mem (x : List Int) : ∀ (l acc : List (List Int)), x ∈ l.foldl addP acc ↔ x ∈ acc ∨ x ∈ l
  | [], acc => by simp
  | q :: l, acc => by
    rw [List.foldl_cons, addP_fold_mem x l, addP_mem, List.mem_cons, or_assoc]
theorem placesAt_mem {paths : List (List Int)} {x p : List Int} : ∀ {i j : Nat}, paths[j]? = some p → j < i → x ∈ prefs p → x ∈ placesAt paths i
  | 0, _, _, h, _ => absurd h (by lia)
  | i + 1, j, hj, h, hx => by
    cases hi : paths[i]? with
    | none =>
      have : placesAt paths (i + 1) = placesAt paths i := by
        unfold placesAt; rw [List.take_add_one, hi]; simp
      rw [this]
      by_cases e : j = i
      · subst e; rw [hj] at hi; cases hi
      · exact placesAt_mem hj (by lia) hx
    | some p' =>
      rw [placesAt_succ hi, addP_fold_mem]
      by_cases e : j = i
      · subst e; rw [hj] at hi; cases hi; exact .inr hx
      · exact .inl (placesAt_mem hj (by lia) hx)
theorem prefs_all : ∀ p ∈ allPaths, ∀ q ∈ allPaths, (p.take q.length == q) = true → q ∈ prefs p := by decide +kernel
structure Conf (paths places : List (List Int)) : Prop where
  h6 : paths.length = 6
  hP : ∀ p ∈ paths, p ∈ allPaths
  nd : places.Nodup
  inn : ∀ q ∈ places, q ∈ allPaths
  out : ∀ q ∈ allPaths, q ∉ places → ∀ i, i < 6 → bitP paths i q = false
  ne : 0 < places.length
theorem conf_of {paths : List (List Int)} (h6 : paths.length = 6) (hP : ∀ p ∈ paths, p ∈ allPaths) : Conf paths (placesAt paths 6) where
  h6 := h6
  hP := hP
  nd := placesAt_nodup 6
  inn := placesAt_in hP 6
  out := by
    intro q hq hn i hi
    rw [← Bool.not_eq_true]
    intro e
    have hpi := path_mem h6 hP hi
    refine hn (placesAt_mem (j := i) (p := paths.getD i []) ?_ hi (prefs_all _ hpi q hq e))
    rw [List.getD_eq_getElem?_getD, List.getElem?_eq_getElem (show i < paths.length by lia)]; rfl
  ne := by
    have hpi := path_mem h6 hP (show 0 < 6 by decide)
    cases hr : prefs (paths.getD 0 []) with
    | nil => exact absurd hr (prefs_len _ hpi).2
    | cons x l =>
      refine List.length_pos_of_mem (placesAt_mem (i := 6) (j := 0) (p := paths.getD 0 []) ?_ (by decide) (x := x) (by rw [hr]; exact List.mem_cons_self))
      rw [List.getD_eq_getElem?_getD, List.getElem?_eq_getElem (show 0 < paths.length by lia)]; rfl
section
variable {paths places : List (List Int)} (K : Conf paths places)
include K
theorem Conf.mask0 {q : List Int} (hq : q ∈ allPaths) (hn : q ∉ places) : mP paths q = 0 := by
  have : mP paths q = sumW 6 fun _ => false := sumW_congr 6 fun i hi => K.out q hq hn i hi
  rw [this]; rfl
theorem Conf.zero {q : List Int} (hq : q ∈ allPaths) (hn : q ∉ places) : sndP paths q = 0 ∧ tknP paths q = 0 := by
  have h := sN_eq paths q
  rw [K.mask0 hq hn] at h
  exact ⟨h.1.symm, h.2.symm⟩
theorem Conf.deep {q : List Int} (hq : 3 < q.length) : sndP paths q = 0 ∧ tknP paths q = 0 := by
  have h := sN_eq paths q
  rw [deep_mask K.h6 K.hP hq] at h
  exact ⟨h.1.symm, h.2.symm⟩
end
theorem kids_filter : ∀ p ∈ nodes, (allPaths.filter fun q => q.dropLast == p) = if p.length < 3 then [p ++ [0], p ++ [1]] else [] := by decide +kernel
theorem sum_ite (c : List Int → Bool) (h : List Int → Int) : ∀ l : List (List Int), (l.map fun q => if c q then h q else 0).sum = ((l.filter c).map h).sum
  | [] => rfl
  | q :: l => by
    rw [List.map_cons, List.sum_cons, sum_ite c h l, List.filter_cons]
    cases c q with
    | true => rw [if_pos rfl, if_pos rfl, List.map_cons, List.sum_cons]
    | false => rw [if_neg Bool.false_ne_true, if_neg Bool.false_ne_true, Int.zero_add]
theorem long_kid {p : List Int} (h : ¬ p.length < 3) (a : Int) : 3 < (p ++ [a]).length := by
  rw [List.length_append]
  exact Nat.succ_lt_succ (Nat.lt_of_lt_of_le (Nat.lt_succ_self 2) (Nat.le_of_not_lt h))
theorem kids_sum (h : List Int → Int) (hz : ∀ q : List Int, 3 < q.length → h q = 0) : ∀ p ∈ nodes, (allPaths.map fun q => if q.dropLast == p then h q else 0).sum = h (p ++ [0]) + h (p ++ [1]) := by
  intro p hp
  rw [sum_ite (fun q => q.dropLast == p), kids_filter p hp]
  by_cases hl : p.length < 3
  · rw [if_pos hl]
    show h _ + (h _ + 0) = _
    rw [Int.add_zero]
  · rw [if_neg hl, hz _ (long_kid hl 0), hz _ (long_kid hl 1)]; rfl
/-! more and less -/
section
variable {paths places : List (List Int)} (K : Conf paths places)
def upI (paths : List (List Int)) (q : List Int) : Int := if sndP paths q > tknP paths q then sndP paths q - tknP paths q else 0
def dnI (paths : List (List Int)) (q : List Int) : Int := if sndP paths q > tknP paths q then 0 else tknP paths q - sndP paths q
abbrev sG (paths places : List (List Int)) : List Int := places.map (sndP paths)
abbrev tG (paths places : List (List Int)) : List Int := places.map (tknP paths)
theorem getD_map_lt {α : Type} (f : List Int → Int) {l : List (List Int)} {j : Nat} (h : j < l.length) : (l.map f).getD j 0 = f (l.getD j []) := by
  rw [List.getD_eq_getElem?_getD, List.getElem?_map, List.getD_eq_getElem?_getD, List.getElem?_eq_getElem h]; rfl
theorem mlAt_sum (paths places : List (List Int)) (p : List Int) : ∀ n, n ≤ places.length → mlAt paths places (sG paths places) (tG paths places) p n =
    ((((paths.take 3).countP (· == p) : Nat) : Int) + ((List.range n).map fun j => if (places.getD j []).dropLast == p then upI paths (places.getD j []) else 0).sum, (((paths.drop 3).countP (· == p) : Nat) : Int) + ((List.range n).map fun j => if (places.getD j []).dropLast == p then dnI paths (places.getD j []) else 0).sum)
  | 0, _ => by unfold mlAt; simp
  | n + 1, h => by
    have ih := mlAt_sum paths places p n (by lia)
    rw [mlAt_succ, ih, sum_range_succ, sum_range_succ]
    unfold mlStep
    rw [getD_map_lt (α := Unit) _ (show n < places.length by lia), getD_map_lt (α := Unit) _ (show n < places.length by lia)]
    by_cases hd : ((places.getD n []).dropLast == p) = true
    · rw [if_pos hd, if_pos hd, if_pos hd]
      unfold upI dnI
      by_cases hc : sndP paths (places.getD n []) > tknP paths (places.getD n [])
      · rw [if_pos hc, if_pos hc, if_pos hc]
        refine Prod.ext ?_ ?_ <;> dsimp only <;> lia
      · rw [if_neg hc, if_neg hc, if_neg hc]
        refine Prod.ext ?_ ?_ <;> dsimp only <;> lia
    · rw [if_neg hd, if_neg hd, if_neg hd]
      refine Prod.ext ?_ ?_ <;> dsimp only <;> lia
include K
theorem Conf.kids (h : List Int → Int) (h0 : ∀ q, sndP paths q = 0 ∧ tknP paths q = 0 → h q = 0) {p : List Int} (hp : p ∈ nodes) :
    ((List.range places.length).map fun j => if (places.getD j []).dropLast == p then h (places.getD j []) else 0).sum = h (p ++ [0]) + h (p ++ [1]) := by
  rw [range_map places _ (fun q => if q.dropLast == p then h q else 0) [] fun j _ => rfl]
  rw [← sum_sub (fun q => if q.dropLast == p then h q else 0) K.nd (by decide +kernel) K.inn (fun q hq hn => by rw [h0 q (K.zero hq hn)]; simp)]
  exact kids_sum h (fun q hq => h0 q (K.deep hq)) p hp
theorem Conf.ml {p : List Int} (hp : p ∈ nodes) : mlAt paths places (sG paths places) (tG paths places) p places.length =
    (((moreN (oP paths p) (mP paths (p ++ [0])) (mP paths (p ++ [1])) : Nat) : Int), ((lessN (oP paths p) (mP paths (p ++ [0])) (mP paths (p ++ [1])) : Nat) : Int)) := by
  rw [mlAt_sum paths places p _ (Nat.le_refl _), K.kids (upI paths) (fun q h => by unfold upI; rw [h.1, h.2]; rfl) hp, K.kids (dnI paths) (fun q h => by unfold dnI; rw [h.1, h.2]; rfl) hp]
  obtain ⟨o1, o2⟩ := own_eq K.h6 p
  obtain ⟨a1, a2⟩ := sN_eq paths (p ++ [0])
  obtain ⟨b1, b2⟩ := sN_eq paths (p ++ [1])
  rw [o1, o2]
  unfold upI dnI moreN lessN
  rw [← a1, ← a2, ← b1, ← b2]
  refine Prod.ext ?_ ?_
  · dsimp only
    split <;> split <;> lia
  · dsimp only
    split <;> split <;> lia
end
theorem waysAt_mul (w : Int) (ml : Int × Int) : ∀ n, waysAt w ml n = w * waysAt 1 ml n
  | 0 => (Int.mul_one w).symm
  | n + 1 => by rw [waysAt_succ, waysAt_succ, waysAt_mul w ml n, Int.mul_assoc]
theorem ways_dec : ∀ a, a < 4 → ∀ b, b < 4 → waysAt 1 ((a : Nat), ((b : Nat) : Int)) (mnI ((a : Nat) : Int) ((b : Nat) : Int)).toNat = ((ffN a b : Nat) : Int) := by decide +kernel
theorem ways_ff : ∀ a : Nat, a ≤ 3 → ∀ b : Nat, b ≤ 3 → ∀ w : Int, waysAt w ((a : Int), (b : Int)) (mnI (a : Int) (b : Int)).toNat = w * (ffN a b : Nat) := by
  intro a ha b hb w
  rw [waysAt_mul, ways_dec a (Nat.lt_succ_of_le ha) b (Nat.lt_succ_of_le hb)]
section
variable {paths places : List (List Int)} (K : Conf paths places)
include K
theorem Conf.fold_cheap : ∀ (l : List (List Int)) (w : Int), (∀ p ∈ l, p ∈ nodes) → l.foldl (cheapStep paths places (sG paths places) (tG paths places)) w = w * (prodN (wy paths) l : Nat)
  | [], w, _ => by show w = w * 1; lia
  | p :: l, w, h => by
    have hp := h p List.mem_cons_self
    obtain ⟨m1, m2⟩ := more_le K.h6 K.hP hp
    rw [List.foldl_cons, Conf.fold_cheap l _ fun q hq => h q (List.mem_cons_of_mem _ hq)]
    have e : cheapStep paths places (sG paths places) (tG paths places) w p = w * (wy paths p : Nat) := by
      unfold cheapStep
      rw [K.ml hp]
      exact ways_ff _ m1 _ m2 w
    rw [e]
    show _ = w * ((wy paths p * prodN (wy paths) l : Nat) : Int)
    rw [Int.natCast_mul, Int.mul_assoc]
theorem Conf.wy_one {q : List Int} (hq : q ∈ allPaths) (hn : q ∉ places) : wy paths q = 1 := by
  have h0 := K.mask0 hq hn
  obtain ⟨e, _⟩ := masks K.h6 K.hP (t := q) (List.mem_cons_of_mem _ hq)
  rw [h0] at e
  have e1 : oP paths q = 0 := by lia
  have e2 : mP paths (q ++ [0]) = 0 := by lia
  have e3 : mP paths (q ++ [1]) = 0 := by lia
  unfold wy
  rw [e1, e2, e3]; rfl
theorem Conf.cheap : cheapOf paths places (sG paths places) (tG paths places) = ((pcN (Cn paths 4 []) : Nat) : Int) := by
  have hne : ([] : List Int) ∉ places := fun h => by have := (len_of (K.inn _ h)).1; simp at this
  have hno : ∀ p ∈ ([] : List Int) :: places, p ∈ nodes := by
    intro p hp
    rcases List.mem_cons.mp hp with e | e
    · rw [e]; exact List.mem_cons_self
    · exact List.mem_cons_of_mem _ (K.inn p e)
  unfold cheapOf
  rw [K.fold_cheap _ _ hno, (root_ok K.h6 K.hP).1, Wn_prod, prodN_perm _ subs_nodes]
  rw [prodN_sub (wy paths) (l1 := [] :: places) (l2 := nodes) (List.nodup_cons.mpr ⟨hne, K.nd⟩) (by decide +kernel) hno (fun q hq hn => ?_)]
  · lia
  · rcases List.mem_cons.mp hq with e | e
    · exact absurd (by rw [e]; exact List.mem_cons_self) hn
    · exact K.wy_one e fun m => hn (List.mem_cons_of_mem _ m)
end
theorem pc_len : ∀ c, c < 64 → ((List.range 6).filter fun i => c.testBit i).length = pcN c := by decide +kernel
theorem pc_pos : ∀ c, c < 64 → c ≠ 0 → 0 < pcN c := by decide +kernel
theorem map_beq (f g : List Int → Int) : ∀ l : List (List Int), (l.map f == l.map g) = l.all fun q => f q == g q
  | [] => rfl
  | q :: l => by
    rw [List.map_cons, List.map_cons, List.cons_beq_cons, map_beq f g l, List.all_cons]
abbrev rowsG (paths places : List (List Int)) : List (List Int) := T6.map fun p => places.map (crossP paths p)
theorem rows_count (paths places : List (List Int)) (g : List Int → Int) : ((rowsG paths places).filter (· == places.map g)).length = ((List.range 6).filter fun i => places.all fun q => crossP paths (pAt i) q == g q).length := by
  unfold rowsG
  rw [T6_range, List.map_map, List.filter_map, List.length_map]
  congr 1
  apply List.filter_congr
  intro i _
  exact map_beq _ _ _
section
variable {paths places : List (List Int)} (K : Conf paths places)
include K
theorem Conf.bits {i : Nat} (hi : i < 6) : (places.all fun q => crossP paths (pAt i) q == lowP paths q) = (Cn paths 4 []).testBit i := by
  rw [Cn_bit paths hi, Bool.eq_iff_iff, List.all_eq_true, List.all_eq_true]
  constructor
  · intro h q hq
    have hn := (subs_nodes.mem_iff).mp hq
    by_cases hp : q ∈ places
    · rw [cl_bit paths q hi]; exact h q hp
    · have h63 : Nat.testBit 63 i = true := by
        have : ∀ i, i < 6 → Nat.testBit 63 i = true := by decide
        exact this i hi
      rcases List.mem_cons.mp hn with e | e
      · rw [e, root_mask]; exact h63
      · rw [K.mask0 e hp]; exact h63
  · intro h q hq
    rw [← cl_bit paths q hi]
    exact h q ((subs_nodes.mem_iff).mpr (List.mem_cons_of_mem _ (K.inn q hq)))
theorem Conf.count_low : (((rowsG paths places).filter (· == places.map (lowP paths))).length : Int) = cheapOf paths places (sG paths places) (tG paths places) ∧ places.map (lowP paths) ∈ rowsG paths places := by
  obtain ⟨_, r2, r3⟩ := root_ok K.h6 K.hP
  have e : ((rowsG paths places).filter (· == places.map (lowP paths))).length = pcN (Cn paths 4 []) := by
    rw [rows_count, ← pc_len _ r2]
    congr 1
    apply List.filter_congr
    intro i hi
    exact K.bits (List.mem_range.mp hi)
  refine ⟨by rw [e, K.cheap], ?_⟩
  have hp := pc_pos _ r2 r3
  rw [← e] at hp
  obtain ⟨x, hx⟩ := List.exists_mem_of_length_pos hp
  obtain ⟨h1, h2⟩ := List.mem_filter.mp hx
  rw [beq_iff_eq] at h2
  rw [← h2]; exact h1
end
end Mine
-- part Pl7
open PySem
set_option Elab.async false
set_option linter.unusedVariables false
set_option linter.unusedSimpArgs false
set_option maxRecDepth 100000
namespace Mine
def chkG (f : Nat → Nat → Nat → Bool) : Nat → Nat → Nat → Nat → Bool
  | 0, o, a, b => f o a b
  | i + 1, o, a, b => chkG f i o a b && (chkG f i (o + 2 ^ i) a b && (chkG f i o (a + 2 ^ i) b && chkG f i o a (b + 2 ^ i)))
theorem chkG_step (f : Nat → Nat → Nat → Bool) (i o a b : Nat) (h0 : chkG f i o a b = true) (h1 : chkG f i (o + 2 ^ i) a b = true) (h2 : chkG f i o (a + 2 ^ i) b = true) (h3 : chkG f i o a (b + 2 ^ i) = true) : chkG f (i + 1) o a b = true := by
  show (chkG f i o a b && (chkG f i (o + 2 ^ i) a b && (chkG f i o (a + 2 ^ i) b && chkG f i o a (b + 2 ^ i)))) = true
  rw [h0, h1, h2, h3]; rfl
theorem chkG_spec (f : Nat → Nat → Nat → Bool) (x : Nat → Nat) (hx : ∀ i, x i < 4) : ∀ (n o a b : Nat), chkG f n o a b = true → f (o + sumW n (fun i => x i == 3)) (a + sumW n (fun i => x i == 1)) (b + sumW n (fun i => x i == 2)) = true
  | 0, o, a, b, h => h
  | n + 1, o, a, b, h => by
    have h' : (chkG f n o a b && (chkG f n (o + 2 ^ n) a b && (chkG f n o (a + 2 ^ n) b && chkG f n o a (b + 2 ^ n)))) = true := h
    simp only [Bool.and_eq_true] at h'
    obtain ⟨h0, h1, h2, h3⟩ := h'
    show f (o + (sumW n _ + 2 ^ n * (x n == 3).toNat)) (a + (sumW n _ + 2 ^ n * (x n == 1).toNat)) (b + (sumW n _ + 2 ^ n * (x n == 2).toNat)) = true
    have hn := hx n
    generalize x n = v at hn
    match v, hn with
    | 0, _ =>
      show f (o + (sumW n _ + 2 ^ n * 0)) (a + (sumW n _ + 2 ^ n * 0)) (b + (sumW n _ + 2 ^ n * 0)) = true
      simp only [Nat.mul_zero, Nat.add_zero]
      exact chkG_spec f x hx n o a b h0
    | 3, _ =>
      show f (o + (sumW n _ + 2 ^ n * 1)) (a + (sumW n _ + 2 ^ n * 0)) (b + (sumW n _ + 2 ^ n * 0)) = true
      simp only [Nat.mul_zero, Nat.add_zero, Nat.mul_one]
      have := chkG_spec f x hx n (o + 2 ^ n) a b h1
      rw [show o + 2 ^ n + sumW n (fun i => x i == 3) = o + (sumW n (fun i => x i == 3) + 2 ^ n) by lia] at this
      exact this
    | 1, _ =>
      show f (o + (sumW n _ + 2 ^ n * 0)) (a + (sumW n _ + 2 ^ n * 1)) (b + (sumW n _ + 2 ^ n * 0)) = true
      simp only [Nat.mul_zero, Nat.add_zero, Nat.mul_one]
      have := chkG_spec f x hx n o (a + 2 ^ n) b h2
      rw [show a + 2 ^ n + sumW n (fun i => x i == 1) = a + (sumW n (fun i => x i == 1) + 2 ^ n) by lia] at this
      exact this
    | 2, _ =>
      show f (o + (sumW n _ + 2 ^ n * 0)) (a + (sumW n _ + 2 ^ n * 0)) (b + (sumW n _ + 2 ^ n * 1)) = true
      simp only [Nat.mul_zero, Nat.add_zero, Nat.mul_one]
      have := chkG_spec f x hx n o a (b + 2 ^ n) h3
      rw [show b + 2 ^ n + sumW n (fun i => x i == 2) = b + (sumW n (fun i => x i == 2) + 2 ^ n) by lia] at this
      exact this
def hN (m : Nat) : Nat := sN m + kN m
def dearI (m a b : Nat) : Int :=
  let R := rookStep (rookStep (rookStep (0, 0, 0) ((3 - (sN m : Int)) * (3 - (kN m : Int)))) ((sN a : Int) * (kN a : Int))) ((sN b : Int) * (kN b : Int))
  6 * 1 - 2 * R.1 + R.2.1 - R.2.2
def check2 (o a b : Nat) : Bool :=
  if Nat.ble (hN (o + a + b)) 3 then true else if Nat.ble (hN a) 3 && Nat.ble (hN b) 3 then
    let c := CH (o + a + b) &&& (CH a &&& CH b)
    (((pcN c : Nat) : Int) == dearI (o + a + b) a b) && Nat.blt c 64 && !(c == 0)
  else true
def check3 (o a _b : Nat) : Bool :=
  (Nat.ble (hN a) 3 || (CH a &&& CH (o + a) == CH a)) && (!Nat.ble (hN (o + a)) 3 || (CH (o + a) &&& CH a == CH (o + a))) && (Nat.ble (hN o) 3 || (CH o &&& CH a == CH o))
theorem c2_0 : chkG check2 5 0 0 0 = true := by decide +kernel
theorem c2_1 : chkG check2 5 32 0 0 = true := by decide +kernel
theorem c2_2 : chkG check2 5 0 32 0 = true := by decide +kernel
theorem c2_3 : chkG check2 5 0 0 32 = true := by decide +kernel
theorem c2_ok : chkG check2 6 0 0 0 = true := chkG_step check2 5 0 0 0 c2_0 c2_1 c2_2 c2_3
theorem c3_0 : chkG check3 5 0 0 0 = true := by decide +kernel
theorem c3_1 : chkG check3 5 32 0 0 = true := by decide +kernel
theorem c3_2 : chkG check3 5 0 32 0 = true := by decide +kernel
theorem c3_3 : chkG check3 5 0 0 32 = true := by decide +kernel
theorem c3_ok : chkG check3 6 0 0 0 = true := chkG_step check3 5 0 0 0 c3_0 c3_1 c3_2 c3_3
end Mine
-- part Pl8
open PySem
set_option Elab.async false
set_option linter.unusedVariables false
set_option linter.unusedSimpArgs false
set_option maxRecDepth 100000
namespace Mine
abbrev hdI (paths : List (List Int)) (q : List Int) : Int := sndP paths q + tknP paths q
theorem hN_eq (paths : List (List Int)) (q : List Int) : ((hN (mP paths q) : Nat) : Int) = hdI paths q := by
  obtain ⟨h1, h2⟩ := sN_eq paths q
  unfold hN hdI
  rw [← h1, ← h2]; lia
/-! products -/
theorem rook_comm (r : Int × Int × Int) (a b : Int) : rookStep (rookStep r a) b = rookStep (rookStep r b) a := by
  unfold rookStep
  refine Prod.ext ?_ (Prod.ext ?_ ?_)
  · dsimp only; lia
  · dsimp only
    simp only [Int.mul_add, Int.mul_one]
    rw [Int.mul_comm b a]; lia
  · dsimp only
    simp only [Int.mul_add, Int.mul_one]
    rw [Int.mul_left_comm b a]; lia
theorem rook_zero (r : Int × Int × Int) : rookStep r 0 = r := by
  unfold rookStep
  refine Prod.ext ?_ (Prod.ext ?_ ?_) <;> dsimp only <;> lia
abbrev gR (paths : List (List Int)) (h : List Int) (r : Int × Int × Int) (q : List Int) : Int × Int × Int := rookStep r (if q.dropLast == h then sndP paths q * tknP paths q else 0)
theorem rooks_snoc (l : List Int) (x : Int) : rooksOf (l ++ [x]) = rookStep (rooksOf l) x := by unfold rooksOf; rw [List.foldl_append]; rfl
theorem fold_range {α : Type} (l : List (List Int)) (f : α → List Int → α) (r : α) : (List.range l.length).foldl (fun r j => f r (l.getD j [])) r = l.foldl f r := by
  have : l = (List.range l.length).map fun j => l.getD j [] := by
    have h := range_map l (fun j => l.getD j []) (fun x => x) [] (fun _ _ => rfl)
    rw [h, List.map_id']
  conv => rhs; rw [this]
  rw [List.foldl_map]
theorem prod_rooks (paths places : List (List Int)) (h : List Int) (ps : List Int) : ∀ n, n ≤ places.length → rooksOf (prodAt places (sG paths places) (tG paths places) h ps n) = (List.range n).foldl (fun r j => gR paths h r (places.getD j [])) (rooksOf ps)
  | 0, _ => rfl
  | n + 1, hn => by
    have ih := prod_rooks paths places h ps n (by lia)
    rw [prodAt_succ, List.range_succ, List.foldl_append, ← ih]
    unfold prodStep
    rw [getD_map_lt (α := Unit) _ (show n < places.length by lia), getD_map_lt (α := Unit) _ (show n < places.length by lia)]
    show _ = rookStep _ (if _ then _ else _)
    by_cases hd : ((places.getD n []).dropLast == h) = true
    · rw [if_pos hd, if_pos hd, rooks_snoc]
    · rw [if_neg hd, if_neg hd, rook_zero]
theorem fold_idle {α : Type} (f : α → List Int → α) : ∀ (l : List (List Int)) (r : α), (∀ q ∈ l, ∀ r, f r q = r) → l.foldl f r = r
  | [], _, _ => rfl
  | q :: l, r, h => by rw [List.foldl_cons, h q List.mem_cons_self, fold_idle f l r fun x hx => h x (List.mem_cons_of_mem _ hx)]
theorem fold_ite (c : List Int → Bool) (v : List Int → Int) : ∀ (l : List (List Int)) (r : Int × Int × Int), l.foldl (fun r q => rookStep r (if c q then v q else 0)) r = (l.filter c).foldl (fun r q => rookStep r (v q)) r
  | [], _ => rfl
  | q :: l, r => by
    rw [List.foldl_cons, fold_ite c v l, List.filter_cons]
    cases c q with
    | true => rw [if_pos rfl, if_pos rfl, List.foldl_cons]
    | false => rw [if_neg Bool.false_ne_true, if_neg Bool.false_ne_true, rook_zero]
theorem kids_rook (v : List Int → Int) (hz : ∀ q : List Int, 3 < q.length → v q = 0) (r : Int × Int × Int) : ∀ p ∈ nodes, allPaths.foldl (fun r q => rookStep r (if q.dropLast == p then v q else 0)) r = rookStep (rookStep r (v (p ++ [0]))) (v (p ++ [1])) := by
  intro p hp
  rw [fold_ite (fun q => q.dropLast == p) v, kids_filter p hp]
  by_cases hl : p.length < 3
  · rw [if_pos hl]; rfl
  · rw [if_neg hl, hz _ (long_kid hl 0), hz _ (long_kid hl 1), rook_zero, rook_zero]; rfl
section
variable {paths places : List (List Int)} (K : Conf paths places)
include K
theorem Conf.rooks {h : List Int} (hh : h ∈ nodes) (ps : List Int) : rooksOf (prodAt places (sG paths places) (tG paths places) h ps places.length) = rookStep (rookStep (rooksOf ps) (sndP paths (h ++ [0]) * tknP paths (h ++ [0]))) (sndP paths (h ++ [1]) * tknP paths (h ++ [1])) := by
  rw [prod_rooks paths places h ps _ (Nat.le_refl _), fold_range places (gR paths h)]
  have hp := perm_sub K.nd (show allPaths.Nodup by decide +kernel) K.inn
  rw [← kids_rook (fun q => sndP paths q * tknP paths q) (fun q hq => by rw [(K.deep hq).1]; lia) (rooksOf ps) h hh]
  rw [hp.foldl_eq' (fun x _ y _ z => rook_comm _ _ _), List.foldl_append]
  rw [fold_idle _ (allPaths.filter _)]
  intro q hq r
  obtain ⟨a, b⟩ := List.mem_filter.mp hq
  have hn : q ∉ places := fun m => by rw [List.contains_iff_mem.mpr m] at b; cases b
  rw [(K.zero a hn).1, Int.zero_mul]
  simp [rook_zero]
/-! the heart -/
theorem Conf.heart : ∀ n, n ≤ places.length → (heartAt places (sG paths places) (tG paths places) n).1 ∈ nodes ∧ hdI paths (heartAt places (sG paths places) (tG paths places) n).1 > 3 ∧
    (heartAt places (sG paths places) (tG paths places) n).2 = [(3 - sndP paths (heartAt places (sG paths places) (tG paths places) n).1) * (3 - tknP paths (heartAt places (sG paths places) (tG paths places) n).1)] ∧
    ∀ j, j < n → hdI paths (places.getD j []) > 3 → (places.getD j []).length ≤ (heartAt places (sG paths places) (tG paths places) n).1.length
  | 0, _ => by
    have h := sN_eq paths []
    rw [root_mask] at h
    have e1 : sndP paths [] = 3 := h.1.symm
    have e2 : tknP paths [] = 3 := h.2.symm
    show [] ∈ nodes ∧ hdI paths [] > 3 ∧ [0] = [(3 - sndP paths []) * (3 - tknP paths [])] ∧ _
    unfold hdI
    rw [e1, e2]
    exact ⟨by decide, by decide, by decide, fun j hj => absurd hj (by lia)⟩
  | n + 1, hn => by
    obtain ⟨i1, i2, i3, i4⟩ := Conf.heart n (by lia)
    have hlt : n < places.length := by lia
    rw [heartAt_succ]
    generalize heartAt places (sG paths places) (tG paths places) n = st at i1 i2 i3 i4 ⊢
    unfold heartStep
    rw [getD_map_lt (α := Unit) _ hlt, getD_map_lt (α := Unit) _ hlt]
    have hq : places.getD n [] ∈ places := by rw [List.getD_eq_getElem?_getD, List.getElem?_eq_getElem hlt]; exact List.getElem_mem hlt
    by_cases hc : sndP paths (places.getD n []) + tknP paths (places.getD n []) > 3 ∧ (places.getD n []).length > st.1.length
    · rw [if_pos hc]
      refine ⟨List.mem_cons_of_mem _ (K.inn _ hq), hc.1, rfl, fun j hj h3 => ?_⟩
      show _ ≤ (places.getD n []).length
      by_cases e : j = n
      · subst e; exact Nat.le_refl _
      · have := i4 j (by lia) h3; lia
    · rw [if_neg hc]
      refine ⟨i1, i2, i3, fun j hj h3 => ?_⟩
      by_cases e : j = n
      · subst e
        have h4 : sndP paths (places.getD j []) + tknP paths (places.getD j []) > 3 := h3
        have : ¬ (places.getD j []).length > st.1.length := fun q => hc ⟨h4, q⟩
        lia
      · exact i4 j (by lia) h3
end
theorem cats : ∀ h ∈ nodes, ∀ q ∈ allPaths,
    (allPaths.all fun p => !(p.take h.length == h) || (p.take q.length == q)) = true ∨ (allPaths.all fun p => !(p.take q.length == q) || (p.take (h ++ [0]).length == h ++ [0])) = true ∨
    (allPaths.all fun p => !(p.take q.length == q) || (p.take (h ++ [1]).length == h ++ [1])) = true ∨ (allPaths.all fun p => !(p.take q.length == q) || !(p.take h.length == h)) = true := by decide +kernel
theorem kid_in : ∀ h ∈ nodes, h.length < 3 → h ++ [0] ∈ allPaths ∧ h ++ [1] ∈ allPaths := by decide +kernel
theorem node_len : ∀ h ∈ nodes, h.length ≤ 3 := by decide +kernel
def two (f g : Nat → Bool) (i : Nat) : Nat := if g i then (if f i then 1 else 3) else 0
theorem two_lt (f g : Nat → Bool) (i : Nat) : two f g i < 4 := by unfold two; repeat (first | split | lia)
/-- f within g: what check3 says -/
theorem within {f g : Nat → Bool} (h : ∀ i, i < 6 → f i = true → g i = true) : ∃ o, sumW 6 g = o + sumW 6 f ∧ check3 o (sumW 6 f) 0 = true := by
  have e1 : sumW 6 f = sumW 6 fun i => two f g i == 1 := sumW_congr 6 fun i hi => by
    have := h i hi
    unfold two
    cases hf : f i with
    | true => rw [this hf]; rfl
    | false => cases g i <;> rfl
  have e2 : sumW 6 g = sumW 6 fun i => two f g i != 0 := sumW_congr 6 fun i hi => by
    unfold two
    cases g i <;> cases f i <;> rfl
  have e3 : (sumW 6 fun i => two f g i == 2) = 0 := by
    have : (sumW 6 fun i => two f g i == 2) = sumW 6 fun _ => false := sumW_congr 6 fun i hi => by
      unfold two
      cases g i <;> cases f i <;> rfl
    rw [this]; rfl
  have s := sumW_split (two f g) (two_lt f g) 6
  have c := chkG_spec check3 (two f g) (two_lt f g) 6 0 0 0 c3_ok
  rw [e3] at s c
  rw [← e1, ← e2] at s
  rw [← e1] at c
  exact ⟨_, by omega, by simpa only [Nat.zero_add] using c⟩
def apart (f g : Nat → Bool) (i : Nat) : Nat := if g i then 3 else if f i then 1 else 0
theorem apart_lt (f g : Nat → Bool) (i : Nat) : apart f g i < 4 := by unfold apart; repeat (first | split | lia)
theorem aparts {f g : Nat → Bool} (h : ∀ i, i < 6 → f i = true → g i = false) : check3 (sumW 6 g) (sumW 6 f) 0 = true := by
  have e1 : sumW 6 f = sumW 6 fun i => apart f g i == 1 := sumW_congr 6 fun i hi => by
    have := h i hi
    unfold apart
    cases hf : f i with
    | true => rw [this hf]; rfl
    | false => cases g i <;> rfl
  have e2 : sumW 6 g = sumW 6 fun i => apart f g i == 3 := sumW_congr 6 fun i hi => by
    unfold apart
    cases g i <;> cases f i <;> rfl
  have e3 : (sumW 6 fun i => apart f g i == 2) = 0 := by
    have : (sumW 6 fun i => apart f g i == 2) = sumW 6 fun _ => false := sumW_congr 6 fun i hi => by
      unfold apart
      cases g i <;> cases f i <;> rfl
    rw [this]; rfl
  have c := chkG_spec check3 (apart f g) (apart_lt f g) 6 0 0 0 c3_ok
  rw [e3, ← e1, ← e2] at c
  simpa only [Nat.zero_add] using c
theorem and_bit {x y i : Nat} (h : (x &&& y == x) = true) (hx : x.testBit i = true) : y.testBit i = true := by
  rw [beq_iff_eq] at h
  rw [← h, Nat.testBit_and, Bool.and_eq_true] at hx
  exact hx.2
theorem imp_of {p : List Int} {f g : List Int → Bool} (hp : p ∈ allPaths) (h : (allPaths.all fun p => !f p || g p) = true) (hf : f p = true) : g p = true := by
  rw [List.all_eq_true] at h
  have := h p hp
  rw [hf] at this
  simpa using this
section
variable {paths places : List (List Int)} (K : Conf paths places)
include K
theorem Conf.kid_small {h : List Int} (hh : h ∈ nodes) (hl : ∀ j, j < places.length → hdI paths (places.getD j []) > 3 → (places.getD j []).length ≤ h.length) (c : Int) (hc : c = 0 ∨ c = 1) : hdI paths (h ++ [c]) ≤ 3 := by
  have hz : sndP paths (h ++ [c]) = 0 ∧ tknP paths (h ++ [c]) = 0 → hdI paths (h ++ [c]) ≤ 3 := fun q => by unfold hdI; rw [q.1, q.2]; decide
  by_cases h3 : h.length < 3
  · have hin : h ++ [c] ∈ allPaths := by
      rcases hc with rfl | rfl
      · exact (kid_in h hh h3).1
      · exact (kid_in h hh h3).2
    by_cases hp : h ++ [c] ∈ places
    · rcases Int.lt_or_le 3 (hdI paths (h ++ [c])) with q | q
      · obtain ⟨j, hj, e⟩ := List.getElem_of_mem hp
        have e2 : places.getD j [] = h ++ [c] := by rw [List.getD_eq_getElem?_getD, List.getElem?_eq_getElem hj, ← e]; rfl
        have := hl j hj (by rw [e2]; exact q)
        rw [e2, List.length_append] at this
        simp only [List.length_cons, List.length_nil] at this
        lia
      · exact q
    · exact hz (K.zero hin hp)
  · have := node_len h hh
    exact hz (K.deep (by simp; lia))
theorem Conf.dear_bits {h : List Int} (hh : h ∈ nodes) (h3 : hdI paths h > 3) (k0 : hdI paths (h ++ [0]) ≤ 3) (k1 : hdI paths (h ++ [1]) ≤ 3) {i : Nat} (hi : i < 6) :
    (places.all fun q => crossP paths (pAt i) q == highP paths q) = (CH (mP paths h) &&& (CH (mP paths (h ++ [0])) &&& CH (mP paths (h ++ [1])))).testBit i := by
  have b3 : ¬ Nat.ble (hN (mP paths h)) 3 = true := by
    rw [Nat.ble_eq]; have := hN_eq paths h; lia
  have c0 : Nat.ble (hN (mP paths (h ++ [0]))) 3 = true := by
    rw [Nat.ble_eq]; have := hN_eq paths (h ++ [0]); lia
  have c1 : Nat.ble (hN (mP paths (h ++ [1]))) 3 = true := by
    rw [Nat.ble_eq]; have := hN_eq paths (h ++ [1]); lia
  have h63 : Nat.testBit 63 i = true := by
    have : ∀ i, i < 6 → Nat.testBit 63 i = true := by decide
    exact this i hi
  have bit0 : ∀ q, mP paths q = 0 → (CH (mP paths q)).testBit i = true := fun q e => by rw [e]; exact h63
  rw [Nat.testBit_and, Nat.testBit_and, Bool.eq_iff_iff, List.all_eq_true, Bool.and_eq_true, Bool.and_eq_true]
  constructor
  · intro a
    have one : ∀ q, q ∈ places ∨ mP paths q = 0 → (CH (mP paths q)).testBit i = true := by
      rintro q (m | m)
      · rw [ch_bit paths q hi]; exact a q m
      · exact bit0 q m
    have kid : ∀ c : Int, c = 0 ∨ c = 1 → h ++ [c] ∈ places ∨ mP paths (h ++ [c]) = 0 := by
      intro c hc
      by_cases hl : h.length < 3
      · have hin : h ++ [c] ∈ allPaths := by
          rcases hc with rfl | rfl
          · exact (kid_in h hh hl).1
          · exact (kid_in h hh hl).2
        by_cases hp : h ++ [c] ∈ places
        · exact .inl hp
        · exact .inr (K.mask0 hin hp)
      · have := node_len h hh
        exact .inr (deep_mask K.h6 K.hP (by simp; lia))
    refine ⟨?_, one _ (kid 0 (.inl rfl)), one _ (kid 1 (.inr rfl))⟩
    rcases List.mem_cons.mp hh with e | e
    · rw [e, root_mask]; exact h63
    · by_cases hp : h ∈ places
      · exact one h (.inl hp)
      · have := K.zero e hp
        unfold hdI at h3
        lia
  · rintro ⟨a, a0, a1⟩ q hq
    rw [← ch_bit paths q hi]
    have hqa := K.inn q hq
    rcases cats h hh q hqa with c | c | c | c
    · obtain ⟨o, e, ck⟩ := within (f := fun i => bitP paths i h) (g := fun i => bitP paths i q) fun i hi q1 => imp_of (f := fun p => p.take h.length == h) (g := fun p => p.take q.length == q) (path_mem K.h6 K.hP hi) c q1
      unfold check3 at ck
      rw [← e] at ck
      simp only [Bool.and_eq_true, Bool.or_eq_true] at ck
      rcases ck.1.1 with z | z
      · exact absurd z b3
      · exact and_bit z a
    · obtain ⟨o, e, ck⟩ := within (f := fun i => bitP paths i q) (g := fun i => bitP paths i (h ++ [0])) fun i hi q1 => imp_of (f := fun p => p.take q.length == q) (g := fun p => p.take (h ++ [0]).length == h ++ [0]) (path_mem K.h6 K.hP hi) c q1
      unfold check3 at ck
      rw [← e] at ck
      simp only [Bool.and_eq_true, Bool.or_eq_true] at ck
      rcases ck.1.2 with z | z
      · rw [Bool.not_eq_true'] at z; rw [c0] at z; cases z
      · exact and_bit z a0
    · obtain ⟨o, e, ck⟩ := within (f := fun i => bitP paths i q) (g := fun i => bitP paths i (h ++ [1])) fun i hi q1 => imp_of (f := fun p => p.take q.length == q) (g := fun p => p.take (h ++ [1]).length == h ++ [1]) (path_mem K.h6 K.hP hi) c q1
      unfold check3 at ck
      rw [← e] at ck
      simp only [Bool.and_eq_true, Bool.or_eq_true] at ck
      rcases ck.1.2 with z | z
      · rw [Bool.not_eq_true'] at z; rw [c1] at z; cases z
      · exact and_bit z a1
    · have ck := aparts (f := fun i => bitP paths i q) (g := fun i => bitP paths i h) fun i hi q1 => by
        have := imp_of (f := fun p => p.take q.length == q) (g := fun p => !(p.take h.length == h)) (path_mem K.h6 K.hP hi) c q1
        rwa [Bool.not_eq_true'] at this
      unfold check3 at ck
      simp only [Bool.and_eq_true, Bool.or_eq_true] at ck
      rcases ck.2 with z | z
      · exact absurd z b3
      · exact and_bit z a
theorem Conf.count_high : (((rowsG paths places).filter (· == places.map (highP paths))).length : Int) = dearOf places (sG paths places) (tG paths places) ∧ places.map (highP paths) ∈ rowsG paths places := by
  obtain ⟨hh, h3, hp, hl⟩ := K.heart places.length (Nat.le_refl _)
  unfold dearOf
  dsimp only
  generalize heartAt places (sG paths places) (tG paths places) places.length = st at hh h3 hp hl ⊢
  have k0 := K.kid_small hh hl 0 (.inl rfl)
  have k1 := K.kid_small hh hl 1 (.inr rfl)
  rw [K.rooks hh, hp]
  obtain ⟨em, _⟩ := masks K.h6 K.hP hh
  have ck : check2 (oP paths st.1) (mP paths (st.1 ++ [0])) (mP paths (st.1 ++ [1])) = true := by
    have e1 : mP paths (st.1 ++ [0]) = sumW 6 fun i => slot (paths.getD i []) st.1 == 1 := sumW_congr 6 fun i hi => (slot_all _ (path_mem K.h6 K.hP hi) _ hh).2.1
    have e2 : mP paths (st.1 ++ [1]) = sumW 6 fun i => slot (paths.getD i []) st.1 == 2 := sumW_congr 6 fun i hi => (slot_all _ (path_mem K.h6 K.hP hi) _ hh).2.2.1
    have e3 : oP paths st.1 = sumW 6 fun i => slot (paths.getD i []) st.1 == 3 := sumW_congr 6 fun i hi => (slot_all _ (path_mem K.h6 K.hP hi) _ hh).2.2.2
    rw [e1, e2, e3]
    have := chkG_spec check2 (fun i => slot (paths.getD i []) st.1) (fun i => slot_lt _ _) 6 0 0 0 c2_ok
    simpa only [Nat.zero_add] using this
  unfold check2 at ck
  rw [← em] at ck
  have b3 : ¬ Nat.ble (hN (mP paths st.1)) 3 = true := by
    rw [Nat.ble_eq]; have := hN_eq paths st.1; lia
  have c0 : Nat.ble (hN (mP paths (st.1 ++ [0]))) 3 = true := by
    rw [Nat.ble_eq]; have := hN_eq paths (st.1 ++ [0]); lia
  have c1 : Nat.ble (hN (mP paths (st.1 ++ [1]))) 3 = true := by
    rw [Nat.ble_eq]; have := hN_eq paths (st.1 ++ [1]); lia
  rw [if_neg b3, c0, c1, if_pos (by rfl)] at ck
  simp only [Bool.and_eq_true, beq_iff_eq, Bool.not_eq_true', beq_eq_false_iff_ne] at ck
  obtain ⟨⟨ck1, ck2⟩, ck3⟩ := ck
  have ck2 := Nat.le_of_ble_eq_true ck2
  have e : ((rowsG paths places).filter (· == places.map (highP paths))).length = pcN (CH (mP paths st.1) &&& (CH (mP paths (st.1 ++ [0])) &&& CH (mP paths (st.1 ++ [1])))) := by
    rw [rows_count, ← pc_len _ ck2]
    congr 1
    apply List.filter_congr
    intro i hi
    exact K.dear_bits hh h3 k0 k1 (List.mem_range.mp hi)
  constructor
  · rw [e, ck1]
    unfold dearI
    dsimp only
    rw [(sN_eq paths st.1).1, (sN_eq paths st.1).2, (sN_eq paths (st.1 ++ [0])).1, (sN_eq paths (st.1 ++ [0])).2, (sN_eq paths (st.1 ++ [1])).1, (sN_eq paths (st.1 ++ [1])).2]
    rfl
  · have hp := pc_pos _ ck2 ck3
    rw [← e] at hp
    obtain ⟨x, hx⟩ := List.exists_mem_of_length_pos hp
    obtain ⟨h1, h2⟩ := List.mem_filter.mp hx
    rw [beq_iff_eq] at h2
    rw [← h2]; exact h1
end
end Mine
-- part Pl9
open PySem
set_option Elab.async false
set_option linter.unusedVariables false
set_option linter.unusedSimpArgs false
set_option maxRecDepth 100000
namespace Mine
theorem argBest_le (f : Int → Int → Bool) (v : Nat → Int) : ∀ k, PySem.argBest (fun i j => f (v i) (v j)) k ≤ k
  | 0 => Nat.le_refl _
  | k + 1 => by
    have := argBest_le f v k
    show (if f (v (k + 1)) (v (PySem.argBest (fun i j => f (v i) (v j)) k)) = true then k + 1 else PySem.argBest (fun i j => f (v i) (v j)) k) ≤ k + 1
    split
    · exact Nat.le_refl _
    · lia
theorem argMin (v : Nat → Int) : ∀ k i, i ≤ k → v (PySem.argBest (fun i j => decide (v i < v j)) k) ≤ v i
  | 0, i, h => by rw [show i = 0 by lia]; exact Int.le_refl _
  | k + 1, i, h => by
    have ih := argMin v k
    show v (if decide (v (k + 1) < v (PySem.argBest (fun i j => decide (v i < v j)) k)) = true then k + 1 else PySem.argBest (fun i j => decide (v i < v j)) k) ≤ _
    by_cases hc : v (k + 1) < v (PySem.argBest (fun i j => decide (v i < v j)) k)
    · rw [if_pos (decide_eq_true hc)]
      by_cases e : i = k + 1
      · rw [e]; exact Int.le_refl _
      · have := ih i (by lia); lia
    · rw [if_neg (by simpa using hc)]
      by_cases e : i = k + 1
      · rw [e]; lia
      · exact ih i (by lia)
theorem argMax (v : Nat → Int) : ∀ k i, i ≤ k → v i ≤ v (PySem.argBest (fun i j => decide (v i > v j)) k)
  | 0, i, h => by rw [show i = 0 by lia]; exact Int.le_refl _
  | k + 1, i, h => by
    have ih := argMax v k
    show _ ≤ v (if decide (v (k + 1) > v (PySem.argBest (fun i j => decide (v i > v j)) k)) = true then k + 1 else PySem.argBest (fun i j => decide (v i > v j)) k)
    by_cases hc : v (k + 1) > v (PySem.argBest (fun i j => decide (v i > v j)) k)
    · rw [if_pos (decide_eq_true hc)]
      by_cases e : i = k + 1
      · rw [e]; exact Int.le_refl _
      · have := ih i (by lia); lia
    · rw [if_neg (by simpa using hc)]
      by_cases e : i = k + 1
      · rw [e]; lia
      · exact ih i (by lia)
theorem getQ_mem {ns : List Int} {i : Nat} (h : i < ns.length) : (ns[i]?).getD 0 ∈ ns := by
  rw [List.getElem?_eq_getElem h]; exact List.getElem_mem h
theorem lmin_is {ns : List Int} {x : Int} (hx : x ∈ ns) (h : ∀ y ∈ ns, x ≤ y) : lmin ns = x := by
  have hl := List.length_pos_of_mem hx
  have e : lmin ns = (ns[PySem.argBest (fun i j => decide ((ns[i]?).getD 0 < (ns[j]?).getD 0)) (ns.length - 1)]?).getD 0 := rfl
  obtain ⟨j, hj, ej⟩ := List.getElem_of_mem hx
  have h1 := argMin (fun i => (ns[i]?).getD 0) (ns.length - 1) j (by lia)
  have h2 := argBest_le (fun a b => decide (a < b)) (fun i => (ns[i]?).getD 0) (ns.length - 1)
  have h3 := h _ (getQ_mem (ns := ns) (i := PySem.argBest (fun i j => decide ((ns[i]?).getD 0 < (ns[j]?).getD 0)) (ns.length - 1)) (by lia))
  rw [e]
  have h4 : (ns[j]?).getD 0 = x := by rw [List.getElem?_eq_getElem hj]; exact ej
  lia
theorem lmax_is {ns : List Int} {x : Int} (hx : x ∈ ns) (h : ∀ y ∈ ns, y ≤ x) : lmax ns = x := by
  have hl := List.length_pos_of_mem hx
  have e : lmax ns = (ns[PySem.argBest (fun i j => decide ((ns[i]?).getD 0 > (ns[j]?).getD 0)) (ns.length - 1)]?).getD 0 := rfl
  obtain ⟨j, hj, ej⟩ := List.getElem_of_mem hx
  have h1 := argMax (fun i => (ns[i]?).getD 0) (ns.length - 1) j (by lia)
  have h2 := argBest_le (fun a b => decide (a > b)) (fun i => (ns[i]?).getD 0) (ns.length - 1)
  have h3 := h _ (getQ_mem (ns := ns) (i := PySem.argBest (fun i j => decide ((ns[i]?).getD 0 > (ns[j]?).getD 0)) (ns.length - 1)) (by lia))
  rw [e]
  have h4 : (ns[j]?).getD 0 = x := by rw [List.getElem?_eq_getElem hj]; exact ej
  lia
theorem sum_range_le {f g : Nat → Int} : ∀ {n : Nat}, (∀ j, j < n → f j ≤ g j) → ((List.range n).map f).sum ≤ ((List.range n).map g).sum
  | 0, _ => Int.le_refl _
  | n + 1, h => by
    have ih := sum_range_le (n := n) fun j hj => h j (by lia)
    have := h n (by lia)
    rw [sum_range_succ, sum_range_succ]
    lia
theorem low_eq {paths places : List (List Int)} (hp : paths.length = 6) : lowOf (sentP (LP paths places) places.length) (takenP (LP paths places) places.length) places.length = places.map (lowP paths) := by
  rw [sent_eq hp, taken_eq hp]
  unfold lowOf
  refine range_map places _ _ [] fun j hj => ?_
  rw [getD_map_lt (α := Unit) _ hj, getD_map_lt (α := Unit) _ hj]; rfl
theorem high_eq {paths places : List (List Int)} (hp : paths.length = 6) : highOf (sentP (LP paths places) places.length) (takenP (LP paths places) places.length) places.length = places.map (highP paths) := by
  rw [sent_eq hp, taken_eq hp]
  unfold highOf
  refine range_map places _ _ [] fun j hj => ?_
  rw [getD_map_lt (α := Unit) _ hj, getD_map_lt (α := Unit) _ hj]; rfl
theorem snd_rg (paths : List (List Int)) (q : List Int) : 0 ≤ sndP paths q ∧ sndP paths q ≤ 3 ∧ 0 ≤ tknP paths q ∧ tknP paths q ≤ 3 := by
  have h1 := b2_rg (bitP paths 0 q)
  have h2 := b2_rg (bitP paths 1 q)
  have h3 := b2_rg (bitP paths 2 q)
  have h4 := b2_rg (bitP paths 3 q)
  have h5 := b2_rg (bitP paths 4 q)
  have h6 := b2_rg (bitP paths 5 q)
  unfold sndP tknP
  lia
theorem mul_small {w d : Int} (hw : 0 ≤ w ∧ w ≤ 11) (hd : -6 ≤ d ∧ d ≤ 6) : -(2 ^ 40) ≤ w * d ∧ w * d ≤ 2 ^ 40 := by
  have e := Int.natAbs_mul w d
  have h : w.natAbs * d.natAbs ≤ 11 * 6 := Nat.mul_le_mul (by lia) (by lia)
  rw [← e] at h
  lia
theorem meet_sum (places : List (List Int)) (s t w : List Int) (p : List Int) : ∀ n, meetAt places s t w p n = ((List.range n).map fun j => if p.take (places.getD j []).length == places.getD j [] then w.getD j 0 * (6 - (s.getD j 0 + t.getD j 0)) else w.getD j 0 * (s.getD j 0 + t.getD j 0)).sum
  | 0 => rfl
  | n + 1 => by
    rw [meetAt_succ, sum_range_succ, meet_sum places s t w p n]
    unfold meetStep
    split <;> rfl
theorem take_le {p : List Int} {a b : Nat} (h : a ≤ b) : (p.take b).take a = p.take a := by rw [List.take_take, Nat.min_eq_left h]
/-- the dearest cost: at the heart all that meet there cost as the dearest way -/
theorem Conf.meet {paths places : List (List Int)} (K : Conf paths places) (w : List Int) (hw : ∀ j, 0 ≤ w.getD j 0) :
    lmin (meetings places (sG paths places) (tG paths places) w) = ((List.range places.length).map fun j => w.getD j 0 * highP paths (places.getD j [])).sum := by
  obtain ⟨hh, h3, _, hl⟩ := K.heart places.length (Nat.le_refl _)
  generalize heartAt places (sG paths places) (tG paths places) places.length = st at hh h3 hl
  have term : ∀ (p : List Int) (j : Nat), j < places.length → w.getD j 0 * highP paths (places.getD j []) ≤ (if p.take (places.getD j []).length == places.getD j [] then w.getD j 0 * (6 - ((sG paths places).getD j 0 + (tG paths places).getD j 0)) else w.getD j 0 * ((sG paths places).getD j 0 + (tG paths places).getD j 0)) := by
    intro p j hj
    rw [getD_map_lt (α := Unit) _ hj, getD_map_lt (α := Unit) _ hj]
    split
    · refine Int.mul_le_mul_of_nonneg_left ?_ (hw j)
      unfold highP
      split <;> lia
    · refine Int.mul_le_mul_of_nonneg_left ?_ (hw j)
      unfold highP
      split <;> lia
  refine lmin_is ?_ ?_
  · have hin : st.1 ∈ [] :: places := by
      rcases List.mem_cons.mp hh with e | e
      · rw [e]; exact List.mem_cons_self
      · by_cases hp : st.1 ∈ places
        · exact List.mem_cons_of_mem _ hp
        · have := K.zero e hp
          unfold hdI at h3
          lia
    refine List.mem_map.mpr ⟨st.1, hin, ?_⟩
    rw [meet_sum]
    apply sum_range_congr
    intro j hj
    rw [getD_map_lt (α := Unit) _ hj, getD_map_lt (α := Unit) _ hj]
    have hq : places.getD j [] ∈ places := by rw [List.getD_eq_getElem?_getD, List.getElem?_eq_getElem hj]; exact List.getElem_mem hj
    have hlj := hl j hj
    generalize places.getD j [] = q at hq hlj
    have rg := snd_rg paths q
    by_cases c : (st.1.take q.length == q) = true
    · rw [if_pos c]
      have c' : st.1.take q.length = q := by simpa using c
      have hle : q.length ≤ st.1.length := by have := congrArg List.length c'; rw [List.length_take] at this; lia
      have one : ∀ i, b2 (bitP paths i st.1) ≤ b2 (bitP paths i q) := by
        intro i
        cases e : bitP paths i st.1 with
        | false => have := b2_rg (bitP paths i q); rw [show b2 false = 0 from rfl]; lia
        | true =>
          have e1 : (paths.getD i []).take st.1.length = st.1 := by simpa using e
          have e2 : bitP paths i q = true := by
            unfold bitP
            rw [beq_iff_eq, ← take_le hle, e1]; exact c'
          rw [e2]; exact Int.le_refl _
      have h0 := one 0
      have h1 := one 1
      have h2 := one 2
      have h4 := one 3
      have h5 := one 4
      have h6 := one 5
      have hge : sndP paths q + tknP paths q > 3 := by unfold hdI sndP tknP at h3; unfold sndP tknP; lia
      congr 1
      unfold highP
      split <;> lia
    · rw [if_neg c]
      have hle : sndP paths q + tknP paths q ≤ 3 := by
        rcases Int.lt_or_le 3 (sndP paths q + tknP paths q) with z | z
        · exfalso
          have hql := hlj z
          have one : ∀ i, b2 (bitP paths i st.1) + b2 (bitP paths i q) ≤ 1 := by
            intro i
            cases e : bitP paths i st.1 with
            | false => have := b2_rg (bitP paths i q); rw [show b2 false = 0 from rfl]; lia
            | true =>
              cases e2 : bitP paths i q with
              | false => decide
              | true =>
                have e1 : (paths.getD i []).take st.1.length = st.1 := by simpa using e
                have e3 : (paths.getD i []).take q.length = q := by simpa using e2
                refine absurd ?_ c
                rw [beq_iff_eq, ← e1, take_le hql, e3]
          have h0 := one 0
          have h1 := one 1
          have h2 := one 2
          have h4 := one 3
          have h5 := one 4
          have h6 := one 5
          unfold hdI sndP tknP at h3
          unfold sndP tknP at z
          lia
        · exact z
      congr 1
      unfold highP
      split <;> lia
  · intro y hy
    obtain ⟨p, _, rfl⟩ := List.mem_map.mp hy
    rw [meet_sum]
    exact sum_range_le fun j hj => term p j hj
theorem nodup_names {places : List (List Int)} {r : Str} (hr : r ∈ allRefs) (hn : places.Nodup) (hp : ∀ q ∈ places, q ∈ allPaths) : (places.map (spR r)).Nodup := by
  unfold List.Nodup at *
  rw [List.pairwise_map]
  exact hn.imp_of_mem fun ha hb hne e => hne (spR_inj hr (hp _ ha) (hp _ hb) e)
theorem row_at {paths places : List (List Int)} (f : List Int → Int) {j : Int} (h : 0 ≤ j ∧ j < places.length) : at' (places.map f) j = f (places.getD j.toNat []) := getD_map_lt (α := Unit) f (by lia)
theorem plain_of {paths places : List (List Int)} (K : Conf paths places) (ds : List Int) (t : Int) {r : Str} (hr : r ∈ allRefs) : Plain ds t paths places (places.map (spR r)) (LP paths places) places.length := by
  have hn := nodup_names hr K.nd K.inn
  have hl : (places.map (spR r)).length = places.length := List.length_map ..
  have hrows := rows_eq (w := weightsOf ds places.length) K.h6 hn hl
  have hcr := columns_rg t K.ne
  have hcl := columns_len t places.length
  have hw0 : ∀ j, 0 ≤ (weightsOf ds places.length).getD j 0 := fun j => (weights_ok ds places.length j).1
  have hlow := low_eq (places := places) K.h6
  have hhigh := high_eq (places := places) K.h6
  have hco : ∀ p ∈ T6, (sumOf (LP paths places) (places.map (spR r)) (weightsOf ds places.length) p).2.2.2.1 = ((List.range places.length).map fun j => (weightsOf ds places.length).getD j 0 * crossP paths p (places.getD j [])).sum := fun p hp => cost_eq K.h6 hn hl hp
  have hlen : ∀ x ∈ rowsG paths places, x.length = places.length := by
    intro x hx
    obtain ⟨p, _, rfl⟩ := List.mem_map.mp hx
    exact List.length_map ..
  have ext : ∀ p ∈ T6, ∀ (g : List Int → Int), places.map g = places.map (crossP paths p) → ∀ j, j < places.length → g (places.getD j []) = crossP paths p (places.getD j []) := by
    intro p _ g e j hj
    rw [← getD_map_lt (α := Unit) g hj, ← getD_map_lt (α := Unit) (crossP paths p) hj, e]
  obtain ⟨cl1, cl2⟩ := K.count_low
  obtain ⟨ch1, ch2⟩ := K.count_high
  refine ⟨K.ne, ?_, ?_, ?_, ?_, ?_, ?_, ?_, ?_⟩
  · intro x hx
    unfold driftL at hx
    obtain ⟨j, hj, rfl⟩ := List.mem_map.mp hx
    have a := sumL_ok ((LP paths places).getD 0 []) ((LP paths places).getD 1 []) ((LP paths places).getD 2 []) places.length j
    have b := sumL_ok ((LP paths places).getD 3 []) ((LP paths places).getD 4 []) ((LP paths places).getD 5 []) places.length j
    exact mul_small (weights_ok ds places.length j) (by unfold sentP takenP; lia)
  · intro x hx
    rw [hlow] at hx
    unfold costL at hx
    obtain ⟨j, hj, rfl⟩ := List.mem_map.mp hx
    rw [getD_map_lt (α := Unit) _ (List.mem_range.mp hj)]
    have rg := snd_rg paths (places.getD j [])
    exact mul_small (weights_ok ds places.length j) (by unfold lowP; split <;> lia)
  · intro f hf
    obtain ⟨p, hp, rfl⟩ := List.mem_map.mp hf
    obtain ⟨e1, e2, _⟩ := sum_facts (L := LP paths places) (w := weightsOf ds places.length) hn p
    exact ⟨e1, e2, drift_eq K.h6 hn hl hp⟩
  · rw [hrows, hlow, sent_eq K.h6, taken_eq K.h6]
    obtain ⟨f1, f2⟩ := first_is (way := 1) (.inl rfl) (columnsOf t places.length) (places.map (lowP paths)) (rowsG paths places) cl2 (by
      intro x hx
      refine ⟨fun j hj => ?_, fun e => columns_eq t (hlen x hx) (List.length_map ..) e⟩
      obtain ⟨p, hp, rfl⟩ := List.mem_map.mp hx
      rw [row_at (paths := paths) _ (hcr j hj), row_at (paths := paths) _ (hcr j hj)]
      have := (cross_rg paths (places.getD j.toNat []) hp).1
      lia)
    rw [f2, f1, cl1]
  · rw [hrows, hhigh, sent_eq K.h6, taken_eq K.h6]
    obtain ⟨f1, f2⟩ := first_is (way := -1) (.inr rfl) (columnsOf t places.length) (places.map (highP paths)) (rowsG paths places) ch2 (by
      intro x hx
      refine ⟨fun j hj => ?_, fun e => columns_eq t (hlen x hx) (List.length_map ..) e⟩
      obtain ⟨p, hp, rfl⟩ := List.mem_map.mp hx
      rw [row_at (paths := paths) _ (hcr j hj), row_at (paths := paths) _ (hcr j hj)]
      have := (cross_rg paths (places.getD j.toNat []) hp).2.1
      lia)
    rw [f2, f1, ch1]
  · rw [hrows]
    have ok : ∀ i, i < (rowsG paths places).length → ∀ j, 0 ≤ ((rowsG paths places).getD i []).getD j 0 ∧ ((rowsG paths places).getD i []).getD j 0 ≤ 7 := by
      intro i hi j
      have hm : (rowsG paths places).getD i [] ∈ rowsG paths places := by rw [List.getD_eq_getElem?_getD, List.getElem?_eq_getElem hi]; exact List.getElem_mem hi
      obtain ⟨p, hp, e⟩ := List.mem_map.mp hm
      rw [← e]
      by_cases hj : j < places.length
      · rw [getD_map_lt (α := Unit) _ hj]
        have := (cross_rg paths (places.getD j []) hp).2.2
        lia
      · rw [List.getD_eq_getElem?_getD, List.getElem?_eq_none (by rw [List.length_map]; lia)]
        decide
    intro i hi j hj
    exact ordered_is _ _ _ (by rw [hcl]; exact hcr) (ok i hi) (ok j (Nat.lt_trans hj hi))
  · rw [hlow]
    unfold costL
    have e : ((List.range places.length).map fun j : Nat => (weightsOf ds places.length).getD j 0 * (places.map (lowP paths)).getD j 0).sum = ((List.range places.length).map fun j => (weightsOf ds places.length).getD j 0 * lowP paths (places.getD j [])).sum :=
      sum_range_congr fun j hj => by rw [getD_map_lt (α := Unit) _ hj]
    rw [e, List.map_map]
    refine lmin_is ?_ ?_
    · obtain ⟨p, hp, ep⟩ := List.mem_map.mp cl2
      refine List.mem_map.mpr ⟨p, hp, ?_⟩
      show (sumOf _ _ _ p).2.2.2.1 = _
      rw [hco p hp]
      apply sum_range_congr
      intro j hj
      rw [ext p hp (lowP paths) ep.symm j hj]
    · intro y hy
      obtain ⟨p, hp, rfl⟩ := List.mem_map.mp hy
      show _ ≤ (sumOf _ _ _ p).2.2.2.1
      rw [hco p hp]
      exact sum_range_le fun j hj => Int.mul_le_mul_of_nonneg_left (cross_rg paths _ hp).1 (hw0 j)
  · rw [sent_eq K.h6, taken_eq K.h6, K.meet _ hw0, List.map_map]
    refine lmax_is ?_ ?_
    · obtain ⟨p, hp, ep⟩ := List.mem_map.mp ch2
      refine List.mem_map.mpr ⟨p, hp, ?_⟩
      show (sumOf _ _ _ p).2.2.2.1 = _
      rw [hco p hp]
      apply sum_range_congr
      intro j hj
      rw [ext p hp (highP paths) ep.symm j hj]
    · intro y hy
      obtain ⟨p, hp, rfl⟩ := List.mem_map.mp hy
      show (sumOf _ _ _ p).2.2.2.1 ≤ _
      rw [hco p hp]
      exact sum_range_le fun j hj => Int.mul_le_mul_of_nonneg_left (cross_rg paths _ hp).2.1 (hw0 j)
theorem plain_all (ds : List Int) (t : Int) (hd : ds.length = 6) : Plain ds t (ds.map pathOf) (placesAt (ds.map pathOf) 6) ((placesAt (ds.map pathOf) 6).map (spR (rOf t))) ((ds.map pathOf).map (lieOf (placesAt (ds.map pathOf) 6))) (placesAt (ds.map pathOf) 6).length :=
  plain_of (conf_of (by rw [List.length_map]; exact hd) fun p hp => by
    obtain ⟨y, _, rfl⟩ := List.mem_map.mp hp
    exact path_in y) ds t (rOf_in t)
variable {C : Cx}
theorem law_true (E : Env0 C) (k : Nat) {script : List Int} (hs : script.length ≤ 63) : FnOK C (k + 8) "law" [lI script] (.bool true) := law_walk E k hs plain_all
end Mine
-- part Join2
open PySem PySem.W PyProof.Rows
set_option Elab.async false
set_option maxRecDepth 100000
namespace Mine
noncomputable abbrev KK (w : World) : Frag := hd.heap_39 w.params
def dxs : List Nat := [3, 4, 5, 6, 9, 12, 13, 14, 17, 18, 19, 20, 21, 23, 24, 25, 26, 27, 28, 29, 30, 31, 32, 33, 34, 35]
def drs : List DefRec := dxs.map dr
noncomputable def theC (w : World) (mg mb : Str → Option Value) : Cx := { prog := PySem.Challenge.pw_xp0035_01, w := w, mg := mg, mb := mb, defs := fun f => drs.find? fun d => d.name == f, K := KK w, TC := 95, RE := 36 }
def objAt (o : Option Obj) (n : Str) : Option Value := match o with
  | some o => (match o.data with | .dict es _ => nsFind es n | _ => none)
  | none => none
def reObj : Obj := { cls := .type "re.Pattern", data := .fields #[.str "\\.\\d+$" 285, .int 256 312, .int 0 0, .none, .none, .ref 35, .int 0 0] }
def ipObj : Obj := { cls := .type "tuple", data := .seq (ipv4.map fun (n : Nat) => Value.int (Int.ofNat n) 0) }
def mObj (r : MRec) (cd : Addr) : Obj := { cls := .type "function", data := .func (methDef r.name r.qual r.params r.body r.scope (.str "cpy313.pstats" 362) (.ref cd) .none) }
theorem k_re (w : World) : (KK w).lookup 36 = some reObj := by kernel_rfl
theorem k_ip (w : World) : (KK w).lookup 35 = some ipObj := by kernel_rfl
theorem k_m0 (w : World) : (KK w).lookup 85 = some (mObj r_init 84) := by kernel_rfl
theorem k_m1 (w : World) : (KK w).lookup 92 = some (mObj r_cmp 91) := by kernel_rfl
def gl3 : List (Str × Option Value) := [("TupleComp", some (.ref 95)), ("IPV4_RE", some (.ref 36)), ("ELLIPSIS_MARKER", some (.str "..." 348))]
theorem k_g (w : World) : gl3.map (fun n => objAt ((KK w).lookup 3) n.1) = gl3.map (·.2) := by kernel_rfl
theorem k_some (w : World) : ((KK w).lookup 3).isSome = true := by kernel_rfl
theorem map_pt {α β : Type} {f g : α → β} {l : List α} (h : l.map f = l.map g) : ∀ a ∈ l, f a = g a := List.map_inj_left.mp h
theorem recs_eq : recsOf hd.view_39 = ([3, 4, 5, 6, 9, 12, 13, 14, 16, 17, 18, 19, 20, 21, 23, 24, 25, 26, 27, 28, 29, 30, 31, 32, 33, 34, 35].map dr) := by kernel_rfl
abbrev biL : List (Str × Value) := [(("len" : Str), Value.builtin "len"), ("range", .type "range"), ("min", .builtin "min"), ("max", .builtin "max"), ("sum", .builtin "sum"), ("abs", .builtin "abs"), ("isinstance", .builtin "isinstance"), ("tuple", .type "tuple"), ("zip", .type "zip")]
theorem bi_some : biL.map (fun p => bootBuiltins p.1) = biL.map (fun p => some p.2) := by kernel_rfl
theorem bi_ne : ∀ p ∈ biL.map (·.1), p ≠ ("__name__" : Str) := by decide
theorem bi_none (w : World) : biL.map (fun p => objAt ((KK w).lookup 3) p.1) = biL.map (fun _ => none) := by kernel_rfl
theorem dxs_all : dxs.map (fun i => drs.find? fun d => d.name == (dr i).name) = dxs.map (fun i => some (dr i)) := by kernel_rfl
theorem drs_in : ∀ d ∈ drs, d ∈ recsOf hd.view_39 := by
  rw [recs_eq]
  intro d hd
  obtain ⟨i, hi, rfl⟩ := List.mem_map.mp hd
  have sub : ∀ i ∈ dxs, i ∈ [3, 4, 5, 6, 9, 12, 13, 14, 16, 17, 18, 19, 20, 21, 23, 24, 25, 26, 27, 28, 29, 30, 31, 32, 33, 34, 35] := by decide
  exact List.mem_map.mpr ⟨i, sub i hi, rfl⟩
section
variable {w : World} {mg mb : Str → Option Value} {loose : List Str} {mean : ExcName → Option Value} {h : Heap} (T : Top hd.view_39 loose mean mg mb h) (KX : (KK w).In h)
include T KX
theorem mg_at (n : Str) : objAt ((KK w).lookup 3) n = mg n := by
  obtain ⟨o, es, ep, e1, e2, _, e3⟩ := T.g
  obtain ⟨o', hk⟩ := Option.isSome_iff_exists.mp (k_some w)
  have e4 := KX 3 o' hk
  have e5 : h.get? 3 = some o := e1
  have e6 : o' = o := Option.some.inj (e4.symm.trans e5)
  rw [hk, e6]
  unfold objAt
  dsimp only
  rw [e2]
  exact e3 n
theorem fns_at : ∀ f d, (theC w mg mb).defs f = some d → ∃ a o pm cd doc, mg f = some (.ref a) ∧ h.get? a = some o ∧ o.data = .func (Calls.docDef d.name d.params d.body d.scope pm cd doc) ∧ h.CodeRec cd d.name := by
  intro f d e
  have e1 : drs.find? (fun d => d.name == f) = some d := e
  have hn : d.name = f := by simpa using List.find?_some e1
  obtain ⟨a, o, pm, cd, doc, h1, h2, h3, h4⟩ := T.fn d (drs_in d (List.mem_of_find?_eq_some e1))
  rw [hn] at h1
  exact ⟨a, o, pm, cd, doc, h1, h2, h3, h4⟩
theorem env0 : Env0 (theC w mg mb) where
  defs := fun i hi => map_pt dxs_all i hi
  fnG := by
    intro f d e
    obtain ⟨a, _, _, _, _, h1, _⟩ := fns_at T KX f d e
    exact ⟨a, h1⟩
  cls := (mg_at T KX "TupleComp").symm.trans (map_pt (k_g w) ("TupleComp", some (.ref 95)) (.head _))
  re := (mg_at T KX "IPV4_RE").symm.trans (map_pt (k_g w) ("IPV4_RE", some (.ref 36)) (.tail _ (.head _)))
  em := ⟨348, (mg_at T KX "ELLIPSIS_MARKER").symm.trans (map_pt (k_g w) ("ELLIPSIS_MARKER", some (.str "..." 348)) (.tail _ (.tail _ (.head _))))⟩
  bi := fun p hp => ⟨(mg_at T KX p.1).symm.trans (map_pt (bi_none w) p hp), (T.builtins p.1 (bi_ne p.1 (List.mem_map_of_mem hp))).trans (map_pt bi_some p hp)⟩
  reK := by
    intro h hK
    exact ⟨reObj, "\\.\\d+$", 285, .int 256 312, 35, _, _, ipObj, hK 36 _ (k_re w), rfl, rfl, rfl, hK 35 _ (k_ip w), rfl, by kernel_rfl⟩
  clsK := ⟨by kernel_rfl, by kernel_rfl, by kernel_rfl, by kernel_rfl, by kernel_rfl, by kernel_rfl, by kernel_rfl, by kernel_rfl, by kernel_rfl⟩
  initK := ⟨85, mObj r_init 84, .str "cpy313.pstats" 362, .ref 84, .none, by kernel_rfl, by kernel_rfl, k_m0 w, rfl, by kernel_rfl⟩
  cmpK := ⟨92, mObj r_cmp 91, .str "cpy313.pstats" 362, .ref 91, .none, by kernel_rfl, by kernel_rfl, k_m1 w, rfl, by kernel_rfl⟩
theorem base0 : Base (theC w mg mb) h where
  g := T.g
  b := T.b
  lim := T.nolimit
  fns := fns_at T KX
  K := KX
end
end Mine
-- part Join3
open PySem PySem.W PyProof.Rows
set_option Elab.async false
set_option maxRecDepth 100000
namespace Mine
theorem ints_rp {C : Cx} {X : Addr → Prop} {h : Heap} {vs : List Value} {ns : List Int} (r : IntsAre vs ns) : RpAll C X h vs (ns.map D.int) := by
  induction r with
  | nil => exact .nil
  | cons n t r ih => exact .cons (.int n t) ih
theorem well_list {P : Params} {h : Heap} {a : Addr} {d : WData} {xs : List WData} (w : Well P h (.ref a) d) (e : d = .list xs) : ∃ vs : List Value, h.get? a = some { cls := .type "list", data := .seq vs.toArray } := by
  subst e
  cases w with
  | list g _ => exact ⟨_, g⟩
theorem law_code {w : World} {mg mb : Str → Option Value} {loose : List Str} {mean : ExcName → Option Value} {s1 : Shared} (T : Top hd.view_39 loose mean mg mb s1.heap) (KX : (KK w).In s1.heap)
    {fa a : Addr} {vs us : List Value} {ns : List Int} (hfa : mg "law" = some (.ref fa)) (hl : s1.heap.get? a = some { cls := .type "list", data := .seq us.toArray }) (hL : s1.heap.IsList a vs.toArray) (hI : IntsAre vs ns) (hn : ns.length ≤ 63) :
    codeAny (model PySem.Challenge.pw_xp0035_01 w) callerA (.call (.ref fa) ⟨[.ref a], []⟩) (fun r s' => r = .ok (.ret (.bool true)) ∧ Keeps s1 s') s1 := by
  have e : us = vs := by
    obtain ⟨o, e1, _, n, e2⟩ := hL
    rw [hl] at e1
    cases e1
    injection e2 with e3 _
    simpa using e3
  subst e
  have R : Room (0 + 8) callerA := ⟨rfl, by decide, by decide⟩
  refine codeAny_mono (law_true (env0 T KX) 0 hn callerA (fun _ => False) s1 fa [.ref a] R (base0 T KX) (fun _ h => h.elim) hfa (.cons (.list (fun h => h) hl (ints_rp hI)) .nil)) fun r s' g => ?_
  obtain ⟨v, rfl, hk, rv⟩ := g
  cases rv
  exact ⟨rfl, hk⟩
end Mine
set_option maxHeartbeats 8000000 in
theorem PySem.Challenge.cw_xp0035_01_holds : PySem.Challenge.rw_xp0035_01.Holds :=
  Mine.hd (by
  k_fill
  intro w s0 s1 mg mb G Y fa o pm cd doc dV kV ho hd hcd hD hmg hg args vals as hpre hlay hrd hwl hlo
  have KX := kIn_of Y
  refine Ground.open G ?_
  intro T B D TE TW
  wrow_args hpre hlay hrd hwl hlo
  rename_i ns hs0 hla hL1 hr1 hl2 wa wb a vs wc hL ra w1 r0 hI hr hc1 hc2
  obtain ⟨us, hl⟩ := Mine.well_list w1 rfl
  refine enter_call ?_
  refine codeAny_mono (Mine.law_code T KX hmg hl hL hI (by lia)) fun res s' g => GoodW.toG ?_
  obtain ⟨rfl, hk⟩ := g
  obtain ⟨h', tk, rfl, hk⟩ := hk
  refine ⟨.inl ⟨_, _, [], rfl, ?_, .bool true, ?_, unshared_nil⟩, hk, rfl, hg⟩
  · exact raisesW_false (by wrow_none_raised)
  · wrow_post)
