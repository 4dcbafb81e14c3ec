import PyProof.Rows.All
import Wide.All
import OpenK.AllK
import Wide.FinOn
import PySem.Challenge.RW_aa6016_02

set_option linter.all false

open PySem PySem.W PyProof.Rows PySem.Calls
set_option Elab.async false
set_option autoImplicit false
namespace Mine

/-- mini values: Python values without tokens -/
inductive MV where
  | none | bool (b : Bool) | int (i : Int) | str (s : Str) | ref (a : Addr) | type (n : String) | builtin (id : String)
  deriving DecidableEq

def VR : Value → MV → Prop
  | v, .none => v = .none
  | v, .bool b => v = .bool b
  | v, .int i => ∃ t, v = .int i t
  | v, .str x => PyData.strOk x = true ∧ ∃ t, v = .str x t
  | v, .ref a => v = .ref a
  | v, .type n => v = .type n
  | v, .builtin n => v = .builtin n

inductive R2 {α β : Type} (R : α → β → Prop) : List α → List β → Prop
  | nil : R2 R [] []
  | cons {a b as bs} : R a b → R2 R as bs → R2 R (a :: as) (b :: bs)

theorem R2.length {α β : Type} {R : α → β → Prop} {as : List α} {bs : List β} (h : R2 R as bs) : as.length = bs.length := by
  induction h with
  | nil => rfl
  | cons _ _ ih => simp [ih]
theorem R2.get {α β : Type} {R : α → β → Prop} {as : List α} {bs : List β} (h : R2 R as bs) : ∀ {i : Nat} {b : β}, bs[i]? = some b → ∃ a, as[i]? = some a ∧ R a b := by
  induction h with
  | nil => intro i b e; simp at e
  | cons h _ ih =>
    intro i b e
    cases i with
    | zero => simp at e; subst e; exact ⟨_, rfl, h⟩
    | succ i => simp at e; obtain ⟨a, e1, e2⟩ := ih e; exact ⟨a, by simpa using e1, e2⟩
theorem R2.append {α β : Type} {R : α → β → Prop} {as as' : List α} {bs bs' : List β} (h : R2 R as bs) (h' : R2 R as' bs') : R2 R (as ++ as') (bs ++ bs') := by
  induction h with
  | nil => exact h'
  | cons a _ ih => exact .cons a ih
theorem R2.snoc {α β : Type} {R : α → β → Prop} {as : List α} {bs : List β} {a : α} {b : β} (h : R2 R as bs) (e : R a b) : R2 R (as ++ [a]) (bs ++ [b]) := h.append (.cons e .nil)
theorem R2.take {α β : Type} {R : α → β → Prop} {as : List α} {bs : List β} (h : R2 R as bs) : ∀ n, R2 R (as.take n) (bs.take n) := by
  induction h with
  | nil => intro n; simp; exact .nil
  | cons a _ ih => intro n; cases n with | zero => exact .nil | succ n => exact .cons a (ih n)
theorem R2.drop {α β : Type} {R : α → β → Prop} {as : List α} {bs : List β} (h : R2 R as bs) : ∀ n, R2 R (as.drop n) (bs.drop n) := by
  induction h with
  | nil => intro n; simp; exact .nil
  | cons a h ih => intro n; cases n with | zero => exact .cons a h | succ n => exact ih n
theorem R2.reverse {α β : Type} {R : α → β → Prop} {as : List α} {bs : List β} (h : R2 R as bs) : R2 R as.reverse bs.reverse := by
  induction h with
  | nil => exact .nil
  | cons a _ ih => simp only [List.reverse_cons]; exact ih.snoc a
theorem R2.mono {α β : Type} {R S : α → β → Prop} {as : List α} {bs : List β} (h : R2 R as bs) (k : ∀ a b, R a b → S a b) : R2 S as bs := by
  induction h with
  | nil => exact .nil
  | cons a _ ih => exact .cons (k _ _ a) ih

/-- mini objects -/
inductive MO where
  | list (xs : List MV)
  | tuple (xs : List MV)
  | dict (es : List (Str × MV))
  | ns (es : List (Str × MV))
  | inst (C d : Addr)
  | range (lo hi st : Int)
  | kob

def MO.frozen : MO → Bool
  | .tuple _ => true
  | .range .. => true
  | .kob => true
  | _ => false

abbrev MH := Addr → Option MO
abbrev ML := List (Str × Option MV)
abbrev XP := Addr → Str → MH → Prop

def upd (σ : MH) (a : Addr) (o : MO) : MH := fun b => if b = a then some o else σ b

structure Rt where
  prog : Program
  w : World
  K : Frag
  p : Program
  loose : List Str
  mean : ExcName → Option Value
  mg : Str → Option Value
  mb : Str → Option Value
  hb : Heap
  X : K.In hb
  T : Top p loose mean mg mb hb

abbrev Rt.M (Γ : Rt) : Model := model Γ.prog Γ.w
abbrev Rt.knd (Γ : Rt) : KeyKind Γ.prog Γ.w Str := strKind Γ.prog Γ.w

def KR : Str × Value → Str × MV → Prop := fun a b => (a.1 = b.1 ∧ PyData.strOk b.1 = true) ∧ VR a.2 b.2

def OR (Γ : Rt) (a : Addr) : Obj → MO → Prop
  | o, .list xs => xs.length ≤ sizeLine ∧ ∃ vs n, o = listOf vs.toArray n ∧ R2 VR vs xs
  | o, .tuple xs => xs.length ≤ sizeLine ∧ ∃ vs n, o = { cls := .type "tuple", data := .seq vs.toArray n } ∧ R2 VR vs xs
  | o, .dict es => (es.length ≤ sizeLine ∧ (a == sysModules) = false) ∧ ∃ kvs, o.IsDictOf Γ.knd kvs ∧ R2 KR kvs es
  | o, .ns es => ∃ kvs, o.IsDictOf Γ.knd kvs ∧ R2 KR kvs es
  | o, .inst C d => o = instObj C d
  | o, .range lo hi st => (lo = 0 ∧ hi.natAbs < 2 ^ 62 ∧ st = 1) ∧ ∃ t u v, o = { cls := .type "range", data := .fields #[.int lo t, .int hi u, .int st v] }
  | _, .kob => True

structure Hold (Γ : Rt) (ext : List (Addr × Obj)) (σ : MH) (news : List (Addr × Obj)) : Prop where
  nd : (news.map (·.1)).Nodup
  ndx : (ext.map (·.1)).Nodup
  ext : ∀ q ∈ ext, q ∈ news ∧ σ q.1 = none
  obj : ∀ a o, σ a = some o → (∃ ob, (a, ob) ∈ news ∧ OR Γ a ob o) ∨ (∃ ob, Γ.K.lookup a = some ob ∧ OR Γ a ob o ∧ o.frozen = true)

def NsObj (o : Obj) (m : Str → Option Value) : Prop := ∃ es ep, o.data = .dict es ep ∧ StrKeys es ∧ ∀ name, nsFind es name = m name

/-- the frames below: their blocks' objects, their maps -/
def FrsOk : List Env → List (Str → Option Value) → List (Addr × Obj) → Prop
  | [], [], [] => True
  | env :: l, m :: ms, q :: frs => env.scope.kind = .function ∧ env.frame = some q.1 ∧ NsObj q.2 m ∧ FrsOk l ms frs
  | _, _, _ => False

structure Act where
  nm : Str
  scope : Scope
  L : Addr
  fa : Addr
  cd : Value
  cl : List (Str × Addr)
  outer : List Env
  om : List (Str → Option Value)
  hk : scope.kind = .function

abbrev Act.env (a : Act) : Env := envX a.nm a.scope a.L a.fa a.cd a.cl

def ML.get (μ : ML) (x : Str) : Option (Option MV) := μ.lookup x
def ML.set (μ : ML) (x : Str) (d : MV) : ML := μ.map fun q => if q.1 = x then (q.1, some d) else q

def Locs (a : Act) (μ : ML) (m : Str → Option Value) (cs : List (Addr × Obj)) : Prop :=
  ∀ x d, μ.get x = some (some d) →
    (a.scope.names.lookup x = some .local ∧ ∃ v, m x = some v ∧ VR v d) ∨
    ((a.scope.names.lookup x = some .cell ∨ (a.scope.names.lookup x = some .free ∧ (x == ("__classdict__" : Str)) = false)) ∧ ∃ c o v, a.cl.lookup x = some c ∧ (c, o) ∈ cs ∧ o.data = .cell (some v) ∧ VR v d)

def St (Γ : Rt) (a : Act) (ext : List (Addr × Obj)) (σ : MH) (μ : ML) (h : Heap) : Prop :=
  ∃ m news cs frs, Fr Γ.hb a.L h m ∧ News Γ.hb a.L h news ∧ Hold Γ (cs ++ (frs ++ ext)) σ news ∧ Locs a μ m cs ∧ FrsOk a.outer a.om frs

/-- what is asked of the stack about -/
structure AOk (a : Act) (n : Nat) (A : Around) : Prop where
  fr : A.frames = some (a.env :: a.outer)
  hh : A.handled = none
  dp : A.depth + 2 * n < recursionLimit
  un : A.units + 8 * n + 100 < cLine

theorem Hold.fresh {Γ : Rt} {ext : List (Addr × Obj)} {σ : MH} {news : List (Addr × Obj)} {h₀ h : Heap} {L k : Addr} {ob : Obj} (H : Hold Γ ext σ news) (X : Γ.K.In h₀) (N : News h₀ L h ((k, ob) :: news)) (hf : ∀ p ∈ news, p.1 < k) : σ k = none := by
  cases e : σ k with
  | none => rfl
  | some o =>
    rcases H.obj k o e with ⟨ob', hm, _⟩ | ⟨ob', hK, _⟩
    · exact absurd (hf _ hm) (Nat.lt_irrefl _)
    · have := (N _ (.head _)).2.2
      have := X _ _ hK
      simp_all

theorem Hold.alloc {Γ : Rt} {ext : List (Addr × Obj)} {σ : MH} {news : List (Addr × Obj)} {k : Addr} {ob : Obj} {o : MO} (H : Hold Γ ext σ news) (hf : ∀ p ∈ news, p.1 < k) (ho : OR Γ k ob o) :
    Hold Γ ext (upd σ k o) ((k, ob) :: news) := by
  refine ⟨?_, H.ndx, ?_, ?_⟩
  · rw [List.map_cons, List.nodup_cons]
    refine ⟨fun hm => ?_, H.nd⟩
    obtain ⟨p, hp, e⟩ := List.mem_map.mp hm
    exact absurd (hf p hp) (by rw [e]; exact Nat.lt_irrefl _)
  · intro q hq
    obtain ⟨h1, h2⟩ := H.ext q hq
    refine ⟨.tail _ h1, ?_⟩
    unfold upd
    rw [if_neg (Nat.ne_of_lt (hf q h1))]
    exact h2
  · intro a o' e
    unfold upd at e
    split at e
    · rename_i h
      subst h
      cases e
      exact .inl ⟨ob, .head _, ho⟩
    · rcases H.obj a o' e with ⟨ob', hm, h⟩ | h
      · exact .inl ⟨ob', .tail _ hm, h⟩
      · exact .inr h

/-- a new real object that the mini heap does not speak of -/
theorem Hold.more {Γ : Rt} {ext : List (Addr × Obj)} {σ : MH} {news : List (Addr × Obj)} {k : Addr} {ob : Obj} (H : Hold Γ ext σ news) (hf : ∀ p ∈ news, p.1 < k) : Hold Γ ext σ ((k, ob) :: news) := by
  refine ⟨?_, H.ndx, fun q hq => ⟨.tail _ (H.ext q hq).1, (H.ext q hq).2⟩, ?_⟩
  · rw [List.map_cons, List.nodup_cons]
    refine ⟨fun hm => ?_, H.nd⟩
    obtain ⟨p, hp, e⟩ := List.mem_map.mp hm
    exact absurd (hf p hp) (by rw [e]; exact Nat.lt_irrefl _)
  · intro a o' e
    rcases H.obj a o' e with ⟨ob', hm, h⟩ | h
    · exact .inl ⟨ob', .tail _ hm, h⟩
    · exact .inr h

theorem eq_of_nodup {news : List (Addr × Obj)} {a : Addr} {o o' : Obj} (nd : (news.map (·.1)).Nodup) (h : (a, o) ∈ news) (h' : (a, o') ∈ news) : o = o' := by
  induction news with
  | nil => cases h
  | cons p r ih =>
    rw [List.map_cons, List.nodup_cons] at nd
    rcases List.mem_cons.mp h with e | h1
    · rcases List.mem_cons.mp h' with e' | h2
      · rw [← e] at e'; cases e'; rfl
      · exact absurd (List.mem_map_of_mem (f := (·.1)) h2) (by rw [← e] at nd; exact nd.1)
    · rcases List.mem_cons.mp h' with e' | h2
      · exact absurd (List.mem_map_of_mem (f := (·.1)) h1) (by rw [← e'] at nd; exact nd.1)
      · exact ih nd.2 h1 h2

theorem upd_of {news : List (Addr × Obj)} {a : Addr} {o : Obj} (nd : (news.map (·.1)).Nodup) (h : (a, o) ∈ news) (o' : Obj) :
    ∃ pre post, news = pre ++ (a, o) :: post ∧ (∀ p ∈ pre, p.1 ≠ a) ∧ (∀ p ∈ post, p.1 ≠ a) ∧ Upd a o o' news (pre ++ (a, o') :: post) := by
  induction news with
  | nil => cases h
  | cons p r ih =>
    rw [List.map_cons, List.nodup_cons] at nd
    rcases List.mem_cons.mp h with e | h1
    · subst e
      have hp : ∀ p ∈ r, p.1 ≠ a := fun q hq e => nd.1 (e ▸ List.mem_map_of_mem (f := (·.1)) hq)
      exact ⟨[], r, rfl, (fun _ h => (nomatch h)), hp, .head hp⟩
    · obtain ⟨pre, post, e1, e2, e3, e4⟩ := ih nd.2 h1
      have hp : p.1 ≠ a := fun e => nd.1 (e ▸ List.mem_map_of_mem (f := (·.1)) h1)
      refine ⟨p :: pre, post, by rw [e1]; rfl, ?_, e3, .tail hp e4⟩
      intro q hq
      rcases List.mem_cons.mp hq with rfl | hq
      · exact hp
      · exact e2 q hq

theorem Hold.at {Γ : Rt} {ext : List (Addr × Obj)} {σ : MH} {news : List (Addr × Obj)} (H : Hold Γ ext σ news) {a : Addr} {o : MO} (e : σ a = some o) (hf : o.frozen = false) : ∃ ob, (a, ob) ∈ news ∧ OR Γ a ob o := by
  rcases H.obj a o e with h | ⟨_, _, _, h⟩
  · exact h
  · rw [hf] at h; cases h

theorem Hold.update {Γ : Rt} {ext : List (Addr × Obj)} {σ : MH} {pre post : List (Addr × Obj)} {a : Addr} {ob ob' : Obj} {o o' : MO} (H : Hold Γ ext σ (pre ++ (a, ob) :: post)) (e : σ a = some o) (ho : OR Γ a ob' o') :
    Hold Γ ext (upd σ a o') (pre ++ (a, ob') :: post) := by
  have nd := H.nd
  have hap : ∀ q ∈ ext, q.1 ≠ a := fun q hq h => by
    have := (H.ext q hq).2; rw [h, e] at this; cases this
  refine ⟨?_, H.ndx, ?_, ?_⟩
  · simpa using nd
  · intro q hq
    obtain ⟨h1, h2⟩ := H.ext q hq
    have hne := hap q hq
    refine ⟨?_, by unfold upd; rw [if_neg hne]; exact h2⟩
    rcases List.mem_append.mp h1 with h | h
    · exact List.mem_append_left _ h
    · rcases List.mem_cons.mp h with h | h
      · exact absurd (congrArg (·.1) h) hne
      · exact List.mem_append_right _ (.tail _ h)
  · intro b x hb
    unfold upd at hb
    split at hb
    · rename_i h; subst h; cases hb
      exact .inl ⟨ob', List.mem_append_right _ (.head _), ho⟩
    · rename_i h
      rcases H.obj b x hb with ⟨ob₁, hm, h1⟩ | h1
      · refine .inl ⟨ob₁, ?_, h1⟩
        rcases List.mem_append.mp hm with hm | hm
        · exact List.mem_append_left _ hm
        · rcases List.mem_cons.mp hm with hm | hm
          · exact absurd (congrArg (·.1) hm) h
          · exact List.mem_append_right _ (.tail _ hm)
      · exact .inr h1

end Mine

open PySem PySem.W PyProof.Rows PySem.Calls
set_option Elab.async false
set_option autoImplicit false
namespace Mine

/-- outcomes of a statement -/
inductive Fl where
  | next | brk | cont | ret (d : MV)

/- dictionaries -/
def dget {V : Type} (es : List (Str × V)) (k : Str) : Option V := (es.find? fun q => q.1 = k).map (·.2)
def dput {V : Type} (es : List (Str × V)) (k : Str) (v : V) : List (Str × V) :=
  if es.any (fun q => q.1 = k) then es.map (fun q => if q.1 = k then (q.1, v) else q) else es ++ [(k, v)]

def plainMV (x : MV) : Bool := match x with | .builtin _ => false | _ => true

/- what a class of the text gives (the written part K decides) -/
def rdOk (K : Frag) (C : Addr) (n : Str) : Bool := plainGet K C n && hasDictIn K C && (match findIn K (.ref C) n with | some attr => noGet K attr | none => false)
def wrOk (K : Frag) (C : Addr) (n : Str) : Bool :=
  findIn K (.ref C) "__setattr__" == some (some (.builtin "object.__setattr__")) && plainOver K C && takerIn K C n == some none && hasDictIn K C && PyData.strOk n
def meOk (K : Frag) (C : Addr) (n : Str) (f : Addr) : Bool :=
  findIn K (.ref C) "__getattribute__" == some (some (.builtin "object.__getattribute__")) && findIn K (.ref C) "__getattr__" == some none && findIn K (.ref C) n == some (some (.ref f)) && typeIn K (.ref f) == some (.type "function")
def stOk (K : Frag) (C : Addr) (n : Str) (f : Addr) : Bool :=
  specialIn K (.ref C) "__getattribute__" == some (some (.builtin "type.__getattribute__")) && readsIn K C (.type "type") &&
  (match findCls K (.ref C) (.type "type") n with
    | some (.get (.builtin i) (.ref g) .none (.ref C')) => i == "staticmethod.__get__" && C' == C && (match recIn K g "staticmethod" with | some (.ref f' :: _) => f' == f | _ => false)
    | _ => false)
def trOk (K : Frag) (C : Addr) : Bool := findIn K (.ref C) "__bool__" == some none && findIn K (.ref C) "__len__" == some none

/- primitive operations, each as what is wanted of it -/
def truthW (Γ : Rt) (σ : MH) (v : MV) (P : Bool → Prop) : Prop :=
  match v with
  | .none => P false
  | .bool b => P b
  | .int i => P (i != 0)
  | .ref a => (match σ a with
    | some (.list xs) => P (!xs.isEmpty)
    | some (.tuple xs) => P (!xs.isEmpty)
    | some (.dict es) => P (!es.isEmpty)
    | some (.inst C d) => trOk Γ.K C = true ∧ (∃ es, σ d = some (.ns es)) ∧ P true
    | _ => False)
  | _ => False

def allocW (σ : MH) (o : MO) (P : MV → MH → Prop) : Prop := ∀ k, σ k = none → P (.ref k) (upd σ k o)

def constW (c : Const) (σ : MH) (P : MV → MH → Prop) : Prop :=
  match c with
  | .none => P .none σ
  | .bool b => P (.bool b) σ
  | .int i => P (.int i) σ
  | .str s => PyData.strOk s = true ∧ P (.str s) σ
  | _ => False

/-- what a global name stands for -/
def globOf (K : Frag) (x : Str) : Option MV :=
  if x == ("__debug__" : Str) || x == ("__name__" : Str) then none else
  match nsIn K mainGlobals x with
  | some (some (.ref a)) => some (.ref a)
  | some none => (match bootBuiltins x with
    | some (.type t) => some (.type t)
    | some (.builtin t) => some (.builtin t)
    | _ => none)
  | _ => none

def nameW (Γ : Rt) (sc : Scope) (x : Str) (μ : ML) (σ : MH) (P : MV → MH → Prop) : Prop :=
  (x == ("__debug__" : Str)) = false ∧ (match sc.names.lookup x with
  | some .globalImplicit => (match globOf Γ.K x with | some v => P v σ | none => False)
  | some _ => (match μ.get x with | some (some v) => P v σ | _ => False)
  | none => False)

def attrW (Γ : Rt) (v : MV) (n : Str) (σ : MH) (P : MV → MH → Prop) : Prop :=
  match v with
  | .ref a => (match σ a with
    | some (.inst C d) => (match σ d with
      | some (.ns es) => rdOk Γ.K C n = true ∧ (∃ x, dget es n = some x ∧ plainMV x = true ∧ P x σ)
      | _ => False)
    | _ => False)
  | _ => False

def setAttrW (Γ : Rt) (v : MV) (n : Str) (x : MV) (σ : MH) (P : MH → Prop) : Prop :=
  match v with
  | .ref a => (match σ a with
    | some (.inst C d) => (match σ d with
      | some (.ns es) => wrOk Γ.K C n = true ∧ es.length < 1000 ∧ P (upd σ d (.ns (dput es n x)))
      | _ => False)
    | _ => False)
  | _ => False

def itemW (v i : MV) (σ : MH) (P : MV → MH → Prop) : Prop :=
  match v, i with
  | .ref a, .int k => (match σ a with
    | some (.list xs) => 0 ≤ k ∧ ∃ x, xs[k.toNat]? = some x ∧ P x σ
    | some (.tuple xs) => 0 ≤ k ∧ ∃ x, xs[k.toNat]? = some x ∧ P x σ
    | _ => False)
  | .ref a, .str k => (match σ a with
    | some (.dict es) => ∃ x, dget es k = some x ∧ P x σ
    | _ => False)
  | _, _ => False

def setItemW (v i x : MV) (σ : MH) (P : MH → Prop) : Prop :=
  match v, i with
  | .ref a, .str k => (match σ a with
    | some (.dict es) => es.length < sizeLine ∧ P (upd σ a (.dict (dput es k x)))
    | _ => False)
  | _, _ => False

/-- lo, hi: written bounds of a cut, none or not below nought -/
def sliceW (v lo hi : MV) (σ : MH) (P : MV → MH → Prop) : Prop :=
  match v with
  | .ref a => (match σ a with
    | some (.list xs) => (match lo, hi with
      | .none, .none => allocW σ (.list xs) P
      | .none, .int k => 0 ≤ k ∧ allocW σ (.list (xs.take k.toNat)) P
      | .int k, .none => 0 ≤ k ∧ allocW σ (.list (xs.drop k.toNat)) P
      | _, _ => False)
    | _ => False)
  | _ => False

def flatMV (x : MV) : Bool := match x with | .str _ => true | .int _ => true | .none => true | _ => false

/-- x % (ys) is T -/
def PctOk (x : Str) (ys : List MV) (T : Str) : Prop := PyData.strOk T = true ∧ ∀ (vs : List Value) (t : Tok) (b : Addr), R2 VR vs ys →
  Meets (Builtin.«str.__mod__» ⟨[.str x t, .ref b], []⟩) (fun _ R s => IsTup s.heap b vs.toArray ∧ ∀ t' k, R (.ok (.ret (.str T t'))) { s with toks := k })

def binW (op : Operator) (a b : MV) (σ : MH) (P : MV → MH → Prop) : Prop :=
  match a, b with
  | .int i, .int j => (match op with
    | .Add => P (.int (i + j)) σ
    | .Sub => P (.int (i - j)) σ
    | .Mult => (i.natAbs < 2 ^ 64 ∨ j.natAbs < 2 ^ 64) ∧ P (.int (i * j)) σ
    | .Mod => j ≠ 0 ∧ P (.int (i.fmod j)) σ
    | .FloorDiv => j ≠ 0 ∧ j.natAbs < 1073741824 ∧ P (.int (i.fdiv j)) σ
    | _ => False)
  | .str x, .str y => (match op with
    | .Add => x.length + y.length ≤ sizeLine ∧ P (.str (x ++ y)) σ
    | _ => False)
  | .str x, .ref b => (match op with
    | .Mod => ∃ ys T, σ b = some (.tuple ys) ∧ PctOk x ys T ∧ P (.str T) σ
    | _ => False)
  | _, _ => False

def cmpW (op : CmpOp) (a b : MV) (σ : MH) (P : Bool → Prop) : Prop :=
  match a, b with
  | .int i, .int j => (match op with
    | .Eq => P (i == j) | .NotEq => P (i != j) | .Lt => P (decide (i < j)) | .LtE => P (decide (i ≤ j)) | .Gt => P (decide (j < i)) | .GtE => P (decide (j ≤ i))
    | _ => False)
  | .str x, .str y => (match op with
    | .Eq => P (x == y) | .NotEq => P (x != y)
    | .In => P (!(Builtin.Str.occurrences y x 0 y.length 1).isEmpty)
    | _ => False)
  | x, .none => (match op with
    | .Is => P (decide (x = .none)) | .IsNot => P (!decide (x = .none))
    | _ => False)
  | x, .ref b => (match σ b with
    | some (.dict es) => (match x with
      | .str k => (match op with | .In => P (dget es k).isSome | .NotIn => P (!(dget es k).isSome) | _ => False)
      | .ref a => (match σ a with
        | some (.dict es') => (∀ q ∈ es', flatMV q.2 = true) ∧ (∀ q ∈ es, flatMV q.2 = true) ∧ (match op with
          | .Eq => P (decide (es'.length = es.length ∧ ∀ q ∈ es', dget es q.1 = some q.2))
          | .NotEq => P (!decide (es'.length = es.length ∧ ∀ q ∈ es', dget es q.1 = some q.2))
          | _ => False)
        | _ => False)
      | _ => False)
    | some (.list xs) => (match x with
      | .ref a => (match σ a with
        | some (.list ys) => (∀ q ∈ ys, flatMV q = true) ∧ (∀ q ∈ xs, flatMV q = true) ∧ (match op with
          | .Eq => P (decide (ys = xs)) | .NotEq => P (!decide (ys = xs)) | _ => False)
        | _ => False)
      | x => flatMV x = true ∧ (∀ q ∈ xs, flatMV q = true) ∧ (match op with
        | .In => P (decide (x ∈ xs)) | .NotIn => P (!decide (x ∈ xs)) | _ => False))
    | _ => False)
  | _, _ => False

def iterOf : MO → Option (List MV)
  | .list xs => some xs
  | .tuple xs => some xs
  | .range lo hi 1 => some ((List.range (hi - lo).toNat).map fun (i : Nat) => .int (lo + i))
  | _ => none

/-- calls of built-in functions and types -/
def builtinW (id : String) (args : List MV) (σ : MH) (P : MV → MH → Prop) : Prop :=
  match id, args with
  | "len", [.ref a] => (match σ a with
    | some (.list xs) => P (.int xs.length) σ
    | some (.tuple xs) => P (.int xs.length) σ
    | some (.dict es) => P (.int es.length) σ
    | _ => False)
  | "list.append", [.ref a, x] => (match σ a with
    | some (.list xs) => xs.length < sizeLine ∧ P .none (upd σ a (.list (xs ++ [x])))
    | _ => False)
  | "list.extend", [.ref a, .ref b] => (match σ a with
    | some (.list xs) => (match σ b with
      | some (.list ys) => a ≠ b ∧ xs.length + ys.length ≤ sizeLine ∧ P .none (upd σ a (.list (xs ++ ys)))
      | _ => False)
    | _ => False)
  | "isinstance", [.str _, .type "str"] => P (.bool true) σ
  | _, _ => False

def typeW (n : String) (args : List MV) (σ : MH) (P : MV → MH → Prop) : Prop :=
  match n, args with
  | "str", [.int i] => i.natAbs < 10 ^ 10 ∧ P (.str (Str.ofString (toString i))) σ
  | "list", [.ref a] => (match σ a with
    | some (.list xs) => allocW σ (.list xs) P
    | some (.tuple xs) => allocW σ (.list xs) P
    | _ => False)
  | "tuple", [.ref a] => (match σ a with
    | some (.list xs) => allocW σ (.tuple xs) P
    | _ => False)
  | "range", [.int n] => n.natAbs < 2 ^ 62 ∧ allocW σ (.range 0 n 1) P
  | _, _ => False

/-- the method of a name that a call finds: the callee and what stands first -/
def methW (Γ : Rt) (v : MV) (n : Str) (σ : MH) (P : MV → List MV → Prop) : Prop :=
  match v with
  | .ref a => (match σ a with
    | some (.list _) => (n = "append" ∧ P (.builtin "list.append") [v]) ∨ (n = "extend" ∧ P (.builtin "list.extend") [v])
    | some (.inst C d) => (match σ d with
      | some (.ns es) => dget es n = none ∧ ∃ f, meOk Γ.K C n f = true ∧ P (.ref f) [v]
      | _ => False)
    | some .kob => ∃ f, stOk Γ.K a n f = true ∧ P (.ref f) []
    | _ => False)
  | _ => False

def notSuper (e : Expr) : Bool := match e with | .Call (.Name _ _) [] [] _ => false | _ => true
def plainArg (e : Expr) : Bool := match e with | .Starred .. => false | _ => true
def kwNamed (ks : List Keyword) : Bool := ks.all (·.arg.isSome)
def callOk (es : List Expr) (ks : List Keyword) : Bool := es.all plainArg && kwNamed ks && decide (es.length + 2 * ks.length ≤ 25)

end Mine

open PySem PySem.W PyProof.Rows PySem.Calls
set_option Elab.async false
set_option autoImplicit false
namespace Mine

/-- what is between a program's state and its wanted end -/
abbrev KP := MV → MH → Prop
abbrev KF := Fl → ML → MH → Prop

abbrev CallT := Nat → MV → List MV → List (Str × MV) → MH → KP → XP → Prop

/-- a call: of a built-in, of a type, of the text's own (by its contract) -/
def callW (Γ : Rt) (CP : CallT) (n : Nat) (f : MV) (args : List MV) (kw : List (Str × MV)) (σ : MH) (P : KP) (X : XP) : Prop :=
  match f with
  | .builtin id => kw = [] ∧ builtinW id args σ P
  | .type t => kw = [] ∧ typeW t args σ P
  | .ref c => 0 < n ∧ keepIn Γ.K (.ref c) = true ∧ CP (n - 1) f args kw σ P X
  | _ => False

abbrev WHOLE := ML → MH → KP → XP → Prop

mutual
def W (Γ : Rt) (CP : CallT) (sc : Scope) (n : Nat) : Expr → ML → MH → KP → XP → Prop
  | .Constant c _ _, _, σ, P, _ => constW c σ P
  | .Name x _, μ, σ, P, _ => nameW Γ sc x μ σ P
  | .BoolOp op vs _, μ, σ, P, X => WB Γ CP sc n vs op μ σ P X
  | .BinOp l op r _, μ, σ, P, X => W Γ CP sc n l μ σ (fun a σ₁ => W Γ CP sc n r μ σ₁ (fun b σ₂ => binW op a b σ₂ P) X) X
  | .UnaryOp op x _, μ, σ, P, X => (match op with
    | .Not => W Γ CP sc n x μ σ (fun v σ₁ => truthW Γ σ₁ v fun b => P (.bool (!b)) σ₁) X
    | .USub => W Γ CP sc n x μ σ (fun v σ₁ => match v with | .int i => P (.int (-i)) σ₁ | _ => False) X
    | _ => False)
  | .IfExp t a b _, μ, σ, P, X => WT Γ CP sc n t (W Γ CP sc n t) μ σ (fun c σ₁ => if c = true then W Γ CP sc n a μ σ₁ P X else W Γ CP sc n b μ σ₁ P X) X
  | .Compare l [op] [r] _, μ, σ, P, X => behindInMarks op r = false ∧ W Γ CP sc n l μ σ (fun a σ₁ => W Γ CP sc n r μ σ₁ (fun b σ₂ => cmpW op a b σ₂ fun c => P (.bool c) σ₂) X) X
  | .List es _, μ, σ, P, X => WL Γ CP sc n es μ σ (fun ds σ₁ => ds.length ≤ 1000 ∧ allocW σ₁ (.list ds) P) X
  | .Tuple es _ _, μ, σ, P, X => WL Γ CP sc n es μ σ (fun ds σ₁ => ds.length ≤ 1000 ∧ allocW σ₁ (.tuple ds) P) X
  | .Dict [] [] _, _, σ, P, _ => allocW σ (.dict []) P
  | .Attribute e a _, μ, σ, P, X => notSuper e = true ∧ W Γ CP sc n e μ σ (fun v σ₁ => attrW Γ v a σ₁ P) X
  | .Subscript e (.Slice lo hi none _) _, μ, σ, P, X => W Γ CP sc n e μ σ (fun v σ₁ =>
      WO Γ CP sc n lo μ σ₁ (fun a σ₂ => WO Γ CP sc n hi μ σ₂ (fun b σ₃ => sliceW v a b σ₃ P) X) X) X
  | .Subscript e i _, μ, σ, P, X => W Γ CP sc n e μ σ (fun v σ₁ => W Γ CP sc n i μ σ₁ (fun k σ₂ => itemW v k σ₂ P) X) X
  | .Call (.Attribute o name apos) args kws pos, μ, σ, P, X => callOk args kws = true ∧ notSuper o = true ∧ (apos.endLine == pos.line) = true ∧
      W Γ CP sc n o μ σ (fun ov σ₁ => methW Γ ov name σ₁ fun fv first =>
        WL Γ CP sc n args μ σ₁ (fun ds σ₂ => WK Γ CP sc n kws μ σ₂ (fun ks σ₃ => callW Γ CP n fv (first ++ ds) ks σ₃ P X) X) X) X
  | .Call f args kws _, μ, σ, P, X => callOk args kws = true ∧
      W Γ CP sc n f μ σ (fun fv σ₁ => WL Γ CP sc n args μ σ₁ (fun ds σ₂ => WK Γ CP sc n kws μ σ₂ (fun ks σ₃ => callW Γ CP n fv ds ks σ₃ P X) X) X) X
  | _, _, _, _, _ => False

def WT (Γ : Rt) (CP : CallT) (sc : Scope) (n : Nat) : Expr → WHOLE → ML → MH → (Bool → MH → Prop) → XP → Prop
  | .UnaryOp .Not x _, _, μ, σ, P, X => WT Γ CP sc n x (W Γ CP sc n x) μ σ (fun b σ₁ => P (!b) σ₁) X
  | .BoolOp op vs _, _, μ, σ, P, X => WTs Γ CP sc n vs op μ σ P X
  | .IfExp t a b _, _, μ, σ, P, X => WT Γ CP sc n t (W Γ CP sc n t) μ σ (fun c σ₁ => if c = true then WT Γ CP sc n a (W Γ CP sc n a) μ σ₁ P X else WT Γ CP sc n b (W Γ CP sc n b) μ σ₁ P X) X
  | .Compare l [op] [r] _, _, μ, σ, P, X => behindInMarks op r = false ∧ W Γ CP sc n l μ σ (fun a σ₁ => W Γ CP sc n r μ σ₁ (fun b σ₂ => cmpW op a b σ₂ fun c => P c σ₂) X) X
  | .Compare .., _, _, _, _, _ => False
  | _, whole, μ, σ, P, X => whole μ σ (fun v σ₁ => truthW Γ σ₁ v fun b => P b σ₁) X

def WB (Γ : Rt) (CP : CallT) (sc : Scope) (n : Nat) : List Expr → BoolOp → ML → MH → KP → XP → Prop
  | [], _, _, _, _, _ => False
  | [e], _, μ, σ, P, X => W Γ CP sc n e μ σ P X
  | e :: es, op, μ, σ, P, X => W Γ CP sc n e μ σ (fun v σ₁ => truthW Γ σ₁ v fun b => (match op, b with
      | .And, false => P v σ₁
      | .Or, true => P v σ₁
      | _, _ => WB Γ CP sc n es op μ σ₁ P X)) X

def WTs (Γ : Rt) (CP : CallT) (sc : Scope) (n : Nat) : List Expr → BoolOp → ML → MH → (Bool → MH → Prop) → XP → Prop
  | [], op, _, σ, P, _ => P (op == .And) σ
  | e :: es, op, μ, σ, P, X => WT Γ CP sc n e (W Γ CP sc n e) μ σ (fun b σ₁ => (match op, b with
      | .And, false => P false σ₁
      | .Or, true => P true σ₁
      | _, _ => WTs Γ CP sc n es op μ σ₁ P X)) X

def WL (Γ : Rt) (CP : CallT) (sc : Scope) (n : Nat) : List Expr → ML → MH → (List MV → MH → Prop) → XP → Prop
  | [], _, σ, P, _ => P [] σ
  | e :: es, μ, σ, P, X => plainArg e = true ∧ W Γ CP sc n e μ σ (fun v σ₁ => WL Γ CP sc n es μ σ₁ (fun vs σ₂ => P (v :: vs) σ₂) X) X

def WK (Γ : Rt) (CP : CallT) (sc : Scope) (n : Nat) : List Keyword → ML → MH → (List (Str × MV) → MH → Prop) → XP → Prop
  | [], _, σ, P, _ => P [] σ
  | ⟨some x, e, _⟩ :: ks, μ, σ, P, X => W Γ CP sc n e μ σ (fun v σ₁ => WK Γ CP sc n ks μ σ₁ (fun vs σ₂ => P ((x, v) :: vs) σ₂) X) X
  | ⟨none, _, _⟩ :: _, _, _, _, _ => False

def WO (Γ : Rt) (CP : CallT) (sc : Scope) (n : Nat) : Option Expr → ML → MH → KP → XP → Prop
  | none, _, σ, P, _ => P .none σ
  | some e, μ, σ, P, X => W Γ CP sc n e μ σ P X
end

end Mine

open PySem PySem.W PyProof.Rows PySem.Calls
set_option Elab.async false
set_option autoImplicit false
namespace Mine

/-- a name is bound -/
def bindW (sc : Scope) (x : Str) (d : MV) (μ : ML) (P : ML → Prop) : Prop := sc.names.lookup x = some .local ∧ (μ.get x).isSome = true ∧ P (μ.set x d)

def namesOf : List Expr → Option (List Str)
  | [] => some []
  | .Name x _ :: r => (namesOf r).map (x :: ·)
  | _ => none

def bindsW (sc : Scope) : List Str → List MV → ML → (ML → Prop) → Prop
  | [], [], μ, P => P μ
  | x :: xs, d :: ds, μ, P => bindW sc x d μ fun μ' => bindsW sc xs ds μ' P
  | _, _, _, _ => False

/-- how the stores of a tuple of names go -/
def storesOk (sc : Scope) (ts es : List Expr) (k k' : Nat) (p p' pos : Pos) (xs : List Str) : Prop :=
  ∀ env : Env, env.scope = sc → swapsWithSole [.Tuple ts k p] (.Tuple es k' p') pos.line env = pure false ∧
    (swappedStores [.Tuple ts k p] (.Tuple es k' p') env = pure none ∨ swappedStores [.Tuple ts k p] (.Tuple es k' p') env = pure (some xs))

/-- an exception's class by name -/
def excNm (K : Frag) (sc : Scope) (c : Str) (C : Addr) : Prop :=
  sc.names.lookup c = some .globalImplicit ∧ (c == ("__debug__" : Str)) = false ∧ nsIn K mainGlobals c = some (some (.ref C)) ∧ excIn K C [.type "Exception", .type "BaseException", .type "object"] "Exception.__new__" = true

/-- for x in (the items of the object o at a): the items that are left -/
def forW (sc : Scope) (x : Str) (a : Addr) (o : MO) (body : ML → MH → KF → XP → Prop) : List MV → ML → MH → KF → XP → Prop
  | [], μ, σ, P, _ => σ a = some o ∧ P .next μ σ
  | d :: ds, μ, σ, P, X => σ a = some o ∧ bindW sc x d μ fun μ₁ => body μ₁ σ (fun fl μ₂ σ₂ => match fl with
      | .next => forW sc x a o body ds μ₂ σ₂ P X
      | .cont => forW sc x a o body ds μ₂ σ₂ P X
      | .brk => P .next μ₂ σ₂
      | .ret v => P (.ret v) μ₂ σ₂) X

/-- while: at most so many turns -/
def whileW (test : ML → MH → (Bool → MH → Prop) → XP → Prop) (body : ML → MH → KF → XP → Prop) : Nat → ML → MH → KF → XP → Prop
  | 0, _, _, _, _ => False
  | k + 1, μ, σ, P, X => test μ σ (fun b σ₁ => if b = true then body μ σ₁ (fun fl μ₂ σ₂ => match fl with
      | .next => whileW test body k μ₂ σ₂ P X
      | .cont => whileW test body k μ₂ σ₂ P X
      | .brk => P .next μ₂ σ₂
      | .ret v => P (.ret v) μ₂ σ₂) X else P .next μ σ₁) X

mutual
def W1 (Γ : Rt) (CP : CallT) (sc : Scope) (n : Nat) : Stmt → ML → MH → KF → XP → Prop
  | .Expr e _, μ, σ, P, X => W Γ CP sc n e μ σ (fun _ σ₁ => P .next μ σ₁) X
  | .Pass _, μ, σ, P, _ => P .next μ σ
  | .Break _, μ, σ, P, _ => P .brk μ σ
  | .Continue _, μ, σ, P, _ => P .cont μ σ
  | .Return (some e) _, μ, σ, P, X => W Γ CP sc n e μ σ (fun v σ₁ => P (.ret v) μ σ₁) X
  | .Return none _, μ, σ, P, _ => P (.ret .none) μ σ
  | .Assign [.Name x _] e _, μ, σ, P, X => W Γ CP sc n e μ σ (fun v σ₁ => bindW sc x v μ fun μ₁ => P .next μ₁ σ₁) X
  | .Assign [.Attribute o a _] e _, μ, σ, P, X => W Γ CP sc n e μ σ (fun v σ₁ => W Γ CP sc n o μ σ₁ (fun ov σ₂ => setAttrW Γ ov a v σ₂ fun σ₃ => P .next μ σ₃) X) X
  | .Assign [.Subscript o i _] e _, μ, σ, P, X => W Γ CP sc n e μ σ (fun v σ₁ => W Γ CP sc n o μ σ₁ (fun ov σ₂ => W Γ CP sc n i μ σ₂ (fun iv σ₃ => setItemW ov iv v σ₃ fun σ₄ => P .next μ σ₄) X) X) X
  | .Assign [.Tuple ts k p] (.Tuple es k' p') pos, μ, σ, P, X => ∃ xs, namesOf ts = some xs ∧ xs.Nodup ∧ storesOk sc ts es k k' p p' pos xs ∧ WL Γ CP sc n es μ σ (fun ds σ₁ => ds.length ≤ 1000 ∧
      ∀ t, σ₁ t = none → bindsW sc xs ds μ fun μ₁ => P .next μ₁ (upd σ₁ t (.tuple ds))) X
  | .If t a b _, μ, σ, P, X => WT Γ CP sc n t (W Γ CP sc n t) μ σ (fun c σ₁ => if c = true then WS Γ CP sc n a μ σ₁ P X else WS Γ CP sc n b μ σ₁ P X) X
  | .For (.Name x _) it body [] _, μ, σ, P, X => W Γ CP sc n it μ σ (fun v σ₁ => ∃ a o xs, v = .ref a ∧ σ₁ a = some o ∧ iterOf o = some xs ∧
      forW sc x a o (WS Γ CP sc n body) xs μ σ₁ P X) X
  | .While t body [] _, μ, σ, P, X => ∃ k, whileW (WT Γ CP sc n t (W Γ CP sc n t)) (WS Γ CP sc n body) k μ σ P X
  | .Raise (some (.Call (.Name c _) [e] [] _)) none _, μ, σ, _, X => plainArg e = true ∧ ∃ C, excNm Γ.K sc c C ∧ W Γ CP sc n e μ σ (fun v σ₁ => match v with
      | .str msg => X C msg σ₁
      | _ => False) X
  | .Try body [.ExceptHandler (some (.Name c _)) none hs _] [] [] _, μ, σ, P, X => ∃ C, excNm Γ.K sc c C ∧ WS Γ CP sc n body μ σ P (fun C' _ σ₁ => C' = C ∧ (match hs with
          | [.Return (some (.Constant (.bool b) _ _)) _] => P (.ret (.bool b)) [] σ₁
          | _ => False))
  | _, _, _, _, _ => False

def WS (Γ : Rt) (CP : CallT) (sc : Scope) (n : Nat) : List Stmt → ML → MH → KF → XP → Prop
  | [], μ, σ, P, _ => P .next μ σ
  | s :: r, μ, σ, P, X => W1 Γ CP sc n s μ σ (fun fl μ₁ σ₁ => match fl with
      | .next => WS Γ CP sc n r μ₁ σ₁ P X
      | .brk => P .brk μ₁ σ₁
      | .cont => P .cont μ₁ σ₁
      | .ret v => P (.ret v) μ₁ σ₁) X
end

end Mine

open PySem PySem.W PyProof.Rows PySem.Calls
set_option Elab.async false
set_option autoImplicit false
namespace Mine

def XSt (Γ : Rt) (a : Act) (ext : List (Addr × Obj)) (C : Addr) (msg : Str) (σ : MH) (e : Addr) (h : Heap) : Prop :=
  (∃ h₁ m news cs frs t, Fr Γ.hb a.L h₁ m ∧ News Γ.hb a.L h₁ news ∧ Hold Γ (cs ++ (frs ++ ext)) σ news ∧ FrsOk a.outer a.om frs ∧ Heap.MadeExcOf h₁ h e (.ref C) [.str msg t]) ∨
  (∃ m news cs frs B t tk, Fr Γ.hb a.L h m ∧ News Γ.hb a.L h news ∧ Hold Γ (cs ++ (frs ++ ext)) σ news ∧ FrsOk a.outer a.om frs ∧
    Γ.hb.StaysIn B ∧ (∀ q ∈ news, q.1 ∉ frs.map (·.1) → B.get? q.1 = some q.2) ∧
    (Heap.FlyingW B (a.env :: a.outer) e (.ref C) (.ref t) h ∨ Heap.HeldW B (a.env :: a.outer) e (.ref C) (.ref t) a.L h) ∧ h.TupAt t [.str msg tk] ∧ B.get? t = none)

abbrev Post {α β : Type} (Γ : Rt) (a : Act) (ext : List (Addr × Obj)) (μ : ML) (s : Shared) (R : α → β → Prop) (P : β → MH → Prop) (Q : α → Shared → Prop) : Prop :=
  ∀ d σ' h' tk' v, P d σ' → St Γ a ext σ' μ h' → R v d → Q v { s with heap := h', toks := tk' }
abbrev XPost (Γ : Rt) (a : Act) (ext : List (Addr × Obj)) (s : Shared) (X : XP) (E : Value → Shared → Prop) : Prop :=
  ∀ C msg σ' h' tk' e, X C msg σ' → XSt Γ a ext C msg σ' e h' → E (.ref e) { s with heap := h', toks := tk' }

def Runs {α β : Type} (Γ : Rt) (sc : Scope) (n : Nat) (t : Env → Sem α) (R : α → β → Prop) (WW : ML → MH → (β → MH → Prop) → XP → Prop) : Prop :=
  ∀ (a : Act) (A : Around) (ext : List (Addr × Obj)) (μ : ML) (σ : MH) (P : β → MH → Prop) (X : XP) (s : Shared) (Q : α → Shared → Prop) (E : Value → Shared → Prop),
    a.scope = sc → AOk a n A → St Γ a ext σ μ s.heap → WW μ σ P X → Post Γ a ext μ s R P Q → XPost Γ a ext s X E → wpAny Γ.M A (t a.env) Q E s

/-- the contract of a callee -/
def CodeP (Γ : Rt) : CallT := fun n f args kw σ P X =>
  ∀ (a : Act) (A : Around) (ext : List (Addr × Obj)) (μ : ML) (s : Shared) (fv : Value) (vs : List Value) (kws : List (Str × Value)) (R : Result → Shared → Prop),
    AOk a (n + 1) A → St Γ a ext σ μ s.heap → VR fv f → R2 VR vs args → R2 (fun x y => x.1 = y.1 ∧ VR x.2 y.2) kws kw →
    Post Γ a ext μ s VR P (fun v s' => R (.ok (.ret v)) s') → XPost Γ a ext s X (fun e s' => R (.error e) s') →
    codeAny Γ.M A (.call fv ⟨vs, kws⟩) R s

section
variable {Γ : Rt} {a : Act} {ext : List (Addr × Obj)} {σ : MH} {μ : ML} {A : Around} {s : Shared} {n : Nat}

theorem St.alloc {h' : Heap} {m : Str → Option Value} {news cs frs : List (Addr × Obj)} {k : Addr} {ob : Obj} {o : MO}
    (F : Fr Γ.hb a.L h' m) (N : News Γ.hb a.L h' ((k, ob) :: news)) (hf : ∀ p ∈ news, p.1 < k) (H : Hold Γ (cs ++ (frs ++ ext)) σ news) (Lc : Locs a μ m cs) (Fo : FrsOk a.outer a.om frs) (ho : OR Γ k ob o) :
    St Γ a ext (upd σ k o) μ h' ∧ σ k = none :=
  ⟨⟨m, _, cs, frs, F, N, H.alloc hf ho, Lc, Fo⟩, H.fresh Γ.X N hf⟩

theorem St.update {h' : Heap} {m : Str → Option Value} {pre post cs frs : List (Addr × Obj)} {k : Addr} {ob ob' : Obj} {o o' : MO}
    (F : Fr Γ.hb a.L h' m) (N : News Γ.hb a.L h' (pre ++ (k, ob') :: post)) (H : Hold Γ (cs ++ (frs ++ ext)) σ (pre ++ (k, ob) :: post)) (Lc : Locs a μ m cs) (Fo : FrsOk a.outer a.om frs) (e : σ k = some o) (ho : OR Γ k ob' o') :
    St Γ a ext (upd σ k o') μ h' := ⟨m, _, cs, frs, F, N, H.update e ho, Lc, Fo⟩

theorem charNat_lt (c : Char) : c.toNat < 0x110000 := by
  have h := c.valid
  show c.val.toNat < 0x110000
  rcases h with h | ⟨_, h⟩
  · exact Nat.lt_trans h (by decide)
  · exact h
theorem strOk_ofString (x : String) : PyData.strOk (Str.ofString x) = true := by
  unfold PyData.strOk
  rw [Str.ofString_eq_toList, ← Array.all_toList]
  simp only [List.all_eq_true]
  intro c hc
  have hc' : c ∈ x.toList.map Char.toNat := by simpa using hc
  obtain ⟨d, _, rfl⟩ := List.mem_map.mp hc'
  exact decide_eq_true (charNat_lt d)
theorem ofString_inj {x y : String} : (Str.ofString x = Str.ofString y) = (x = y) := by
  refine propext ⟨fun h => ?_, fun h => by rw [h]⟩
  rw [Str.ofString_eq_toList, Str.ofString_eq_toList] at h
  have h1 : x.toList.map Char.toNat = y.toList.map Char.toNat := by
    have := congrArg (fun z : Str => z.cps.toList) h
    simpa using this
  have h2 : x.toList = y.toList := (List.map_inj_right fun a b e => Char.toNat_inj.mp e).mp h1
  exact String.toList_inj.mp h2
theorem ofString_beq {x y : String} : (Str.ofString x == Str.ofString y) = (x == y) := by
  by_cases h : x = y
  · subst h; simp
  · have : Str.ofString x ≠ Str.ofString y := by rw [ne_eq, ofString_inj]; exact h
    rw [beq_eq_false_iff_ne.mpr this, beq_eq_false_iff_ne.mpr h]

theorem run_const {c : Const} {k : Nat} {pos : Pos} {P : KP} {Q : Value → Shared → Prop} {E : Value → Shared → Prop} (S : St Γ a ext σ μ s.heap) (h : constW c σ P) (q : Post Γ a ext μ s VR P Q) :
    wpAny Γ.M A (eval (.Constant c k pos) a.env) Q E s := by
  cases c with
  | none => exact Constant_none (q _ _ _ _ _ h S rfl)
  | bool b => exact Constant_bool (q _ _ _ _ _ h S rfl)
  | int i => exact wpAny_Constant_int (q _ _ _ _ _ h S ⟨_, rfl⟩)
  | str x => exact wpAny_Constant_str (q _ _ _ _ _ h.2 S ⟨h.1, _, rfl⟩)
  | _ => exact h.elim

theorem kind_of {a : Act} {x : Str} {k : NameKind} (h : a.scope.names.lookup x = some k) : a.env.kindOf x = some k := h

theorem run_name {x : Str} {pos : Pos} {P : KP} {Q : Value → Shared → Prop} {E : Value → Shared → Prop} {sc : Scope} (hsc : a.scope = sc) (S : St Γ a ext σ μ s.heap) (h : nameW Γ sc x μ σ P)
    (q : Post Γ a ext μ s VR P Q) : wpAny Γ.M A (eval (.Name x pos) a.env) Q E s := by
  subst hsc
  obtain ⟨hdbg, h⟩ := h
  have S' := S
  obtain ⟨m, news, cs, frs, F, N, H, Lc, Fo⟩ := S
  have loc : ∀ (k : NameKind), a.scope.names.lookup x = some k → (match μ.get x with | some (some v) => P v σ | _ => False) → wpAny Γ.M A (eval (.Name x pos) a.env) Q E s := by
    intro k hk h
    split at h
    · rename_i v hv
      rcases Lc x v hv with ⟨hl, u, hm, hr⟩ | ⟨hl, c, o, u, hc, hm, hd, hr⟩
      · exact nameX_L F hm (q _ _ _ _ _ h S' hr) a.hk (kind_of hl) hdbg
      · have hmn := (H.ext _ (List.mem_append_left _ hm)).1
        rcases hl with hl | hl
        · exact nameX_C N hc hmn hd (q _ _ _ _ _ h S' hr) a.hk (kind_of hl) hdbg
        · exact nameX_F N hc hmn hd (q _ _ _ _ _ h S' hr) a.hk (kind_of hl.1) hdbg hl.2
    · exact h.elim
  split at h
  · rename_i hk
    split at h
    · rename_i v hv
      unfold globOf at hv
      split at hv
      · cases hv
      · rename_i hn
        have hnm : x ≠ "__name__" := by
          intro e; rw [e] at hn; exact hn (by simp)
        split at hv
        · rename_i b e
          cases hv
          exact nameX_K F Γ.X (topRead_of Γ.T) e (q _ _ _ _ _ h S' rfl) a.hk (kind_of hk) hdbg
        · rename_i e
          split at hv
          · rename_i t hb; cases hv
            exact nameX_B F Γ.X (topRead_of Γ.T) e hb hnm (q _ _ _ _ _ h S' rfl) a.hk (kind_of hk) hdbg
          · rename_i t hb; cases hv
            exact nameX_B F Γ.X (topRead_of Γ.T) e hb hnm (q _ _ _ _ _ h S' rfl) a.hk (kind_of hk) hdbg
          · cases hv
        · cases hv
    · exact h.elim
  · rename_i k _ hk
    exact loc k hk h
  · exact h.elim
end

/- dictionaries: the real one and the mini one -/
section
variable {Γ : Rt}

theorem dget_some {kvs : List (Str × Value)} {es : List (Str × MV)} (h : R2 KR kvs es) {k : Str} {y : MV} (e : dget es k = some y) : ∃ u, valueAt kvs k = some u ∧ VR u y := by
  induction h with
  | nil => simp [dget] at e
  | @cons p q ps qs r _ ih =>
    unfold dget valueAt at *
    rw [List.find?_cons] at e ⊢
    by_cases hk : q.1 = k
    · rw [r.1.1]
      simp only [hk, decide_true] at e ⊢
      simp at e ⊢
      exact e ▸ r.2
    · rw [r.1.1]
      simp only [hk, decide_false] at e ⊢
      exact ih e
theorem dget_none {kvs : List (Str × Value)} {es : List (Str × MV)} (h : R2 KR kvs es) {k : Str} (e : dget es k = none) : valueAt kvs k = none := by
  induction h with
  | nil => rfl
  | @cons p q ps qs r _ ih =>
    unfold dget valueAt at *
    rw [List.find?_cons] at e ⊢
    by_cases hk : q.1 = k
    · simp only [hk, decide_true] at e
      simp at e
    · rw [r.1.1]
      simp only [hk, decide_false] at e ⊢
      exact ih e
theorem dget_isSome {kvs : List (Str × Value)} {es : List (Str × MV)} (h : R2 KR kvs es) (k : Str) : (valueAt kvs k).isSome = (dget es k).isSome := by
  cases e : dget es k with
  | none => rw [dget_none h e]; rfl
  | some y => obtain ⟨u, h1, _⟩ := dget_some h e; rw [h1]; rfl

theorem KR.any {kvs : List (Str × Value)} {es : List (Str × MV)} (h : R2 KR kvs es) (k : Str) : (kvs.any fun kv => decide (kv.1 = k)) = es.any fun q => decide (q.1 = k) := by
  induction h with
  | nil => rfl
  | @cons p q ps qs r _ ih => rw [List.any_cons, List.any_cons, ih, r.1.1]

theorem KR.stored {kvs : List (Str × Value)} {es : List (Str × MV)} (h : R2 KR kvs es) {k : Str} {v : Value} {d : MV} (hk : PyData.strOk k = true) (hv : VR v d) : R2 KR (stored kvs k v) (dput es k d) := by
  unfold PySem.stored dput
  have e := KR.any h k
  by_cases q : (es.any fun q => decide (q.1 = k)) = true
  · rw [if_pos q, if_pos (e.trans q)]
    clear e q
    induction h with
    | nil => exact .nil
    | @cons p q ps qs r _ ih =>
      refine .cons ?_ ih
      dsimp only
      by_cases hk' : q.1 = k
      · rw [if_pos hk', if_pos (r.1.1.trans hk')]
        exact ⟨r.1, hv⟩
      · rw [if_neg hk', if_neg (fun z => hk' (r.1.1.symm.trans z))]
        exact r
  · rw [if_neg q, if_neg (by rw [e]; exact q)]
    exact h.snoc ⟨⟨rfl, hk⟩, hv⟩

theorem dput_length_le {V : Type} (es : List (Str × V)) (k : Str) (v : V) : (dput es k v).length ≤ es.length + 1 := by
  unfold dput; split <;> simp

theorem isDict_shape {o : Obj} {kvs : List (Str × Value)} (h : o.IsDictOf Γ.knd kvs) : ∃ es n, o = dictOf es n ∧ KeysOf Γ.knd es.toArray ∧ Pairs Γ.knd es kvs ∧ (kvs.map (·.1)).Nodup := by
  obtain ⟨es, ep, ⟨h1, h2, h3⟩, h4, h5, h6, h7⟩ := h
  obtain ⟨c, d, dt, sl⟩ := o
  simp only at h1 h2 h3 h4
  subst h1 h2 h3 h4
  exact ⟨es.toList, ep, by simp [dictOf], by simpa using h5, h6, h7⟩
theorem isDict_of {es : List DictEntry} {n : Nat} {kvs : List (Str × Value)} (h5 : KeysOf Γ.knd es.toArray) (h6 : Pairs Γ.knd es kvs) (h7 : (kvs.map (·.1)).Nodup) : (dictOf es n).IsDictOf Γ.knd kvs :=
  ⟨es.toArray, n, ⟨rfl, rfl, rfl⟩, rfl, h5, by simpa using h6, h7⟩

theorem find_isStr (x : Str) (es : List DictEntry) : es.find? (·.key.isStr x) = es.find? (fun e => (strKind Γ.prog Γ.w).is x e.key) := by
  congr 1; funext e; exact isStr_of x e.key

theorem pairs_noRef {es : List DictEntry} {kvs : List (Str × Value)} (h : Pairs Γ.knd es kvs) : es.any (·.refKey) = false := by
  induction h with
  | nil => rfl
  | @cons e kv es kvs h1 h2 _ ih =>
    rw [List.any_cons, ih, Bool.or_false]
    obtain ⟨t, ht⟩ := Value.isStrOf_shape h1
    unfold DictEntry.refKey
    rw [ht]

theorem getL_pairs {es : List DictEntry} {kvs : List (Str × Value)} (h : Pairs Γ.knd es kvs) (x : Str) : getL x es = some (valueAt kvs x) := by
  have e := h.find x
  unfold getL
  rw [find_isStr (Γ := Γ) x es]
  cases q : es.find? (fun e => (strKind Γ.prog Γ.w).is x e.key) with
  | some en => rw [q] at e; simp only; rw [← e]; rfl
  | none => rw [q] at e; simp only; rw [pairs_noRef h, ← e]; rfl

theorem putL_pairs {es : List DictEntry} {kvs : List (Str × Value)} (h : Pairs Γ.knd es kvs) (hn : (kvs.map (·.1)).Nodup) {x : Str} {t : Tok} {v : Value} (hsh : Int) : Pairs Γ.knd (putL x hsh (.str x t) v es) (stored kvs x v) := by
  have any_eq : ∀ {es : List DictEntry} {kvs : List (Str × Value)}, Pairs Γ.knd es kvs → x ∉ kvs.map (·.1) → Pairs Γ.knd (putL x hsh (.str x t) v es) (kvs ++ [(x, v)]) := by
    intro es kvs h
    induction h with
    | nil => intro _; exact .cons (strKind_is _ _ x t) rfl .nil
    | @cons e kv es kvs h1 h2 h3 ih =>
      intro hm
      rw [List.map_cons, List.mem_cons, not_or] at hm
      unfold putL
      rw [isStr_of, if_neg]
      · exact .cons h1 h2 (ih hm.2)
      · intro q
        exact hm.1 ((strKind Γ.prog Γ.w).inj e.key _ _ q h1)
  unfold PySem.stored
  by_cases q : (kvs.any fun kv => decide (kv.1 = x)) = true
  · rw [if_pos q]
    clear any_eq
    induction h with
    | nil => simp at q
    | @cons e kv es kvs h1 h2 h3 ih =>
      rw [List.map_cons, List.nodup_cons] at hn
      unfold putL
      by_cases hk : kv.1 = x
      · subst hk
        have h1' : Value.isStrOf kv.1 e.key = true := h1
        rw [isStr_of, if_pos h1', List.map_cons, if_pos rfl, map_store_of_not_mem kvs _ v hn.1]
        exact .cons h1 rfl h3
      · have h1' : ¬ (Value.isStrOf x e.key = true) := fun q => hk ((strKind Γ.prog Γ.w).inj e.key _ _ h1 q)
        rw [isStr_of, if_neg h1', List.map_cons, if_neg hk]
        refine .cons h1 h2 (ih hn.2 ?_)
        rw [List.any_cons] at q
        simpa [hk] using q
  · rw [if_neg q]
    refine any_eq h fun hm => q ?_
    obtain ⟨kv, h1, h2⟩ := List.mem_map.mp hm
    exact List.any_eq_true.mpr ⟨kv, h1, decide_eq_true h2⟩

theorem stored_nodup {kvs : List (Str × Value)} (hn : (kvs.map (·.1)).Nodup) (x : Str) (v : Value) : ((stored kvs x v).map (·.1)).Nodup := by
  unfold PySem.stored
  by_cases q : (kvs.any fun kv => decide (kv.1 = x)) = true
  · rw [if_pos q, keys_map_store]; exact hn
  · rw [if_neg q, List.map_append, List.nodup_append]
    refine ⟨hn, by simp, ?_⟩
    intro a ha b hb e
    simp at hb
    subst hb e
    obtain ⟨kv, h1, h2⟩ := List.mem_map.mp ha
    exact q (List.any_eq_true.mpr ⟨kv, h1, decide_eq_true h2⟩)

theorem putL_keys {es : List DictEntry} (h : KeysOf Γ.knd es.toArray) {x : Str} {t : Tok} {v : Value} : KeysOf Γ.knd (putL x (PyData.keyHash Γ.w.params x) (.str x t) v es).toArray := by
  have h' : ∀ e ∈ es, ∃ k, Γ.knd.is k e.key = true ∧ e.hash = Γ.knd.hash k := fun e he => h e (by simpa using he)
  suffices ∀ e ∈ putL x (PyData.keyHash Γ.w.params x) (.str x t) v es, ∃ k, Γ.knd.is k e.key = true ∧ e.hash = Γ.knd.hash k from fun e he => this e (by simpa using he)
  clear h
  induction es with
  | nil => intro e he; unfold putL at he; rw [List.mem_singleton] at he; subst he; exact ⟨x, strKind_is _ _ x t, rfl⟩
  | cons e₀ r ih =>
    intro e he
    unfold putL at he
    split at he
    · rcases List.mem_cons.mp he with rfl | he
      · exact h' e₀ (.head _)
      · exact h' e (.tail _ he)
    · rcases List.mem_cons.mp he with rfl | he
      · exact h' _ (.head _)
      · exact ih (fun e he => h' e (.tail _ he)) e he
end

end Mine

open PySem PySem.W PyProof.Rows PySem.Calls
set_option Elab.async false
set_option autoImplicit false
namespace Mine

section
variable {Γ : Rt} {a : Act} {ext : List (Addr × Obj)} {σ : MH} {μ : ML} {A : Around} {s : Shared} {n : Nat} {P : KP} {Q : Value → Shared → Prop} {E : Value → Shared → Prop}

theorem Hold.list {news : List (Addr × Obj)} (H : Hold Γ ext σ news) {k : Addr} {xs : List MV} (e : σ k = some (.list xs)) : xs.length ≤ sizeLine ∧ ∃ vs n, (k, listOf vs.toArray n) ∈ news ∧ R2 VR vs xs := by
  obtain ⟨ob, hm, hz, vs, n, rfl, hr⟩ := H.at e rfl
  exact ⟨hz, vs, n, hm, hr⟩
theorem isList_of {h : Heap} {L k : Addr} {news : List (Addr × Obj)} {vs : List Value} {n : Nat} {hb : Heap} (N : News hb L h news) (hm : (k, listOf vs.toArray n) ∈ news) : h.IsList k vs.toArray := ⟨_, (N _ hm).1, rfl, n, rfl⟩
theorem Hold.tuple {h : Heap} {L : Addr} {m : Str → Option Value} {news : List (Addr × Obj)} (F : Fr Γ.hb L h m) (N : News Γ.hb L h news) (H : Hold Γ ext σ news) {k : Addr} {xs : List MV} (e : σ k = some (.tuple xs)) : xs.length ≤ sizeLine ∧ ∃ vs, IsTup h k vs.toArray ∧ R2 VR vs xs := by
  rcases H.obj k _ e with ⟨ob, hm, hz, vs, n, rfl, hr⟩ | ⟨ob, hm, ⟨hz, vs, n, rfl, hr⟩, _⟩
  · exact ⟨hz, vs, ⟨_, (N _ hm).1, rfl, n, rfl⟩, hr⟩
  · exact ⟨hz, vs, ⟨_, F.keep _ _ (Γ.X _ _ hm), rfl, n, rfl⟩, hr⟩
theorem Hold.dict {h : Heap} {L : Addr} {news : List (Addr × Obj)} (N : News Γ.hb L h news) (H : Hold Γ ext σ news) {k : Addr} {es : List (Str × MV)} (e : σ k = some (.dict es)) :
    es.length ≤ sizeLine ∧ (k == sysModules) = false ∧ ∃ ob kvs, (k, ob) ∈ news ∧ ob.IsDictOf Γ.knd kvs ∧ R2 KR kvs es ∧ h.DictOf Γ.knd k kvs := by
  obtain ⟨ob, hm, ⟨hz, lo⟩, kvs, hd, hr⟩ := H.at e rfl
  exact ⟨hz, lo, ob, kvs, hm, hd, hr, Heap.dictOf_iff.mpr ⟨ob, (N _ hm).1, hd⟩⟩
theorem Hold.inst {news : List (Addr × Obj)} (H : Hold Γ ext σ news) {k C d : Addr} (e : σ k = some (.inst C d)) : (k, instObj C d) ∈ news := by
  obtain ⟨ob, hm, rfl⟩ := H.at e rfl
  exact hm
theorem Hold.ns {news : List (Addr × Obj)} (H : Hold Γ ext σ news) {k : Addr} {es : List (Str × MV)} (e : σ k = some (.ns es)) : ∃ ens n kvs, (k, dictOf ens n) ∈ news ∧ KeysOf Γ.knd ens.toArray ∧ Pairs Γ.knd ens kvs ∧ (kvs.map (·.1)).Nodup ∧ R2 KR kvs es := by
  obtain ⟨ob, hm, kvs, hd, hr⟩ := H.at e rfl
  obtain ⟨ens, n, rfl, h1, h2, h3⟩ := isDict_shape hd
  exact ⟨ens, n, kvs, hm, h1, h2, h3, hr⟩

theorem seqIndex_of {j : Int} {n : Nat} (h0 : 0 ≤ j) (h : j.toNat < n) : seqIndex? j n = some j.toNat := by
  have hn : ¬ j < 0 := by omega
  have h1 : (decide (0 ≤ j) && decide (j < (n : Int))) = true := by simp; omega
  simp only [seqIndex?, if_neg hn, h1, if_true]
theorem handedIn_of {v : Value} {d : MV} (h : VR v d) (hp : plainMV d = true) : handedIn v = true := by
  cases d with
  | none => cases h; rfl
  | bool b => cases h; rfl
  | int i => obtain ⟨t, rfl⟩ := h; rfl
  | str x => obtain ⟨_, t, rfl⟩ := h; rfl
  | ref b => cases h; rfl
  | type t => cases h; rfl
  | builtin t => cases hp

theorem op_getAttr {v : Value} {d : MV} {x : Str} {b : Bool} (S : St Γ a ext σ μ s.heap) (h : attrW Γ d x σ P) (hv : VR v d) (q : Post Γ a ext μ s VR P Q) : wpAny Γ.M A (getAttr v x b) Q E s := by
  unfold attrW at h
  split at h
  case h_2 => exact h.elim
  case h_1 ad =>
  split at h
  case h_2 => exact h.elim
  case h_1 C dd e1 =>
  split at h
  case h_2 => exact h.elim
  case h_1 es e2 =>
  obtain ⟨hr, y, hy, hp, hP⟩ := h
  cases hv
  have S' := S
  obtain ⟨m, news, cs, frs, F, N, H, Lc, Fo⟩ := S
  have hm := H.inst e1
  obtain ⟨ens, nn, kvs, hd, h1, h2, h3, h4⟩ := H.ns e2
  obtain ⟨u, hu, hur⟩ := dget_some h4 hy
  simp only [rdOk, Bool.and_eq_true] at hr
  obtain ⟨⟨g1, g2⟩, g3⟩ := hr
  split at g3
  case h_2 => cases g3
  case h_1 attr ha =>
  refine get_own F Γ.X (InstAt.of_news N hm hd) g1 g2 ha g3 (v := u) ?_ (handedIn_of hur hp) (q _ _ _ _ _ hP S' hur)
  rw [getL_pairs h2, hu]

theorem run_attr {e : Expr} {x : Str} {pos : Pos} (hns : notSuper e = true)
    (h : wpAny Γ.M A (eval e a.env) (fun o s₁ => wpAny Γ.M A (getAttr o x true) Q E s₁) E s) : wpAny Γ.M A (eval (.Attribute e x pos) a.env) Q E s := by
  refine Attribute_any_ h ?_
  have : attributeBase e x a.env (eval e a.env) = eval e a.env := by
    unfold attributeBase
    split
    · cases hns
    · rfl
  show (do let o ← attributeBase e x a.env (eval e a.env); _) = _
  rw [this]

theorem op_setAttr {v y : Value} {d dy : MV} {x : Str} {P : MH → Prop} {Q : Unit → Shared → Prop} (S : St Γ a ext σ μ s.heap) (h : setAttrW Γ d x dy σ P) (hv : VR v d) (hy : VR y dy)
    (q : ∀ σ' h' tk', P σ' → St Γ a ext σ' μ h' → Q () { s with heap := h', toks := tk' }) : wpAny Γ.M A (setAttr v x y) Q E s := by
  unfold setAttrW at h
  split at h
  case h_2 => exact h.elim
  case h_1 ad =>
  split at h
  case h_2 => exact h.elim
  case h_1 C dd e1 =>
  split at h
  case h_2 => exact h.elim
  case h_1 es e2 =>
  obtain ⟨hr, hl, hP⟩ := h
  cases hv
  obtain ⟨m, news, cs, frs, F, N, H, Lc, Fo⟩ := S
  have hm := H.inst e1
  obtain ⟨ens, nn, kvs, hd, h1, h2, h3, h4⟩ := H.ns e2
  simp only [wrOk, Bool.and_eq_true, beq_iff_eq] at hr
  obtain ⟨⟨⟨⟨g1, g2⟩, g3⟩, g4⟩, g5⟩ := hr
  obtain ⟨pre, post, he, p1, p2, U⟩ := upd_of H.nd hd (dictOf (putL x (PyData.keyHash Γ.w.params x) (.str x (s.toks + 1)) y ens) (putN x ens nn))
  have hP2 := putL_pairs (x := x) (t := s.toks + 1) (v := y) h2 h3 (PyData.keyHash Γ.w.params x)
  have hlen : (putL x (PyData.keyHash Γ.w.params x) (.str x (s.toks + 1)) y ens).length ≤ 1000 := by
    rw [hP2.length]
    have := stored_length_le kvs x y
    have := h4.length
    omega
  refine set_dict F Γ.X N (InstAt.of_news N hm hd) rfl g1 g2 g3 g4 (by rw [getL_pairs h2]; rfl) rfl U hlen fun h' F' N' => ?_
  subst he
  exact q _ _ _ hP (St.update F' N' H Lc Fo e2 ⟨_, isDict_of (putL_keys h1) hP2 (stored_nodup h3 x y), KR.stored h4 g5 hy⟩)

theorem subscripted_plain {i : Expr} {o k : Value} (h : ∀ lo hi p, i ≠ .Slice lo hi none p) : subscripted i false o k = operate [o, k] (getItem o k) := by
  unfold subscripted
  split
  · rename_i lo hi p _ _; exact absurd rfl (h _ _ _)
  · rename_i e; cases e
  · rfl

theorem op_item {v k : Value} {d dk : MV} {e i : Expr} (S : St Γ a ext σ μ s.heap) (h : itemW d dk σ P) (hv : VR v d) (hk : VR k dk) (hi : ∀ lo hi p, i ≠ .Slice lo hi none p) (q : Post Γ a ext μ s VR P Q) : wpAny Γ.M A (subscriptTail e i v k) Q E s := by
  have S' := S
  obtain ⟨m, news, cs, frs, F, N, H, Lc, Fo⟩ := S
  have sz : sizeLine < 2 ^ 63 := by rw [sizeLine_eq]; decide
  unfold itemW at h
  split at h
  · rename_i ad j
    cases hv
    obtain ⟨t, rfl⟩ := hk
    split at h
    · rename_i xs e1
      obtain ⟨h0, x, hx, hP⟩ := h
      obtain ⟨hz, vs, nn, hm, hr⟩ := H.list e1
      obtain ⟨u, hu, hur⟩ := hr.get hx
      have hlt : j.toNat < xs.length := (List.getElem?_eq_some_iff.mp hx).1
      exact item_litK (isList_of N hm) h0 (by omega) hu (q _ _ _ _ _ hP S' hur) (subscripted_plain hi)
    · rename_i xs e1
      obtain ⟨h0, x, hx, hP⟩ := h
      obtain ⟨hz, vs, ht, hr⟩ := H.tuple F N e1
      obtain ⟨u, hu, hur⟩ := hr.get hx
      have hlt : j.toNat < xs.length := (List.getElem?_eq_some_iff.mp hx).1
      have hsz : vs.toArray.size = xs.length := by simp [hr.length]
      refine tail_any ht.typeIs slot_tuple_getitem.lookup (getItem_tuple ht (by omega) (by omega) (j := j.toNat) ?_ (by simpa using hu) (q _ _ _ _ _ hP S' hur)) (subscripted_plain hi)
      rw [hsz]
      exact seqIndex_of h0 hlt
    · exact h.elim
  · rename_i ad j
    cases hv
    obtain ⟨hs, t, rfl⟩ := hk
    split at h
    · rename_i es e1
      obtain ⟨x, hx, hP⟩ := h
      obtain ⟨hz, lo, ob, kvs, hm, hd, hr, hD⟩ := H.dict N e1
      obtain ⟨u, hu, hur⟩ := dget_some hr hx
      exact tail_any hD.typeIs slot_dict_getitem.lookup (wpAny_getItem_of (strKind_is _ _ j t) hD.mapOf hu (q _ _ _ _ _ hP S' hur)) (subscripted_plain hi)
    · exact h.elim
  · exact h.elim

theorem op_truth {v : Value} {d : MV} {P : Bool → Prop} {Q : Bool → Shared → Prop} (S : St Γ a ext σ μ s.heap) (h : truthW Γ σ d P) (hv : VR v d) (q : ∀ b tk', P b → Q b { s with toks := tk' }) : wpAny Γ.M A (truthy v) Q E s := by
  obtain ⟨m, news, cs, frs, F, N, H, Lc, Fo⟩ := S
  have sz : (sizeLine : Int) < 2 ^ 63 := by rw [sizeLine_eq]; decide
  unfold truthW at h
  split at h
  · cases hv; exact truthy_none (q _ s.toks h)
  · cases hv; exact wpAny_truthy_bool (q _ s.toks h)
  · obtain ⟨t, rfl⟩ := hv; exact PySem.P.truthy_int (q _ s.toks h)
  · rename_i ad
    cases hv
    split at h
    · rename_i xs e1
      obtain ⟨hz, vs, nn, hm, hr⟩ := H.list e1
      refine wpAny_truthy_list (isList_of N hm) (by simp [hr.length]; omega) ?_
      have : (!vs.toArray.isEmpty) = !xs.isEmpty := by cases hr <;> simp
      rw [this]; exact q _ _ h
    · rename_i xs e1
      obtain ⟨hz, vs, ht, hr⟩ := H.tuple F N e1
      refine truthy_tuple ht (by simp [hr.length]; omega) ?_
      have : (!vs.toArray.isEmpty) = !xs.isEmpty := by cases hr <;> simp
      rw [this]; exact q _ _ h
    · rename_i es e1
      obtain ⟨hz, lo, ob, kvs, hm, hd, hr, hD⟩ := H.dict N e1
      refine wpAny_truthy_dict lo hD (by have := hr.length; omega) ?_
      have : (!kvs.isEmpty) = !es.isEmpty := by cases hr <;> simp
      rw [this]; exact q _ _ h
    · rename_i C dd e1
      have hm := H.inst e1
      obtain ⟨ht, hP⟩ := h
      obtain ⟨⟨es, e2⟩, hP⟩ := hP
      obtain ⟨ens, nn, kvs, hd, h1, h2, h3, h4⟩ := H.ns e2
      simp only [trOk, Bool.and_eq_true, beq_iff_eq] at ht
      exact truthy_K0 F Γ.X (InstAt.of_news N hm hd) ht.1 ht.2 (q _ s.toks hP)
    · exact h.elim
  · exact h.elim
end

end Mine

open PySem PySem.W PyProof.Rows PySem.Calls
set_option Elab.async false
set_option autoImplicit false
namespace Mine

def toDat : MV → Dat
  | .str x => .str x
  | .int i => .int i
  | _ => .none
def toPy : MV → PyData
  | .str x => .str x
  | .int i => .int i
  | _ => .none

theorem toDat_inj {a b : MV} (ha : flatMV a = true) (hb : flatMV b = true) : toDat a = toDat b ↔ a = b := by
  cases a <;> simp [flatMV] at ha <;> cases b <;> simp [flatMV] at hb <;> simp [toDat]

theorem toDat_in {v : Value} {d : MV} (h : VR v d) (hf : flatMV d = true) : DatIn [] v (toDat d) ∧ kqdOk 8 (toDat d) = true := by
  cases d <;> simp [flatMV] at hf
  · cases h; exact ⟨.none, rfl⟩
  · obtain ⟨t, rfl⟩ := h; exact ⟨.int _ _, rfl⟩
  · obtain ⟨hs, t, rfl⟩ := h; exact ⟨.str _ _, by simpa [toDat, kqdOk] using hs⟩

theorem toDat_all {vs : List Value} {ds : List MV} (h : R2 VR vs ds) (hf : ∀ d ∈ ds, flatMV d = true) : DatAll [] vs (ds.map toDat) ∧ ∀ d ∈ ds.map toDat, kqdOk 8 d = true := by
  induction h with
  | nil => exact ⟨.nil, fun _ h => nomatch h⟩
  | @cons v d vs ds h _ ih =>
    have h1 := toDat_in h (hf _ (.head _))
    have h2 := ih fun d hd => hf d (.tail _ hd)
    refine ⟨.cons h1.1 h2.1, fun e he => ?_⟩
    rcases List.mem_cons.mp he with rfl | he
    · exact h1.2
    · exact h2.2 e he
theorem map_toDat_inj {xs ys : List MV} (hx : ∀ d ∈ xs, flatMV d = true) (hy : ∀ d ∈ ys, flatMV d = true) : xs.map toDat = ys.map toDat ↔ xs = ys := by
  induction xs generalizing ys with
  | nil => cases ys <;> simp
  | cons x xs ih =>
    cases ys with
    | nil => simp
    | cons y ys =>
      rw [List.map_cons, List.map_cons, List.cons.injEq, List.cons.injEq, toDat_inj (hx _ (.head _)) (hy _ (.head _)), ih (fun d h => hx d (.tail _ h)) fun d h => hy d (.tail _ h)]
theorem mem_toDat {xs : List MV} {x : MV} (hx : ∀ d ∈ xs, flatMV d = true) (h : flatMV x = true) : toDat x ∈ xs.map toDat ↔ x ∈ xs := by
  refine ⟨fun hm => ?_, fun hm => List.mem_map_of_mem hm⟩
  obtain ⟨y, hy, e⟩ := List.mem_map.mp hm
  exact ((toDat_inj (hx y hy) h).mp e) ▸ hy
theorem strOk_append {x y : Str} (h1 : PyData.strOk x = true) (h2 : PyData.strOk y = true) : PyData.strOk (x ++ y) = true := by
  unfold PyData.strOk at *
  show (x.cps ++ y.cps).all _ = true
  rw [Array.all_append, h1, h2]; rfl
theorem decide_any {p q : Prop} (i : Decidable p) [Decidable q] (h : p ↔ q) : @decide p i = decide q := by
  by_cases hq : q
  · rw [decide_eq_true hq]; exact @decide_eq_true p i (h.mpr hq)
  · rw [decide_eq_false hq]; exact @decide_eq_false p i fun z => hq (h.mp z)

section
variable {Γ : Rt} {a : Act} {ext : List (Addr × Obj)} {σ : MH} {μ : ML} {A : Around} {s : Shared} {n : Nat} {P : KP} {Q : Value → Shared → Prop} {E : Value → Shared → Prop}

theorem toPy_flat {v : Value} {d : MV} (h : VR v d) (hf : flatMV d = true) : PyProof.V.Flat v (toPy d) := by
  cases d <;> simp [flatMV] at hf
  · cases h; exact fun _ => Reads.none
  · obtain ⟨t, rfl⟩ := h; exact fun _ => Reads.int _ _
  · obtain ⟨hs, t, rfl⟩ := h; exact fun _ => Reads.str _ _
theorem toPy_eqv {a b : MV} (ha : flatMV a = true) (hb : flatMV b = true) : PyData.eqv (toPy a) (toPy b) = decide (a = b) := by
  cases a <;> simp [flatMV] at ha <;> cases b <;> simp [flatMV] at hb <;> simp [toPy, PyData.eqv]
  all_goals (rw [Bool.eq_iff_iff]; simp)

theorem keqHits_of {kb : List (Str × Value)} {eb : List (Str × MV)} (hb : R2 KR kb eb) (fb : ∀ q ∈ eb, flatMV q.2 = true) {ka : List (Str × Value)} {ea : List (Str × MV)} (ha : R2 KR ka ea) (fa : ∀ q ∈ ea, flatMV q.2 = true) :
    KeqHits A s kb ka (decide (∀ q ∈ ea, dget eb q.1 = some q.2)) := by
  induction ha with
  | nil => simpa using KeqHits.nil
  | @cons p q ps qs r _ ih =>
    have ih' := ih fun x hx => fa x (.tail _ hx)
    obtain ⟨k, v⟩ := p
    have hk : k = q.1 := r.1.1
    cases e : dget eb q.1 with
    | none =>
      have : decide (∀ x ∈ q :: qs, dget eb x.1 = some x.2) = false := by
        refine decide_eq_false fun h => ?_
        have := h q (.head _); rw [e] at this; cases this
      rw [this]
      exact .miss (hk ▸ dget_none hb e)
    | some y =>
      obtain ⟨u, hu, hur⟩ := dget_some hb e
      have hy : flatMV y = true := by
        unfold dget at e
        obtain ⟨z, hz, hz2⟩ := Option.map_eq_some_iff.mp e
        exact hz2 ▸ fb z (List.mem_of_find?_eq_some hz)
      have h1 := keq_flat (A := A) (s := s) (toPy_flat r.2 (fa q (.head _))) (toPy_flat hur hy)
      rw [toPy_eqv (fa q (.head _)) hy] at h1
      have h2 := KeqHits.hit (A := A) (s := s) (k := k) (kb := kb) (hk ▸ hu) h1 ih'
      have : decide (∀ x ∈ q :: qs, dget eb x.1 = some x.2) = (decide (q.2 = y) && decide (∀ x ∈ qs, dget eb x.1 = some x.2)) := by
        rw [Bool.eq_iff_iff]
        simp only [decide_eq_true_eq, Bool.and_eq_true, List.forall_mem_cons, e, Option.some.injEq]
        exact ⟨fun h => ⟨h.1.symm, h.2⟩, fun h => ⟨h.1.symm, h.2⟩⟩
      rw [this]; exact h2

theorem op_bin {op : Operator} {u v : Value} {x y : MV} (S : St Γ a ext σ μ s.heap) (h : binW op x y σ P) (hu : VR u x) (hv : VR v y) (q : Post Γ a ext μ s VR P Q) : wpAny Γ.M A (binaryOp op u v) Q E s := by
  unfold binW at h
  split at h
  · rename_i i j
    obtain ⟨t, rfl⟩ := hu
    obtain ⟨t', rfl⟩ := hv
    split at h
    · exact PyProof.Rows.add_int (q _ _ _ _ _ h S ⟨_, rfl⟩)
    · exact PyProof.Rows.sub_int (q _ _ _ _ _ h S ⟨_, rfl⟩)
    · refine mul_int (q _ _ _ _ _ h.2 S ⟨_, rfl⟩) ?_
      rcases h.1 with h | h
      · exact IntMulOk.of_left (intBits_le_64 (by omega) (by omega))
      · exact IntMulOk.of_right (intBits_le_64 (by omega) (by omega))
    · exact mod_int' h.1 (q _ _ _ _ _ h.2 S ⟨_, rfl⟩)
    · exact floordiv_int h.1 (q _ _ _ _ _ h.2.2 S ⟨_, rfl⟩) (.inl (PyProof.noPylong_small h.2.1))
    · exact h.elim
  · rename_i p r
    obtain ⟨h1, t, rfl⟩ := hu
    obtain ⟨h2, t', rfl⟩ := hv
    split at h
    · refine add_str (fun t' tk => q _ _ _ _ _ h.2 S ⟨?_, _, rfl⟩) h.1
      exact strOk_append h1 h2
    · exact h.elim
  · rename_i p b
    obtain ⟨h1, t, rfl⟩ := hu
    cases hv
    split at h
    · obtain ⟨ys, T, e, ⟨hT, hm⟩, hP⟩ := h
      have S' := S
      obtain ⟨m, news, cs, frs, Fm, N, H, Lc, Fo⟩ := S'
      obtain ⟨_, vs, ht, hr⟩ := H.tuple Fm N e
      obtain ⟨o, ho, hc, _⟩ := id ht
      exact KPt.bin_left (T := "str") (U := "tuple") (op := .Mod) (by decide) (typeIs_str s p t) ⟨o, ho, hc⟩ F.fills_str_mod KPt.fills_tuple F.slot_str_mod
        (call_meets F.slot_str_mod (typeIs_str s p t) F.entry_str_mod (F.args_str_mod_2 _ _) (hm vs t b hr) ⟨ht, fun t' k => ⟨(fun e => nomatch e), q _ _ _ _ _ hP S ⟨hT, _, rfl⟩⟩⟩)
    · exact h.elim
  · exact h.elim

theorem op_cmp {op : CmpOp} {u v : Value} {x y : MV} {P : Bool → Prop} (S : St Γ a ext σ μ s.heap) (hu' : A.units + 64 < cLine) (h : cmpW op x y σ P) (hu : VR u x) (hv : VR v y)
    (q : ∀ b tk', P b → Q (.bool b) { s with toks := tk' }) : wpAny Γ.M A (compareOp op u v) Q E s := by
  obtain ⟨m, news, cs, frs, F, N, H, Lc, Fo⟩ := S
  unfold cmpW at h
  split at h
  · rename_i i j
    obtain ⟨t, rfl⟩ := hu
    obtain ⟨t', rfl⟩ := hv
    split at h
    · exact PyProof.Rows.eq_int (q _ s.toks h)
    · exact PyProof.Rows.ne_int (q _ s.toks h)
    · exact PyProof.Rows.lt_int (q _ s.toks h)
    · exact PyProof.Rows.le_int (q _ s.toks h)
    · exact PyProof.Rows.gt_int (q _ s.toks h)
    · exact PyProof.Rows.ge_int (q _ s.toks h)
    · exact h.elim
  · rename_i p r
    obtain ⟨h1, t, rfl⟩ := hu
    obtain ⟨h2, t', rfl⟩ := hv
    split at h
    · exact PyProof.Rows.eq_str (q _ s.toks h)
    · exact PyProof.Rows.ne_str (q _ s.toks h)
    · exact PyProof.Rows.in_str (q _ s.toks h)
    · exact h.elim
  · cases hv
    have e : (u == Value.none) = decide (x = MV.none) := by
      cases x with
      | none => cases hu; rfl
      | bool b => cases hu; rfl
      | int i => obtain ⟨t, rfl⟩ := hu; rfl
      | str x => obtain ⟨_, t, rfl⟩ := hu; rfl
      | ref b => cases hu; rfl
      | type t => cases hu; rfl
      | builtin t => cases hu; rfl
    split at h
    · exact is_none_gen (q _ s.toks (by rw [e]; exact h))
    · exact isnot_none_gen (q _ s.toks (by rw [e]; exact h))
    · exact h.elim
  · rename_i b
    cases hv
    split at h
    · rename_i es e1
      obtain ⟨hz, lo, ob, kvs, hm, hd, hr, hD⟩ := H.dict N e1
      split at h
      · rename_i k
        obtain ⟨hs, t, rfl⟩ := hu
        split at h
        · exact wpAny_in_of (strKind_is _ _ k t) lo hD.mapOf (q _ _ (by rw [dget_isSome hr]; exact h))
        · exact wpAny_notIn_of (strKind_is _ _ k t) lo hD.mapOf (q _ _ (by rw [dget_isSome hr]; exact h))
        · exact h.elim
      · rename_i c
        cases hu
        split at h
        · rename_i es' e2
          obtain ⟨hz', lo', ob', kvs', hm', hd', hr', hD'⟩ := H.dict N e2
          obtain ⟨f1, f2, h⟩ := h
          have hits := keqHits_of (A := A.in1) (s := s) hr f2 hr' f1
          have e3 : (kvs'.length == kvs.length && decide (∀ q ∈ es', dget es q.1 = some q.2)) = decide (es'.length = es.length ∧ ∀ q ∈ es', dget es q.1 = some q.2) := by
            rw [Bool.eq_iff_iff, hr.length, hr'.length]; simp
          split at h
          · exact keq_eq lo' lo hD' hD (by omega) (fun _ => hits) (q _ s.toks (by rw [e3]; exact h))
          · exact keq_ne lo' lo hD' hD (by omega) (fun _ => hits) (q _ s.toks (by rw [e3]; exact h))
          · exact h.elim
        · exact h.elim
      · exact h.elim
    · rename_i xs e1
      obtain ⟨hz, vs, nn, hm, hr⟩ := H.list e1
      split at h
      · rename_i c
        cases hu
        split at h
        · rename_i ys e2
          obtain ⟨hz', vs', nn', hm', hr'⟩ := H.list e2
          obtain ⟨f1, f2, h⟩ := h
          obtain ⟨d1, k1⟩ := toDat_all hr' f1
          obtain ⟨d2, k2⟩ := toDat_all hr f2
          split at h
          · exact kqd_eq N hm' rfl rfl d1 (fun _ z => nomatch z) hm rfl rfl d2 (fun _ z => nomatch z) k1 k2 hu' (q _ s.toks (by rw [decide_any _ (map_toDat_inj f1 f2)]; exact h))
          · exact kqd_ne N hm' rfl rfl d1 (fun _ z => nomatch z) hm rfl rfl d2 (fun _ z => nomatch z) k1 k2 hu' (q _ s.toks (by rw [decide_any _ (map_toDat_inj f1 f2)]; exact h))
          · exact h.elim
        · exact h.elim
      · obtain ⟨f1, f2, h⟩ := h
        obtain ⟨d1, k1⟩ := toDat_in hu f1
        obtain ⟨d2, k2⟩ := toDat_all hr f2
        split at h
        · exact kqd_isIn N hm rfl rfl d2 (fun _ z => nomatch z) d1 (fun _ z => nomatch z) k2 k1 hu' (q _ s.toks (by rw [decide_any _ (mem_toDat f2 f1)]; exact h))
        · exact kqd_notIn N hm rfl rfl d2 (fun _ z => nomatch z) d1 (fun _ z => nomatch z) k2 k1 hu' (q _ s.toks (by rw [decide_any _ (mem_toDat f2 f1)]; exact h))
        · exact h.elim
    · exact h.elim
  · exact h.elim
end
end Mine

open PySem PySem.W PyProof.Rows PySem.Calls
set_option Elab.async false
set_option autoImplicit false
namespace Mine

section
variable {Γ : Rt} {a : Act} {ext : List (Addr × Obj)} {σ : MH} {μ : ML} {A : Around} {s : Shared} {n : Nat} {P : KP} {Q : Value → Shared → Prop} {E : Value → Shared → Prop}

theorem newsLt {hb h : Heap} {L : Addr} {news : List (Addr × Obj)} (N : News hb L h news) : ∀ p ∈ news, p.1 < h.objs.size := fun p hp => Heap.lt_size (N p hp).1

theorem op_newList {vs : List Value} {ds : List MV} (S : St Γ a ext σ μ s.heap) (hv : R2 VR vs ds) (hz : ds.length ≤ sizeLine) (h : allocW σ (.list ds) P) (q : Post Γ a ext μ s VR P Q) : wpAny Γ.M A (newList vs) Q E s := by
  obtain ⟨m, news, cs, frs, F, N, H, Lc, Fo⟩ := S
  refine newList_K F N (fun l h' F' N' hf => ?_) (by rw [hv.length]; exact hz)
  obtain ⟨S', hn⟩ := St.alloc F' N' hf H Lc Fo (o := .list ds) ⟨hz, vs, 0, rfl, hv⟩
  exact q _ _ h' s.toks _ (h l hn) S' rfl
theorem op_newTuple {vs : List Value} {ds : List MV} (S : St Γ a ext σ μ s.heap) (hv : R2 VR vs ds) (hz : ds.length ≤ sizeLine) (h : allocW σ (.tuple ds) P) (q : Post Γ a ext μ s VR P Q) : wpAny Γ.M A (newTuple vs) Q E s := by
  obtain ⟨m, news, cs, frs, F, N, H, Lc, Fo⟩ := S
  refine newTuple_N F N (fun h' F' N' => ?_) (by rw [hv.length]; exact hz)
  obtain ⟨S', hn⟩ := St.alloc F' N' (newsLt N) H Lc Fo (o := .tuple ds) ⟨hz, vs, 0, rfl, hv⟩
  exact q _ _ h' s.toks _ (h _ hn) S' rfl
theorem op_newDict {pos : Pos} (S : St Γ a ext σ μ s.heap) (h : allocW σ (.dict []) P) (q : Post Γ a ext μ s VR P Q) : wpAny Γ.M A (eval (.Dict [] [] pos) a.env) Q E s := by
  obtain ⟨m, news, cs, frs, F, N, H, Lc, Fo⟩ := S
  refine newDict_K F N Γ.T.nolimit fun d h' o F' N' hf lo hd _ _ _ => ?_
  obtain ⟨S', hn⟩ := St.alloc F' N' hf H Lc Fo (o := .dict []) ⟨⟨Nat.zero_le _, lo⟩, [], hd, .nil⟩
  exact q _ _ h' s.toks _ (h _ hn) S' rfl

theorem op_setItem {v k y : Value} {d dk dy : MV} {P : MH → Prop} {Q : Unit → Shared → Prop} (S : St Γ a ext σ μ s.heap) (h : setItemW d dk dy σ P) (hv : VR v d) (hk : VR k dk) (hy : VR y dy)
    (q : ∀ σ' h' tk', P σ' → St Γ a ext σ' μ h' → Q () { s with heap := h', toks := tk' }) : wpAny Γ.M A (setItem v k y) Q E s := by
  obtain ⟨m, news, cs, frs, F, N, H, Lc, Fo⟩ := S
  unfold setItemW at h
  split at h
  · rename_i ad x
    cases hv
    obtain ⟨hs, t, rfl⟩ := hk
    split at h
    · rename_i es e1
      obtain ⟨hl, hP⟩ := h
      obtain ⟨hz, lo, ob, kvs, hm, hd, hr, hD⟩ := H.dict N e1
      refine wpAny_setItem_pairs (strKind_is _ _ x t) hD (fun h' hD' hsb => ?_) (by rw [hr.length]; exact hz)
      obtain ⟨ob', ho', hd'⟩ := Heap.dictOf_iff.mp hD'
      obtain ⟨pre, post, he, p1, p2, -⟩ := upd_of H.nd hm ob'
      subst he
      have hmem := N _ (List.mem_append_right pre (.head _))
      have F' : Fr Γ.hb a.L h' m := F.change hsb hmem.2.1 hmem.2.2
      have N' := N.setIn p1 p2 hsb ho'
      have hz' : (dput es x dy).length ≤ sizeLine := Nat.le_trans (dput_length_le es x dy) hl
      exact q _ _ _ hP (St.update F' N' H Lc Fo e1 ⟨⟨hz', lo⟩, _, hd', KR.stored hr hs hy⟩)
    · exact h.elim
  · exact h.elim

theorem R2.slicePick {vs : List Value} {xs : List MV} (hr : R2 VR vs xs) : R2 VR (slicePick vs.toArray none none none).toList xs ∧ (∀ k : Int, 0 ≤ k → R2 VR (slicePick vs.toArray none (some k) none).toList (xs.take k.toNat)) ∧
    (∀ k : Int, 0 ≤ k → R2 VR (slicePick vs.toArray (some k) none none).toList (xs.drop k.toNat)) := by
  refine ⟨by rw [slicePick_all]; exact hr, fun k hk => ?_, fun k hk => ?_⟩
  · have ey : k = (k.toNat : Int) := by omega
    rw [ey, slicePick_upto' vs.toArray k.toNat]
    simpa [← ey] using hr.take k.toNat
  · have ey : k = (k.toNat : Int) := by omega
    rw [ey, slicePick_from' vs.toArray k.toNat]
    simpa [← ey] using hr.drop k.toNat

theorem op_slice {e : Expr} {lo hi : Option Expr} {p : Pos} {v vl vu : Value} {d dl du : MV} (S : St Γ a ext σ μ s.heap) (h : sliceW d dl du σ P) (hv : VR v d) (hl : VR vl dl) (hu : VR vu du) (q : Post Γ a ext μ s VR P Q) :
    wpAny Γ.M A (subscriptTail e (.Slice lo hi none p) v (.ref s.heap.objs.size)) Q E { s with heap := s.heap.push { cls := .type "slice", data := .fields #[vl, vu, .none] } } := by
  obtain ⟨m, news, cs, frs, F, N, H, Lc, Fo⟩ := S
  unfold sliceW at h
  split at h
  case h_2 => exact h.elim
  case h_1 ad =>
  split at h
  case h_2 => exact h.elim
  case h_1 xs e1 =>
  cases hv
  obtain ⟨hz, vs, nn, hm, hr⟩ := H.list e1
  have hlst := isList_of N hm
  have key : ∀ (lo' hi' : Option Int) (ys : List MV), IsPart vl lo' → IsPart vu hi' → R2 VR (slicePick vs.toArray lo' hi' none).toList ys → ys.length ≤ sizeLine → allocW σ (.list ys) P →
      wpAny Γ.M A (subscriptTail e (.Slice lo hi none p) (.ref ad) (.ref s.heap.objs.size)) Q E { s with heap := s.heap.push { cls := .type "slice", data := .fields #[vl, vu, .none] } } := by
    intro lo' hi' ys pl pu hys hyz hP
    refine tail_any (ops := [.ref s.heap.objs.size, .ref ad]) (Heap.IsList.typeIs (s := { s with heap := s.heap.push { cls := .type "slice", data := .fields #[vl, vu, .none] } }) (hlst.push _)) list_getitem_lookup
      (wpAny_getItem_list_slice (hlst.push _) (Heap.IsSliceOf.new ..) pl pu .none (by simp) ?_ (by simp [hr.length]; exact hz)) rfl
    have N1 := News.push (F.push { cls := .type "slice", data := .fields #[vl, vu, .none] }) (N.grown fun _ _ e => Heap.get?_push_of_some _ e) { cls := .type "list", data := .seq (slicePick vs.toArray lo' hi' none) }
    obtain ⟨S', hn⟩ := St.alloc ((F.push _).push _) N1 (fun p hp => Nat.lt_trans (newsLt N p hp) (by rw [Heap.size_push]; exact Nat.lt_succ_self _)) H Lc Fo (o := .list ys) ⟨hyz, _, 0, by rw [Array.toArray_toList], hys⟩
    exact q _ _ _ _ _ (hP _ hn) S' rfl
  obtain ⟨r1, r2, r3⟩ := hr.slicePick
  split at h
  · cases hl; cases hu
    exact key _ _ _ .none .none r1 hz h
  · cases hl; obtain ⟨t, rfl⟩ := hu
    exact key _ _ _ .none (.int _ _) (r2 _ h.1) (by rw [List.length_take]; omega) h.2
  · cases hu; obtain ⟨t, rfl⟩ := hl
    exact key _ _ _ (.int _ _) .none (r3 _ h.1) (by rw [List.length_drop]; omega) h.2
  · exact h.elim
end
end Mine

open PySem PySem.W PyProof.Rows PySem.Calls
set_option Elab.async false
set_option autoImplicit false
namespace Mine

section
variable {Γ : Rt} {a : Act} {ext : List (Addr × Obj)} {σ : MH} {μ : ML} {A : Around} {s : Shared} {n : Nat} {P : KP} {Q : Value → Shared → Prop} {E : Value → Shared → Prop}

theorem R2.nil_inv {α β : Type} {R : α → β → Prop} {as : List α} (h : R2 R as []) : as = [] := by cases h; rfl
theorem R2.cons_inv {α β : Type} {R : α → β → Prop} {as : List α} {b : β} {bs : List β} (h : R2 R as (b :: bs)) : ∃ x xs, as = x :: xs ∧ R x b ∧ R2 R xs bs := by cases h with | cons a b => exact ⟨_, _, rfl, a, b⟩
theorem R2.one {α β : Type} {R : α → β → Prop} {as : List α} {b : β} (h : R2 R as [b]) : ∃ x, as = [x] ∧ R x b := by
  obtain ⟨x, xs, rfl, h1, h2⟩ := h.cons_inv
  exact ⟨x, by rw [h2.nil_inv], h1⟩
theorem R2.two {α β : Type} {R : α → β → Prop} {as : List α} {b c : β} (h : R2 R as [b, c]) : ∃ x y, as = [x, y] ∧ R x b ∧ R y c := by
  obtain ⟨x, xs, rfl, h1, h2⟩ := h.cons_inv
  obtain ⟨y, rfl, h3⟩ := h2.one
  exact ⟨x, y, rfl, h1, h3⟩
theorem log2_small {i : Int} (h : i.natAbs < 10 ^ 10) : i.natAbs.log2 < 1920 := by
  by_cases h0 : i.natAbs = 0
  · rw [h0]; decide
  · exact Nat.lt_of_lt_of_le ((Nat.log2_lt h0 (k := 64)).mpr (Nat.lt_of_lt_of_le h (by decide))) (by decide)
theorem strOk_toString (i : Int) : PyData.strOk (Str.ofString (toString i)) = true := strOk_ofString _

theorem op_builtin {id : String} {vs : List Value} {ds : List MV} (S : St Γ a ext σ μ s.heap) (h : builtinW id ds σ P) (hv : R2 VR vs ds) (q : Post Γ a ext μ s VR P Q) : wpAny Γ.M A (call (.builtin id) vs) Q E s := by
  have S' := S
  obtain ⟨m, news, cs, frs, F, N, H, Lc, Fo⟩ := S
  have sz : (sizeLine : Int) < 2 ^ 63 := by rw [sizeLine_eq]; decide
  unfold builtinW at h
  split at h
  · -- len
    rename_i ad
    obtain ⟨v, rfl, hw⟩ := hv.one; obtain rfl : v = .ref ad := hw
    split at h
    · rename_i xs e1
      obtain ⟨hz, us, nn, hm, hr⟩ := H.list e1
      refine PyProof.Rows.len_list (isList_of N hm) (by simp [hr.length]; omega) ?_
      have : (us.toArray.size : Int) = xs.length := by simp [hr.length]
      rw [this]; exact q _ _ _ _ _ h S' ⟨_, rfl⟩
    · rename_i xs e1
      obtain ⟨hz, us, ht, hr⟩ := H.tuple F N e1
      refine PyProof.Rows.len_tuple ht (by simp [hr.length]; omega) ?_
      have : (us.toArray.size : Int) = xs.length := by simp [hr.length]
      rw [this]; exact q _ _ _ _ _ h S' ⟨_, rfl⟩
    · rename_i es e1
      obtain ⟨hz, lo, ob, kvs, hm, hd, hr, hD⟩ := H.dict N e1
      refine PySem.call_len_dict lo hD (by have := hr.length; omega) ?_
      have : (kvs.length : Int) = es.length := by simp [hr.length]
      rw [this]; exact q _ _ _ _ _ h S' ⟨_, rfl⟩
    · exact h.elim
  · -- append
    rename_i ad x
    obtain ⟨v, u, rfl, hw, hx⟩ := hv.two; obtain rfl : v = .ref ad := hw
    split at h
    · rename_i xs e1
      obtain ⟨hz, us, nn, hm, hr⟩ := H.list e1
      obtain ⟨hl, hP⟩ := h
      obtain ⟨pre, post, he, p1, p2, U⟩ := upd_of H.nd hm (listOf (us.toArray.push u) (nn + 1))
      refine append_K F N U (fun h' F' N' => ?_) (by simp [hr.length]; exact hz)
      subst he
      refine q _ _ _ s.toks _ hP (St.update F' N' H Lc Fo e1 ⟨by simp; omega, us ++ [u], nn + 1, by simp [W.listOf], hr.snoc hx⟩) rfl
    · exact h.elim
  · -- extend
    rename_i ad bd
    obtain ⟨v, u, rfl, hw, hx⟩ := hv.two; obtain rfl : v = .ref ad := hw; obtain rfl : u = .ref bd := hx
    split at h
    · rename_i xs e1
      split at h
      · rename_i ys e2
        obtain ⟨hne, hl, hP⟩ := h
        obtain ⟨hz, us, nn, hm, hr⟩ := H.list e1
        obtain ⟨hz2, ws, nn2, hm2, hr2⟩ := H.list e2
        obtain ⟨pre, post, he, p1, p2, -⟩ := upd_of H.nd hm (listOf us.toArray nn)
        subst he
        refine extend_in F N p1 p2 (N _ hm2).1 (fun h' n' F' N' => ?_) (by simp [hr.length, hr2.length]; exact hl)
        refine q _ _ _ s.toks _ hP (St.update F' N' H Lc Fo e1 ⟨by simp; exact hl, us ++ ws, n', by simp [W.listOf], hr.append hr2⟩) rfl
      · exact h.elim
    · exact h.elim
  · -- isinstance
    obtain ⟨v, u, rfl, hw, hx⟩ := hv.two; obtain rfl : u = .type "str" := hx; obtain ⟨_, t, rfl⟩ := hw
    exact PySem.IsiPair.str_str (q _ _ _ s.toks _ h S' rfl)
  · exact h.elim

theorem op_type {id : String} {vs : List Value} {ds : List MV} (S : St Γ a ext σ μ s.heap) (h : typeW id ds σ P) (hv : R2 VR vs ds) (q : Post Γ a ext μ s VR P Q) : wpAny Γ.M A (call (.type id) vs) Q E s := by
  have S' := S
  obtain ⟨m, news, cs, frs, F, N, H, Lc, Fo⟩ := S
  have sz : (sizeLine : Int) < 2 ^ 63 := by rw [sizeLine_eq]; decide
  unfold typeW at h
  split at h
  · -- str
    rename_i i
    obtain ⟨v, rfl, hw⟩ := hv.one; obtain ⟨t, rfl⟩ := hw
    refine PySem.P.str_of_int (log2_small h.1) (q _ _ _ _ _ h.2 S' ⟨strOk_toString i, _, rfl⟩)
  · -- list
    rename_i ad
    obtain ⟨v, rfl, hw⟩ := hv.one; obtain rfl : v = .ref ad := hw
    split at h
    · rename_i xs e1
      obtain ⟨hz, us, nn, hm, hr⟩ := H.list e1
      refine list_copyK F N (isList_of N hm) (fun D c h' F' N' hf => ?_) (by simp [hr.length]; exact hz)
      obtain ⟨S', hn⟩ := St.alloc F' N' hf H Lc Fo (o := .list xs) ⟨hz, us, c, rfl, hr⟩
      exact q _ _ h' s.toks _ (h _ hn) S' rfl
    · rename_i xs e1
      obtain ⟨hz, us, ht, hr⟩ := H.tuple F N e1
      refine list_copyKT F N ht (fun D c h' F' N' hf => ?_) (by simp [hr.length]; exact hz)
      obtain ⟨S', hn⟩ := St.alloc F' N' hf H Lc Fo (o := .list xs) ⟨hz, us, c, rfl, hr⟩
      exact q _ _ h' s.toks _ (h _ hn) S' rfl
    · exact h.elim
  · -- tuple
    rename_i ad
    obtain ⟨v, rfl, hw⟩ := hv.one; obtain rfl : v = .ref ad := hw
    split at h
    · rename_i xs e1
      obtain ⟨hz, us, nn, hm, hr⟩ := H.list e1
      refine call_tuple_list (isList_of N hm) (fun h' hk => ?_) (by simp [hr.length]; exact hz)
      have F' : Fr Γ.hb a.L h' m := F.keeps hk
      have N' : News Γ.hb a.L h' news := fun p hp => ⟨hk _ _ (N p hp).1, (N p hp).2⟩
      obtain ⟨S', hn⟩ := St.alloc (F'.push _) (N'.push F' _) (newsLt N') H Lc Fo (o := .tuple xs) ⟨hz, us, 0, rfl, hr⟩
      exact q _ _ _ s.toks _ (h _ hn) S' rfl
    · exact h.elim
  · -- range
    rename_i i
    obtain ⟨v, rfl, hw⟩ := hv.one; obtain ⟨t, rfl⟩ := hw
    refine range1_rows F N fun h' tk t₁ u₁ v₁ hR F' N' hk => ?_
    have hN' : News Γ.hb a.L h' ((s.heap.objs.size, { cls := .type "range", dict := none, data := .fields #[.int 0 t₁, .int i u₁, .int 1 v₁], slots := #[] }) :: news) := by
      intro p hp
      rcases List.mem_cons.mp hp with rfl | hp
      · exact ⟨hR, Nat.ne_of_gt F.ns.lt, by
          cases hq : Γ.hb.get? s.heap.objs.size with
          | none => rfl
          | some o' => exact absurd (Heap.lt_size (F.keep _ _ hq)) (Nat.lt_irrefl _)⟩
      · exact N' p hp
    obtain ⟨S', hn⟩ := St.alloc F' hN' (newsLt N) H Lc Fo (o := .range 0 i 1) ⟨⟨rfl, h.1, rfl⟩, t₁, u₁, v₁, rfl⟩
    exact q _ _ h' tk _ (h.2 _ hn) S' rfl
  · exact h.elim
end
end Mine

open PySem PySem.W PyProof.Rows PySem.Calls
set_option Elab.async false
set_option autoImplicit false
namespace Mine

theorem starEach_plain {e : Expr} {es : List Expr} {env : Env} (h : plainArg e = true) : starEach (e :: es) env = (false, eval e env) :: starEach es env := by
  cases e <;> first | rfl | (cases h; done)
theorem backTo_false {pos : Pos} {env : Env} : ∀ {es : List Expr}, es.all plainArg = true → (backTo pos (starEach es env)).any (·.1) = false
  | [], _ => rfl
  | e :: es, h => by
    rw [List.all_cons, Bool.and_eq_true] at h
    rw [starEach_plain h.1]
    show (false || (backTo pos (starEach es env)).any (·.1)) = false
    rw [backTo_false h.2]; rfl
theorem backTo_all {pos : Pos} {env : Env} : ∀ {es : List Expr}, es.all plainArg = true → (backTo pos (starEach es env)).all (!·.1) = true
  | [], _ => rfl
  | e :: es, h => by
    rw [List.all_cons, Bool.and_eq_true] at h
    rw [starEach_plain h.1]
    show (true && (backTo pos (starEach es env)).all (!·.1)) = true
    rw [backTo_all h.2]; rfl
theorem kw_all {pos : Pos} {env : Env} : ∀ {ks : List Keyword}, kwNamed ks = true → (backToKw pos (keywordEach ks env)).all (·.1.isSome) = true
  | [], _ => rfl
  | ⟨a, e, p⟩ :: ks, h => by
    unfold kwNamed at h
    rw [List.all_cons, Bool.and_eq_true] at h
    show (a.isSome && (backToKw pos (keywordEach ks env)).all (·.1.isSome)) = true
    rw [kw_all h.2]; simpa using h.1
theorem kw_any {pos : Pos} {env : Env} : ∀ {ks : List Keyword}, kwNamed ks = true → (backToKw pos (keywordEach ks env)).any (·.1.isNone) = false
  | [], _ => rfl
  | ⟨a, e, p⟩ :: ks, h => by
    unfold kwNamed at h
    rw [List.all_cons, Bool.and_eq_true] at h
    show (a.isNone || (backToKw pos (keywordEach ks env)).any (·.1.isNone)) = false
    rw [kw_any h.2]
    have : a.isSome = true := h.1
    cases a <;> simp_all

section
variable {Γ : Rt} {a : Act} {ext : List (Addr × Obj)} {σ : MH} {μ : ML} {A : Around} {s : Shared} {n : Nat} {P : KP} {Q : Value → Shared → Prop} {E : Value → Shared → Prop} {M : Model} {env : Env}

theorem run_evalArgs {f : Value} {es : List Expr} {ks : List Keyword} {pos : Pos} {Q : Args → Shared → Prop} (hp : es.all plainArg = true) (hk : kwNamed ks = true)
    (h : wpAny M A (spliced (backTo pos (starEach es env))) (fun vs s₁ => wpAny M A (evalAll ((backToKw pos (keywordEach ks env)).map (·.2))) (fun us s₂ => Q ⟨vs, ((backToKw pos (keywordEach ks env)).filterMap (·.1)).zip us⟩ s₂) E s₁) E s) :
    wpAny M A (evalArgs f true (backTo pos (starEach es env)) (backToKw pos (keywordEach ks env))) Q E s := by
  cases es with
  | nil =>
    have h' : wpAny M A (evalAll ((backToKw pos (keywordEach ks env)).map (·.2))) (fun us s₂ => Q ⟨[], ((backToKw pos (keywordEach ks env)).filterMap (·.1)).zip us⟩ s₂) E s := by
      have e : spliced (backTo pos (starEach [] env)) = pure [] := rfl
      rw [e] at h
      exact fun Γ p hΓ => (h Γ p hΓ : wpAny M A _ _ E s) Γ p hΓ
    exact evalArgs_kw_nil (kw_all hk) h'
  | cons e es =>
    rw [List.all_cons, Bool.and_eq_true] at hp
    rw [starEach_plain hp.1] at h ⊢
    exact evalArgs_kw (kw_all hk) h

/-- who keeps what a call hands on -/
theorem keeps_any {K : Frag} {f : Value} (h : Heap) (XX : K.In h ∧ ((∃ i, f = .builtin i) ∨ (∃ t, f = .type t) ∨ keepIn K f = true)) : ∃ k, (k = Keeper.frame ∨ k = Keeper.machine ∨ k = Keeper.boundFrame) ∧ Looks M h (keeperOf f) k := by
  obtain ⟨X, hf⟩ := XX
  rcases hf with ⟨i, rfl⟩ | ⟨t, rfl⟩ | hf
  · exact ⟨.machine, .inr (.inl rfl), Looks.now⟩
  · exact ⟨.machine, .inr (.inl rfl), Looks.now⟩
  · exact keeps_K hf h X

theorem run_callWith {K : Frag} {f : Value} {first : List Value} {es : List Expr} {ks : List Keyword} {pos : Pos} (hp : es.all plainArg = true) (hk : kwNamed ks = true)
    (h : wpAny M A (spliced (backTo pos (starEach es env))) (fun vs s₁ => wpAny M A (evalAll ((backToKw pos (keywordEach ks env)).map (·.2))) (fun us s₂ => (K.In s₂.heap ∧ ((∃ i, f = .builtin i) ∨ (∃ t, f = .type t) ∨ keepIn K f = true)) ∧
      wpAny M A (call f (first ++ vs) (((backToKw pos (keywordEach ks env)).filterMap (·.1)).zip us)) Q E s₂) E s₁) E s) :
    wpAny M A (callWith pos f first (backTo pos (starEach es env)) (backToKw pos (keywordEach ks env))) Q E s :=
  callWith_of (by rw [backTo_false hp, kw_any hk]; rfl) keeps_any (run_evalArgs hp hk h)

theorem run_method {o : Expr} {name : Str} {apos pos : Pos} {es : List Expr} {ks : List Keyword} (hp : es.all plainArg = true) (hk : kwNamed ks = true) (hn : es.length + ks.length ≤ 25) (hns : notSuper o = true) (hl : (apos.endLine == pos.line) = true)
    (h : wpAny M A (eval o env) (fun ov s₁ => ∀ pl, wpAny M A (getMethod ov name pl) (fun fx s₂ => wpAny M A (callWith pos fx.1 fx.2 (backTo pos (starEach es env)) (backToKw pos (keywordEach ks env))) Q E s₂) E s₁) E s) :
    wpAny M A (eval (.Call (.Attribute o name apos) es ks pos) env) Q E s := by
  have hb : attributeBase o name env (eval o env) = eval o env := by
    unfold attributeBase
    split
    · cases hns
    · rfl
  have hform : methodCallForm (es.length + ks.length) (backTo pos (starEach es env)) (backToKw pos (keywordEach ks env)) = true := by
    unfold methodCallForm
    rw [backTo_all hp, kw_all hk]
    simp only [Bool.true_and, decide_eq_true_eq]
    split <;> omega
  show wpAny M A (do
    let ov ← attributeBase o name env (eval o env)
    standAt apos.atName
    methodCall o name apos pos env ov (es.length + ks.length) (backTo pos (starEach es env)) (backToKw pos (keywordEach ks env))) Q E s
  rw [hb]
  refine wpAny_bind (wpAny_mono h (fun ov s₁ h₁ => wpAny_bind (wpAny_standAt ?_)) fun _ _ x => x)
  unfold methodCall
  rw [hform]
  refine wpAny_bind (wpAny_holding ?_)
  show wpAny M A (getMethod ov name _) _ _ _
  refine wpAny_mono (h₁ _) (fun fx s₂ h₂ => ?_) fun _ _ x => x
  unfold methodCallPos
  rw [hl]
  exact wpAny_bind (wpAny_pure h₂)

theorem op_getMethod {v : Value} {d : MV} {x : Str} {pl : Sem Bool} {P : MV → List MV → Prop} {Q : Value × List Value → Shared → Prop} (S : St Γ a ext σ μ s.heap) (h : methW Γ d x σ P) (hv : VR v d)
    (q : ∀ f first g fs tk', P f first → VR g f → R2 VR fs first → Q (g, fs) { s with toks := tk' }) : wpAny Γ.M A (getMethod v x pl) Q E s := by
  obtain ⟨m, news, cs, frs, F, N, H, Lc, Fo⟩ := S
  unfold methW at h
  split at h
  case h_2 => exact h.elim
  case h_1 ad =>
  obtain rfl : v = .ref ad := hv
  split at h
  · rename_i xs e1
    obtain ⟨hz, vs, nn, hm, hr⟩ := H.list e1
    rcases h with ⟨rfl, h⟩ | ⟨rfl, h⟩
    · exact listMethod_K N hm PySem.F.slot_list_append PySem.F.type_list_append (q _ _ _ _ s.toks h rfl (.cons rfl .nil))
    · exact listMethod_K N hm PySem.F.slot_list_extend PySem.F.type_list_extend (q _ _ _ _ s.toks h rfl (.cons rfl .nil))
  · rename_i C d e1
    split at h
    case h_2 => exact h.elim
    case h_1 es e2 =>
    obtain ⟨hn, f, hf, hP⟩ := h
    have hm := H.inst e1
    obtain ⟨ens, nn, kvs, hd, h1, h2, h3, h4⟩ := H.ns e2
    simp only [meOk, Bool.and_eq_true, beq_iff_eq] at hf
    obtain ⟨⟨⟨g1, g2⟩, g3⟩, g4⟩ := hf
    refine method_fn (Γ.X.keeps F.keep) (InstAt.of_news N hm hd) g1 g2 g3 g4 ?_ (q _ _ _ _ s.toks hP rfl (.cons rfl .nil))
    show (lookIn x (dictOf ens nn)).map _ = _
    rw [lookIn_dict, getL_pairs h2, dget_none h4 hn]; rfl
  · obtain ⟨f, hf, hP⟩ := h
    unfold stOk at hf
    simp only [Bool.and_eq_true, beq_iff_eq] at hf
    obtain ⟨⟨g1, g2⟩, g3⟩ := hf
    split at g3
    · rename_i i g c e
      simp only [Bool.and_eq_true, beq_iff_eq] at g3
      obtain ⟨⟨g4, hc⟩, g5⟩ := g3
      subst g4
      split at g5
      · rename_i f' rest e'
        have : f' = f := by simpa using g5
        subst this
        refine method_cls (Γ.X.keeps F.keep) g1 ?_
        subst hc
        exact cls_bind (Γ.X.keeps F.keep) g2 e (wpAny_call (sm_get (s := { s with toks := s.toks + 1 }) (Γ.X.keeps F.keep) e' (handed_on rfl (q _ _ _ _ _ hP rfl .nil))))
      · cases g5
    · cases g3
  · exact h.elim
end
end Mine

open PySem PySem.W PyProof.Rows PySem.Calls
set_option Elab.async false
set_option autoImplicit false
namespace Mine

theorem kw_names {pos : Pos} {env : Env} : ∀ (ks : List Keyword), (backToKw pos (keywordEach ks env)).filterMap (·.1) = ks.filterMap (·.arg)
  | [] => rfl
  | ⟨none, e, p⟩ :: ks => by
    show (backToKw pos (keywordEach ks env)).filterMap (·.1) = _
    rw [kw_names ks]; rfl
  | ⟨some x, e, p⟩ :: ks => by
    show x :: (backToKw pos (keywordEach ks env)).filterMap (·.1) = _
    rw [kw_names ks]; rfl

section
variable {Γ : Rt} {sc : Scope} {n : Nat}

theorem AOk.weak {a : Act} {A : Around} (h : AOk a n A) : A.units + 64 < cLine := by have := h.un; omega

theorem run_call {a : Act} {A : Around} {ext : List (Addr × Obj)} {μ : ML} {σ : MH} {P : KP} {X : XP} {s : Shared} {Q : Value → Shared → Prop} {E : Value → Shared → Prop} {fv : Value} {f : MV} {vs : List Value} {ds : List MV} {kws : List (Str × Value)} {ks : List (Str × MV)}
    (hA : AOk a n A) (S : St Γ a ext σ μ s.heap) (h : callW Γ (CodeP Γ) n f ds ks σ P X) (hf : VR fv f) (hv : R2 VR vs ds) (hk : R2 (fun x y => x.1 = y.1 ∧ VR x.2 y.2) kws ks) (q : Post Γ a ext μ s VR P Q) (x : XPost Γ a ext s X E) :
    wpAny Γ.M A (call fv vs kws) Q E s := by
  unfold callW at h
  split at h
  · obtain ⟨rfl, h⟩ := h
    obtain rfl : fv = _ := hf
    rw [hk.nil_inv]
    exact op_builtin S h hv q
  · obtain ⟨rfl, h⟩ := h
    obtain rfl : fv = _ := hf
    rw [hk.nil_inv]
    exact op_type S h hv q
  · obtain ⟨hn, _, h⟩ := h
    refine wpAny_call (codeAny_mono (h a A ext μ s fv vs kws (fun r s' => match r with | .ok (.ret v) => Q v s' | .ok _ => False | .error e => E e s') ?_ S hf hv hk (fun d σ' h' tk' v hP S' hr => q d σ' h' tk' v hP S' hr) fun C msg σ' h' tk' e hX hx => x C msg σ' h' tk' e hX hx) fun r s' z => ?_)
    · have : n - 1 + 1 = n := by omega
      rw [this]; exact hA
    · exact z
  · exact h.elim

theorem callW_keeps {CP : CallT} {f : MV} {ds : List MV} {ks : List (Str × MV)} {σ : MH} {P : KP} {X : XP} (h : callW Γ CP n f ds ks σ P X) {fv : Value} (hf : VR fv f) : (∃ i, fv = .builtin i) ∨ (∃ t, fv = .type t) ∨ keepIn Γ.K fv = true := by
  unfold callW at h
  split at h
  · exact .inl ⟨_, hf⟩
  · exact .inr (.inl ⟨_, hf⟩)
  · obtain rfl : fv = _ := hf
    exact .inr (.inr h.2.1)
  · exact h.elim

theorem plainTest {e : Expr} (ih : Runs Γ sc n (eval e) VR (W Γ (CodeP Γ) sc n e)) (a : Act) (A : Around) (ext : List (Addr × Obj)) (μ : ML) (σ : MH) (P : Bool → MH → Prop) (X : XP) (s : Shared) (Q : Bool → Shared → Prop) (E : Value → Shared → Prop)
    (hsc : a.scope = sc) (hA : AOk a n A) (S : St Γ a ext σ μ s.heap) (h : W Γ (CodeP Γ) sc n e μ σ (fun v σ₁ => truthW Γ σ₁ v fun b => P b σ₁) X) (q : Post Γ a ext μ s (fun b c => b = c) P Q) (x : XPost Γ a ext s X E)
    (he : isTrue e a.env (eval e a.env) = (do let v ← eval e a.env; standAt e.pos; holding [v] (truthy v)) := by rfl) : wpAny Γ.M A (isTrue e a.env (eval e a.env)) Q E s :=
    isTrue_plain (ih a A ext μ σ _ X s _ E hsc hA S h (fun d σ₁ h₁ t₁ v hP S₁ hv => op_truth S₁ hP hv fun b tk' hb => q _ _ _ _ _ hb S₁ rfl) x) he

/-- the arguments, then the call -/
theorem callRest (es : List Expr) (ks : List Keyword) (pos : Pos) (hL : Runs Γ sc n (fun env => spliced (backTo pos (starEach es env))) (R2 VR) (WL Γ (CodeP Γ) sc n es))
    (hK : Runs Γ sc n (fun env => evalAll ((backToKw pos (keywordEach ks env)).map (·.2))) (fun us kw => R2 (fun x y => x.1 = y.1 ∧ VR x.2 y.2) ((ks.filterMap (·.arg)).zip us) kw) (WK Γ (CodeP Γ) sc n ks)) (fm : MV) (first : List MV) (g : Value) (fs : List Value) (a : Act) (A : Around) (ext : List (Addr × Obj)) (μ : ML) (σ : MH) (P : KP) (X : XP) (s : Shared) (Q : Value → Shared → Prop) (E : Value → Shared → Prop)
    (hsc : a.scope = sc) (hA : AOk a n A) (hp : es.all plainArg = true) (hk : kwNamed ks = true) (S : St Γ a ext σ μ s.heap) (hg : VR g fm) (hfs : R2 VR fs first)
    (h : WL Γ (CodeP Γ) sc n es μ σ (fun ds σ₂ => WK Γ (CodeP Γ) sc n ks μ σ₂ (fun ks σ₃ => callW Γ (CodeP Γ) n fm (first ++ ds) ks σ₃ P X) X) X) (q : Post Γ a ext μ s VR P Q) (x : XPost Γ a ext s X E) :
    wpAny Γ.M A (callWith pos g fs (backTo pos (starEach es a.env)) (backToKw pos (keywordEach ks a.env))) Q E s := by
  refine run_callWith (K := Γ.K) hp hk (hL a A ext μ σ _ X s _ E hsc hA S h (fun ds σ₁ h₁ t₁ vs hP S₁ hv => ?_) x)
  refine hK a A ext μ σ₁ _ X _ _ E hsc hA S₁ hP (fun kw σ₂ h₂ t₂ us hP₂ S₂ hv₂ => ?_) x
  refine ⟨⟨?_, callW_keeps hP₂ hg⟩, ?_⟩
  · obtain ⟨m, news, cs, frs, F, _⟩ := S₂
    exact Γ.X.keeps F.keep
  · rw [kw_names]
    exact run_call hA S₂ hP₂ hg (hfs.append hv) hv₂ q x

set_option maxHeartbeats 2000000
mutual
theorem sW : ∀ (e : Expr), Runs Γ sc n (eval e) VR (W Γ (CodeP Γ) sc n e)
  | .Constant c k pos => fun a A ext μ σ P X s Q E hsc hA S h q x => run_const S (by simpa only [W] using h) q
  | .Name y pos => fun a A ext μ σ P X s Q E hsc hA S h q x => run_name hsc S (by simpa only [W] using h) q
  | .BoolOp op vs pos => fun a A ext μ σ P X s Q E hsc hA S h q x => sWB vs op pos a A ext μ σ P X s Q E hsc hA S (by simpa only [W] using h) q x
  | .BinOp l op r pos => fun a A ext μ σ P X s Q E hsc hA S h q x => by
    simp only [W] at h
    refine wpAny_BinOp (sW l a A ext μ σ _ X s _ E hsc hA S h (fun d σ₁ h₁ t₁ v hP S₁ hv => ?_) x)
    refine sW r a A ext μ σ₁ _ X _ _ E hsc hA S₁ hP (fun d₂ σ₂ h₂ t₂ v₂ hP₂ S₂ hv₂ => ?_) x
    exact op_bin S₂ hP₂ hv hv₂ q
  | .UnaryOp op y pos => fun a A ext μ σ P X s Q E hsc hA S h q x => by
    simp only [W] at h
    split at h
    · refine UnaryOp_ (sW y a A ext μ σ _ X s _ E hsc hA S h (fun d σ₁ h₁ t₁ v hP S₁ hv => ?_) x)
      exact not_of (op_truth S₁ hP hv fun b tk' hb => q _ _ _ _ _ hb S₁ rfl)
    · refine UnaryOp_ (sW y a A ext μ σ _ X s _ E hsc hA S h (fun d σ₁ h₁ t₁ v hP S₁ hv => ?_) x)
      split at hP
      · obtain ⟨t, rfl⟩ := hv
        exact neg_int (q _ _ _ _ _ hP S₁ ⟨_, rfl⟩)
      · exact hP.elim
    · exact h.elim
  | .IfExp t y z pos => fun a A ext μ σ P X s Q E hsc hA S h q x => by
    simp only [W] at h
    refine IfExp_ (sWT t (sW t) a A ext μ σ _ X s _ E hsc hA S h (fun d σ₁ h₁ t₁ v hP S₁ hv => ?_) x)
    subst hv
    split at hP
    · rename_i hc; rw [if_pos hc]; exact sW y a A ext μ σ₁ P X _ Q E hsc hA S₁ hP q x
    · rename_i hc; rw [if_neg hc]; exact sW z a A ext μ σ₁ P X _ Q E hsc hA S₁ hP q x
  | .Compare l [op] [r] pos => fun a A ext μ σ P X s Q E hsc hA S h q x => by
    simp only [W] at h
    obtain ⟨hm, h⟩ := h
    refine wpAny_Compare1 (hm := hm) (sW l a A ext μ σ _ X s _ E hsc hA S h (fun d σ₁ h₁ t₁ v hP S₁ hv => ?_) x)
    refine sW r a A ext μ σ₁ _ X _ _ E hsc hA S₁ hP (fun d₂ σ₂ h₂ t₂ v₂ hP₂ S₂ hv₂ => ?_) x
    exact op_cmp S₂ hA.weak hP₂ hv hv₂ fun b tk' hb => q _ _ _ _ _ hb S₂ rfl
  | .List es pos => fun a A ext μ σ P X s Q E hsc hA S h q x => by
    simp only [W] at h
    refine List_ (sWL es pos a A ext μ σ _ X s _ E hsc hA S h (fun ds σ₁ h₁ t₁ vs hP S₁ hv => ?_) x)
    exact op_newList S₁ hv (by have := hP.1; rw [sizeLine_eq]; omega) hP.2 q
  | .Tuple es k pos => fun a A ext μ σ P X s Q E hsc hA S h q x => by
    simp only [W] at h
    refine Tuple_ (sWL es pos a A ext μ σ _ X s _ E hsc hA S h (fun ds σ₁ h₁ t₁ vs hP S₁ hv => ?_) x)
    exact op_newTuple S₁ hv (by have := hP.1; rw [sizeLine_eq]; omega) hP.2 q
  | .Dict [] [] pos => fun a A ext μ σ P X s Q E hsc hA S h q x => op_newDict S (by simpa only [W] using h) q
  | .Attribute e y pos => fun a A ext μ σ P X s Q E hsc hA S h q x => by
    simp only [W] at h
    refine run_attr h.1 (sW e a A ext μ σ _ X s _ E hsc hA S h.2 (fun d σ₁ h₁ t₁ v hP S₁ hv => ?_) x)
    exact op_getAttr S₁ hP hv q
  | .Subscript e i pos => fun a A ext μ σ P X s Q E hsc hA S h q x => by
    by_cases hi : ∃ lo hi p, i = .Slice lo hi none p
    · obtain ⟨lo, hi, p, rfl⟩ := hi
      simp only [W] at h
      refine Subscript_ (sW e a A ext μ σ _ X s _ E hsc hA S h (fun d σ₁ h₁ t₁ v hP S₁ hv => ?_) x)
      refine wpAny_Slice (sWO lo a A ext μ σ₁ _ X _ _ E hsc hA S₁ hP (fun d₂ σ₂ h₂ t₂ v₂ hP₂ S₂ hv₂ => ?_) x)
      refine sWO hi a A ext μ σ₂ _ X _ _ E hsc hA S₂ hP₂ (fun d₃ σ₃ h₃ t₃ v₃ hP₃ S₃ hv₃ => ?_) x
      exact wpAny_evalPart_none (op_slice S₃ hP₃ hv hv₂ hv₃ q)
    · have h' : W Γ (CodeP Γ) sc n e μ σ (fun v σ₁ => W Γ (CodeP Γ) sc n i μ σ₁ (fun k σ₂ => itemW v k σ₂ P) X) X := by
        rw [W] at h
        · exact h
        · exact fun lo hi' p e' => hi ⟨lo, hi', p, e'⟩
      refine Subscript_ (sW e a A ext μ σ _ X s _ E hsc hA S h' (fun d σ₁ h₁ t₁ v hP S₁ hv => ?_) x)
      refine sW i a A ext μ σ₁ _ X _ _ E hsc hA S₁ hP (fun d₂ σ₂ h₂ t₂ v₂ hP₂ S₂ hv₂ => ?_) x
      exact op_item S₂ hP₂ hv hv₂ (fun lo hi' p e' => hi ⟨lo, hi', p, e'⟩) q
  | .Call f es ks pos => fun a A ext μ σ P X s Q E hsc hA S h q x => by
    by_cases hf : ∃ o name apos, f = .Attribute o name apos
    · obtain ⟨o, name, apos, rfl⟩ := hf
      simp only [W] at h
      obtain ⟨hok, hns, hl, h⟩ := h
      simp only [callOk, Bool.and_eq_true, decide_eq_true_eq] at hok
      obtain ⟨⟨hp, hk⟩, hlen⟩ := hok
      refine run_method hp hk (by omega) hns hl (sW o a A ext μ σ _ X s _ E hsc hA S h (fun d σ₁ h₁ t₁ v hP S₁ hv => fun pl => ?_) x)
      refine op_getMethod S₁ hP hv fun fm first g fs tk' hP₁ hg hfs => ?_
      exact callRest es ks pos (sWL es pos) (sWK ks pos) fm first g fs a A ext μ σ₁ P X _ Q E hsc hA hp hk S₁ hg hfs hP₁ q x
    · have h' : callOk es ks = true ∧ W Γ (CodeP Γ) sc n f μ σ (fun fv σ₁ => WL Γ (CodeP Γ) sc n es μ σ₁ (fun ds σ₂ => WK Γ (CodeP Γ) sc n ks μ σ₂ (fun ks σ₃ => callW Γ (CodeP Γ) n fv ds ks σ₃ P X) X) X) X := by
        rw [W] at h
        · exact h
        · exact fun o name apos e' => hf ⟨o, name, apos, e'⟩
      obtain ⟨hok, h⟩ := h'
      simp only [callOk, Bool.and_eq_true, decide_eq_true_eq] at hok
      obtain ⟨⟨hp, hk⟩, hlen⟩ := hok
      have hev : eval (.Call f es ks pos) a.env = (do callWith pos (← eval f a.env) [] (backTo pos (starEach es a.env)) (backToKw pos (keywordEach ks a.env))) := by
        cases f <;> first | rfl | exact absurd ⟨_, _, _, rfl⟩ hf
      rw [hev]
      refine wpAny_bind (sW f a A ext μ σ _ X s _ E hsc hA S h (fun d σ₁ h₁ t₁ v hP S₁ hv => ?_) x)
      exact callRest es ks pos (sWL es pos) (sWK ks pos) d [] v [] a A ext μ σ₁ P X _ Q E hsc hA hp hk S₁ hv .nil hP q x
  | .NamedExpr .. | .Lambda .. | .Set .. | .ListComp .. | .SetComp .. | .DictComp .. | .GeneratorExp .. | .Await .. | .Yield .. | .YieldFrom .. | .FormattedValue .. | .JoinedStr .. | .Starred .. | .Slice .. => fun a A ext μ σ P X s Q E hsc hA S h q x => by
    simp only [W] at h
  | .Compare _ [] _ _ | .Compare _ (_ :: _ :: _) _ _ | .Compare _ [_] [] _ | .Compare _ [_] (_ :: _ :: _) _ => fun a A ext μ σ P X s Q E hsc hA S h q x => by
    simp only [W] at h
  | .Dict (_ :: _) _ _ | .Dict [] (_ :: _) _ => fun a A ext μ σ P X s Q E hsc hA S h q x => by
    simp only [W] at h

theorem sWT : ∀ (e : Expr), Runs Γ sc n (eval e) VR (W Γ (CodeP Γ) sc n e) → Runs Γ sc n (fun env => isTrue e env (eval e env)) (fun b c => b = c) (WT Γ (CodeP Γ) sc n e (W Γ (CodeP Γ) sc n e))
  | .UnaryOp .Not y pos, _ => fun a A ext μ σ P X s Q E hsc hA S h q x => by
    simp only [WT] at h
    exact isTrue_not (sWT y (sW y) a A ext μ σ _ X s _ E hsc hA S h (fun d σ₁ h₁ t₁ v hP S₁ hv => q _ _ _ _ _ hP S₁ (by rw [hv])) x)
  | .BoolOp op vs pos, _ => fun a A ext μ σ P X s Q E hsc hA S h q x => sWTs vs op pos _ a A ext μ σ P X s Q E hsc hA S (by simpa only [WT] using h) q x
  | .IfExp t y z pos, _ => fun a A ext μ σ P X s Q E hsc hA S h q x => by
    simp only [WT] at h
    refine isTrue_IfExp (sWT t (sW t) a A ext μ σ _ X s _ E hsc hA S h (fun d σ₁ h₁ t₁ v hP S₁ hv => ?_) x)
    subst hv
    split at hP
    · rename_i hc; rw [if_pos hc]; exact sWT y (sW y) a A ext μ σ₁ P X _ Q E hsc hA S₁ hP q x
    · rename_i hc; rw [if_neg hc]; exact sWT z (sW z) a A ext μ σ₁ P X _ Q E hsc hA S₁ hP q x
  | .Compare l [op] [r] pos, _ => fun a A ext μ σ P X s Q E hsc hA S h q x => by
    simp only [WT] at h
    obtain ⟨hm, h⟩ := h
    refine wpAny_isTrue_Compare1 (hm := hm) (sW l a A ext μ σ _ X s _ E hsc hA S h (fun d σ₁ h₁ t₁ v hP S₁ hv => ?_) x)
    refine sW r a A ext μ σ₁ _ X _ _ E hsc hA S₁ hP (fun d₂ σ₂ h₂ t₂ v₂ hP₂ S₂ hv₂ => ?_) x
    exact op_cmp S₂ hA.weak hP₂ hv hv₂ fun b tk' hb => wpAny_truthy_bool (q _ _ _ _ _ hb S₂ rfl)
  | .Compare _ [] _ _, _ | .Compare _ (_ :: _ :: _) _ _, _ | .Compare _ [_] [] _, _ | .Compare _ [_] (_ :: _ :: _) _, _ => fun a A ext μ σ P X s Q E hsc hA S h q x => by
    simp only [WT] at h
  | .UnaryOp .USub _ _, ih | .UnaryOp .UAdd _ _, ih | .UnaryOp .Invert _ _, ih | .Constant .., ih | .Name .., ih | .BinOp .., ih | .List .., ih | .Tuple .., ih | .Dict .., ih | .Attribute .., ih | .Subscript .., ih | .Call .., ih
  | .NamedExpr .., ih | .Lambda .., ih | .Set .., ih | .ListComp .., ih | .SetComp .., ih | .DictComp .., ih | .GeneratorExp .., ih | .Await .., ih | .Yield .., ih | .YieldFrom .., ih | .FormattedValue .., ih | .JoinedStr .., ih | .Starred .., ih | .Slice .., ih =>
    fun a A ext μ σ P X s Q E hsc hA S h q x => plainTest ih a A ext μ σ P X s Q E hsc hA S (by simpa only [WT] using h) q x

theorem sWB : ∀ (es : List Expr) (op : BoolOp) (pos : Pos), Runs Γ sc n (eval (.BoolOp op es pos)) VR (WB Γ (CodeP Γ) sc n es op)
  | [], op, pos => fun a A ext μ σ P X s Q E hsc hA S h q x => by simp only [WB] at h
  | [e], op, pos => fun a A ext μ σ P X s Q E hsc hA S h q x => BoolOp_one (sW e a A ext μ σ P X s Q E hsc hA S (by simpa only [WB] using h) q x)
  | e :: e₂ :: es, .And, pos => fun a A ext μ σ P X s Q E hsc hA S h q x => by
    simp only [WB] at h
    refine BoolOp_and (sW e a A ext μ σ _ X s _ E hsc hA S h (fun d σ₁ h₁ t₁ v hP S₁ hv => ?_) x)
    refine op_truth S₁ hP hv fun b tk' hb => ?_
    cases b with
    | false => exact q _ _ _ _ _ hb S₁ hv
    | true => exact sWB (e₂ :: es) .And pos a A ext μ σ₁ P X _ Q E hsc hA S₁ hb q x
  | e :: e₂ :: es, .Or, pos => fun a A ext μ σ P X s Q E hsc hA S h q x => by
    simp only [WB] at h
    refine BoolOp_or (sW e a A ext μ σ _ X s _ E hsc hA S h (fun d σ₁ h₁ t₁ v hP S₁ hv => ?_) x)
    refine op_truth S₁ hP hv fun b tk' hb => ?_
    cases b with
    | true => exact q _ _ _ _ _ hb S₁ hv
    | false => exact sWB (e₂ :: es) .Or pos a A ext μ σ₁ P X _ Q E hsc hA S₁ hb q x

theorem sWTs : ∀ (es : List Expr) (op : BoolOp) (pos : Pos) (whole : Sem Value), Runs Γ sc n (fun env => isTrue (.BoolOp op es pos) env whole) (fun b c => b = c) (WTs Γ (CodeP Γ) sc n es op)
  | [], .And, pos, whole => fun a A ext μ σ P X s Q E hsc hA S h q x => isTrue_and_nil (q true _ _ s.toks _ (by simp only [WTs] at h; exact h) S rfl)
  | [], .Or, pos, whole => fun a A ext μ σ P X s Q E hsc hA S h q x => isTrue_or_nil (q false _ _ s.toks _ (by simp only [WTs] at h; exact h) S rfl)
  | e :: es, .And, pos, whole => fun a A ext μ σ P X s Q E hsc hA S h q x => by
    simp only [WTs] at h
    refine isTrue_and (sWT e (sW e) a A ext μ σ _ X s _ E hsc hA S h (fun b σ₁ h₁ t₁ v hP S₁ hv => ?_) x)
    subst hv
    cases v with
    | false => exact q _ _ _ _ _ hP S₁ rfl
    | true => exact sWTs es .And pos whole a A ext μ σ₁ P X _ Q E hsc hA S₁ hP q x
  | e :: es, .Or, pos, whole => fun a A ext μ σ P X s Q E hsc hA S h q x => by
    simp only [WTs] at h
    refine isTrue_or (sWT e (sW e) a A ext μ σ _ X s _ E hsc hA S h (fun b σ₁ h₁ t₁ v hP S₁ hv => ?_) x)
    subst hv
    cases v with
    | true => exact q _ _ _ _ _ hP S₁ rfl
    | false => exact sWTs es .Or pos whole a A ext μ σ₁ P X _ Q E hsc hA S₁ hP q x

theorem sWL : ∀ (es : List Expr) (pos : Pos), Runs Γ sc n (fun env => spliced (backTo pos (starEach es env))) (R2 VR) (WL Γ (CodeP Γ) sc n es)
  | [], pos => fun a A ext μ σ P X s Q E hsc hA S h q x => args_nil (q [] _ _ s.toks _ (by simpa only [WL] using h) S .nil)
  | e :: es, pos => fun a A ext μ σ P X s Q E hsc hA S h q x => by
    simp only [WL] at h
    refine args_cons (he := starEach_plain h.1) (sW e a A ext μ σ _ X s _ E hsc hA S h.2 (fun d σ₁ h₁ t₁ v hP S₁ hv => ?_) x)
    exact sWL es pos a A ext μ σ₁ _ X _ _ E hsc hA S₁ hP (fun ds σ₂ h₂ t₂ vs hP₂ S₂ hv₂ => q _ _ _ _ _ hP₂ S₂ (.cons hv hv₂)) x

theorem sWK : ∀ (ks : List Keyword) (pos : Pos), Runs Γ sc n (fun env => evalAll ((backToKw pos (keywordEach ks env)).map (·.2))) (fun us kw => R2 (fun x y => x.1 = y.1 ∧ VR x.2 y.2) ((ks.filterMap (·.arg)).zip us) kw) (WK Γ (CodeP Γ) sc n ks)
  | [], pos => fun a A ext μ σ P X s Q E hsc hA S h q x => wpAny_evalAll_nil (q [] _ _ s.toks _ (by simpa only [WK] using h) S .nil)
  | ⟨none, e, p⟩ :: ks, pos => fun a A ext μ σ P X s Q E hsc hA S h q x => by simp only [WK] at h
  | ⟨some y, e, p⟩ :: ks, pos => fun a A ext μ σ P X s Q E hsc hA S h q x => by
    simp only [WK] at h
    refine wpAny_evalAll_cons (x := do let v ← eval e a.env; standAt pos; pure v) (wpAny_bind (sW e a A ext μ σ _ X s _ E hsc hA S h (fun d σ₁ h₁ t₁ v hP S₁ hv => wpAny_bind (wpAny_standAt (wpAny_pure ?_))) x))
    exact sWK ks pos a A ext μ σ₁ _ X _ _ E hsc hA S₁ hP (fun ds σ₂ h₂ t₂ vs hP₂ S₂ hv₂ => q _ _ _ _ _ hP₂ S₂ (.cons ⟨rfl, hv⟩ hv₂)) x

theorem sWO : ∀ (e : Option Expr), Runs Γ sc n (fun env => evalPart e env) VR (WO Γ (CodeP Γ) sc n e)
  | none => fun a A ext μ σ P X s Q E hsc hA S h q x => wpAny_evalPart_none (q .none _ _ s.toks _ (by simpa only [WO] using h) S rfl)
  | some e => fun a A ext μ σ P X s Q E hsc hA S h q x => wpAny_evalPart_some (sW e a A ext μ σ P X s Q E hsc hA S (by simpa only [WO] using h) q x)
end
end
end Mine

open PySem PySem.W PyProof.Rows PySem.Calls
set_option Elab.async false
set_option autoImplicit false
namespace Mine

/-- an exception on its way (held: noted in this frame) -/
def XF (Γ : Rt) (a : Act) (ext : List (Addr × Obj)) (C : Addr) (msg : Str) (σ : MH) (e : Addr) (held : Bool) (h : Heap) : Prop :=
  ∃ m news cs frs B t tk, Fr Γ.hb a.L h m ∧ News Γ.hb a.L h news ∧ Hold Γ (cs ++ (frs ++ ext)) σ news ∧ FrsOk a.outer a.om frs ∧
    Γ.hb.StaysIn B ∧ (∀ q ∈ news, q.1 ∉ frs.map (·.1) → B.get? q.1 = some q.2) ∧
    (if held then Heap.HeldW B (a.env :: a.outer) e (.ref C) (.ref t) a.L h else Heap.FlyingW B (a.env :: a.outer) e (.ref C) (.ref t) h) ∧ h.TupAt t [.str msg tk] ∧ B.get? t = none

section
variable {Γ : Rt} {a : Act} {ext : List (Addr × Obj)} {σ : MH} {C e : Addr} {msg : Str} {A : Around} {s : Shared} {n : Nat} {E : Value → Shared → Prop} {Q : Unit → Shared → Prop}

theorem xst_iff {h : Heap} : XSt Γ a ext C msg σ e h ↔ ((∃ h₁ m news cs frs t, Fr Γ.hb a.L h₁ m ∧ News Γ.hb a.L h₁ news ∧ Hold Γ (cs ++ (frs ++ ext)) σ news ∧ FrsOk a.outer a.om frs ∧ Heap.MadeExcOf h₁ h e (.ref C) [.str msg t]) ∨
    XF Γ a ext C msg σ e false h ∨ XF Γ a ext C msg σ e true h) := by
  unfold XSt XF
  constructor
  · rintro (h | ⟨m, news, cs, frs, B, t, tk, h1, h2, h3, h4, h5, h6, h7 | h7, h8, h9⟩)
    · exact .inl h
    · exact .inr (.inl ⟨m, news, cs, frs, B, t, tk, h1, h2, h3, h4, h5, h6, h7, h8, h9⟩)
    · exact .inr (.inr ⟨m, news, cs, frs, B, t, tk, h1, h2, h3, h4, h5, h6, h7, h8, h9⟩)
  · rintro (h | ⟨m, news, cs, frs, B, t, tk, h1, h2, h3, h4, h5, h6, h7, h8, h9⟩ | ⟨m, news, cs, frs, B, t, tk, h1, h2, h3, h4, h5, h6, h7, h8, h9⟩)
    · exact .inl h
    · exact .inr ⟨m, news, cs, frs, B, t, tk, h1, h2, h3, h4, h5, h6, .inl h7, h8, h9⟩
    · exact .inr ⟨m, news, cs, frs, B, t, tk, h1, h2, h3, h4, h5, h6, .inr h7, h8, h9⟩

/-- an object of the ledger, as another heap has it -/
def reObj (h : Heap) (q : Addr × Obj) : Addr × Obj := (q.1, (h.get? q.1).getD q.2)

theorem NsObj.slots {o : Obj} {m : Str → Option Value} {sl : Array (Option Value)} (h : NsObj o m) : NsObj { o with slots := sl } m := h

theorem FrsOk.re {h : Heap} : ∀ {l : List Env} {ms : List (Str → Option Value)} {frs : List (Addr × Obj)}, FrsOk l ms frs → (∀ q ∈ frs, ∃ sl, h.get? q.1 = some { q.2 with slots := sl }) → FrsOk l ms (frs.map (reObj h))
  | [], [], [], _, _ => trivial
  | env :: l, m :: ms, q :: frs, ⟨h1, h2, h3, h4⟩, k => by
    refine ⟨h1, h2, ?_, h4.re fun q hq => k q (.tail _ hq)⟩
    obtain ⟨sl, hs⟩ := k q (.head _)
    show NsObj ((h.get? q.1).getD q.2) m
    rw [hs]; exact h3.slots
  | [], [], _ :: _, h, _ => h.elim
  | [], _ :: _, [], h, _ => h.elim
  | [], _ :: _, _ :: _, h, _ => h.elim
  | _ :: _, [], [], h, _ => h.elim
  | _ :: _, [], _ :: _, h, _ => h.elim
  | _ :: _, _ :: _, [], h, _ => h.elim

theorem FrsOk.dict : ∀ {l : List Env} {ms : List (Str → Option Value)} {frs : List (Addr × Obj)}, FrsOk l ms frs → ∀ q ∈ frs, ∃ m, NsObj q.2 m
  | [], [], [], _ => fun _ hq => nomatch hq
  | env :: l, m :: ms, q :: frs, ⟨h1, h2, h3, h4⟩ => fun p hp => by
    rcases List.mem_cons.mp hp with rfl | hp
    · exact ⟨m, h3⟩
    · exact h4.dict p hp
  | [], [], _ :: _, h => h.elim
  | [], _ :: _, [], h => h.elim
  | [], _ :: _, _ :: _, h => h.elim
  | _ :: _, [], [], h => h.elim
  | _ :: _, [], _ :: _, h => h.elim
  | _ :: _, _ :: _, [], h => h.elim

theorem NsObj.notFields {o : Obj} {m : Str → Option Value} (h : NsObj o m) : ∀ vs, o.data ≠ .fields vs := fun vs q => by
  obtain ⟨es, ep, hd, _⟩ := h; rw [hd] at q; cases q

/-- the frames of the stack, as the library's rules of exceptions want them -/
theorem FrsOk.fun {B h : Heap} : ∀ {l : List Env} {ms : List (Str → Option Value)} {frs : List (Addr × Obj)}, FrsOk l ms frs → (∀ q ∈ frs, h.get? q.1 = some q.2 ∧ B.get? q.1 = none) → h.FunFrames B l
  | [], [], [], _, _ => trivial
  | env :: l, m :: ms, q :: frs, ⟨h1, h2, h3, h4⟩, k => by
    refine ⟨by rw [h1]; decide, ⟨q.1, q.2, h2, (k q (.head _)).2, (k q (.head _)).1, h3.notFields⟩, h4.fun fun p hp => k p (.tail _ hp)⟩
  | [], [], _ :: _, h, _ => h.elim
  | [], _ :: _, [], h, _ => h.elim
  | [], _ :: _, _ :: _, h, _ => h.elim
  | _ :: _, [], [], h, _ => h.elim
  | _ :: _, [], _ :: _, h, _ => h.elim
  | _ :: _, _ :: _, [], h, _ => h.elim

theorem frs_ndx {cs frs : List (Addr × Obj)} {news : List (Addr × Obj)} (H : Hold Γ (cs ++ (frs ++ ext)) σ news) : ∀ q, q ∈ cs ∨ q ∈ ext → q.1 ∉ frs.map (·.1) := by
  intro q hq hm
  have nd := H.ndx
  rw [List.map_append, List.map_append] at nd
  rw [List.nodup_append] at nd
  obtain ⟨_, nd2, hd⟩ := nd
  rw [List.nodup_append] at nd2
  obtain ⟨_, _, hd2⟩ := nd2
  rcases hq with hq | hq
  · exact hd _ (List.mem_map_of_mem hq) _ (List.mem_append_left _ hm) rfl
  · exact hd2 _ hm _ (List.mem_map_of_mem hq) rfl

/-- the state after a step of the exception's own business -/
theorem re_state {m : Str → Option Value} {news cs frs : List (Addr × Obj)} {h h' B : Heap} (F : Fr Γ.hb a.L h m) (N : News Γ.hb a.L h news) (H : Hold Γ (cs ++ (frs ++ ext)) σ news) (Fo : FrsOk a.outer a.om frs)
    (hB : Γ.hb.StaysIn B) (hl : ∀ q ∈ news, q.1 ∉ frs.map (·.1) → B.get? q.1 = some q.2) (hB' : B.StaysIn h') (up : h.UpToSlots h') :
    Fr Γ.hb a.L h' m ∧ News Γ.hb a.L h' (news.map (reObj h')) ∧ Hold Γ (cs ++ (frs.map (reObj h') ++ ext)) σ (news.map (reObj h')) ∧ FrsOk a.outer a.om (frs.map (reObj h')) ∧
      (∀ q ∈ news.map (reObj h'), q.1 ∉ (frs.map (reObj h')).map (·.1) → B.get? q.1 = some q.2) := by
  have fst : ∀ l : List (Addr × Obj), (l.map (reObj h')).map (·.1) = l.map (·.1) := fun l => by rw [List.map_map]; rfl
  have keep : ∀ q ∈ news, q.1 ∉ frs.map (·.1) → reObj h' q = q := fun q hq hn => by
    unfold reObj; rw [hB' _ _ (hl q hq hn)]; rfl
  have frm : ∀ q ∈ frs, q ∈ news := fun q hq => (H.ext q (List.mem_append_right _ (List.mem_append_left _ hq))).1
  have slot : ∀ q ∈ frs, ∃ sl, h'.get? q.1 = some { q.2 with slots := sl } := fun q hq => by
    obtain ⟨m', hm⟩ := Fo.dict q hq
    exact up _ _ (N q (frm q hq)).1 hm.notFields
  refine ⟨⟨up.ns F.ns, fun b o q => hB' b o (hB b o q), F.above⟩, ?_, ?_, Fo.re slot, ?_⟩
  · intro p hp
    obtain ⟨q, hq, rfl⟩ := List.mem_map.mp hp
    refine ⟨?_, (N q hq).2⟩
    show h'.get? q.1 = some ((h'.get? q.1).getD q.2)
    by_cases hn : q.1 ∈ frs.map (·.1)
    · obtain ⟨f, hf, e1⟩ := List.mem_map.mp hn
      have : f = q := by
        have hfn := frm f hf
        obtain ⟨f1, f2⟩ := f; obtain ⟨q1, q2⟩ := q
        simp only at e1; subst e1
        rw [eq_of_nodup H.nd hfn hq]
      subst this
      obtain ⟨sl, hs⟩ := slot f hf
      rw [hs]; rfl
    · rw [hB' _ _ (hl q hq hn)]; rfl
  · refine ⟨by rw [fst]; exact H.nd, ?_, ?_, ?_⟩
    · have := H.ndx
      simpa [List.map_append, fst] using this
    · intro q hq
      rcases List.mem_append.mp hq with hq | hq
      · obtain ⟨h1, h2⟩ := H.ext q (List.mem_append_left _ hq)
        refine ⟨?_, h2⟩
        have := keep q h1 (frs_ndx H q (.inl hq))
        exact this ▸ List.mem_map_of_mem h1
      · rcases List.mem_append.mp hq with hq | hq
        · obtain ⟨f, hf, rfl⟩ := List.mem_map.mp hq
          obtain ⟨h1, h2⟩ := H.ext f (List.mem_append_right _ (List.mem_append_left _ hf))
          exact ⟨List.mem_map_of_mem h1, h2⟩
        · obtain ⟨h1, h2⟩ := H.ext q (List.mem_append_right _ (List.mem_append_right _ hq))
          refine ⟨?_, h2⟩
          have := keep q h1 (frs_ndx H q (.inr hq))
          exact this ▸ List.mem_map_of_mem h1
    · intro b o hb
      rcases H.obj b o hb with ⟨ob, hm, ho⟩ | h1
      · refine .inl ⟨ob, ?_, ho⟩
        have hn : (b, ob).1 ∉ frs.map (·.1) := fun hm' => by
          obtain ⟨f, hf, e1⟩ := List.mem_map.mp hm'
          have := (H.ext f (List.mem_append_right _ (List.mem_append_left _ hf))).2
          rw [e1, hb] at this; cases this
        have := keep _ hm hn
        exact this ▸ List.mem_map_of_mem hm
      · exact .inr h1
  · intro p hp hn
    obtain ⟨q, hq, rfl⟩ := List.mem_map.mp hp
    rw [fst] at hn
    rw [keep q hq hn]
    exact hl q hq hn
end
end Mine

open PySem PySem.W PyProof.Rows PySem.Calls
set_option Elab.async false
set_option autoImplicit false
namespace Mine

section
variable {Γ : Rt} {a : Act} {ext : List (Addr × Obj)} {σ : MH} {C e : Addr} {msg : Str} {A : Around} {s : Shared} {n : Nat} {E : Value → Shared → Prop} {Q : Unit → Shared → Prop}

theorem hb_fresh {h : Heap} {m : Str → Option Value} (F : Fr Γ.hb a.L h m) : Γ.hb.get? a.L = none := by
  cases hq : Γ.hb.get? a.L with
  | none => rfl
  | some o => exact absurd (Nat.lt_of_lt_of_le (Heap.lt_size hq) F.above) (Nat.lt_irrefl _)

/-- the base that a new exception is noted over: all but the frames -/
theorem made_base {h₁ h : Heap} {m : Str → Option Value} {news cs frs : List (Addr × Obj)} {t : Tok} (F : Fr Γ.hb a.L h₁ m) (N : News Γ.hb a.L h₁ news) (H : Hold Γ (cs ++ (frs ++ ext)) σ news) (Fo : FrsOk a.outer a.om frs)
    (hx : Heap.MadeExcOf h₁ h e (.ref C) [.str msg t]) : ∃ B, B.StaysIn h₁ ∧ h₁.FunFrames B (a.env :: a.outer) ∧ Γ.hb.StaysIn B ∧ (∀ q ∈ news, q.1 ∉ frs.map (·.1) → B.get? q.1 = some q.2) := by
  have frm : ∀ q ∈ frs, q ∈ news := fun q hq => (H.ext q (List.mem_append_right _ (List.mem_append_left _ hq))).1
  refine ⟨hideAll h₁ (a.L :: frs.map (·.1)), fun b o q => of_hideAll _ q, ?_, ?_, ?_⟩
  · obtain ⟨oL, es, ep, hL, hd, _⟩ := F.ns
    refine ⟨by show a.scope.kind ≠ _; rw [a.hk]; decide, ⟨a.L, oL, rfl, hideAll_none _ (.head _), hL, fun vs q => by rw [hd] at q; cases q⟩, ?_⟩
    exact Fo.fun fun q hq => ⟨(N q (frm q hq)).1, hideAll_none _ (.tail _ (List.mem_map_of_mem hq))⟩
  · intro b o q
    refine hideAll_get _ (F.keep b o q) fun hm => ?_
    rcases List.mem_cons.mp hm with rfl | hm
    · rw [hb_fresh F] at q; cases q
    · obtain ⟨f, hf, rfl⟩ := List.mem_map.mp hm
      rw [(N f (frm f hf)).2.2] at q; cases q
  · intro q hq hn
    refine hideAll_get _ (N q hq).1 fun hm => ?_
    rcases List.mem_cons.mp hm with h | h
    · exact (N q hq).2.1 h
    · exact hn h

theorem wpAny_noteFrame_firstW {M : Model} {base : Heap} {env : Env} {outer : List Env} {L e : Addr} {oe : Obj} {vs : Array Value} {a0 : Value} {Q : Unit → Shared → Prop}
    (hfr : A.frames = some (env :: outer)) (hl : s.heap.FunFrames base (env :: outer)) (hf : env.frame = some L)
    (he : s.heap.get? e = some oe) (hkb : base.StaysIn s.heap) (hen : base.get? e = none) (hd : oe.data = .fields vs) (h1 : vs[1]? = some .none) (h0 : vs[0]? = some a0)
    (h : ∀ h', Heap.NotedW base (env :: outer) e oe.cls a0 (rawInt L) s.heap h' → Q () { s with heap := h' }) : wpAny M A (noteFrame (.ref e) env) Q E s := by
  unfold noteFrame
  simp only [hf]
  refine wpAny_bind (wpAny_field he hd h1 ?_)
  rw [if_neg (by decide)]
  exact wpAny_entryW hfr hl hf he hkb hen hd (Array.getElem?_eq_some_iff.mp h1).1 h0 h

theorem made_xf {h₁ h' : Heap} {m : Str → Option Value} {news cs frs : List (Addr × Obj)} {tk : Tok} {B : Heap} {t : Addr} {held : Bool} (F : Fr Γ.hb a.L h₁ m) (N : News Γ.hb a.L h₁ news) (H : Hold Γ (cs ++ (frs ++ ext)) σ news) (Fo : FrsOk a.outer a.om frs)
    (hB : Γ.hb.StaysIn B) (hl : ∀ q ∈ news, q.1 ∉ frs.map (·.1) → B.get? q.1 = some q.2) (up : h₁.UpToSlots h') (hB' : B.StaysIn h')
    (hw : if held then Heap.HeldW B (a.env :: a.outer) e (.ref C) (.ref t) a.L h' else Heap.FlyingW B (a.env :: a.outer) e (.ref C) (.ref t) h') (ht : h'.TupAt t [.str msg tk]) (hn : B.get? t = none) : XF Γ a ext C msg σ e held h' := by
  obtain ⟨k1, k2, k3, k4, k5⟩ := re_state F N H Fo hB hl hB' up
  exact ⟨m, _, cs, _, B, t, tk, k1, k2, k3, k4, hB, k5, hw, ht, hn⟩

theorem XSt.note (hA : A.frames = some (a.env :: a.outer)) (x : XSt Γ a ext C msg σ e s.heap) (h : ∀ h', XF Γ a ext C msg σ e true h' → Q () { s with heap := h' }) : wpAny Γ.M A (noteFrame (.ref e) a.env) Q E s := by
  rcases xst_iff.mp x with ⟨h₁, m, news, cs, frs, t, F, N, H, Fo, hx⟩ | x | x
  · obtain ⟨B, b1, b2, b3, b4⟩ := made_base F N H Fo hx
    obtain ⟨t', he, htn, ht⟩ := hx.there
    have fresh : ∀ b, h₁.get? b = none → B.get? b = none := fun b hb => by
      cases hq : B.get? b with
      | none => rfl
      | some o' => have := b1 b o' hq; rw [hb] at this; cases this
    refine wpAny_noteFrame_firstW (a0 := .ref t') hA (b2.of_keeps fun b o hb _ => ⟨o, hx.keeps b o hb, rfl⟩) rfl he (fun b o hb => hx.keeps b o (b1 b o hb)) (fresh e hx.new) rfl rfl rfl fun h' hN => ?_
    obtain ⟨k1, k2, k3, k4⟩ := hN
    refine h h' (made_xf F N H Fo b3 b4 (Heap.UpToSlots.trans (Heap.UpToSlots.of_keeps hx.keeps) k4) k1 (t := t') (tk := t) ?_ (Heap.TupAt.of_slots ⟨_, _, ht, rfl, rfl⟩ k4) (fresh t' htn))
    exact ⟨k1, fresh e hx.new, k2, k3⟩
  · obtain ⟨m, news, cs, frs, B, t, tk, F, N, H, Fo, b3, b4, hw, ht, hn⟩ := x
    refine wpAny_looks_onW hA rfl hw fun h' hH up => h h' ?_
    exact made_xf F N H Fo b3 b4 up hH.1 hH (ht.of_slots up) hn
  · have x' := x
    obtain ⟨m, news, cs, frs, B, t, tk, F, N, H, Fo, b3, b4, hw, ht, hn⟩ := x
    exact wpAny_noteFrame_againW rfl hw.2.2.2 (h s.heap x')

theorem XF.back (x : XF Γ a ext C msg σ e true s.heap) (h : ∀ h', XF Γ a ext C msg σ e true h' → E (.ref e) { s with heap := h' }) : cameBackBy Γ.M A a.env E (.ref e) s := by
  obtain ⟨m, news, cs, frs, B, t, tk, F, N, H, Fo, b3, b4, hw, ht, hn⟩ := x
  obtain ⟨f1, f2, f3, oe, vs, T, oT, ts, he, hcls, hd, h1, hnT, hTe, hT, hdT, h3⟩ := hw
  unfold cameBackBy
  refine wpAny_bind (wpAny_field he hd h1 ?_)
  rw [if_neg (by simp)]
  show wpAny _ _ (setFlight (.ref e) (some a.L)) _ _ _
  unfold setFlight
  refine wpAny_bind (wpAny_field he hd h1 ?_)
  rw [if_pos (by simp)]
  have hsz3 : 3 < ts.size := (Array.getElem?_eq_some_iff.mp h3).1
  refine wpAny_setField hT hdT hsz3 (h _ ?_)
  have other : ∀ b, b ≠ T → (s.heap.update T (Obj.mapFields (·.setIfInBounds 3 ((some a.L : Option Addr).elim Value.none fun f => rawInt f)))).get? b = s.heap.get? b :=
    fun b hb => Heap.get?_update_other _ _ (Ne.symm hb)
  have noRecord : ∀ b o, s.heap.get? b = some o → (∀ vs, o.data ≠ .fields vs) → b ≠ T := fun b o hb hnf q => by
    rw [q, hT] at hb; injection hb with hb; subst hb; exact hnf ts hdT
  have up : s.heap.UpToSlots (s.heap.update T (Obj.mapFields (·.setIfInBounds 3 ((some a.L : Option Addr).elim Value.none fun f => rawInt f)))) := fun b o hb hnf => ⟨o.slots, (other b (noRecord b o hb hnf)).trans hb⟩
  have st : B.StaysIn (s.heap.update T (Obj.mapFields (·.setIfInBounds 3 ((some a.L : Option Addr).elim Value.none fun f => rawInt f)))) := fun b o hbo => (other b fun q => by rw [q, hnT] at hbo; cases hbo).trans (f1 b o hbo)
  refine made_xf F N H Fo b3 b4 up st (t := t) (tk := tk) ?_ (ht.of_slots up) hn
  refine ⟨st, f2, f3.of_keeps fun b o hb hnf => ⟨o, (other b (noRecord b o hb hnf)).trans hb, rfl⟩, oe, vs, T, _, _, (other e (Ne.symm hTe)).trans he, hcls, hd, h1, hnT, hTe, Heap.get?_update_self _ hT (Obj.isFreed_of_fields (Obj.data_mapFields hdT _)), Obj.data_mapFields hdT _, ?_⟩
  simp [hsz3]

theorem XF.land (x : XF Γ a ext C msg σ e true s.heap) (h : ∀ h', XF Γ a ext C msg σ e false h' → Q () { s with heap := h' }) : wpAny Γ.M A (setFlight (.ref e) none) Q E s := by
  obtain ⟨m, news, cs, frs, B, t, tk, F, N, H, Fo, b3, b4, hw, ht, hn⟩ := x
  refine wpAny_landsW hw fun h' hF up => h h' ?_
  exact made_xf F N H Fo b3 b4 up hF.1 hF (ht.of_slots up) hn

theorem XF.landAgain (x : XF Γ a ext C msg σ e false s.heap) (h : ∀ h', XF Γ a ext C msg σ e false h' → Q () { s with heap := h' }) : wpAny Γ.M A (setFlight (.ref e) none) Q E s := by
  obtain ⟨m, news, cs, frs, B, t, tk, F, N, H, Fo, b3, b4, hw, ht, hn⟩ := x
  refine lands_againW hw fun h' hF up => h h' ?_
  exact made_xf F N H Fo b3 b4 up hF.1 hF (ht.of_slots up) hn

theorem XF.st {h : Heap} {held : Bool} (x : XF Γ a ext C msg σ e held h) : St Γ a ext σ [] h := by
  obtain ⟨m, news, cs, frs, B, t, tk, F, N, H, Fo, _⟩ := x
  exact ⟨m, news, cs, frs, F, N, H, fun x d hx => by simp [ML.get] at hx, Fo⟩

/-- an exception leaves the frame -/
theorem XSt.leave (hA : A.frames = some (a.env :: a.outer)) (x : XSt Γ a ext C msg σ e s.heap)
    (h : ∀ h' m news cs frs B t tk, Fr Γ.hb a.L h' m → News Γ.hb a.L h' news → Hold Γ (cs ++ (frs ++ ext)) σ news → FrsOk a.outer a.om frs → Γ.hb.StaysIn B → (∀ q ∈ news, q.1 ∉ frs.map (·.1) → B.get? q.1 = some q.2) →
      Heap.FlyingW B a.outer e (.ref C) (.ref t) h' → h'.TupAt t [.str msg tk] → B.get? t = none → Q () { s with heap := h' }) : wpAny Γ.M A (leaving a.env (.ref e)) Q E s := by
  rcases xst_iff.mp x with ⟨h₁, m, news, cs, frs, t, F, N, H, Fo, hx⟩ | x | x
  · obtain ⟨B, b1, b2, b3, b4⟩ := made_base F N H Fo hx
    refine wpAny_leaves_madeW hA rfl b1 b2 hx fun h' t' x1 x2 x3 x4 => ?_
    obtain ⟨k1, k2, k3, k4, k5⟩ := re_state F N H Fo b3 b4 x1.1 (Heap.UpToSlots.trans (Heap.UpToSlots.of_keeps hx.keeps) x4)
    exact h h' m _ cs _ B t' t k1 k2 k3 k4 b3 k5 x1 x2 x3
  · obtain ⟨m, news, cs, frs, B, t, tk, F, N, H, Fo, b3, b4, hw, ht, hn⟩ := x
    refine wpAny_leaves_onW hA rfl hw fun h' hF up => ?_
    obtain ⟨k1, k2, k3, k4, k5⟩ := re_state F N H Fo b3 b4 hF.1 up
    exact h h' m _ cs _ B t tk k1 k2 k3 k4 b3 k5 hF (ht.of_slots up) hn
  · obtain ⟨m, news, cs, frs, B, t, tk, F, N, H, Fo, b3, b4, hw, ht, hn⟩ := x
    unfold leaving
    refine wpAny_bind (wpAny_noteFrame_againW rfl hw.2.2.2 ?_)
    refine wpAny_landsW hw fun h' hF up => ?_
    obtain ⟨k1, k2, k3, k4, k5⟩ := re_state F N H Fo b3 b4 hF.1 up
    obtain ⟨g1, g2, ⟨_, _, g3⟩, g4⟩ := hF
    exact h h' m _ cs _ B t tk k1 k2 k3 k4 b3 k5 ⟨g1, g2, g3, g4⟩ (ht.of_slots up) hn
end
end Mine

open PySem PySem.W PyProof.Rows PySem.Calls
set_option Elab.async false
set_option autoImplicit false
namespace Mine

theorem ML.get_set (μ : ML) (x y : Str) (d : MV) : (μ.set x d).get y = if y = x then (μ.get x).map (fun _ => some d) else μ.get y := by
  unfold ML.get ML.set
  induction μ with
  | nil => by_cases h : y = x <;> simp [h]
  | cons q r ih =>
    obtain ⟨k, w⟩ := q
    simp only [List.map_cons]
    by_cases hk : k = x
    · subst hk
      simp only [if_true, List.lookup_cons]
      by_cases hy : y = k
      · subst hy; simp
      · rw [if_neg hy] at ih ⊢
        have : (y == k) = false := by simpa using hy
        simp only [this]; exact ih
    · simp only [if_neg hk, List.lookup_cons]
      by_cases hy : y = k
      · subst hy
        simp only [beq_self_eq_true, if_neg hk]
      · have h2 : (y == k) = false := by simpa using hy
        simp only [h2]
        rw [ih]
        by_cases hx : y = x
        · subst hx
          simp [h2]
        · simp [hx]

section
variable {Γ : Rt} {a : Act} {ext : List (Addr × Obj)} {σ : MH} {μ : ML} {A : Around} {s : Shared} {n : Nat} {E : Value → Shared → Prop} {Q : Unit → Shared → Prop}

theorem St.bind {x : Str} {v : Value} {d : MV} {P : ML → Prop} (S : St Γ a ext σ μ s.heap) (hv : VR v d) (h : bindW a.scope x d μ P)
    (q : ∀ h', P (μ.set x d) → St Γ a ext σ (μ.set x d) h' → Q () { s with heap := h', toks := s.toks + 1 }) : wpAny Γ.M A (storeName a.env x v) Q E s := by
  obtain ⟨m, news, cs, frs, F, N, H, Lc, Fo⟩ := S
  obtain ⟨h1, h2, h3⟩ := h
  refine storeX_L F N (fun h' F' N' => q h' h3 ⟨_, news, cs, frs, F', N', H, ?_, Fo⟩) a.hk h1
  intro y e he
  rw [ML.get_set] at he
  by_cases hy : y = x
  · subst hy
    rw [if_pos rfl] at he
    cases hg : μ.get y with
    | none => rw [hg] at he; cases he
    | some z => rw [hg] at he; cases he; exact .inl ⟨h1, v, by simp, hv⟩
  · rw [if_neg hy] at he
    rcases Lc y e he with ⟨g1, u, g2, g3⟩ | ⟨g1, g2⟩
    · exact .inl ⟨g1, u, by simp only [if_neg hy]; exact g2, g3⟩
    · exact .inr ⟨g1, g2⟩

theorem St.none {h : Heap} (S : St Γ a ext σ μ h) : St Γ a ext σ [] h := by
  obtain ⟨m, news, cs, frs, F, N, H, Lc, Fo⟩ := S
  exact ⟨m, news, cs, frs, F, N, H, fun x d hx => by simp [ML.get] at hx, Fo⟩

theorem St.pushExt {h : Heap} (S : St Γ a ext σ μ h) (ob : Obj) (hfree : ob.isFreed = false) : St Γ a ((h.objs.size, ob) :: ext) σ μ (h.push ob) := by
  obtain ⟨m, news, cs, frs, F, N, H, Lc, Fo⟩ := S
  have hf : ∀ p ∈ news, p.1 < h.objs.size := newsLt N
  have N' := N.push F ob hfree
  refine ⟨m, _, cs, frs, F.push _, N', ?_, Lc, Fo⟩
  have H' := H.more (ob := ob) hf
  have hk := H.fresh Γ.X N' hf
  refine ⟨H'.nd, ?_, ?_, H'.obj⟩
  · have nd := H.ndx
    have hn : ∀ q ∈ cs ++ (frs ++ ext), q.1 ≠ h.objs.size := fun q hq => Nat.ne_of_lt (hf q (H.ext q hq).1)
    have pm : ((cs ++ (frs ++ (h.objs.size, ob) :: ext)).map (·.1)).Perm (((h.objs.size, ob) :: (cs ++ (frs ++ ext))).map (·.1)) := by
      refine List.Perm.map _ ?_
      rw [← List.append_assoc, ← List.append_assoc]
      exact List.perm_middle
    refine pm.nodup_iff.mpr ?_
    rw [List.map_cons, List.nodup_cons]
    refine ⟨fun hm => ?_, nd⟩
    obtain ⟨q, hq, e⟩ := List.mem_map.mp hm
    exact hn q hq e
  · intro q hq
    rcases List.mem_append.mp hq with hq | hq
    · exact H'.ext q (List.mem_append_left _ hq)
    · rcases List.mem_append.mp hq with hq | hq
      · exact H'.ext q (List.mem_append_right _ (List.mem_append_left _ hq))
      · rcases List.mem_cons.mp hq with rfl | hq
        · exact ⟨.head _, hk⟩
        · exact H'.ext q (List.mem_append_right _ (List.mem_append_right _ hq))

theorem St.atExt {h : Heap} {it : Addr} {ob : Obj} (S : St Γ a ((it, ob) :: ext) σ μ h) : h.get? it = some ob := by
  obtain ⟨m, news, cs, frs, F, N, H, Lc, Fo⟩ := S
  exact (N _ (H.ext (it, ob) (List.mem_append_right _ (List.mem_append_right _ (.head _)))).1).1

theorem St.dropExt {h : Heap} {q : Addr × Obj} (S : St Γ a (q :: ext) σ μ h) : St Γ a ext σ μ h := by
  obtain ⟨m, news, cs, frs, F, N, H, Lc, Fo⟩ := S
  refine ⟨m, news, cs, frs, F, N, ⟨H.nd, ?_, fun p hp => H.ext p ?_, H.obj⟩, Lc, Fo⟩
  · have sub : (cs ++ (frs ++ ext)).Sublist (cs ++ (frs ++ q :: ext)) := (List.Sublist.refl _).append ((List.Sublist.refl _).append (List.sublist_cons_self _ _))
    exact H.ndx.sublist (sub.map _)
  · rcases List.mem_append.mp hp with hp | hp
    · exact List.mem_append_left _ hp
    · rcases List.mem_append.mp hp with hp | hp
      · exact List.mem_append_right _ (List.mem_append_left _ hp)
      · exact List.mem_append_right _ (List.mem_append_right _ (.tail _ hp))

/-- the object it is changed -/
theorem St.stepExt {h h' : Heap} {it : Addr} {ob ob' : Obj} (S : St Γ a ((it, ob) :: ext) σ μ h) (hs : Heap.SameBut it h h') (ho : h'.get? it = some ob') : St Γ a ((it, ob') :: ext) σ μ h' := by
  obtain ⟨m, news, cs, frs, F, N, H, Lc, Fo⟩ := S
  obtain ⟨hm, hσ⟩ := H.ext (it, ob) (List.mem_append_right _ (List.mem_append_right _ (.head _)))
  obtain ⟨pre, post, rfl, h1, h2, _⟩ := upd_of H.nd hm ob'
  have hN := N _ hm
  have hne : ∀ q, q ∈ cs ∨ q ∈ frs ∨ q ∈ ext → q.1 ≠ it := by
    have nd := H.ndx
    rw [List.map_append, List.map_append, List.map_cons, List.nodup_append] at nd
    obtain ⟨_, n2, n3⟩ := nd
    rw [List.nodup_append] at n2
    obtain ⟨_, n4, n5⟩ := n2
    rw [List.nodup_cons] at n4
    rintro q (hq | hq | hq) e
    · exact n3 _ (List.mem_map_of_mem hq) it (List.mem_append_right _ (.head _)) e
    · exact n5 _ (List.mem_map_of_mem hq) it (.head _) e
    · exact n4.1 (e ▸ List.mem_map_of_mem (f := (·.1)) hq)
  refine ⟨m, _, cs, frs, ⟨F.ns.sameBut hs (Ne.symm hN.2.1), fun b o e => (hs.2 b fun q => ?_).trans (F.keep b o e), F.above⟩, N.setAt h1 h2 hs ho, ?_, Lc, Fo⟩
  · rw [q, hN.2.2] at e; cases e
  · have mem : ∀ q, q ∈ pre ++ (it, ob) :: post → q.1 ≠ it → q ∈ pre ++ (it, ob') :: post := fun q hq hn => by
      rcases List.mem_append.mp hq with hq | hq
      · exact List.mem_append_left _ hq
      · rcases List.mem_cons.mp hq with rfl | hq
        · exact absurd rfl hn
        · exact List.mem_append_right _ (.tail _ hq)
    refine ⟨by simpa using H.nd, by simpa using H.ndx, ?_, ?_⟩
    · intro q hq
      rcases List.mem_append.mp hq with hq | hq
      · obtain ⟨g1, g2⟩ := H.ext q (List.mem_append_left _ hq)
        exact ⟨mem q g1 (hne q (.inl hq)), g2⟩
      · rcases List.mem_append.mp hq with hq | hq
        · obtain ⟨g1, g2⟩ := H.ext q (List.mem_append_right _ (List.mem_append_left _ hq))
          exact ⟨mem q g1 (hne q (.inr (.inl hq))), g2⟩
        · rcases List.mem_cons.mp hq with rfl | hq
          · exact ⟨List.mem_append_right _ (.head _), hσ⟩
          · obtain ⟨g1, g2⟩ := H.ext q (List.mem_append_right _ (List.mem_append_right _ (.tail _ hq)))
            exact ⟨mem q g1 (hne q (.inr (.inr hq))), g2⟩
    · intro b o hb
      rcases H.obj b o hb with ⟨ob₁, hm₁, ho₁⟩ | h1
      · refine .inl ⟨ob₁, mem _ hm₁ fun e => ?_, ho₁⟩
        have e' : b = it := e
        rw [e', hσ] at hb; cases hb
      · exact .inr h1

/-- the object it is used up -/
theorem St.endExt {h h' : Heap} {it : Addr} {ob : Obj} (S : St Γ a ((it, ob) :: ext) σ μ h) (hs : Heap.ExtBut it h h') : St Γ a ext σ μ h' := by
  obtain ⟨m, news, cs, frs, F, N, H, Lc, Fo⟩ := S
  obtain ⟨hm, hσ⟩ := H.ext (it, ob) (List.mem_append_right _ (List.mem_append_right _ (.head _)))
  have hN := N _ hm
  have hne : ∀ q, q ∈ cs ∨ q ∈ frs ∨ q ∈ ext → q.1 ≠ it := by
    have nd := H.ndx
    rw [List.map_append, List.map_append, List.map_cons, List.nodup_append] at nd
    obtain ⟨_, n2, n3⟩ := nd
    rw [List.nodup_append] at n2
    obtain ⟨_, n4, n5⟩ := n2
    rw [List.nodup_cons] at n4
    rintro q (hq | hq | hq) e
    · exact n3 _ (List.mem_map_of_mem hq) it (List.mem_append_right _ (.head _)) e
    · exact n5 _ (List.mem_map_of_mem hq) it (.head _) e
    · exact n4.1 (e ▸ List.mem_map_of_mem (f := (·.1)) hq)
  have S' : St Γ a ((it, ob) :: ext) σ μ h := ⟨m, news, cs, frs, F, N, H, Lc, Fo⟩
  refine ⟨m, news.filter (fun p => p.1 ≠ it), cs, frs, ⟨F.ns.extBut hs (Ne.symm hN.2.1), fun b o e => hs b o (fun q => ?_) (F.keep b o e), F.above⟩, ?_, ?_, Lc, Fo⟩
  · rw [q, hN.2.2] at e; cases e
  · intro p hp
    obtain ⟨g1, g2⟩ := List.mem_filter.mp hp
    obtain ⟨k1, k2⟩ := N p g1
    exact ⟨hs _ _ (by simpa using g2) k1, k2⟩
  · refine ⟨(H.nd.sublist ((List.filter_sublist).map _)), ?_, ?_, ?_⟩
    · have sub : (cs ++ (frs ++ ext)).Sublist (cs ++ (frs ++ (it, ob) :: ext)) := (List.Sublist.refl _).append ((List.Sublist.refl _).append (List.sublist_cons_self _ _))
      exact H.ndx.sublist (sub.map _)
    · intro q hq
      have hq' : (q ∈ cs ∨ q ∈ frs ∨ q ∈ ext) ∧ q ∈ cs ++ (frs ++ (it, ob) :: ext) := by
        rcases List.mem_append.mp hq with hq | hq
        · exact ⟨.inl hq, List.mem_append_left _ hq⟩
        · rcases List.mem_append.mp hq with hq | hq
          · exact ⟨.inr (.inl hq), List.mem_append_right _ (List.mem_append_left _ hq)⟩
          · exact ⟨.inr (.inr hq), List.mem_append_right _ (List.mem_append_right _ (.tail _ hq))⟩
      obtain ⟨g1, g2⟩ := H.ext q hq'.2
      exact ⟨List.mem_filter.mpr ⟨g1, by simpa using hne q hq'.1⟩, g2⟩
    · intro b o hb
      rcases H.obj b o hb with ⟨ob₁, hm₁, ho₁⟩ | h1
      · refine .inl ⟨ob₁, List.mem_filter.mpr ⟨hm₁, ?_⟩, ho₁⟩
        have : b ≠ it := fun e => by rw [e, hσ] at hb; cases hb
        simpa using this
      · exact .inr h1
end

/-- an iterator over o at k, so many items on -/
def Cur (o : MO) (k : Addr) (ob : Obj) (i : Nat) : Prop :=
  match o with
  | .list _ => ob.cls = .type "list_iterator" ∧ ob.data = .fields #[.ref k, .int i 0]
  | .tuple _ => ob.cls = .type "tuple_iterator" ∧ ob.data = .fields #[.ref k, .int i 0]
  | .range lo hi st => ob = { cls := .type "range_iterator", dict := none, data := .fields #[rawInt (lo + i), rawInt (Builtin.Range.rangeSize lo hi st - i), rawInt st], slots := #[] }
  | _ => False

theorem iterOf_range {lo hi st : Int} {xs : List MV} (h : iterOf (.range lo hi st) = some xs) : st = 1 ∧ xs = (List.range (hi - lo).toNat).map fun (i : Nat) => .int (lo + i) := by
  unfold iterOf at h
  split at h
  · rename_i q; cases q
  · rename_i q; cases q
  · rename_i q; cases q; cases h; exact ⟨rfl, rfl⟩
  · cases h

section
variable {Γ : Rt} {a : Act} {ext : List (Addr × Obj)} {σ : MH} {μ : ML} {A : Around} {s : Shared} {n : Nat} {E : Value → Shared → Prop}

theorem iter_start {Q : Value → Shared → Prop} {k : Addr} {o : MO} {xs : List MV} (S : St Γ a ext σ μ s.heap) (e : σ k = some o) (hx : iterOf o = some xs)
    (q : ∀ h' it ob, St Γ a ((it, ob) :: ext) σ μ h' → Cur o k ob 0 → Q (.ref it) { s with heap := h' }) : wpAny Γ.M A (pyIter (.ref k)) Q E s := by
  have S' := S
  obtain ⟨m, news, cs, frs, F, N, H, Lc, Fo⟩ := S'
  cases o with
  | list ys =>
    obtain ⟨_, vs, nn, hml, _⟩ := H.list e
    exact wpAny_pyIter_list (isList_of N hml) (q _ _ _ (S.pushExt _ rfl) ⟨rfl, rfl⟩)
  | tuple ys =>
    obtain ⟨_, vs, ht, _⟩ := H.tuple F N e
    exact wpAny_pyIter_tuple ht (q _ _ _ (S.pushExt _ rfl) ⟨rfl, rfl⟩)
  | range lo hi st =>
    have hR : ∃ t u v, IsRange s.heap k lo hi st t u v ∧ lo = 0 ∧ hi.natAbs < 2 ^ 62 ∧ st = 1 := by
      rcases H.obj k _ e with ⟨ob, hm, ⟨hz, t, u, v, rfl⟩⟩ | ⟨ob, hm, ⟨hz, t, u, v, rfl⟩, _⟩
      · exact ⟨t, u, v, (N _ hm).1, hz⟩
      · exact ⟨t, u, v, F.keep _ _ (Γ.X _ _ hm), hz⟩
    obtain ⟨t, u, v, hR, rfl, hz, rfl⟩ := hR
    refine wpAny_pyIter_range hR ?_ (q _ _ _ (S.pushExt _ rfl) ?_)
    · unfold Builtin.Range.small Builtin.Range.rangeFitsLong Builtin.Range.rangeSize
      simp only [Bool.and_eq_true, Bool.or_eq_true, decide_eq_true_eq, beq_iff_eq]
      split <;> (try split) <;> simp_all <;> omega
    · simp [Cur]
  | _ => cases hx

theorem iter_next {Q : Option Value → Shared → Prop} {k it : Addr} {ob : Obj} {o : MO} {xs : List MV} {i : Nat} (hh : A.handled = none) (S : St Γ a ((it, ob) :: ext) σ μ s.heap) (c : Cur o k ob i) (e : σ k = some o) (hx : iterOf o = some xs)
    (q1 : ∀ d h' tk ob' v, xs[i]? = some d → St Γ a ((it, ob') :: ext) σ μ h' → Cur o k ob' (i + 1) → VR v d → Q (some v) { s with heap := h', toks := tk })
    (q2 : xs[i]? = none → ∀ h', St Γ a ext σ μ h' → Q none { s with heap := h' }) : wpAny Γ.M A (pyNext (.ref it)) Q E s := by
  have S' := S
  obtain ⟨m, news, cs, frs, F, N, H, Lc, Fo⟩ := S'
  have hit := S.atExt
  cases o with
  | list ys =>
    have hx : ys = xs := Option.some.inj hx
    subst hx
    obtain ⟨_, vs, nn, hml, hr⟩ := H.list e
    have hl := isList_of N hml
    cases hq : ys[i]? with
    | some d =>
      obtain ⟨v, hv, hvr⟩ := hr.get hq
      refine wpAny_pyNext_list_item (l := k) (i := i) ⟨_, hit, c⟩ hl (x := v) (by simpa using hv) fun h' ⟨ob', h1, h2⟩ h3 => ?_
      exact q1 d h' s.toks ob' v hq (S.stepExt h3 h1) h2 hvr
    | none =>
      refine wpAny_pyNext_list_end (l := k) (i := i) hh ⟨_, hit, c⟩ hl ?_ fun h' h1 => q2 hq h' (S.endExt h1)
      have := hr.length
      simp at hq ⊢; omega
  | tuple ys =>
    have hx : ys = xs := Option.some.inj hx
    subst hx
    obtain ⟨_, vs, ht, hr⟩ := H.tuple F N e
    cases hq : ys[i]? with
    | some d =>
      obtain ⟨v, hv, hvr⟩ := hr.get hq
      refine wpAny_pyNext_tuple_item (t := k) (i := i) ⟨_, hit, c⟩ ht (x := v) (by simpa using hv) fun h' ⟨ob', h1, h2⟩ h3 => ?_
      exact q1 d h' s.toks ob' v hq (S.stepExt h3 h1) h2 hvr
    | none =>
      refine wpAny_pyNext_tuple_end (t := k) (i := i) hh ⟨_, hit, c⟩ ht ?_ fun h' h1 => q2 hq h' (S.endExt h1)
      have := hr.length
      simp at hq ⊢; omega
  | range lo hi st =>
    obtain ⟨rfl, rfl⟩ := iterOf_range hx
    have hz : lo = 0 := by
      rcases H.obj k _ e with ⟨ob, hm, ⟨hz, _⟩⟩ | ⟨ob, hm, ⟨hz, _⟩, _⟩ <;> exact hz.1
    subst hz
    have hsz : Builtin.Range.rangeSize 0 hi 1 = (hi.toNat : Int) := by
      unfold Builtin.Range.rangeSize
      simp only [show (1 : Int) > 0 by decide, if_true]
      split <;> omega
    unfold Cur at c
    subst c
    by_cases hq : i < hi.toNat
    · refine wpAny_pyNext_range_item hit (by rw [hsz]; omega) fun h' h1 h2 => ?_
      refine q1 (.int (0 + i)) h' _ _ _ ?_ (S.stepExt h2 h1) ?_ ⟨_, rfl⟩
      · simp [List.getElem?_map, List.getElem?_range, hq]
      · unfold Cur
        congr 1
        simp only [Data.fields.injEq]
        have e1 : (0 + (i : Int) + 1) = 0 + ((i + 1 : Nat) : Int) := by omega
        have e2 : Builtin.Range.rangeSize 0 hi 1 - (i : Int) - 1 = Builtin.Range.rangeSize 0 hi 1 - ((i + 1 : Nat) : Int) := by omega
        rw [e1, e2]
    · refine wpAny_pyNext_range_end hh hit (by rw [hsz]; omega) fun h' h1 => q2 ?_ h' (S.endExt h1)
      simp; omega
  | _ => cases hx
end
end Mine

open PySem PySem.W PyProof.Rows PySem.Calls
set_option Elab.async false
set_option autoImplicit false
namespace Mine

def FR : Flow → Fl → Prop
  | .next, .next => True
  | .brk, .brk => True
  | .cont, .cont => True
  | .ret v, .ret d => VR v d
  | _, _ => False

abbrev PostF (Γ : Rt) (a : Act) (ext : List (Addr × Obj)) (s : Shared) (P : KF) (Q : Flow → Shared → Prop) : Prop :=
  ∀ fl μ' σ' h' tk' fv, P fl μ' σ' → St Γ a ext σ' μ' h' → FR fv fl → Q fv { s with heap := h', toks := tk' }

def RunsF (Γ : Rt) (sc : Scope) (n : Nat) (t : Env → Sem Flow) (WW : ML → MH → KF → XP → Prop) : Prop :=
  ∀ (a : Act) (A : Around) (ext : List (Addr × Obj)) (μ : ML) (σ : MH) (P : KF) (X : XP) (s : Shared) (Q : Flow → Shared → Prop) (E : Value → Shared → Prop),
    a.scope = sc → AOk a n A → St Γ a ext σ μ s.heap → WW μ σ P X → PostF Γ a ext s P Q → XPost Γ a ext s X E → wpAny Γ.M A (t a.env) Q E s

def noComp (e : Expr) : Bool := match e with | .ListComp .. => false | .SetComp .. => false | .DictComp .. => false | _ => true
theorem swaps_of {e : Expr} (h : noComp e = true) (t : Option Expr) (l : Nat) (env : Env) : swapsWith e t l env = pure false := by
  cases e <;> first | rfl | cases h

section
variable {Γ : Rt} {sc : Scope} {n : Nat}

theorem W_noComp {CP : CallT} {e : Expr} {μ : ML} {σ : MH} {P : KP} {X : XP} (h : W Γ CP sc n e μ σ P X) : noComp e = true := by
  cases e <;> first | rfl | (simp only [W] at h)

theorem foldedSet_of {CP : CallT} {e : Expr} {μ : ML} {σ : MH} {P : KP} {X : XP} (h : W Γ CP sc n e μ σ P X) (env : Env) (x : Value) : foldedSetIterable e env x = pure x := by
  cases e <;> first | rfl | (simp only [W] at h)

theorem Hold.drop {cs frs ext news : List (Addr × Obj)} {q : Addr × Obj} {σ : MH} (H : Hold Γ (cs ++ (frs ++ q :: ext)) σ news) : Hold Γ (cs ++ (frs ++ ext)) σ news := by
  refine ⟨H.nd, ?_, fun p hp => H.ext p ?_, H.obj⟩
  · have sub : (cs ++ (frs ++ ext)).Sublist (cs ++ (frs ++ q :: ext)) := (List.Sublist.refl _).append ((List.Sublist.refl _).append (List.sublist_cons_self _ _))
    exact H.ndx.sublist (sub.map _)
  · rcases List.mem_append.mp hp with hp | hp
    · exact List.mem_append_left _ hp
    · rcases List.mem_append.mp hp with hp | hp
      · exact List.mem_append_right _ (List.mem_append_left _ hp)
      · exact List.mem_append_right _ (List.mem_append_right _ (.tail _ hp))

theorem XF.drop {a : Act} {ext : List (Addr × Obj)} {q : Addr × Obj} {C e : Addr} {msg : Str} {σ : MH} {held : Bool} {h : Heap} (x : XF Γ a (q :: ext) C msg σ e held h) : XF Γ a ext C msg σ e held h := by
  obtain ⟨m, news, cs, frs, B, t, tk, F, N, H, r⟩ := x
  exact ⟨m, news, cs, frs, B, t, tk, F, N, H.drop, r⟩
theorem XSt.drop {a : Act} {ext : List (Addr × Obj)} {q : Addr × Obj} {C e : Addr} {msg : Str} {σ : MH} {h : Heap} (x : XSt Γ a (q :: ext) C msg σ e h) : XSt Γ a ext C msg σ e h := by
  rcases xst_iff.mp x with ⟨h₁, m, news, cs, frs, t, F, N, H, Fo, hx⟩ | x | x
  · exact xst_iff.mpr (.inl ⟨h₁, m, news, cs, frs, t, F, N, H.drop, Fo, hx⟩)
  · exact xst_iff.mpr (.inr (.inl x.drop))
  · exact xst_iff.mpr (.inr (.inr x.drop))

variable {a : Act} {ext : List (Addr × Obj)} {σ : MH} {μ : ML} {A : Around} {s : Shared} {E : Value → Shared → Prop}

/-- an exception passes a loop of this frame -/
theorem loop_exc {X : XP} (hA : AOk a n A) (x : XPost Γ a ext s X E) : XPost Γ a ext s X (notedBy Γ.M A a.env fun e s' => cameBackBy Γ.M A a.env E e s') := by
  intro C msg σ' h' tk' e hX xs
  refine XSt.note hA.fr xs fun h₂ x₂ => ?_
  exact XF.back x₂ fun h₃ x₃ => x C msg σ' h₃ tk' e hX (xst_iff.mpr (.inr (.inr x₃)))

/-- the stores of names, one by one -/
theorem stores {P : ML → Prop} {Q : Unit → Shared → Prop} : ∀ (xs : List Str) (ds : List MV) (vs : List Value) (μ : ML) (s : Shared), St Γ a ext σ μ s.heap → R2 VR vs ds → bindsW a.scope xs ds μ P →
    (∀ μ' h' tk, P μ' → St Γ a ext σ μ' h' → Q () { s with heap := h', toks := tk }) → wpAny Γ.M A (assignInOrder (xs.map fun x => bindName a.env x) vs) Q E s
  | [], [], _, μ, s, S, hv, h, q => by
    rw [hv.nil_inv]
    exact assignInOrder_nil (q μ s.heap s.toks h S)
  | x :: xs, d :: ds, _, μ, s, S, hv, h, q => by
    obtain ⟨v, vs, rfl, h1, h2⟩ := hv.cons_inv
    unfold bindsW at h
    refine assignInOrder_cons (wpAny_bindName (S.bind h1 h fun h' hP S' => ?_))
    exact stores xs ds vs _ _ S' h2 hP fun μ' h' tk hP S' => q μ' h' tk hP S'
  | [], _ :: _, _, _, _, _, _, h, _ => h.elim
  | _ :: _, [], _, _, _, _, _, h, _ => h.elim

theorem set_comm {μ : ML} {x y : Str} {d e : MV} (h : x ≠ y) : (μ.set x d).set y e = (μ.set y e).set x d := by
  unfold ML.set
  rw [List.map_map, List.map_map]
  refine List.map_congr_left fun q _ => ?_
  by_cases h1 : q.1 = x
  · have h2 : q.1 ≠ y := fun e => h (h1 ▸ e)
    simp [Function.comp, h1, h, Ne.symm h]
  · by_cases h2 : q.1 = y
    · simp [Function.comp, h2, h, Ne.symm h]
    · simp [Function.comp, h1, h2]

theorem get_set_some {μ : ML} {x y : Str} {d : MV} (h : (μ.get x).isSome = true) : ((μ.set y d).get x).isSome = true := by
  rw [ML.get_set]; split
  · rename_i e; subst e; cases hg : μ.get x with
    | none => rw [hg] at h; cases h
    | some _ => rfl
  · exact h
theorem some_get_set {μ : ML} {x y : Str} {d : MV} (h : ((μ.set y d).get x).isSome = true) : (μ.get x).isSome = true := by
  rw [ML.get_set] at h; split at h
  · rename_i e; subst e; cases hg : μ.get x with
    | none => rw [hg] at h; cases h
    | some _ => rfl
  · exact h

theorem bindsW_imp {sc : Scope} {P R : ML → Prop} (k : ∀ μ, P μ → R μ) : ∀ {xs : List Str} {ds : List MV} {μ : ML}, bindsW sc xs ds μ P → bindsW sc xs ds μ R
  | [], [], _, h => k _ h
  | x :: xs, d :: ds, _, h => by
    unfold bindsW bindW at h ⊢
    exact ⟨h.1, h.2.1, bindsW_imp k h.2.2⟩
  | [], _ :: _, _, h => h.elim
  | _ :: _, [], _, h => h.elim

theorem bindsW_snoc {sc : Scope} {P : ML → Prop} {x : Str} {d : MV} : ∀ {xs : List Str} {ds : List MV} {μ : ML}, bindsW sc xs ds μ (fun μ' => bindW sc x d μ' P) → bindsW sc (xs ++ [x]) (ds ++ [d]) μ P
  | [], [], _, h => h
  | y :: xs, e :: ds, μ, h => by
    unfold bindsW bindW at h
    show bindsW sc (y :: (xs ++ [x])) (e :: (ds ++ [d])) μ P
    unfold bindsW bindW
    exact ⟨h.1, h.2.1, bindsW_snoc h.2.2⟩
  | [], _ :: _, _, h => h.elim
  | _ :: _, [], _, h => h.elim

theorem bindsW_last {sc : Scope} {P : ML → Prop} {x : Str} {d : MV} : ∀ {xs : List Str} {ds : List MV} {μ : ML}, x ∉ xs → sc.names.lookup x = some .local → (μ.get x).isSome = true → bindsW sc xs ds (μ.set x d) P → bindsW sc xs ds μ (fun μ' => bindW sc x d μ' P)
  | [], [], _, _, h1, h2, h => ⟨h1, h2, h⟩
  | y :: xs, e :: ds, μ, hn, h1, h2, h => by
    unfold bindsW bindW at h ⊢
    refine ⟨h.1, some_get_set h.2.1, bindsW_last (fun hm => hn (.tail _ hm)) h1 (get_set_some h2) ?_⟩
    rw [← set_comm (fun e' => hn (by rw [e']; exact .head _))]
    exact h.2.2
  | [], _ :: _, _, _, _, _, h => h.elim
  | _ :: _, [], _, _, _, _, h => h.elim

theorem bindsW_reverse {sc : Scope} {P : ML → Prop} : ∀ {xs : List Str} {ds : List MV} {μ : ML}, xs.Nodup → bindsW sc xs ds μ P → bindsW sc xs.reverse ds.reverse μ P
  | [], [], _, _, h => h
  | x :: xs, d :: ds, μ, nd, h => by
    rw [List.nodup_cons] at nd
    unfold bindsW bindW at h
    rw [List.reverse_cons, List.reverse_cons]
    exact bindsW_snoc (bindsW_last (by simpa using nd.1) h.1 h.2.1 (bindsW_reverse nd.2 h.2.2))
  | [], _ :: _, _, _, h => h.elim
  | _ :: _, [], _, _, h => h.elim

theorem namesOf_cons {e : Expr} {r : List Expr} {xs : List Str} (h : namesOf (e :: r) = some xs) : ∃ x p ys, e = .Name x p ∧ namesOf r = some ys ∧ xs = x :: ys := by
  cases e with
  | Name x p =>
    unfold namesOf at h
    cases hr : namesOf r with
    | none => rw [hr] at h; cases h
    | some ys => rw [hr] at h; cases h; exact ⟨x, p, ys, rfl, rfl, rfl⟩
  | _ => simp [namesOf] at h

theorem assignEach_shape {env : Env} : ∀ {ts : List Expr} {xs : List Str}, namesOf ts = some xs → (assignEach ts env).length = xs.length ∧ (assignEach ts env).findIdx? (·.1) = none
  | [], xs, h => by cases h; exact ⟨rfl, rfl⟩
  | e :: r, xs, h => by
    obtain ⟨x, p, ys, rfl, hr, rfl⟩ := namesOf_cons h
    obtain ⟨h1, h2⟩ := assignEach_shape (env := env) hr
    have e : assignEach (.Name x p :: r) env = (false, assign (.Name x p) env) :: assignEach r env := rfl
    exact ⟨by rw [e]; simp [h1], by rw [e]; simp [List.findIdx?_cons, h2]⟩

theorem storesE {P : ML → Prop} {Q : Unit → Shared → Prop} : ∀ (ts : List Expr) (xs : List Str) (ds : List MV) (vs : List Value) (μ : ML) (s : Shared), namesOf ts = some xs → St Γ a ext σ μ s.heap → R2 VR vs ds → bindsW a.scope xs ds μ P →
    (∀ μ' h' tk, P μ' → St Γ a ext σ μ' h' → Q () { s with heap := h', toks := tk }) → wpAny Γ.M A (assignInOrder ((assignEach ts a.env).map (·.2)) vs) Q E s
  | [], xs, ds, vs, μ, s, hn, S, hv, h, q => by
    cases hn
    cases ds with
    | nil => rw [hv.nil_inv]; exact assignInOrder_nil (q μ s.heap s.toks h S)
    | cons _ _ => exact h.elim
  | e :: r, xs, ds, vs, μ, s, hn, S, hv, h, q => by
    obtain ⟨x, p, ys, rfl, hr, rfl⟩ := namesOf_cons hn
    cases ds with
    | nil => exact h.elim
    | cons d ds =>
      obtain ⟨v, vs, rfl, h1, h2⟩ := hv.cons_inv
      unfold bindsW at h
      show wpAny Γ.M A (assignInOrder (assign (.Name x p) a.env :: (assignEach r a.env).map (·.2)) (v :: vs)) Q E s
      refine assignInOrder_cons (wpAny_assign_Name (S.bind h1 h fun h' hP S' => ?_))
      exact storesE r ys ds vs _ _ hr S' h2 hP fun μ' h' tk hP S' => q μ' h' tk hP S'
end
end Mine

open PySem PySem.W PyProof.Rows PySem.Calls
set_option Elab.async false
set_option autoImplicit false
namespace Mine

section
variable {Γ : Rt} {sc : Scope} {n : Nat} {a : Act} {ext : List (Addr × Obj)} {σ : MH} {μ : ML} {A : Around} {s : Shared} {E : Value → Shared → Prop}

theorem St.extFresh {h h' : Heap} (S : St Γ a ext σ μ h) (he : Heap.ExtBut h.objs.size h h') : St Γ a ext σ μ h' := by
  obtain ⟨m, news, cs, frs, F, N, H, Lc, Fo⟩ := S
  exact ⟨m, news, cs, frs, F.extBut he (Nat.le_refl _), fun p hp => ⟨he _ _ (Nat.ne_of_lt (newsLt N p hp)) (N p hp).1, (N p hp).2⟩, H, Lc, Fo⟩

theorem XF.cls {C e : Addr} {msg : Str} {held : Bool} {h : Heap} (x : XF Γ a ext C msg σ e held h) : ∃ oe, h.get? e = some oe ∧ oe.cls = .ref C := by
  obtain ⟨m, news, cs, frs, B, t, tk, F, N, H, Fo, b3, b4, hw, ht, hn⟩ := x
  cases held with
  | false => obtain ⟨oe, vs, he, hc, _⟩ := Heap.FlyingW.first hw; exact ⟨oe, he, hc⟩
  | true => obtain ⟨oe, he, hc⟩ := Heap.HeldW.there hw; exact ⟨oe, he, hc⟩

theorem run_cls {c : Str} {C : Addr} {pos : Pos} {h : Value → Shared → Prop} (hx : excNm Γ.K a.scope c C) (S : St Γ a ext σ μ s.heap) (q : h (.ref C) s) : wpAny Γ.M A (eval (.Name c pos) a.env) h E s := by
  obtain ⟨h1, h2, h3, h4⟩ := hx
  obtain ⟨m, news, cs, frs, F, N, H, Lc, Fo⟩ := S
  exact nameX_K F Γ.X (topRead_of Γ.T) h3 q a.hk (kind_of h1) h2

theorem run_raise {c : Str} {C : Addr} {e : Expr} {np cpos pos : Pos} {Q : Flow → Shared → Prop} {X : XP} (hA : AOk a n A) (S : St Γ a ext σ μ s.heap) (hx : excNm Γ.K a.scope c C) (hp : plainArg e = true)
    (h : wpAny Γ.M A (eval e a.env) (fun v s' => ∃ msg σ' t, v = .str msg t ∧ X C msg σ' ∧ St Γ a ext σ' μ s'.heap ∧ ∃ h' tk', s' = { s with heap := h', toks := tk' }) E s) (x : XPost Γ a ext s X E) :
    wpAny Γ.M A (exec (.Raise (some (.Call (.Name c np) [e] [] cpos)) none pos) a.env) Q E s := by
  have S₀ := S
  have hx₀ := hx
  obtain ⟨h1, h2, h3, h4⟩ := hx
  obtain ⟨m, news, cs, frs, F, N, H, Lc, Fo⟩ := S
  obtain ⟨tl, NN, nm, q, bs, hdct, sn, sub, ab, col, dd, k0, k1, k2, k3, k5, mN, hC, hN, hni, T⟩ := (own_of_in Γ.X (topRead_of Γ.T) h3 h4).obj
  have he := starEach_plain (es := []) (env := a.env) hp
  refine wpAny_Raise_call_subT (C := C) (nm := nm) (q := q) (N := NN) (bs := bs) (bm := tl) (hdct := hdct) (sn := sn) (sub := sub) (ab := ab) (col := col) (dd := dd) (k0 := k0) (k1 := k1) (k2 := k2) (k3 := k3) (k5 := k5)
    PySem.F.excBase_Exception (mN := mN) (T.hasType PySem.F.excBase_Exception.hasBase) hA.hh (by rw [he]; rfl) hni (run_cls hx₀ S₀ ⟨rfl, ?_⟩)
  rw [he]
  refine evalArgs_plain ?_
  refine spliced_cons (wpAny_mono h (fun v s₁ h₁ => spliced_nil ?_) fun _ _ y => y)
  obtain ⟨msg, σ', t, rfl, hX, ⟨m', news', cs', frs', F', N', H', Lc', Fo'⟩, h', tk', rfl⟩ := h₁
  refine ⟨rfl, by rw [sizeLine_eq]; show 1 ≤ 16777216; decide, F'.keep _ _ hC, hN.keeps F'.keep, T.keeps F'.keep, fun h'' e'' hm => ?_⟩
  exact x C msg σ' h'' tk' e'' hX (xst_iff.mpr (.inl ⟨h', m', news', cs', frs', t, F', N', H', Fo', hm⟩))

/-- the exception is caught by its class: the suite says a bool -/
theorem run_caught {c : Str} {C e : Addr} {msg : Str} {b : Bool} {kk : Nat} {np pos cp rp : Pos} {rest : List ExceptHandler} {Q : Flow → Shared → Prop} (hA : AOk a n A) (hx : excNm Γ.K a.scope c C) (x : XSt Γ a ext C msg σ e s.heap)
    (q : ∀ h', St Γ a ext σ [] h' → Q (.ret (.bool b)) { s with heap := h' }) :
    wpAny Γ.M A (noteFrame (.ref e) a.env) (fun _ s₂ => wpAny Γ.M A (setFlight (.ref e) none) (fun _ s₃ => wpAny Γ.M A (handleBy (.ref e) a.env (.ExceptHandler (some (.Name c np)) none [.Return (some (.Constant (.bool b) kk cp)) rp] pos :: rest)) Q E s₃) E s₂) E s := by
  refine XSt.note hA.fr x fun h₂ x₂ => ?_
  refine XF.land x₂ fun h₃ x₃ => ?_
  have S₃ := x₃.st
  obtain ⟨h1, h2, h3, h4⟩ := id hx
  refine wpAny_handleBy_cons (codeAny_handlers_test (run_cls hx S₃ ?_)) (by intro q; cases q)
  obtain ⟨m, news, cs, frs, F, N, H, Lc, Fo⟩ := S₃
  obtain ⟨bm, NN, nm, qq, bs, hdct, sn, sub, ab, col, dd, k0, k1, k2, k3, k5, mN, hC, hN, hni, TL⟩ := ((own_of_in Γ.X (topRead_of Γ.T) h3 h4).keeps F.keep).obj
  obtain ⟨oe, hoe, hoec⟩ := x₃.cls
  refine wpAny_excMatches_sub_self hC hoe hoec (TL.hasType PySem.F.excBase_Exception.hasBase) (codeAny_handlers_suite ?_)
  refine XF.landAgain x₃ fun h₄ x₄ => ?_
  exact wpAny_execs_cons (wpAny_Return_some (Constant_bool (q h₄ x₄.st)))
end
end Mine

open PySem PySem.W PyProof.Rows PySem.Calls
set_option Elab.async false
set_option autoImplicit false
set_option maxHeartbeats 1000000
namespace Mine

section
variable {Γ : Rt} {sc : Scope} {n : Nat}

theorem PostF.ret {a : Act} {ext : List (Addr × Obj)} {s : Shared} {P : KF} {Q : Flow → Shared → Prop} (q : PostF Γ a ext s P Q) {v : Value} {d : MV} {μ : ML} {σ : MH} {h' : Heap} {tk' : Nat} (hP : P (.ret d) μ σ) (S : St Γ a ext σ μ h') (hv : VR v d) :
    Q (.ret v) { s with heap := h', toks := tk' } := q (.ret d) μ σ h' tk' (.ret v) hP S hv

theorem run_for {x : Str} {np pos : Pos} {it : Expr} {body : List Stmt} (hB : RunsF Γ sc n (execs body) (WS Γ (CodeP Γ) sc n body)) : RunsF Γ sc n (exec (.For (.Name x np) it body [] pos)) (W1 Γ (CodeP Γ) sc n (.For (.Name x np) it body [] pos)) := by
  intro a A ext μ σ P X s Q E hsc hA S h q xp
  simp only [W1] at h
  have hf : ∀ y, foldedSetIterable it a.env y = pure y := foldedSet_of h a.env
  refine wpAny_For (sW it a A ext μ σ _ X s _ E hsc hA S h (fun d σ₁ h₁ t₁ v hP S₁ hv => ?_) xp) hf
  obtain ⟨k, o, xs, rfl, e, hx, hw⟩ := hP
  obtain rfl : v = _ := hv
  refine iter_start (s := { s with heap := h₁, toks := t₁ }) S₁ e hx fun h₂ ita ob S₂ c₂ => ?_
  refine codeAny_forLoop (fun z s' => ∃ i σ' μ' ob h' tk, s' = { s with heap := h', toks := tk } ∧ St Γ a ((ita, ob) :: ext) σ' μ' h' ∧ Cur o k ob i ∧ forW sc x k o (WS Γ (CodeP Γ) sc n body) (xs.drop i) μ' σ' P X ∧ z = xs.length - i ∧ i ≤ xs.length) ?_ xs.length
    ⟨0, σ₁, μ, ob, h₂, t₁, rfl, S₂, c₂, by simpa using hw, rfl, Nat.zero_le _⟩
  rintro z _ ⟨i, σ', μ', ob', h', tk, rfl, S', c', w', rfl, hi⟩
  have he : σ' k = some o := by
    cases hd : xs.drop i with
    | nil => rw [hd] at w'; unfold forW at w'; exact w'.1
    | cons d ds => rw [hd] at w'; unfold forW at w'; exact w'.1
  refine iter_next (s := { s with heap := h', toks := tk }) hA.hh S' c' he hx ?_ ?_
  · intro d h₃ t₃ ob₃ v hq S₃ c₃ hv
    have hlt : i < xs.length := (List.getElem?_eq_some_iff.mp hq).1
    have hd : xs.drop i = d :: xs.drop (i + 1) := by
      rw [List.drop_eq_getElem_cons hlt]
      have := (List.getElem?_eq_some_iff.mp hq).2
      rw [this]
    rw [hd] at w'
    unfold forW at w'
    obtain ⟨_, w'⟩ := w'
    rw [← hsc] at w'
    refine wpAny_assign_Name (St.bind (s := { s with heap := h₃, toks := t₃ }) S₃ hv w' fun h₄ w₄ S₄ => ?_)
    rw [hsc] at w₄
    refine hB a A _ _ _ _ X _ _ _ hsc hA S₄ w₄ ?_ ?_
    · intro fl μ₅ σ₅ h₅ t₅ fv hP S₅ hr
      cases fl with
      | next => cases fv <;> first | exact hr.elim | exact ⟨xs.length - (i + 1), by omega, i + 1, σ₅, μ₅, ob₃, h₅, t₅, rfl, S₅, c₃, hP, rfl, hlt⟩
      | cont => cases fv <;> first | exact hr.elim | exact ⟨xs.length - (i + 1), by omega, i + 1, σ₅, μ₅, ob₃, h₅, t₅, rfl, S₅, c₃, hP, rfl, hlt⟩
      | brk => cases fv <;> first | exact hr.elim | exact q .next μ₅ σ₅ h₅ t₅ .next hP S₅.dropExt trivial
      | ret d' => cases fv <;> first | exact hr.elim | exact q (.ret d') μ₅ σ₅ h₅ t₅ _ hP S₅.dropExt hr
    · intro C msg σ₅ h₅ t₅ e₅ hX x₅
      exact loop_exc hA xp C msg σ₅ h₅ t₅ e₅ hX x₅.drop
  · intro hq h₃ S₃
    have hlt : xs.length ≤ i := by simpa using hq
    rw [List.drop_eq_nil_of_le hlt] at w'
    unfold forW at w'
    exact wpAny_execs_nil (q .next μ' σ' h₃ tk .next w'.2 S₃ trivial)

theorem run_while {t : Expr} {body : List Stmt} {pos : Pos} (hB : RunsF Γ sc n (execs body) (WS Γ (CodeP Γ) sc n body)) : RunsF Γ sc n (exec (.While t body [] pos)) (W1 Γ (CodeP Γ) sc n (.While t body [] pos)) := by
  intro a A ext μ σ P X s Q E hsc hA S h q xp
  simp only [W1] at h
  obtain ⟨k, hw⟩ := h
  refine wpAny_While (codeAny_whileLoop (fun z s' => ∃ σ' μ' h' tk, s' = { s with heap := h', toks := tk } ∧ St Γ a ext σ' μ' h' ∧ whileW (WT Γ (CodeP Γ) sc n t (W Γ (CodeP Γ) sc n t)) (WS Γ (CodeP Γ) sc n body) z μ' σ' P X) ?_ k
    ⟨σ, μ, s.heap, s.toks, rfl, S, hw⟩)
  rintro z _ ⟨σ', μ', h', tk, rfl, S', w'⟩
  cases z with
  | zero => unfold whileW at w'; exact w'.elim
  | succ z =>
    unfold whileW at w'
    refine sWT t (sW t) a A ext μ' σ' _ X _ _ _ hsc hA S' w' (fun b σ₁ h₁ t₁ v hP S₁ hv => ?_) (loop_exc hA xp)
    obtain rfl : v = b := hv
    cases v with
    | true =>
      refine hB a A ext _ _ _ X _ _ _ hsc hA S₁ (by simpa using hP) ?_ (loop_exc hA xp)
      intro fl μ₅ σ₅ h₅ t₅ fv hP S₅ hr
      cases fl with
      | next => cases fv <;> first | exact hr.elim | exact ⟨z, Nat.lt_succ_self _, σ₅, μ₅, h₅, t₅, rfl, S₅, hP⟩
      | cont => cases fv <;> first | exact hr.elim | exact ⟨z, Nat.lt_succ_self _, σ₅, μ₅, h₅, t₅, rfl, S₅, hP⟩
      | brk => cases fv <;> first | exact hr.elim | exact q .next μ₅ σ₅ h₅ t₅ .next hP S₅ trivial
      | ret d' => cases fv <;> first | exact hr.elim | exact q (.ret d') μ₅ σ₅ h₅ t₅ _ hP S₅ hr
    | false => exact wpAny_execs_nil (q .next μ' σ₁ h₁ t₁ .next (by simpa using hP) S₁ trivial)

theorem bindsW_len {sc : Scope} {P : ML → Prop} : ∀ {xs : List Str} {ds : List MV} {μ : ML}, bindsW sc xs ds μ P → xs.length = ds.length
  | [], [], _, _ => rfl
  | x :: xs, d :: ds, _, h => by
    unfold bindsW bindW at h
    simp [bindsW_len h.2.2]
  | [], _ :: _, _, h => h.elim
  | _ :: _, [], _, h => h.elim

theorem run_tuple {ts es : List Expr} {k k' : Nat} {p p' pos : Pos} : RunsF Γ sc n (exec (.Assign [.Tuple ts k p] (.Tuple es k' p') pos)) (W1 Γ (CodeP Γ) sc n (.Assign [.Tuple ts k p] (.Tuple es k' p') pos)) := by
  intro a A ext μ σ P X s Q E hsc hA S h q xp
  simp only [W1] at h
  obtain ⟨xs, hn, nd, hs, h⟩ := h
  have ev : ∀ (Q' : Value → Shared → Prop), (∀ t ds σ₂ h₂ t₂, St Γ a ext σ₂ μ h₂ → σ₂ t = some (.tuple ds) → bindsW sc xs ds μ (fun μ₁ => P .next μ₁ σ₂) → Q' (.ref t) { s with heap := h₂, toks := t₂ }) →
      wpAny Γ.M A (eval (.Tuple es k' p') a.env) Q' E s := by
    intro Q' hq
    refine Tuple_ (sWL es p' a A ext μ σ _ X s _ E hsc hA S h (fun ds σ₁ h₁ t₁ vs hP S₁ hv => ?_) xp)
    obtain ⟨hz, hb⟩ := hP
    refine op_newTuple (P := fun v σ₂ => ∃ t, v = .ref t ∧ σ₁ t = none ∧ σ₂ = upd σ₁ t (.tuple ds)) S₁ hv (by rw [sizeLine_eq]; omega) (fun t ht => ⟨t, rfl, ht, rfl⟩) ?_
    rintro d σ₂ h₂ t₂ v ⟨t, rfl, ht, rfl⟩ S₂ hv'
    obtain rfl : v = _ := hv'
    exact hq t ds _ h₂ t₂ S₂ (by simp [upd]) (hb t ht)
  obtain ⟨w1, w2⟩ := hs a.env hsc
  rcases w2 with w2 | w2
  · refine Assign_Tuple (ev _ fun t ds σ₂ h₂ t₂ S₂ e hb => ?_) w1 w2
    have S₂' := S₂
    obtain ⟨m, news, cs, frs, F, N, H, Lc, Fo⟩ := S₂'
    obtain ⟨_, vs, ht, hr⟩ := H.tuple F N e
    obtain ⟨g1, g2⟩ := assignEach_shape (env := a.env) hn
    refine wpAny_assign_Tuple (s := { s with heap := h₂, toks := t₂ }) hA.hh ht (by rw [g1, bindsW_len hb]; have := hr.length; simpa using this.symm) g2 fun h₃ he => ?_
    rw [← hsc] at hb
    exact storesE ts xs ds _ μ { s with heap := h₃, toks := t₂ } hn (S₂.extFresh he) (by simpa using hr) hb fun μ' h₄ t₄ hP S₄ => q .next μ' σ₂ h₄ t₄ .next hP S₄ trivial
  · refine Assign_Tuple_swapped (ev _ fun t ds σ₂ h₂ t₂ S₂ e hb => ?_) w1 w2
    have S₂' := S₂
    obtain ⟨m, news, cs, frs, F, N, H, Lc, Fo⟩ := S₂'
    obtain ⟨_, vs, ht, hr⟩ := H.tuple F N e
    have hl : xs.length = vs.toArray.size := by rw [bindsW_len hb]; have := hr.length; simpa using this.symm
    rw [hl]
    refine unpackItems_tuple (s := { s with heap := h₂, toks := t₂ }) hA.hh ht fun h₃ he => ?_
    rw [← hsc] at hb
    have hb' := bindsW_reverse nd hb
    exact stores xs.reverse ds.reverse _ μ { s with heap := h₃, toks := t₂ } (S₂.extFresh he) (by simpa using hr.reverse) hb' fun μ' h₄ t₄ hP S₄ => q .next μ' σ₂ h₄ t₄ .next hP S₄ trivial

theorem run_try {body hs : List Stmt} {c : Str} {np hp pos : Pos} (hB : RunsF Γ sc n (execs body) (WS Γ (CodeP Γ) sc n body)) :
    RunsF Γ sc n (exec (.Try body [.ExceptHandler (some (.Name c np)) none hs hp] [] [] pos)) (W1 Γ (CodeP Γ) sc n (.Try body [.ExceptHandler (some (.Name c np)) none hs hp] [] [] pos)) := by
  intro a A ext μ σ P X s Q E hsc hA S h q xp
  simp only [W1] at h
  obtain ⟨C, hc, h⟩ := h
  rw [← hsc] at hc
  refine wpAny_Try_except (hB a A ext μ σ P _ s _ _ hsc hA S h ?_ ?_)
  · intro fl μ₅ σ₅ h₅ t₅ fv hP S₅ hr
    cases fl with
    | next => cases fv <;> first | exact hr.elim | exact wpAny_execs_nil (q .next μ₅ σ₅ h₅ t₅ .next hP S₅ trivial)
    | cont => cases fv <;> first | exact hr.elim | exact q .cont μ₅ σ₅ h₅ t₅ .cont hP S₅ trivial
    | brk => cases fv <;> first | exact hr.elim | exact q .brk μ₅ σ₅ h₅ t₅ .brk hP S₅ trivial
    | ret d' => cases fv <;> first | exact hr.elim | exact q (.ret d') μ₅ σ₅ h₅ t₅ _ hP S₅ hr
  · rintro C' msg σ₅ h₅ t₅ e₅ ⟨rfl, hX⟩ x₅
    split at hX
    · exact run_caught (s := { s with heap := h₅, toks := t₅ }) hA hc x₅ fun h₆ S₆ => q (.ret (.bool _)) [] σ₅ h₆ t₅ _ hX S₆ rfl
    · exact hX.elim

theorem inter (a : Act) : interactive a.env = false := by
  unfold interactive
  show (a.scope.kind == _ && _) = false
  rw [a.hk]; rfl

theorem stmts (N : Nat) : (∀ st : Stmt, sizeOf st < N → RunsF Γ sc n (exec st) (W1 Γ (CodeP Γ) sc n st)) ∧ (∀ l : List Stmt, sizeOf l < N → RunsF Γ sc n (execs l) (WS Γ (CodeP Γ) sc n l)) := by
  induction N with
  | zero => exact ⟨fun _ h => absurd h (Nat.not_lt_zero _), fun _ h => absurd h (Nat.not_lt_zero _)⟩
  | succ N ih =>
    refine ⟨?_, ?_⟩
    · intro st hN a A ext μ σ P X s Q E hsc hA S h q xp
      have h₀ := h
      unfold W1 at h
      split at h
      · rename_i e pos
        exact wpAny_Expr_any (sW e a A ext μ σ _ X s _ E hsc hA S h (fun d σ₁ h₁ t₁ v hP S₁ hv => q .next μ σ₁ h₁ t₁ .next hP S₁ trivial) xp) (inter a) (swaps_of (W_noComp h) _ _ _)
      · exact wpAny_Pass (q .next μ σ s.heap s.toks .next h S trivial)
      · exact wpAny_Break (q .brk μ σ s.heap s.toks .brk h S trivial)
      · exact wpAny_Continue (q .cont μ σ s.heap s.toks .cont h S trivial)
      · rename_i e pos
        exact wpAny_Return_some (sW e a A ext μ σ _ X s _ E hsc hA S h (fun d σ₁ h₁ t₁ v hP S₁ hv => q.ret hP S₁ hv) xp)
      · exact wpAny_Return_none (q.ret (v := .none) (d := .none) (h' := s.heap) (tk' := s.toks) h S rfl)
      · rename_i x np e pos
        refine wpAny_Assign_Name (sW e a A ext μ σ _ X s _ E hsc hA S h (fun d σ₁ h₁ t₁ v hP S₁ hv => ?_) xp) (swaps_of (W_noComp h) _ _ _)
        rw [← hsc] at hP
        exact St.bind (s := { s with heap := h₁, toks := t₁ }) S₁ hv hP fun h₂ hP₂ S₂ => q .next _ σ₁ h₂ _ .next hP₂ S₂ trivial
      · rename_i o y np e pos
        refine plainObj_wpAny_Assign_Attribute (sW e a A ext μ σ _ X s _ E hsc hA S h (fun d σ₁ h₁ t₁ v hP S₁ hv => ?_) xp) (swaps_of (W_noComp h) _ _ _)
        refine sW o a A ext μ σ₁ _ X _ _ E hsc hA S₁ hP (fun d₂ σ₂ h₂ t₂ v₂ hP₂ S₂ hv₂ => ?_) xp
        exact op_setAttr (s := { s with heap := h₂, toks := t₂ }) S₂ hP₂ hv₂ hv fun σ₃ h₃ t₃ hP₃ S₃ => q .next μ σ₃ h₃ t₃ .next hP₃ S₃ trivial
      · rename_i o i np e pos
        refine wpAny_Assign_Subscript (sW e a A ext μ σ _ X s _ E hsc hA S h (fun d σ₁ h₁ t₁ v hP S₁ hv => ?_) xp) (swaps_of (W_noComp h) _ _ _)
        refine sW o a A ext μ σ₁ _ X _ _ E hsc hA S₁ hP (fun d₂ σ₂ h₂ t₂ v₂ hP₂ S₂ hv₂ => ?_) xp
        refine sW i a A ext μ σ₂ _ X _ _ E hsc hA S₂ hP₂ (fun d₃ σ₃ h₃ t₃ v₃ hP₃ S₃ hv₃ => ?_) xp
        exact op_setItem (s := { s with heap := h₃, toks := t₃ }) S₃ hP₃ hv₂ hv₃ hv fun σ₄ h₄ t₄ hP₄ S₄ => q .next μ σ₄ h₄ t₄ .next hP₄ S₄ trivial
      · exact run_tuple a A ext μ σ P X s Q E hsc hA S h₀ q xp
      · rename_i t b c pos
        have z1 : sizeOf b < N := by simp at hN; omega
        have z2 : sizeOf c < N := by simp at hN; omega
        refine wpAny_If (sWT t (sW t) a A ext μ σ _ X s _ E hsc hA S h (fun w σ₁ h₁ t₁ v hP S₁ hv => ?_) xp)
        obtain rfl : v = w := hv
        cases v with
        | true => exact ih.2 b z1 a A ext μ σ₁ P X _ Q E hsc hA S₁ (by simpa using hP) q xp
        | false => exact ih.2 c z2 a A ext μ σ₁ P X _ Q E hsc hA S₁ (by simpa using hP) q xp
      · exact run_for (ih.2 _ (by simp at hN; omega)) a A ext μ σ P X s Q E hsc hA S h₀ q xp
      · exact run_while (ih.2 _ (by simp at hN; omega)) a A ext μ σ P X s Q E hsc hA S h₀ q xp
      · rename_i c np e cp pos
        obtain ⟨hp, C, hc, h⟩ := h
        rw [← hsc] at hc
        refine run_raise (X := X) hA S hc hp (sW e a A ext μ σ _ X s _ E hsc hA S h (fun d σ₁ h₁ t₁ v hP S₁ hv => ?_) xp) xp
        split at hP
        · obtain ⟨_, t, rfl⟩ := hv
          exact ⟨_, σ₁, t, rfl, hP, S₁, h₁, t₁, rfl⟩
        · exact hP.elim
      · exact run_try (ih.2 _ (by simp at hN; omega)) a A ext μ σ P X s Q E hsc hA S h₀ q xp
      · exact h.elim
    · intro l hN a A ext μ σ P X s Q E hsc hA S h q xp
      cases l with
      | nil => exact wpAny_execs_nil (q .next μ σ s.heap s.toks .next (by simpa only [WS] using h) S trivial)
      | cons st r =>
        simp only [WS] at h
        refine wpAny_execs_cons (ih.1 st (by simp at hN; omega) a A ext μ σ _ X s _ E hsc hA S h (fun fl μ₅ σ₅ h₅ t₅ fv hP S₅ hr => ?_) xp)
        cases fl with
        | next => cases fv <;> first | exact hr.elim | exact ih.2 r (by simp at hN; omega) a A ext μ₅ σ₅ P X { s with heap := h₅, toks := t₅ } Q E hsc hA S₅ hP q xp
        | cont => cases fv <;> first | exact hr.elim | exact q .cont μ₅ σ₅ h₅ t₅ .cont hP S₅ trivial
        | brk => cases fv <;> first | exact hr.elim | exact q .brk μ₅ σ₅ h₅ t₅ .brk hP S₅ trivial
        | ret d' => cases fv <;> first | exact hr.elim | exact q (.ret d') μ₅ σ₅ h₅ t₅ _ hP S₅ hr

theorem sWS (body : List Stmt) : RunsF Γ sc n (execs body) (WS Γ (CodeP Γ) sc n body) := (stmts (sizeOf body + 1)).2 body (Nat.lt_succ_self _)
end
end Mine

open PySem PySem.W PyProof.Rows PySem.Calls
set_option Elab.async false
set_option autoImplicit false
set_option maxHeartbeats 1000000
namespace Mine

theorem lookup_of_nodup {V : Type} {k : Str} {v : V} : ∀ {l : List (Str × V)}, (l.map (·.1)).Nodup → (k, v) ∈ l → l.lookup k = some v
  | q :: r, nd, h => by
    rw [List.map_cons, List.nodup_cons] at nd
    obtain ⟨k', v'⟩ := q
    rcases List.mem_cons.mp h with e | h2
    · cases e; simp
    · have hne : (k == k') = false := by
        rw [beq_eq_false_iff_ne]; intro e; subst e
        exact nd.1 (List.mem_map.mpr ⟨(k, v), h2, rfl⟩)
      rw [List.lookup_cons, hne]
      exact lookup_of_nodup nd.2 h2

abbrev BR : Str × Value → Str × MV → Prop := fun x y => x.1 = y.1 ∧ VR x.2 y.2

theorem BR.names {bs : List (Str × Value)} {mb : List (Str × MV)} (h : R2 BR bs mb) : bs.map (·.1) = mb.map (·.1) := by
  induction h with
  | nil => rfl
  | cons h _ ih => simp [ih, h.1]
theorem BR.mem {bs : List (Str × Value)} {mb : List (Str × MV)} (h : R2 BR bs mb) {x : Str} {d : MV} (e : (x, d) ∈ mb) : ∃ v, (x, v) ∈ bs ∧ VR v d := by
  induction h with
  | nil => cases e
  | @cons p q _ _ h _ ih =>
    rcases List.mem_cons.mp e with e | e
    · subst e; obtain ⟨p1, p2⟩ := p; obtain ⟨h1, h2⟩ := h
      simp only at h1; subst h1; exact ⟨p2, .head _, h2⟩
    · obtain ⟨v, h1, h2⟩ := ih e; exact ⟨v, .tail _ h1, h2⟩

def locals0 (mb : List (Str × MV)) (rest : List Str) : ML := mb.map (fun q => (q.1, some q.2)) ++ rest.map (fun x => (x, none))

theorem locals0_get {mb : List (Str × MV)} {rest : List Str} {x : Str} {d : MV} (h : (locals0 mb rest).get x = some (some d)) : (x, d) ∈ mb := by
  unfold locals0 ML.get at h
  induction mb with
  | nil =>
    exfalso
    induction rest with
    | nil => simp at h
    | cons r rs ih =>
      simp only [List.map_nil, List.nil_append, List.map_cons, List.lookup_cons] at h ih
      by_cases e : (x == r) = true
      · rw [e] at h; cases h
      · rw [Bool.not_eq_true] at e; rw [e] at h; exact ih h
  | cons q r ih =>
    obtain ⟨k, v⟩ := q
    simp only [List.map_cons, List.cons_append, List.lookup_cons] at h
    by_cases e : (x == k) = true
    · rw [e] at h
      have : x = k := eq_of_beq e
      subst this; cases h; exact .head _
    · rw [Bool.not_eq_true] at e; rw [e] at h; exact .tail _ (ih h)

section
variable {Γ : Rt} {n : Nat} {a a' : Act} {ext : List (Addr × Obj)} {σ : MH} {μ μ' : ML} {m : Str → Option Value} {cs : List (Addr × Obj)}

theorem perm3 (frs cs ext : List (Addr × Obj)) : (frs ++ (cs ++ ext)).Perm (cs ++ (frs ++ ext)) := by
  rw [← List.append_assoc, ← List.append_assoc]
  exact List.perm_append_comm.append_right _

/-- the ledger, as the caller has it -/
theorem hold_back {L : Addr} {q : Addr × Obj} {cs' frs news : List (Addr × Obj)} (hq : q.1 = L) (H : Hold Γ (cs' ++ (q :: frs ++ (cs ++ ext))) σ news) :
    Hold Γ (cs ++ (frs ++ ext)) σ (news.filter fun p => p.1 ≠ L) ∧ (∀ p, p ∈ cs ∨ p ∈ frs ∨ p ∈ ext → p.1 ≠ L) ∧ q ∈ news := by
  have nd := H.ndx
  rw [List.map_append, List.nodup_append] at nd
  obtain ⟨_, nd2, _⟩ := nd
  have pm : ((q :: frs ++ (cs ++ ext)).map (·.1)).Perm ((q :: (cs ++ (frs ++ ext))).map (·.1)) := by
    exact List.Perm.map _ (List.Perm.cons _ (perm3 _ _ _))
  have nd3 := pm.nodup_iff.mp nd2
  rw [List.map_cons, List.nodup_cons] at nd3
  have ne : ∀ p, p ∈ cs ++ (frs ++ ext) → p.1 ≠ L := fun p hp e => nd3.1 (by rw [hq, ← e]; exact List.mem_map_of_mem (f := (·.1)) hp)
  have mem : ∀ p, p ∈ cs ++ (frs ++ ext) → p ∈ cs' ++ (q :: frs ++ (cs ++ ext)) := fun p hp => by
    refine List.mem_append_right _ ?_
    rcases List.mem_append.mp hp with hp | hp
    · exact List.mem_append_right _ (List.mem_append_left _ hp)
    · rcases List.mem_append.mp hp with hp | hp
      · exact List.mem_append_left _ (.tail _ hp)
      · exact List.mem_append_right _ (List.mem_append_right _ hp)
  have hqn := H.ext q (List.mem_append_right _ (List.mem_append_left _ (.head _)))
  refine ⟨⟨H.nd.sublist ((List.filter_sublist).map _), nd3.2, fun p hp => ?_, ?_⟩, fun p hp => ne p ?_, hqn.1⟩
  · obtain ⟨h1, h2⟩ := H.ext p (mem p hp)
    exact ⟨List.mem_filter.mpr ⟨h1, by simpa using ne p hp⟩, h2⟩
  · intro b o hb
    rcases H.obj b o hb with ⟨ob, hm, ho⟩ | h1
    · refine .inl ⟨ob, List.mem_filter.mpr ⟨hm, ?_⟩, ho⟩
      have : b ≠ L := fun e => by
        have := hqn.2; rw [hq, ← e, hb] at this; cases this
      simpa using this
    · exact .inr h1
  · rcases hp with hp | hp | hp
    · exact List.mem_append_left _ hp
    · exact List.mem_append_right _ (List.mem_append_left _ hp)
    · exact List.mem_append_right _ (List.mem_append_right _ hp)

theorem frs_head {env : Env} {l : List Env} {m : Str → Option Value} {ms : List (Str → Option Value)} {frs : List (Addr × Obj)} (h : FrsOk (env :: l) (m :: ms) frs) : ∃ q r, frs = q :: r ∧ env.frame = some q.1 ∧ NsObj q.2 m ∧ FrsOk l ms r := by
  cases frs with
  | nil => exact h.elim
  | cons q r => exact ⟨q, r, rfl, h.2.1, h.2.2.1, h.2.2.2⟩

theorem fr_back {h h' : Heap} {news : List (Addr × Obj)} {L' : Addr} {m' : Str → Option Value} {q : Addr × Obj} (hab : Γ.hb.objs.size ≤ a.L) (hq : some a.L = some q.1) (F : Fr Γ.hb L' h' m') (N : News Γ.hb L' h' news) (hm : q ∈ news) (hn : NsObj q.2 m) : Fr Γ.hb a.L h' m := by
  obtain ⟨es, ep, h1, h2, h3⟩ := hn
  have hq : a.L = q.1 := Option.some.inj hq
  rw [hq] at hab ⊢
  exact ⟨⟨q.2, es, ep, (N q hm).1, h1, h2, h3⟩, F.keep, hab⟩

theorem news_back {h' : Heap} {news : List (Addr × Obj)} {L L' : Addr} (N : News Γ.hb L' h' news) : News Γ.hb L h' (news.filter fun p => p.1 ≠ L) := fun p hp => by
  obtain ⟨h1, h2⟩ := List.mem_filter.mp hp
  exact ⟨(N p h1).1, by simpa using h2, (N p h1).2.2⟩

theorem St.back {h' : Heap} (Lc : Locs a μ m cs) (hab : Γ.hb.objs.size ≤ a.L) (ho : a'.outer = a.env :: a.outer) (hm : a'.om = m :: a.om) (S : St Γ a' (cs ++ ext) σ μ' h') : St Γ a ext σ μ h' := by
  obtain ⟨m', news, cs', frs, F, N, H, _, Fo⟩ := S
  rw [ho, hm] at Fo
  obtain ⟨q, r, rfl, h1, h2, h3⟩ := frs_head Fo
  obtain ⟨H', _, hqn⟩ := hold_back (L := a.L) (Option.some.inj h1).symm H
  exact ⟨m, _, cs, r, fr_back (h := h') hab h1 F N hqn h2, news_back N, H', Lc, h3⟩

theorem aok_deeper {A : Around} (hA : AOk a (n + 1) A) (ho : a'.outer = a.env :: a.outer) : AOk a' n (A.deeper a'.env) := by
  refine ⟨?_, hA.hh, ?_, ?_⟩
  · rw [ho]; exact Around.frames_deeper hA.fr
  · have := hA.dp
    show A.depth + 1 + 2 * n < recursionLimit
    omega
  · have := hA.un
    show A.units + 3 + 8 * n + 100 < cLine
    omega

theorem code_body {oc pm dV kV doc cdv ct : Value} {od an : Option Addr} {osl : Array (Option Value)} {f : Addr} {name qual : Str} {params : Arguments} {body : List Stmt} {scope : Scope} {args : List MV} {kw mb : List (Str × MV)} {P : KP} {X : XP} (rest : List Str)
    (ho : Γ.K.lookup f = some ⟨oc, od, .func (fnOf name qual params body scope dV kV doc pm an cdv ct), osl⟩) (hcd : codeIn Γ.K cdv qual = true)
    (hbind : ∀ (s : Shared) vs kws, Γ.K.In s.heap → R2 VR vs args → R2 BR kws kw → ∃ binds, BindsTo s (fnOf name qual params body scope dV kV doc pm an cdv ct) ⟨vs, kws⟩ binds ∧ R2 BR binds mb)
    (hloc : ∀ y ∈ mb, scope.names.lookup y.1 = some .local) (hnd : (mb.map (·.1)).Nodup)
    (hW : WS Γ (CodeP Γ) scope n body (locals0 mb rest) σ (fun fl _ σ' => match fl with | .ret v => P v σ' | .next => P .none σ' | _ => False) X)
    (hcell : ∀ x ∈ scope.names, x.2 ≠ .cell) (hco : scope.isCoroutine = false) (hgen : scope.isGenerator = false) (hk : scope.kind = .function) : CodeP Γ n (.ref f) args kw σ P X := by
  intro a A ext μ s fv vs kws R hA S hf hv hkw q xp
  obtain rfl : fv = _ := hf
  obtain ⟨m, news, cs, frs, F, N, H, Lc, Fo⟩ := S
  have XX := Γ.X.keeps F.keep
  obtain ⟨binds, hb, hbr⟩ := hbind s vs kws XX hv hkw
  obtain ⟨oL, es, ep, hL, hLd, hLk, hLf⟩ := F.ns
  have hLt := Heap.lt_size hL
  have nm := BR.names hbr
  have hdp : A.depth < recursionLimit := by have := hA.dp; omega
  have hab := F.above
  refine codeAny_call_def (fd := fnOf name qual params body scope dV kV doc pm an cdv ct) (body := body) (binds := binds) hdp (XX _ _ ho) rfl (Γ.T.nolimit.keeps F.keep) (codeRec_of XX hcd) rfl hb hcell ?_ (fun h₁ hns hk₁ => ?_) hco hgen hk
  · intro y hy
    have : y.1 ∈ mb.map (·.1) := nm ▸ List.mem_map_of_mem hy
    obtain ⟨z, hz, e⟩ := List.mem_map.mp this
    rw [← e]; exact hloc z hz
  let a' : Act := { nm := qual, scope := scope, L := s.heap.objs.size, fa := f, cd := cdv, cl := [], outer := a.env :: a.outer, om := m :: a.om, hk := hk }
  have hbL : Γ.hb.get? a.L = none := hb_fresh F
  have hσL : σ a.L = none := by
    cases e : σ a.L with
    | none => rfl
    | some o =>
      rcases H.obj _ _ e with ⟨ob, hm, _⟩ | ⟨ob, hm, _⟩
      · exact absurd rfl (N _ hm).2.1
      · have := Γ.X _ _ hm; rw [hbL] at this; cases this
  have hnL : ∀ q ∈ news, q.1 ≠ a.L := fun q hq => (N q hq).2.1
  have S' : St Γ a' (cs ++ ext) σ (locals0 mb rest) h₁ := by
    refine ⟨_, (a.L, oL) :: news, [], (a.L, oL) :: frs, ⟨hns, fun b o e => hk₁ b o (F.keep b o e), Nat.le_trans F.above (Nat.le_of_lt hLt)⟩, ?_, ?_, ?_, ?_⟩
    · intro p hp
      rcases List.mem_cons.mp hp with rfl | hp
      · exact ⟨hk₁ _ _ hL, Nat.ne_of_lt hLt, hbL⟩
      · exact ⟨hk₁ _ _ (N p hp).1, Nat.ne_of_lt (Heap.lt_size (N p hp).1), (N p hp).2.2⟩
    · have pm : ((([] : List (Addr × Obj)) ++ ((a.L, oL) :: frs ++ (cs ++ ext))).map (·.1)).Perm (((a.L, oL) :: (cs ++ (frs ++ ext))).map (·.1)) := by
        exact List.Perm.map _ (List.Perm.cons _ (perm3 _ _ _))
      refine ⟨?_, pm.nodup_iff.mpr ?_, ?_, ?_⟩
      · rw [List.map_cons, List.nodup_cons]
        refine ⟨fun hm => ?_, H.nd⟩
        obtain ⟨p, hp, e⟩ := List.mem_map.mp hm
        exact hnL p hp e
      · rw [List.map_cons, List.nodup_cons]
        refine ⟨fun hm => ?_, H.ndx⟩
        obtain ⟨p, hp, e⟩ := List.mem_map.mp hm
        exact hnL p (H.ext p hp).1 e
      · intro p hp
        rcases List.mem_cons.mp hp with rfl | hp
        · exact ⟨.head _, hσL⟩
        · have : p ∈ cs ++ (frs ++ ext) := by
            rcases List.mem_append.mp hp with hp | hp
            · exact List.mem_append_right _ (List.mem_append_left _ hp)
            · rcases List.mem_append.mp hp with hp | hp
              · exact List.mem_append_left _ hp
              · exact List.mem_append_right _ (List.mem_append_right _ hp)
          exact ⟨.tail _ (H.ext p this).1, (H.ext p this).2⟩
      · intro b o hb
        rcases H.obj b o hb with ⟨ob, hm, ho⟩ | h1
        · exact .inl ⟨ob, .tail _ hm, ho⟩
        · exact .inr h1
    · intro x d hx
      have hm := locals0_get hx
      refine .inl ⟨hloc _ hm, ?_⟩
      obtain ⟨v, h1, h2⟩ := BR.mem hbr hm
      refine ⟨v, lookup_of_nodup ?_ (List.mem_reverse.mpr h1), h2⟩
      rw [List.map_reverse]
      exact ((List.reverse_perm _).nodup_iff).mpr (nm ▸ hnd)
    · exact ⟨a.hk, rfl, ⟨es, ep, hLd, hLk, hLf⟩, Fo⟩
  have hA' : AOk a' n (A.deeper a'.env) := aok_deeper hA rfl
  refine sWS body a' (A.deeper a'.env) (cs ++ ext) _ σ _ X { s with heap := h₁, toks := s.toks + binds.length } _ _ rfl hA' S' hW ?_ ?_
  · intro fl μ₂ σ₂ h₂ t₂ fv hP S₂ hr
    have back := S₂.back (a := a) (ext := ext) Lc hab rfl rfl
    cases fl with
    | next => cases fv <;> first | exact hr.elim | exact q .none σ₂ h₂ t₂ _ hP back rfl
    | ret d => cases fv <;> first | exact hr.elim | exact q d σ₂ h₂ t₂ _ hP back hr
    | brk => exact hP.elim
    | cont => exact hP.elim
  · intro C msg σ₂ h₂ t₂ e hX x₂
    refine XSt.leave hA'.fr x₂ fun h₃ m₃ news₃ cs₃ frs₃ B t tk F₃ N₃ H₃ Fo₃ b3 b4 hw ht hn => ?_
    obtain ⟨q₃, r₃, rfl, g1, g2, g3⟩ := frs_head Fo₃
    obtain ⟨H', hne, hqn⟩ := hold_back (L := a.L) (Option.some.inj g1).symm H₃
    refine xp C msg σ₂ h₃ t₂ e hX (xst_iff.mpr (.inr (.inl ⟨m, _, cs, r₃, B, t, tk, fr_back (h := h₃) hab g1 F₃ N₃ hqn g2, news_back N₃, H', g3, b3, ?_, hw, ht, hn⟩)))
    intro p hp hp2
    obtain ⟨k1, k2⟩ := List.mem_filter.mp hp
    refine b4 p k1 fun hm => ?_
    rw [List.map_cons] at hm
    rcases List.mem_cons.mp hm with e | hm
    · have : p.1 ≠ a.L := by simpa using k2
      exact this (e.trans (Option.some.inj g1).symm)
    · exact hp2 hm
end
end Mine

open PySem PySem.W PyProof.Rows PySem.Calls
set_option Elab.async false
set_option autoImplicit false
namespace Mine

section
variable {Γ : Rt} {n : Nat} {σ : MH} {P : KP} {X : XP}

theorem code_make {C fI : Addr} {args : List MV} {kw : List (Str × MV)} (hm : makesIn Γ.K C = true) (hi : findIn Γ.K (.ref C) "__init__" = some (some (.ref fI))) (hf : typeIn Γ.K (.ref fI) = some (.type "function"))
    (hc : ∀ x dx, σ dx = none → σ x = none → x ≠ dx → CodeP Γ n (.ref fI) (.ref x :: args) kw (upd (upd σ dx (.ns [])) x (.inst C dx)) (fun v σ' => v = .none ∧ P (.ref x) σ') X) : CodeP Γ (n + 1) (.ref C) args kw σ P X := by
  intro a A ext μ s fv vs kws R hA S hfv hv hkw q xp
  obtain rfl : fv = _ := hfv
  obtain ⟨m, news, cs, frs, F, N, H, Lc, Fo⟩ := S
  refine make_K F N (Γ.X.keeps F.keep) hm hi hf fun x dx h' F' N' hf1 hf2 => ?_
  have N1 : News Γ.hb a.L h' ((dx, emptyDict) :: news) := fun p hp => N' p (.tail _ hp)
  have n1 := H.fresh Γ.X N1 hf1
  have H1 := H.alloc (o := .ns []) hf1 (show OR Γ dx emptyDict (.ns []) from ⟨[], ⟨#[], _, ⟨rfl, rfl, rfl⟩, rfl, fun e he => by simp at he, .nil, List.nodup_nil⟩, .nil⟩)
  have lt : ∀ p ∈ (dx, emptyDict) :: news, p.1 < x := by
    intro p hp
    rcases List.mem_cons.mp hp with rfl | hp
    · exact hf2
    · exact Nat.lt_trans (hf1 p hp) hf2
  have n2 := H1.fresh Γ.X N' lt
  have H2 := H1.alloc (o := .inst C dx) lt (show OR Γ x (instObj C dx) (.inst C dx) from rfl)
  have hne : x ≠ dx := Nat.ne_of_gt hf2
  have n2' : σ x = none := by unfold upd at n2; rwa [if_neg hne] at n2
  have hA' : AOk a (n + 1) (A.under (.builtin "type.__call__" ⟨.ref C :: vs, kws⟩)) := by
    refine ⟨hA.fr, hA.hh, ?_, ?_⟩
    · have := hA.dp
      show A.depth + 1 + 2 * (n + 1) < recursionLimit
      omega
    · have := hA.un
      show A.units + 1 + 8 * (n + 1) + 100 < cLine
      omega
  refine hc x dx n1 n2' hne a _ ext μ { s with heap := h' } _ (.ref x :: vs) kws _ hA' ⟨m, _, cs, frs, F', N', H2, Lc, Fo⟩ rfl (.cons rfl hv) hkw ?_ ?_
  · rintro d σ₂ h₂ t₂ v ⟨rfl, hP⟩ S₂ hr
    exact ⟨hr, q (.ref x) σ₂ h₂ t₂ (.ref x) hP S₂ rfl⟩
  · intro C' msg σ₂ h₂ t₂ e hX x₂
    exact xp C' msg σ₂ h₂ t₂ e hX x₂
end
end Mine

open PySem PySem.W PyProof.Rows PySem.Calls
set_option Elab.async false
set_option autoImplicit false
namespace Mine

abbrev sLst (xs : List Str) : List MV := xs.map .str

theorem upd_same {σ : MH} {a : Addr} {o : MO} : upd σ a o a = some o := by simp [upd]
theorem upd_ne {σ : MH} {a b : Addr} {o : MO} (h : b ≠ a) : upd σ a o b = σ b := by simp [upd, h]
theorem upd_upd {σ : MH} {a : Addr} {o o' : MO} : upd (upd σ a o) a o' = upd σ a o' := by
  funext b; unfold upd; split <;> rfl
theorem upd_id {σ : MH} {a : Addr} {o : MO} (h : σ a = some o) : upd σ a o = σ := by
  funext b; unfold upd; split
  · rename_i e; subst e; exact h.symm
  · rfl
theorem ne_of_new {σ : MH} {a k : Addr} {o : MO} (hk : σ k = none) (h : σ a = some o) : a ≠ k := fun e => by rw [e, hk] at h; cases h
theorem ne_of_mo {σ : MH} {a b : Addr} {o o' : MO} (h : σ a = some o) (h' : σ b = some o') (n : o ≠ o') : a ≠ b := fun e => by
  rw [e, h'] at h; exact n (Option.some.inj h).symm

/-- what was there is there -/
def Grow (σ σ' : MH) : Prop := ∀ a o, σ a = some o → σ' a = some o
theorem Grow.refl {σ : MH} : Grow σ σ := fun _ _ h => h
theorem Grow.new {σ σ' : MH} (g : Grow σ σ') {k : Addr} {o : MO} (h : σ k = none) : Grow σ (upd σ' k o) := fun a x e => by
  rw [upd_ne (ne_of_new h e)]; exact g a x e
theorem Grow.trans {σ σ' σ'' : MH} (g : Grow σ σ') (g' : Grow σ' σ'') : Grow σ σ'' := fun a o h => g' a o (g a o h)
theorem Grow.none {σ σ' : MH} (g : Grow σ σ') {a : Addr} (h : σ' a = none) : σ a = none := by
  cases e : σ a with
  | none => rfl
  | some o => rw [g a o e] at h; cases h

theorem dget_cons {V : Type} {q : Str × V} {r : List (Str × V)} {k : Str} : dget (q :: r) k = if q.1 = k then some q.2 else dget r k := by
  unfold dget; rw [List.find?_cons]
  by_cases h : q.1 = k <;> simp [h]
theorem dget_map {V : Type} {k k' : Str} {v : V} : ∀ {es : List (Str × V)}, dget (es.map fun q => if q.1 = k then (q.1, v) else q) k' = if k' = k ∧ (es.any fun q => decide (q.1 = k)) = true then some v else dget es k'
  | [] => by simp [dget]
  | q :: r => by
    rw [List.map_cons, dget_cons, dget_cons, dget_map (es := r), List.any_cons]
    by_cases h1 : q.1 = k
    · by_cases h2 : k' = k
      · simp [h1, h2]
      · have : ¬ k = k' := fun e => h2 e.symm
        simp [h1, h2, this]
    · by_cases h2 : k' = k
      · subst h2; simp only [h1, if_false, decide_false, Bool.false_or]
      · simp [h1, h2]
theorem dget_none_of {V : Type} {k : Str} : ∀ {es : List (Str × V)}, ¬ (es.any fun q => decide (q.1 = k)) = true → dget es k = none
  | [], _ => rfl
  | q :: r, h => by
    rw [List.any_cons] at h
    simp only [Bool.or_eq_true, decide_eq_true_eq, not_or] at h
    rw [dget_cons, if_neg h.1]
    exact dget_none_of (by simpa using h.2)
theorem dget_append {V : Type} {k : Str} : ∀ {es fs : List (Str × V)}, dget (es ++ fs) k = (dget es k).or (dget fs k)
  | [], _ => by simp [dget]
  | q :: r, fs => by
    rw [List.cons_append, dget_cons, dget_cons, dget_append (es := r)]
    by_cases h : q.1 = k <;> simp [h]
theorem dget_dput {V : Type} {es : List (Str × V)} {k k' : Str} {v : V} : dget (dput es k v) k' = if k' = k then some v else dget es k' := by
  unfold dput
  by_cases hany : (es.any fun q => decide (q.1 = k)) = true
  · rw [if_pos hany, dget_map]
    simp [hany]
  · rw [if_neg hany, dget_append, dget_cons]
    by_cases hk : k' = k
    · subst hk
      rw [dget_none_of hany]; simp
    · have : ¬ k = k' := fun e => hk e.symm
      simp [hk, this, dget]
theorem dput_length {V : Type} {es : List (Str × V)} {k : Str} {v : V} : (dput es k v).length ≤ es.length + 1 := by
  unfold dput; split <;> simp

section
variable {sc : Scope} {v : Str} {a : Addr} {o : MO} {body : ML → MH → KF → XP → Prop} {P : KF} {X : XP}
theorem forW_list {α : Type} (f : α → MV) (I : List α → ML → MH → Prop) (hnil : ∀ μ σ, I [] μ σ → σ a = some o ∧ P .next μ σ)
    (hcons : ∀ x xs μ σ (Kf : KF), I (x :: xs) μ σ → (∀ μ σ, I xs μ σ → Kf .next μ σ) → (∀ μ σ, I xs μ σ → Kf .cont μ σ) → (∀ μ σ, P .next μ σ → Kf .brk μ σ) → (∀ w μ σ, P (.ret w) μ σ → Kf (.ret w) μ σ) →
      σ a = some o ∧ bindW sc v (f x) μ fun μ₁ => body μ₁ σ Kf X) : ∀ xs μ σ, I xs μ σ → forW sc v a o body (xs.map f) μ σ P X
  | [], μ, σ, h => by
    show forW sc v a o body [] μ σ P X
    unfold forW; exact hnil μ σ h
  | x :: xs, μ, σ, h => by
    show forW sc v a o body (f x :: xs.map f) μ σ P X
    unfold forW
    exact hcons x xs μ σ _ h (fun μ σ h => forW_list f I hnil hcons xs μ σ h) (fun μ σ h => forW_list f I hnil hcons xs μ σ h) (fun _ _ h => h) (fun _ _ _ h => h)
end
end Mine

open PySem PySem.W PyProof.Rows
set_option Elab.async false
namespace Mine
set_option maxRecDepth 100000 in
set_option maxHeartbeats 8000000 in
open_top hd for PySem.Challenge.rw_aa6016_02
end Mine

open PySem PySem.W PyProof.Rows PySem.Calls
set_option Elab.async false
set_option autoImplicit false
set_option maxRecDepth 100000
set_option maxHeartbeats 4000000
namespace Mine
set_option linter.all false
noncomputable abbrev KK (P : Params) : Frag := hd.heap_39 P
theorem wr_of {K : Frag} {C : Addr} {x : String} (h : (findIn K (.ref C) "__setattr__" == some (some (.builtin "object.__setattr__")) && plainOver K C && takerIn K C (Str.ofString x) == some none && hasDictIn K C) = true) : wrOk K C (Str.ofString x) = true := by
  unfold wrOk; rw [h, strOk_ofString]; rfl
section
variable {Γ : Rt} {P : Params}
theorem gl_isinstance : globOf (KK P) (Str.ofString "isinstance") = some (.builtin "isinstance") := by rfl
theorem gl_str : globOf (KK P) (Str.ofString "str") = some (.type "str") := by rfl
theorem rd_Task_dep : rdOk (KK P) 223 (Str.ofString "task_dep") = true := by rfl

theorem flat_str {x : Str} : flatMV (.str x) = true := rfl
/-- the takings: names of the files' makers -/
def takeF (T : List (Str × MV)) (files : List Str) (acc : List MV) : List MV := files.foldl (fun acc f => match dget T f with | some m => if m ∈ acc then acc else acc ++ [m] | none => acc) acc
theorem takeF_cons {T : List (Str × MV)} {f : Str} {fs : List Str} {acc : List MV} : takeF T (f :: fs) acc = takeF T fs (match dget T f with | some m => if m ∈ acc then acc else acc ++ [m] | none => acc) := rfl

theorem dget_val {T : List (Str × MV)} {k : Str} {m : MV} (h : ∀ q ∈ T, ∃ x, q.2 = .str x) (e : dget T k = some m) : ∃ x, m = .str x := by
  induction T with
  | nil => simp [dget] at e
  | cons q r ih =>
    rw [dget_cons] at e
    split at e
    · cases e; exact h q (.head _)
    · exact ih (fun p hp => h p (.tail _ hp)) e

theorem c_add_implicit (hK : Γ.K = KK P) {n : Nat} {σ : MH} {R : KP} {X : XP} {tg task d td dl : Addr} {T es : List (Str × MV)} {files : List Str} {acc : List MV}
    (h1 : σ tg = some (.dict T)) (h2 : σ task = some (.inst 223 d)) (h3 : σ d = some (.ns es)) (h4 : dget es (Str.ofString "task_dep") = some (.ref td)) (h5 : σ td = some (.list acc)) (h6 : σ dl = some (.list (sLst files))) (h7 : td ≠ dl)
    (h8 : ∀ q ∈ T, ∃ x, q.2 = .str x) (h9 : ∀ q ∈ acc, ∃ x, q = .str x) (hl : acc.length + files.length ≤ sizeLine)
    (hR : R .none (upd σ td (.list (takeF T files acc)))) : CodeP Γ (n + 1) (.ref 327) [.ref tg, .ref task, .ref dl] [] σ R X := by
  refine code_body [Str.ofString "dep"] (by rw [hK]; exact rfl) (by rw [hK]; exact rfl) (mb := [(Str.ofString "targets", .ref tg), (Str.ofString "task", .ref task), (Str.ofString "deps_list", .ref dl)]) ?_ ?_ ?_ ?_ ?_ rfl rfl rfl
  · intro s vs kws hX hv hk
    obtain ⟨v1, _, rfl, g1, hv⟩ := hv.cons_inv
    obtain ⟨v2, _, rfl, g2, hv⟩ := hv.cons_inv
    obtain ⟨v3, _, rfl, g3, hv⟩ := hv.cons_inv
    cases hv
    cases hk
    exact ⟨_, .of_eq rfl, .cons ⟨rfl, g1⟩ (.cons ⟨rfl, g2⟩ (.cons ⟨rfl, g3⟩ .nil))⟩
  · simp only [WS, W1, W, WL, WK, WT, WTs, WB, WO, bindW, nameW, List.lookup, ofString_beq, ofString_inj, String.reduceBEq, String.reduceEq, String.reduceBNe, String.reduceNe, ML.get, ML.set, List.map_cons, List.map_nil, locals0,
    List.cons_append, List.nil_append, callW, callOk, plainArg, notSuper, kwNamed, List.all_cons, List.all_nil, List.length_cons, List.length_nil, Bool.and_true, Bool.true_and, Bool.and_self, Bool.not_true, Bool.not_false,
    decide_true, decide_eq_true_eq, beq_self_eq_true, true_and, and_true, if_true, if_false, reduceIte, reduceCtorEq, Option.isSome_some, Option.isSome_none, Nat.reduceAdd, Nat.reduceMul, Nat.reduceLeDiff, Nat.reduceSubDiff, Nat.add_one_sub_one, Nat.zero_lt_succ, Nat.succ_pos, Nat.lt_add_left_iff_pos,
    Bool.false_eq_true, false_and, and_false, behindInMarks, namesOf, Option.map_some, Option.some.injEq, exists_eq_left', exists_eq_left, or_false, false_or, or_self, not_true, not_false_iff, List.mem_cons, List.not_mem_nil, or_false, forall_eq_or_imp, forall_eq]
  · simp only [WS, W1, W, WL, WK, WT, WTs, WB, WO, bindW, nameW, List.lookup, ofString_beq, ofString_inj, String.reduceBEq, String.reduceEq, String.reduceBNe, String.reduceNe, ML.get, ML.set, List.map_cons, List.map_nil, locals0,
    List.cons_append, List.nil_append, callW, callOk, plainArg, notSuper, kwNamed, List.all_cons, List.all_nil, List.length_cons, List.length_nil, Bool.and_true, Bool.true_and, Bool.and_self, Bool.not_true, Bool.not_false,
    decide_true, decide_eq_true_eq, beq_self_eq_true, true_and, and_true, if_true, if_false, reduceIte, reduceCtorEq, Option.isSome_some, Option.isSome_none, Nat.reduceAdd, Nat.reduceMul, Nat.reduceLeDiff, Nat.reduceSubDiff, Nat.add_one_sub_one, Nat.zero_lt_succ, Nat.succ_pos, Nat.lt_add_left_iff_pos,
    Bool.false_eq_true, false_and, and_false, behindInMarks, namesOf, Option.map_some, Option.some.injEq, exists_eq_left', exists_eq_left, or_false, false_or, or_self, not_true, not_false_iff, List.nodup_cons, List.mem_cons, List.not_mem_nil, or_false, not_false_iff, List.nodup_nil, or_self]
  · simp only [WS, W1, W, WL, WK, WT, WTs, WB, WO, bindW, nameW, List.lookup, ofString_beq, ofString_inj, String.reduceBEq, String.reduceEq, String.reduceBNe, String.reduceNe, ML.get, ML.set, List.map_cons, List.map_nil, locals0,
    List.cons_append, List.nil_append, callW, callOk, plainArg, notSuper, kwNamed, List.all_cons, List.all_nil, List.length_cons, List.length_nil, Bool.and_true, Bool.true_and, Bool.and_self, Bool.not_true, Bool.not_false,
    decide_true, decide_eq_true_eq, beq_self_eq_true, true_and, and_true, if_true, if_false, reduceIte, reduceCtorEq, Option.isSome_some, Option.isSome_none, Nat.reduceAdd, Nat.reduceMul, Nat.reduceLeDiff, Nat.reduceSubDiff, Nat.add_one_sub_one, Nat.zero_lt_succ, Nat.succ_pos, Nat.lt_add_left_iff_pos,
    Bool.false_eq_true, false_and, and_false, behindInMarks, namesOf, Option.map_some, Option.some.injEq, exists_eq_left', exists_eq_left, or_false, false_or, or_self, not_true, not_false_iff, h6, iterOf]
    refine ⟨dl, _, _, rfl, h6, rfl, ?_⟩
    refine forW_list .str (fun rest μ σ' => ∃ w acc', μ = [(Str.ofString "targets", some (.ref tg)), (Str.ofString "task", some (.ref task)), (Str.ofString "deps_list", some (.ref dl)), (Str.ofString "dep", w)] ∧ σ' = upd σ td (.list acc') ∧
      takeF T rest acc' = takeF T files acc ∧ (∀ q ∈ acc', ∃ x, q = .str x) ∧ acc'.length + rest.length ≤ sizeLine) ?_ ?_ files _ _ ⟨none, acc, rfl, (upd_id h5).symm, rfl, h9, hl⟩
    · rintro μ σ' ⟨w, acc', rfl, rfl, e, _, _⟩
      rw [upd_ne (Ne.symm h7)]
      refine ⟨h6, ?_⟩
      have e' : acc' = takeF T files acc := e
      rw [e']; exact hR
    · rintro x xs μ σ' Kf ⟨w, acc', rfl, rfl, e, hs, hl'⟩ kn _ _ _
      rw [takeF_cons] at e
      rw [List.length_cons] at hl'
      have n1 : upd σ td (.list acc') tg = some (.dict T) := by rw [upd_ne (ne_of_mo h1 h5 (by simp))]; exact h1
      have n2 : upd σ td (.list acc') task = some (.inst 223 d) := by rw [upd_ne (ne_of_mo h2 h5 (by simp))]; exact h2
      have n3 : upd σ td (.list acc') d = some (.ns es) := by rw [upd_ne (ne_of_mo h3 h5 (by simp))]; exact h3
      have n6 : upd σ td (.list acc') dl = some (.list (sLst files)) := by rw [upd_ne (Ne.symm h7)]; exact h6
      refine ⟨n6, ?_⟩
      have rd := rd_Task_dep (P := P)
      rw [← hK] at rd
      cases hx : dget T x with
      | none =>
        rw [hx] at e
        simp only [WS, W1, W, WL, WK, WT, WTs, WB, WO, bindW, nameW, List.lookup, ofString_beq, ofString_inj, String.reduceBEq, String.reduceEq, String.reduceBNe, String.reduceNe, ML.get, ML.set, List.map_cons, List.map_nil, locals0,
    List.cons_append, List.nil_append, callW, callOk, plainArg, notSuper, kwNamed, List.all_cons, List.all_nil, List.length_cons, List.length_nil, Bool.and_true, Bool.true_and, Bool.and_self, Bool.not_true, Bool.not_false,
    decide_true, decide_eq_true_eq, beq_self_eq_true, true_and, and_true, if_true, if_false, reduceIte, reduceCtorEq, Option.isSome_some, Option.isSome_none, Nat.reduceAdd, Nat.reduceMul, Nat.reduceLeDiff, Nat.reduceSubDiff, Nat.add_one_sub_one, Nat.zero_lt_succ, Nat.succ_pos, Nat.lt_add_left_iff_pos,
    Bool.false_eq_true, false_and, and_false, behindInMarks, namesOf, Option.map_some, Option.some.injEq, exists_eq_left', exists_eq_left, or_false, false_or, or_self, not_true, not_false_iff, cmpW, n1, hx]
        exact kn _ _ ⟨_, acc', rfl, rfl, e, hs, by omega⟩
      | some m =>
        rw [hx] at e
        obtain ⟨nm, rfl⟩ : ∃ nm, m = .str nm := dget_val h8 hx
        have fl : ∀ q ∈ acc', flatMV q = true := fun q hq => by obtain ⟨y, rfl⟩ := hs q hq; rfl
        by_cases hm : MV.str nm ∈ acc'
        · simp only [hm, if_true] at e
          simp only [WS, W1, W, WL, WK, WT, WTs, WB, WO, bindW, nameW, List.lookup, ofString_beq, ofString_inj, String.reduceBEq, String.reduceEq, String.reduceBNe, String.reduceNe, ML.get, ML.set, List.map_cons, List.map_nil, locals0,
    List.cons_append, List.nil_append, callW, callOk, plainArg, notSuper, kwNamed, List.all_cons, List.all_nil, List.length_cons, List.length_nil, Bool.and_true, Bool.true_and, Bool.and_self, Bool.not_true, Bool.not_false,
    decide_true, decide_eq_true_eq, beq_self_eq_true, true_and, and_true, if_true, if_false, reduceIte, reduceCtorEq, Option.isSome_some, Option.isSome_none, Nat.reduceAdd, Nat.reduceMul, Nat.reduceLeDiff, Nat.reduceSubDiff, Nat.add_one_sub_one, Nat.zero_lt_succ, Nat.succ_pos, Nat.lt_add_left_iff_pos,
    Bool.false_eq_true, false_and, and_false, behindInMarks, namesOf, Option.map_some, Option.some.injEq, exists_eq_left', exists_eq_left, or_false, false_or, or_self, not_true, not_false_iff, cmpW, n1, n2, n3, h4, hx, attrW, itemW, rd, plainMV, upd_same, flat_str, hm, fl, implies_true]
          exact ⟨fun q hq => fl q hq, kn _ _ ⟨_, acc', rfl, rfl, e, hs, by omega⟩⟩
        · simp only [hm, if_false] at e
          simp only [WS, W1, W, WL, WK, WT, WTs, WB, WO, bindW, nameW, List.lookup, ofString_beq, ofString_inj, String.reduceBEq, String.reduceEq, String.reduceBNe, String.reduceNe, ML.get, ML.set, List.map_cons, List.map_nil, locals0,
    List.cons_append, List.nil_append, callW, callOk, plainArg, notSuper, kwNamed, List.all_cons, List.all_nil, List.length_cons, List.length_nil, Bool.and_true, Bool.true_and, Bool.and_self, Bool.not_true, Bool.not_false,
    decide_true, decide_eq_true_eq, beq_self_eq_true, true_and, and_true, if_true, if_false, reduceIte, reduceCtorEq, Option.isSome_some, Option.isSome_none, Nat.reduceAdd, Nat.reduceMul, Nat.reduceLeDiff, Nat.reduceSubDiff, Nat.add_one_sub_one, Nat.zero_lt_succ, Nat.succ_pos, Nat.lt_add_left_iff_pos,
    Bool.false_eq_true, false_and, and_false, behindInMarks, namesOf, Option.map_some, Option.some.injEq, exists_eq_left', exists_eq_left, or_false, false_or, or_self, not_true, not_false_iff, cmpW, n1, n2, n3, h4, hx, attrW, itemW, rd, plainMV, upd_same, flat_str, hm, fl, implies_true, methW, builtinW, upd_upd, decide_false]
          refine ⟨fun q hq => fl q hq, by omega, kn _ _ ⟨_, _, rfl, rfl, e, ?_, by simp; omega⟩⟩
          intro q hq
          rcases List.mem_append.mp hq with hq | hq
          · exact hs q hq
          · exact ⟨nm, by simpa using hq⟩
  · decide
end
end Mine

open PySem PySem.W PyProof.Rows PySem.Calls
set_option Elab.async false
set_option autoImplicit false
set_option maxRecDepth 100000
set_option maxHeartbeats 4000000
set_option linter.all false
namespace Mine

def okS (x : Str) : Prop := PyData.strOk x = true ∧ x.length ≤ 100

/-- a task, as the laws know it -/
structure TR where
  (t d fd td tg : Addr) (es : List (Str × MV)) (name : Str) (files outs : List Str)

structure TaskAt (σ : MH) (r : TR) : Prop where
  i : σ r.t = some (.inst 223 r.d)
  n : σ r.d = some (.ns r.es)
  nm : dget r.es (Str.ofString "name") = some (.str r.name)
  gf : dget r.es (Str.ofString "file_dep") = some (.ref r.fd)
  gd : dget r.es (Str.ofString "task_dep") = some (.ref r.td)
  gt : dget r.es (Str.ofString "targets") = some (.ref r.tg)
  f : σ r.fd = some (.list (sLst r.files))
  o : σ r.tg = some (.list (sLst r.outs))
  okn : okS r.name
  okf : ∀ x ∈ r.files, okS x
  oko : ∀ x ∈ r.outs, okS x

theorem TaskAt.upd {σ : MH} {r : TR} (h : TaskAt σ r) {a : Addr} {T T' : List (Str × MV)} (e : σ a = some (.dict T)) : TaskAt (Mine.upd σ a (.dict T')) r :=
  ⟨by rw [upd_ne (ne_of_mo h.i e (by simp))]; exact h.i, by rw [upd_ne (ne_of_mo h.n e (by simp))]; exact h.n, h.nm, h.gf, h.gd, h.gt,
    by rw [upd_ne (ne_of_mo h.f e (by simp))]; exact h.f, by rw [upd_ne (ne_of_mo h.o e (by simp))]; exact h.o, h.okn, h.okf, h.oko⟩

/-- outs made by name -/
def addOuts (name : Str) : List (Str × MV) → List Str → List (Str × MV) × Bool
  | T, [] => (T, true)
  | T, f :: fs => if (dget T f).isSome then (T, false) else addOuts name (dput T f (.str name)) fs
theorem addOuts_cons {name f : Str} {T : List (Str × MV)} {fs : List Str} : addOuts name T (f :: fs) = if (dget T f).isSome then (T, false) else addOuts name (dput T f (.str name)) fs := rfl
def addAll : List (Str × MV) → List TR → List (Str × MV) × Bool
  | T, [] => (T, true)
  | T, r :: rs => if (addOuts r.name T r.outs).2 then addAll (addOuts r.name T r.outs).1 rs else (addOuts r.name T r.outs)

theorem addAll_cons {T : List (Str × MV)} {r : TR} {rs : List TR} : addAll T (r :: rs) = if (addOuts r.name T r.outs).2 then addAll (addOuts r.name T r.outs).1 rs else (addOuts r.name T r.outs) := rfl

def strVals (T : List (Str × MV)) : Prop := ∀ q ∈ T, ∃ x, q.2 = .str x ∧ okS x

theorem strVals_put {T : List (Str × MV)} {k x : Str} (h : strVals T) (hx : okS x) : strVals (dput T k (.str x)) := by
  intro q hq
  unfold dput at hq
  split at hq
  · obtain ⟨p, hp, rfl⟩ := List.mem_map.mp hq
    split
    · exact ⟨x, rfl, hx⟩
    · exact h p hp
  · rcases List.mem_append.mp hq with hq | hq
    · exact h q hq
    · simp only [List.mem_singleton] at hq; subst hq; exact ⟨x, rfl, hx⟩
theorem strVals_get {T : List (Str × MV)} {k : Str} {m : MV} (h : strVals T) (e : dget T k = some m) : ∃ x, m = .str x ∧ okS x := by
  induction T with
  | nil => simp [dget] at e
  | cons q r ih =>
    rw [dget_cons] at e
    split at e
    · cases e; exact h q (.head _)
    · exact ih (fun p hp => h p (.tail _ hp)) e

/-- so many places at once -/
def updL (σ : MH) (l : List (Addr × MO)) : MH := l.foldl (fun σ q => upd σ q.1 q.2) σ
theorem updL_ne {l : List (Addr × MO)} : ∀ {σ : MH} {a : Addr}, (∀ q ∈ l, a ≠ q.1) → updL σ l a = σ a := by
  induction l with
  | nil => intro σ a _; rfl
  | cons q r ih =>
    intro σ a h
    show updL (upd σ q.1 q.2) r a = σ a
    rw [ih fun p hp => h p (.tail _ hp), upd_ne (h q (.head _))]
theorem updL_mem {l : List (Addr × MO)} : ∀ {σ : MH} {a : Addr} {o : MO}, (l.map (·.1)).Nodup → (a, o) ∈ l → updL σ l a = some o := by
  induction l with
  | nil => intro σ a o _ h; cases h
  | cons q r ih =>
    intro σ a o nd h
    rw [List.map_cons, List.nodup_cons] at nd
    show updL (upd σ q.1 q.2) r a = some o
    rcases List.mem_cons.mp h with e | h2
    · subst e
      rw [updL_ne fun p hp e => nd.1 (List.mem_map.mpr ⟨p, hp, e.symm⟩)]
      exact upd_same
    · exact ih nd.2 h2

section
variable {Γ : Rt} {P : Params}
theorem rd_Task_name : rdOk (KK P) 223 (Str.ofString "name") = true := by rfl
theorem rd_Task_targets : rdOk (KK P) 223 (Str.ofString "targets") = true := by rfl
theorem rd_Task_file : rdOk (KK P) 223 (Str.ofString "file_dep") = true := by rfl
theorem gl_TaskControl : globOf (KK P) (Str.ofString "TaskControl") = some (.ref 368) := by rfl
theorem st_add : stOk (KK P) 368 (Str.ofString "add_implicit_task_dep") 327 = true := by rfl
theorem st_set : stOk (KK P) 368 (Str.ofString "set_implicit_deps") 317 = true := by rfl
theorem kp_327 : keepIn (KK P) (.ref 327) = true := by rfl
theorem kp_317 : keepIn (KK P) (.ref 317) = true := by rfl

theorem ex_InvalidTask : nsIn (KK P) mainGlobals (Str.ofString "InvalidTask") = some (some (.ref 78)) ∧ excIn (KK P) 78 [.type "Exception", .type "BaseException", .type "object"] "Exception.__new__" = true := ⟨by rfl, by kernel_rfl⟩

theorem c_set_implicit (hK : Γ.K = KK P) {n : Nat} {σ : MH} {R : KP} {X : XP} {tg tl : Addr} {o : MO} {T : List (Str × MV)} {batch : List TR} {D : TR → List MV}
    (hpct : ∀ x y z, okS x → okS y → okS z → ∃ T, PctOk (Str.ofString "Two different tasks can't have a common target.'%s' is a target for %s and %s.") [.str x, .str y, .str z] T)
    (hn : σ 368 = some .kob)
    (h1 : σ tg = some (.dict T)) (hT : strVals T) (h2 : σ tl = some o) (h3 : iterOf o = some (batch.map fun r => .ref r.t)) (hb : ∀ r ∈ batch, TaskAt σ r)
    (hD : ∀ r ∈ batch, σ r.td = some (.list (D r)) ∧ (∀ q ∈ D r, ∃ x, q = .str x) ∧ (D r).length + r.files.length ≤ sizeLine)
    (hnd : (batch.map TR.td).Nodup) (hdf : ∀ r ∈ batch, ∀ r' ∈ batch, r.td ≠ r'.fd) (hdl : ∀ r ∈ batch, r.td ≠ tl) (hsz : T.length + (batch.map fun r => r.outs.length).sum < sizeLine)
    (hX : ∀ T' msg σ', addAll T batch = (T', false) → Grow (upd σ tg (.dict T')) σ' → X 78 msg σ')
    (hR : ∀ T', addAll T batch = (T', true) → R .none (updL (upd σ tg (.dict T')) (batch.map fun r => (r.td, .list (takeF T' r.files (D r)))))) : CodeP Γ (n + 2) (.ref 317) [.ref tg, .ref tl] [] σ R X := by
  refine code_body [Str.ofString "task", Str.ofString "target", Str.ofString "msg"] (by rw [hK]; exact rfl) (by rw [hK]; exact rfl) (mb := [(Str.ofString "targets", .ref tg), (Str.ofString "task_list", .ref tl)]) ?_ ?_ ?_ ?_ ?_ rfl rfl rfl
  · intro s vs kws hX hv hk
    obtain ⟨v1, _, rfl, g1, hv⟩ := hv.cons_inv
    obtain ⟨v2, _, rfl, g2, hv⟩ := hv.cons_inv
    cases hv
    cases hk
    exact ⟨_, .of_eq rfl, .cons ⟨rfl, g1⟩ (.cons ⟨rfl, g2⟩ .nil)⟩
  · simp only [WS, W1, W, WL, WK, WT, WTs, WB, WO, bindW, nameW, List.lookup, ofString_beq, ofString_inj, String.reduceBEq, String.reduceEq, String.reduceBNe, String.reduceNe, ML.get, ML.set, List.map_cons, List.map_nil, locals0,
    List.cons_append, List.nil_append, callW, callOk, plainArg, notSuper, kwNamed, List.all_cons, List.all_nil, List.length_cons, List.length_nil, Bool.and_true, Bool.true_and, Bool.and_self, Bool.not_true, Bool.not_false,
    decide_true, decide_eq_true_eq, beq_self_eq_true, true_and, and_true, if_true, if_false, reduceIte, reduceCtorEq, Option.isSome_some, Option.isSome_none, Nat.reduceAdd, Nat.reduceMul, Nat.reduceLeDiff, Nat.reduceSubDiff, Nat.add_one_sub_one, Nat.zero_lt_succ, Nat.succ_pos, Nat.lt_add_left_iff_pos,
    Bool.false_eq_true, false_and, and_false, behindInMarks, namesOf, Option.map_some, Option.some.injEq, exists_eq_left', exists_eq_left, or_false, false_or, or_self, not_true, not_false_iff, List.mem_cons, List.not_mem_nil, or_false, forall_eq_or_imp, forall_eq]
  · simp only [WS, W1, W, WL, WK, WT, WTs, WB, WO, bindW, nameW, List.lookup, ofString_beq, ofString_inj, String.reduceBEq, String.reduceEq, String.reduceBNe, String.reduceNe, ML.get, ML.set, List.map_cons, List.map_nil, locals0,
    List.cons_append, List.nil_append, callW, callOk, plainArg, notSuper, kwNamed, List.all_cons, List.all_nil, List.length_cons, List.length_nil, Bool.and_true, Bool.true_and, Bool.and_self, Bool.not_true, Bool.not_false,
    decide_true, decide_eq_true_eq, beq_self_eq_true, true_and, and_true, if_true, if_false, reduceIte, reduceCtorEq, Option.isSome_some, Option.isSome_none, Nat.reduceAdd, Nat.reduceMul, Nat.reduceLeDiff, Nat.reduceSubDiff, Nat.add_one_sub_one, Nat.zero_lt_succ, Nat.succ_pos, Nat.lt_add_left_iff_pos,
    Bool.false_eq_true, false_and, and_false, behindInMarks, namesOf, Option.map_some, Option.some.injEq, exists_eq_left', exists_eq_left, or_false, false_or, or_self, not_true, not_false_iff, List.nodup_cons, List.mem_cons, List.not_mem_nil, or_false, not_false_iff, List.nodup_nil, or_self]
  · simp only [WS, W1, W, WL, WK, WT, WTs, WB, WO, bindW, nameW, List.lookup, ofString_beq, ofString_inj, String.reduceBEq, String.reduceEq, String.reduceBNe, String.reduceNe, ML.get, ML.set, List.map_cons, List.map_nil, locals0,
    List.cons_append, List.nil_append, callW, callOk, plainArg, notSuper, kwNamed, List.all_cons, List.all_nil, List.length_cons, List.length_nil, Bool.and_true, Bool.true_and, Bool.and_self, Bool.not_true, Bool.not_false,
    decide_true, decide_eq_true_eq, beq_self_eq_true, true_and, and_true, if_true, if_false, reduceIte, reduceCtorEq, Option.isSome_some, Option.isSome_none, Nat.reduceAdd, Nat.reduceMul, Nat.reduceLeDiff, Nat.reduceSubDiff, Nat.add_one_sub_one, Nat.zero_lt_succ, Nat.succ_pos, Nat.lt_add_left_iff_pos,
    Bool.false_eq_true, false_and, and_false, behindInMarks, namesOf, Option.map_some, Option.some.injEq, exists_eq_left', exists_eq_left, or_false, false_or, or_self, not_true, not_false_iff]
    refine ⟨tl, _, _, rfl, h2, h3, ?_⟩
    have tlg : tl ≠ tg := fun e => by rw [e, h1] at h2; cases h2; cases h3
    have rd1 := rd_Task_name (P := P)
    have rd2 := rd_Task_targets (P := P)
    have rd3 := rd_Task_file (P := P)
    have gl := gl_TaskControl (P := P)
    have st := st_add (P := P)
    have kp := kp_327 (P := P)
    have ex := ex_InvalidTask (P := P)
    rw [← hK] at rd1 rd2 rd3 gl st kp ex
    have at_ : ∀ (T' : List (Str × MV)) r, r ∈ batch → TaskAt (upd σ tg (.dict T')) r := fun T' r hr => (hb r hr).upd h1
    refine forW_list (fun r : TR => .ref r.t) (fun rest μ σ' => ∃ w1 w2 w3 T', μ = [(Str.ofString "targets", some (.ref tg)), (Str.ofString "task_list", some (.ref tl)), (Str.ofString "task", w1), (Str.ofString "target", w2), (Str.ofString "msg", w3)] ∧
      σ' = upd σ tg (.dict T') ∧ addAll T' rest = addAll T batch ∧ strVals T' ∧ (∀ r ∈ rest, r ∈ batch) ∧ T'.length + (rest.map fun r => r.outs.length).sum < sizeLine) ?_ ?_ batch _ _ ⟨none, none, none, T, rfl, (upd_id h1).symm, rfl, hT, fun _ h => h, hsz⟩
    · rintro μ σ' ⟨w1, w2, w3, T', rfl, rfl, e, hT', _, _⟩
      have tl1 : upd σ tg (.dict T') tl = some o := by rw [upd_ne tlg]; exact h2
      have e' : addAll T batch = (T', true) := e.symm
      refine ⟨tl1, ?_⟩
      simp only [WS, W1, W, WL, WK, WT, WTs, WB, WO, bindW, nameW, List.lookup, ofString_beq, ofString_inj, String.reduceBEq, String.reduceEq, String.reduceBNe, String.reduceNe, ML.get, ML.set, List.map_cons, List.map_nil, locals0,
    List.cons_append, List.nil_append, callW, callOk, plainArg, notSuper, kwNamed, List.all_cons, List.all_nil, List.length_cons, List.length_nil, Bool.and_true, Bool.true_and, Bool.and_self, Bool.not_true, Bool.not_false,
    decide_true, decide_eq_true_eq, beq_self_eq_true, true_and, and_true, if_true, if_false, reduceIte, reduceCtorEq, Option.isSome_some, Option.isSome_none, Nat.reduceAdd, Nat.reduceMul, Nat.reduceLeDiff, Nat.reduceSubDiff, Nat.add_one_sub_one, Nat.zero_lt_succ, Nat.succ_pos, Nat.lt_add_left_iff_pos,
    Bool.false_eq_true, false_and, and_false, behindInMarks, namesOf, Option.map_some, Option.some.injEq, exists_eq_left', exists_eq_left, or_false, false_or, or_self, not_true, not_false_iff]
      refine ⟨tl, _, _, rfl, tl1, h3, ?_⟩
      have tdg : ∀ r ∈ batch, r.td ≠ tg := fun r hr => ne_of_mo (hD r hr).1 h1 (by simp)
      refine forW_list (fun r : TR => .ref r.t) (fun rest μ σ' => ∃ w1 done, done ++ rest = batch ∧ μ = [(Str.ofString "targets", some (.ref tg)), (Str.ofString "task_list", some (.ref tl)), (Str.ofString "task", w1), (Str.ofString "target", w2), (Str.ofString "msg", w3)] ∧
        σ' = updL (upd σ tg (.dict T')) (done.map fun r => (r.td, .list (takeF T' r.files (D r))))) ?_ ?_ batch _ _ ⟨w1, [], rfl, rfl, rfl⟩
      · rintro μ σ' ⟨w1, done, hd, rfl, rfl⟩
        rw [List.append_nil] at hd; subst hd
        refine ⟨?_, hR T' e'⟩
        rw [updL_ne fun q hq => ?_]
        · exact tl1
        · obtain ⟨r, hr, rfl⟩ := List.mem_map.mp hq
          exact Ne.symm (hdl r hr)
      · rintro r rest μ σ' Kf ⟨w1, done, hd, rfl, rfl⟩ kn _ _ _
        have hr : r ∈ batch := hd ▸ List.mem_append_right _ (.head _)
        have hdone : ∀ r' ∈ done, r' ∈ batch := fun r' h => hd ▸ List.mem_append_left _ h
        have off : ∀ a ob, upd σ tg (.dict T') a = some ob → (∀ r' ∈ batch, a ≠ r'.td) → updL (upd σ tg (.dict T')) (done.map fun r => (r.td, MO.list (takeF T' r.files (D r)))) a = some ob := fun a ob h hne => by
          rw [updL_ne fun q hq => ?_]
          · exact h
          · obtain ⟨r', hr', rfl⟩ := List.mem_map.mp hq
            exact hne r' (hdone r' hr')
        have tD : ∀ r' ∈ batch, upd σ tg (.dict T') r'.td = some (.list (D r')) := fun r' h => by rw [upd_ne (tdg r' h)]; exact (hD r' h).1
        have A := at_ T' r hr
        have k1 := off tg _ upd_same fun r' h => Ne.symm (tdg r' h)
        have k2 := off r.t _ A.i fun r' h => ne_of_mo A.i (tD r' h) (by simp)
        have k3 := off r.d _ A.n fun r' h => ne_of_mo A.n (tD r' h) (by simp)
        have k4 := off r.fd _ A.f fun r' h => Ne.symm (hdf r' h r hr)
        have k5 := off tl _ tl1 fun r' h => Ne.symm (hdl r' h)
        have nd : ∀ r' ∈ done, r.td ≠ r'.td := by
          intro r' h e
          rw [← hd, List.map_append, List.map_cons, List.nodup_append] at hnd
          exact hnd.2.2 _ (List.mem_map_of_mem h) _ (.head _) e.symm
        have k6 : updL (upd σ tg (.dict T')) (done.map fun r => (r.td, MO.list (takeF T' r.files (D r)))) r.td = some (.list (D r)) := by
          rw [updL_ne fun q hq => ?_]
          · exact tD r hr
          · obtain ⟨r', hr', rfl⟩ := List.mem_map.mp hq
            exact nd r' hr'
        have k7 : updL (upd σ tg (.dict T')) (done.map fun r => (r.td, MO.list (takeF T' r.files (D r)))) 368 = some .kob := by
          rw [updL_ne fun q hq => ?_]
          · rw [upd_ne (ne_of_mo hn h1 (by simp))]; exact hn
          · obtain ⟨r', hr', rfl⟩ := List.mem_map.mp hq
            exact ne_of_mo hn (hD r' (hdone r' hr')).1 (by simp)
        refine ⟨k5, ?_⟩
        simp only [WS, W1, W, WL, WK, WT, WTs, WB, WO, bindW, nameW, List.lookup, ofString_beq, ofString_inj, String.reduceBEq, String.reduceEq, String.reduceBNe, String.reduceNe, ML.get, ML.set, List.map_cons, List.map_nil, locals0,
    List.cons_append, List.nil_append, callW, callOk, plainArg, notSuper, kwNamed, List.all_cons, List.all_nil, List.length_cons, List.length_nil, Bool.and_true, Bool.true_and, Bool.and_self, Bool.not_true, Bool.not_false,
    decide_true, decide_eq_true_eq, beq_self_eq_true, true_and, and_true, if_true, if_false, reduceIte, reduceCtorEq, Option.isSome_some, Option.isSome_none, Nat.reduceAdd, Nat.reduceMul, Nat.reduceLeDiff, Nat.reduceSubDiff, Nat.add_one_sub_one, Nat.zero_lt_succ, Nat.succ_pos, Nat.lt_add_left_iff_pos,
    Bool.false_eq_true, false_and, and_false, behindInMarks, namesOf, Option.map_some, Option.some.injEq, exists_eq_left', exists_eq_left, or_false, false_or, or_self, not_true, not_false_iff, gl, methW, k7, attrW, k2, k3, A.gf, rd3, plainMV]
        refine ⟨327, st, kp, ?_⟩
        refine c_add_implicit hK k1 k2 k3 A.gd k6 k4 (hdf r hr r hr) (fun q hq => ?_) (hD r hr).2.1 (hD r hr).2.2 ?_
        · obtain ⟨x, hx, _⟩ := hT' q hq
          exact ⟨x, hx⟩
        · refine kn _ _ ⟨some (.ref r.t), done ++ [r], by simp [hd], rfl, ?_⟩
          simp [updL]
    · rintro r rest μ σ' Kf ⟨w1, w2, w3, T1, rfl, rfl, e, hT1, hrest, hlen⟩ kn _ _ _
      have hr := hrest r (.head _)
      have A := at_ T1 r hr
      rw [List.map_cons, List.sum_cons] at hlen
      have tl1 : upd σ tg (.dict T1) tl = some o := by rw [upd_ne tlg]; exact h2
      refine ⟨tl1, ?_⟩
      simp only [WS, W1, W, WL, WK, WT, WTs, WB, WO, bindW, nameW, List.lookup, ofString_beq, ofString_inj, String.reduceBEq, String.reduceEq, String.reduceBNe, String.reduceNe, ML.get, ML.set, List.map_cons, List.map_nil, locals0,
    List.cons_append, List.nil_append, callW, callOk, plainArg, notSuper, kwNamed, List.all_cons, List.all_nil, List.length_cons, List.length_nil, Bool.and_true, Bool.true_and, Bool.and_self, Bool.not_true, Bool.not_false,
    decide_true, decide_eq_true_eq, beq_self_eq_true, true_and, and_true, if_true, if_false, reduceIte, reduceCtorEq, Option.isSome_some, Option.isSome_none, Nat.reduceAdd, Nat.reduceMul, Nat.reduceLeDiff, Nat.reduceSubDiff, Nat.add_one_sub_one, Nat.zero_lt_succ, Nat.succ_pos, Nat.lt_add_left_iff_pos,
    Bool.false_eq_true, false_and, and_false, behindInMarks, namesOf, Option.map_some, Option.some.injEq, exists_eq_left', exists_eq_left, or_false, false_or, or_self, not_true, not_false_iff, attrW, A.i, A.n, A.gt, rd2, plainMV]
      refine ⟨r.tg, _, _, rfl, A.o, rfl, ?_⟩
      refine forW_list .str (fun fs μ σ' => ∃ w2 w3 T2, μ = [(Str.ofString "targets", some (.ref tg)), (Str.ofString "task_list", some (.ref tl)), (Str.ofString "task", some (.ref r.t)), (Str.ofString "target", w2), (Str.ofString "msg", w3)] ∧
        σ' = upd σ tg (.dict T2) ∧ addOuts r.name T2 fs = addOuts r.name T1 r.outs ∧ strVals T2 ∧ (∀ f ∈ fs, okS f) ∧ T2.length + fs.length + (rest.map fun r => r.outs.length).sum < sizeLine) ?_ ?_ r.outs _ _ ⟨w2, w3, T1, rfl, rfl, rfl, hT1, A.oko, by omega⟩
      · rintro μ σ' ⟨w2, w3, T2, rfl, rfl, e2, hT2, _, hl2⟩
        have A2 := at_ T2 r hr
        refine ⟨A2.o, kn _ _ ⟨_, _, _, T2, rfl, rfl, ?_, hT2, fun r' h => hrest r' (.tail _ h), by simpa using hl2⟩⟩
        rw [← e, addAll_cons, ← e2]
        simp [addOuts]
      · rintro f fs μ σ' Kf2 ⟨w2, w3, T2, rfl, rfl, e2, hT2, hfs, hl2⟩ kn2 _ _ _
        have A2 := at_ T2 r hr
        refine ⟨A2.o, ?_⟩
        rw [List.length_cons] at hl2
        rw [addOuts_cons] at e2
        cases hf : dget T2 f with
        | none =>
          rw [hf] at e2
          simp only [Option.isSome_none, Bool.false_eq_true, if_false] at e2
          simp only [WS, W1, W, WL, WK, WT, WTs, WB, WO, bindW, nameW, List.lookup, ofString_beq, ofString_inj, String.reduceBEq, String.reduceEq, String.reduceBNe, String.reduceNe, ML.get, ML.set, List.map_cons, List.map_nil, locals0,
    List.cons_append, List.nil_append, callW, callOk, plainArg, notSuper, kwNamed, List.all_cons, List.all_nil, List.length_cons, List.length_nil, Bool.and_true, Bool.true_and, Bool.and_self, Bool.not_true, Bool.not_false,
    decide_true, decide_eq_true_eq, beq_self_eq_true, true_and, and_true, if_true, if_false, reduceIte, reduceCtorEq, Option.isSome_some, Option.isSome_none, Nat.reduceAdd, Nat.reduceMul, Nat.reduceLeDiff, Nat.reduceSubDiff, Nat.add_one_sub_one, Nat.zero_lt_succ, Nat.succ_pos, Nat.lt_add_left_iff_pos,
    Bool.false_eq_true, false_and, and_false, behindInMarks, namesOf, Option.map_some, Option.some.injEq, exists_eq_left', exists_eq_left, or_false, false_or, or_self, not_true, not_false_iff, cmpW, upd_same, hf, attrW, A2.i, A2.n, A2.nm, rd1, plainMV, setItemW, upd_upd]
          refine ⟨by omega, kn2 _ _ ⟨_, _, _, rfl, rfl, e2, strVals_put hT2 A2.okn, fun x h => hfs x (.tail _ h), ?_⟩⟩
          have := dput_length (es := T2) (k := f) (v := MV.str r.name)
          omega
        | some m =>
          rw [hf] at e2
          simp only [Option.isSome_some, if_true] at e2
          obtain ⟨y, rfl, hy⟩ := strVals_get hT2 hf
          obtain ⟨M, hM⟩ := hpct f r.name y (hfs f (.head _)) A2.okn hy
          simp only [WS, W1, W, WL, WK, WT, WTs, WB, WO, bindW, nameW, List.lookup, ofString_beq, ofString_inj, String.reduceBEq, String.reduceEq, String.reduceBNe, String.reduceNe, ML.get, ML.set, List.map_cons, List.map_nil, locals0,
    List.cons_append, List.nil_append, callW, callOk, plainArg, notSuper, kwNamed, List.all_cons, List.all_nil, List.length_cons, List.length_nil, Bool.and_true, Bool.true_and, Bool.and_self, Bool.not_true, Bool.not_false,
    decide_true, decide_eq_true_eq, beq_self_eq_true, true_and, and_true, if_true, if_false, reduceIte, reduceCtorEq, Option.isSome_some, Option.isSome_none, Nat.reduceAdd, Nat.reduceMul, Nat.reduceLeDiff, Nat.reduceSubDiff, Nat.add_one_sub_one, Nat.zero_lt_succ, Nat.succ_pos, Nat.lt_add_left_iff_pos,
    Bool.false_eq_true, false_and, and_false, behindInMarks, namesOf, Option.map_some, Option.some.injEq, exists_eq_left', exists_eq_left, or_false, false_or, or_self, not_true, not_false_iff, cmpW, upd_same, hf, attrW, A2.i, A2.n, A2.nm, rd1, plainMV, itemW, constW, strOk_ofString, excNm, binW]
          refine ⟨78, ⟨ex.1, ex.2⟩, fun k hk => ⟨_, M, upd_same, hM, hX T2 M _ ?_ (Grow.refl.new hk)⟩⟩
          rw [← e, addAll_cons, ← e2]
          simp
  · decide
end
end Mine

open PySem PySem.W PyProof.Rows PySem.Calls
set_option Elab.async false
set_option autoImplicit false
set_option maxRecDepth 100000
set_option maxHeartbeats 4000000
set_option linter.all false
namespace Mine
theorem pct_of {X X' : Str} {ys : List MV} {T : Str} (h : X = X') (m : PctOk X' ys T) : PctOk X ys T := h ▸ m
theorem pct3 {x y z : Str} (hx : okS x) (hy : okS y) (hz : okS z) : ∃ T, PctOk (Str.ofString "Two different tasks can't have a common target.'%s' is a target for %s and %s.") [.str x, .str y, .str z] T := by
  refine ⟨Str.ofString "Two different tasks can't have a common target.'" ++ x ++ Str.ofString "' is a target for " ++ y ++ Str.ofString " and " ++ z ++ Str.ofString ".", pct_of (X' := ⟨#[84, 119, 111, 32, 100, 105, 102, 102, 101, 114, 101, 110, 116, 32, 116, 97, 115, 107, 115, 32, 99, 97, 110, 39, 116, 32, 104, 97, 118, 101, 32, 97, 32, 99, 111, 109, 109, 111, 110, 32, 116, 97, 114, 103, 101, 116, 46, 39, 37, 115, 39, 32, 105, 115, 32, 97, 32, 116, 97, 114, 103, 101, 116, 32, 102, 111, 114, 32, 37, 115, 32, 97, 110, 100, 32, 37, 115, 46]⟩) (by decide +kernel) ⟨?a, ?b⟩⟩
  case b =>
    intro vs t b hv
    obtain ⟨v1, vs1, rfl, e1, hv1⟩ := hv.cons_inv
    obtain ⟨v2, vs2, rfl, e2, hv2⟩ := hv1.cons_inv
    obtain ⟨v3, vs3, rfl, e3, hv3⟩ := hv2.cons_inv
    cases hv3
    obtain ⟨g1, t1, rfl⟩ := e1
    obtain ⟨g2, t2, rfl⟩ := e2
    obtain ⟨g3, t3, rfl⟩ := e3
    have l1 : x.length ≤ 1000000 := Nat.le_trans hx.2 (by decide)
    have l2 : y.length ≤ 1000000 := Nat.le_trans hy.2 (by decide)
    have l3 : z.length ≤ 1000000 := Nat.le_trans hz.2 (by decide)
    kpt_run
  case a => exact strOk_append (strOk_append (strOk_append (strOk_append (strOk_append (strOk_append (strOk_ofString _) hx.1) (strOk_ofString _)) hy.1) (strOk_ofString _)) hz.1) (strOk_ofString _)
end Mine

open PySem PySem.W PyProof.Rows PySem.Calls
set_option Elab.async false
set_option autoImplicit false
set_option maxRecDepth 100000
set_option maxHeartbeats 8000000
set_option linter.all false
namespace Mine

def notNs (o : MO) : Bool := match o with | .ns _ => false | .inst .. => false | _ => true

/-- a task in the making, over the heap before -/
structure TI (σ0 σ : MH) (x dx : Addr) (es : List (Str × MV)) (m : Nat) (L : List (Addr × MO)) : Prop where
  g : Grow σ0 σ
  xi : σ x = some (.inst 223 dx)
  d : σ dx = some (.ns es)
  len : es.length ≤ m
  x0 : σ0 x = none
  d0 : σ0 dx = none
  l : ∀ q ∈ L, σ q.1 = some q.2 ∧ σ0 q.1 = none ∧ notNs q.2 = true
  nd : (L.map (·.1)).Nodup

section
variable {σ0 σ : MH} {x dx : Addr} {es : List (Str × MV)} {m : Nat} {L : List (Addr × MO)}
theorem TI.alloc (h : TI σ0 σ x dx es m L) {k : Addr} {o : MO} (hk : σ k = none) (ho : notNs o = true) : TI σ0 (upd σ k o) x dx es m ((k, o) :: L) := by
  refine ⟨h.g.new (h.g.none hk), by rw [upd_ne (ne_of_new hk h.xi)]; exact h.xi, by rw [upd_ne (ne_of_new hk h.d)]; exact h.d, h.len, h.x0, h.d0, ?_, ?_⟩
  · intro q hq
    rcases List.mem_cons.mp hq with rfl | hq
    · exact ⟨upd_same, h.g.none hk, ho⟩
    · obtain ⟨h1, h2, h3⟩ := h.l q hq
      exact ⟨by rw [upd_ne (ne_of_new hk h1)]; exact h1, h2, h3⟩
  · rw [List.map_cons, List.nodup_cons]
    refine ⟨fun hm => ?_, h.nd⟩
    obtain ⟨q, hq, e⟩ := List.mem_map.mp hm
    have := (h.l q hq).1
    rw [e, hk] at this; cases this
theorem TI.set (h : TI σ0 σ x dx es m L) (n : Str) (v : MV) : TI σ0 (upd σ dx (.ns (dput es n v))) x dx (dput es n v) (m + 1) L := by
  refine ⟨h.g.new h.d0, by rw [upd_ne (ne_of_mo h.xi h.d (by simp))]; exact h.xi, upd_same, Nat.le_trans dput_length (Nat.succ_le_succ h.len), h.x0, h.d0, ?_, h.nd⟩
  intro q hq
  obtain ⟨h1, h2, h3⟩ := h.l q hq
  exact ⟨by rw [upd_ne (ne_of_mo h1 h.d (fun e => by rw [e] at h3; cases h3))]; exact h1, h2, h3⟩
theorem TI.put {pre post : List (Addr × MO)} {l : Addr} {o o' : MO} (h : TI σ0 σ x dx es m (pre ++ (l, o) :: post)) (ho : notNs o' = true) : TI σ0 (upd σ l o') x dx es m (pre ++ (l, o') :: post) := by
  obtain ⟨h1, h2, h3⟩ := h.l (l, o) (List.mem_append_right _ (.head _))
  have nd := h.nd
  refine ⟨h.g.new h2, by rw [upd_ne (ne_of_mo h.xi h1 (fun e => by rw [← e] at h3; cases h3))]; exact h.xi, by rw [upd_ne (ne_of_mo h.d h1 (fun e => by rw [← e] at h3; cases h3))]; exact h.d, h.len, h.x0, h.d0, ?_, by simpa using nd⟩
  have key : ∀ q, q ∈ pre ∨ q ∈ post → q.1 ≠ l := by
    rw [List.map_append, List.map_cons, List.nodup_append] at nd
    obtain ⟨_, n2, n3⟩ := nd
    rw [List.nodup_cons] at n2
    rintro q (hq | hq) e
    · exact n3 _ (List.mem_map_of_mem hq) l (.head _) e
    · exact n2.1 (e ▸ List.mem_map_of_mem (f := (·.1)) hq)
  intro q hq
  rcases List.mem_append.mp hq with hq | hq
  · obtain ⟨g1, g2, g3⟩ := h.l q (List.mem_append_left _ hq)
    exact ⟨by rw [upd_ne (key q (.inl hq))]; exact g1, g2, g3⟩
  · rcases List.mem_cons.mp hq with rfl | hq
    · exact ⟨upd_same, h2, ho⟩
    · obtain ⟨g1, g2, g3⟩ := h.l q (List.mem_append_right _ (.tail _ hq))
      exact ⟨by rw [upd_ne (key q (.inr hq))]; exact g1, g2, g3⟩

variable {Γ : Rt}
theorem vc_alloc {o : MO} {P : MV → MH → Prop} (h : TI σ0 σ x dx es m L) (ho : notNs o = true) (k : ∀ a σ', TI σ0 σ' x dx es m ((a, o) :: L) → P (.ref a) σ') : allocW σ o P := fun a ha => k a _ (h.alloc ha ho)
theorem vc_set {n : Str} {v : MV} {P : MH → Prop} (hw : wrOk Γ.K 223 n = true) (h : TI σ0 σ x dx es m L) (hm : m < 1000) (k : ∀ σ', TI σ0 σ' x dx (dput es n v) (m + 1) L → P σ') : setAttrW Γ (.ref x) n v σ P := by
  unfold setAttrW
  simp only [h.xi, h.d]
  exact ⟨hw, Nat.lt_of_le_of_lt h.len hm, k _ (h.set n v)⟩
theorem vc_get {n : Str} {v : MV} {P : MV → MH → Prop} (hr : rdOk Γ.K 223 n = true) (h : TI σ0 σ x dx es m L) (e : dget es n = some v) (hp : plainMV v = true) (k : P v σ) : attrW Γ (.ref x) n σ P := by
  unfold attrW
  simp only [h.xi, h.d]
  exact ⟨hr, v, e, hp, k⟩
theorem vc_meth {n : Str} {f : Addr} {P : MV → List MV → Prop} (hf : meOk Γ.K 223 n f = true) (h : TI σ0 σ x dx es m L) (e : dget es n = none) (k : P (.ref f) [.ref x]) : methW Γ (.ref x) n σ P := by
  unfold methW
  simp only [h.xi, h.d]
  exact ⟨e, f, hf, k⟩
theorem vc_app' {pre post : List (Addr × MO)} {l : Addr} {xs : List MV} {v : MV} {P : MH → Prop} (h : TI σ0 σ x dx es m (pre ++ (l, .list xs) :: post)) (hl : xs.length < sizeLine) (k : ∀ σ', TI σ0 σ' x dx es m (pre ++ (l, .list (xs ++ [v])) :: post) → P σ') : xs.length < sizeLine ∧ P (upd σ l (.list (xs ++ [v]))) :=
  ⟨hl, k _ (h.put rfl)⟩
theorem vc_app {pre post : List (Addr × MO)} {l : Addr} {xs : List MV} {v : MV} {P : KP} (h : TI σ0 σ x dx es m (pre ++ (l, .list xs) :: post)) (hl : xs.length < sizeLine) (k : ∀ σ', TI σ0 σ' x dx es m (pre ++ (l, .list (xs ++ [v])) :: post) → P .none σ') : builtinW "list.append" [.ref l, v] σ P := by
  have := (h.l (l, .list xs) (List.mem_append_right _ (.head _))).1
  unfold builtinW
  simp only [this]
  exact ⟨hl, k _ (h.put rfl)⟩
end

section
variable {Γ : Rt} {P : Params}
theorem wr_name : wrOk (KK P) 223 (Str.ofString "name") = true := wr_of (by rfl)
theorem wr_options : wrOk (KK P) 223 (Str.ofString "options") = true := wr_of (by rfl)
theorem wr_setup_tasks : wrOk (KK P) 223 (Str.ofString "setup_tasks") = true := wr_of (by rfl)
theorem wr_actions : wrOk (KK P) 223 (Str.ofString "actions") = true := wr_of (by rfl)
theorem wr_dep_changed : wrOk (KK P) 223 (Str.ofString "dep_changed") = true := wr_of (by rfl)
theorem wr_file_dep : wrOk (KK P) 223 (Str.ofString "file_dep") = true := wr_of (by rfl)
theorem wr_task_dep : wrOk (KK P) 223 (Str.ofString "task_dep") = true := wr_of (by rfl)
theorem wr_wild_dep : wrOk (KK P) 223 (Str.ofString "wild_dep") = true := wr_of (by rfl)
theorem wr_calc_dep : wrOk (KK P) 223 (Str.ofString "calc_dep") = true := wr_of (by rfl)
theorem wr_getargs : wrOk (KK P) 223 (Str.ofString "getargs") = true := wr_of (by rfl)
theorem wr_value_savers : wrOk (KK P) 223 (Str.ofString "value_savers") = true := wr_of (by rfl)
theorem wr_uptodate : wrOk (KK P) 223 (Str.ofString "uptodate") = true := wr_of (by rfl)
theorem wr_targets : wrOk (KK P) 223 (Str.ofString "targets") = true := wr_of (by rfl)
theorem wr_subtask_of : wrOk (KK P) 223 (Str.ofString "subtask_of") = true := wr_of (by rfl)
theorem wr_has_subtask : wrOk (KK P) 223 (Str.ofString "has_subtask") = true := wr_of (by rfl)
theorem wr_result : wrOk (KK P) 223 (Str.ofString "result") = true := wr_of (by rfl)
theorem wr_values : wrOk (KK P) 223 (Str.ofString "values") = true := wr_of (by rfl)
theorem wr_executed : wrOk (KK P) 223 (Str.ofString "executed") = true := wr_of (by rfl)
theorem rd_getargs : rdOk (KK P) 223 (Str.ofString "getargs") = true := by rfl
theorem rd_wild : rdOk (KK P) 223 (Str.ofString "wild_dep") = true := by rfl
theorem me_deps : meOk (KK P) 223 (Str.ofString "_init_deps") 144 = true := by rfl
theorem me_targets : meOk (KK P) 223 (Str.ofString "_init_targets") 151 = true := by rfl
theorem me_uptodate : meOk (KK P) 223 (Str.ofString "_init_uptodate") 158 = true := by rfl
theorem me_file : meOk (KK P) 223 (Str.ofString "_expand_file_dep") 165 = true := by rfl
theorem me_task : meOk (KK P) 223 (Str.ofString "_expand_task_dep") 172 = true := by rfl
theorem kp_144 : keepIn (KK P) (.ref 144) = true := by rfl
theorem kp_151 : keepIn (KK P) (.ref 151) = true := by rfl
theorem kp_158 : keepIn (KK P) (.ref 158) = true := by rfl
theorem kp_165 : keepIn (KK P) (.ref 165) = true := by rfl
theorem kp_172 : keepIn (KK P) (.ref 172) = true := by rfl
theorem gl_list : globOf (KK P) (Str.ofString "list") = some (.type "list") := by rfl

theorem c_expand_file (hK : Γ.K = KK P) {n : Nat} {σ0 σ : MH} {R : KP} {X : XP} {x dx l fd : Addr} {es : List (Str × MV)} {m : Nat} {pre post : List (Addr × MO)} {files : List Str}
    (h : TI σ0 σ x dx es m (pre ++ (l, .list []) :: post)) (hl : dget es (Str.ofString "file_dep") = some (.ref l)) (hf : σ0 fd = some (.list (sLst files))) (hz : files.length ≤ 100)
    (k : ∀ σ' fs, (∀ f ∈ fs, f ∈ files) → fs.length ≤ files.length → TI σ0 σ' x dx es m (pre ++ (l, .list (sLst fs)) :: post) → R .none σ') : CodeP Γ (n + 1) (.ref 165) [.ref x, .ref fd] [] σ R X := by
  refine code_body [Str.ofString "dep"] (by rw [hK]; exact rfl) (by rw [hK]; exact rfl) (mb := [(Str.ofString "self", .ref x), (Str.ofString "file_dep", .ref fd)]) ?_ ?_ ?_ ?_ (by decide) rfl rfl rfl
  · intro s vs kws hX hv0 hk
    obtain ⟨v1, vs1, rfl, g1, hv1⟩ := hv0.cons_inv
    obtain ⟨v2, vs2, rfl, g2, hv2⟩ := hv1.cons_inv
    cases hv2
    cases hk
    exact ⟨_, .of_eq rfl, .cons ⟨rfl, g1⟩ (.cons ⟨rfl, g2⟩ .nil)⟩
  · simp only [WS, W1, W, WL, WK, WT, WTs, WB, WO, bindW, nameW, List.lookup, ofString_beq, ofString_inj, String.reduceBEq, String.reduceEq, String.reduceBNe, String.reduceNe, ML.get, ML.set, List.map_cons, List.map_nil, locals0,
    List.cons_append, List.nil_append, callW, callOk, plainArg, notSuper, kwNamed, List.all_cons, List.all_nil, List.length_cons, List.length_nil, Bool.and_true, Bool.true_and, Bool.and_self, Bool.not_true, Bool.not_false,
    decide_true, decide_eq_true_eq, beq_self_eq_true, true_and, and_true, if_true, if_false, reduceIte, reduceCtorEq, Option.isSome_some, Option.isSome_none, Nat.reduceAdd, Nat.reduceMul, Nat.reduceLeDiff, Nat.reduceSubDiff, Nat.add_one_sub_one, Nat.zero_lt_succ, Nat.succ_pos, Nat.lt_add_left_iff_pos,
    Bool.false_eq_true, false_and, and_false, behindInMarks, namesOf, Option.map_some, Option.some.injEq, exists_eq_left', exists_eq_left, or_false, false_or, or_self, not_true, not_false_iff, List.mem_cons, List.not_mem_nil, or_false, forall_eq_or_imp, forall_eq]
  · simp only [WS, W1, W, WL, WK, WT, WTs, WB, WO, bindW, nameW, List.lookup, ofString_beq, ofString_inj, String.reduceBEq, String.reduceEq, String.reduceBNe, String.reduceNe, ML.get, ML.set, List.map_cons, List.map_nil, locals0,
    List.cons_append, List.nil_append, callW, callOk, plainArg, notSuper, kwNamed, List.all_cons, List.all_nil, List.length_cons, List.length_nil, Bool.and_true, Bool.true_and, Bool.and_self, Bool.not_true, Bool.not_false,
    decide_true, decide_eq_true_eq, beq_self_eq_true, true_and, and_true, if_true, if_false, reduceIte, reduceCtorEq, Option.isSome_some, Option.isSome_none, Nat.reduceAdd, Nat.reduceMul, Nat.reduceLeDiff, Nat.reduceSubDiff, Nat.add_one_sub_one, Nat.zero_lt_succ, Nat.succ_pos, Nat.lt_add_left_iff_pos,
    Bool.false_eq_true, false_and, and_false, behindInMarks, namesOf, Option.map_some, Option.some.injEq, exists_eq_left', exists_eq_left, or_false, false_or, or_self, not_true, not_false_iff, List.nodup_cons, List.mem_cons, List.not_mem_nil, or_false, not_false_iff, List.nodup_nil, or_self]
  simp only [WS, W1, W, WL, WK, WT, WTs, WB, WO, bindW, nameW, List.lookup, ofString_beq, ofString_inj, String.reduceBEq, String.reduceEq, String.reduceBNe, String.reduceNe, ML.get, ML.set, List.map_cons, List.map_nil, locals0,
    List.cons_append, List.nil_append, callW, callOk, plainArg, notSuper, kwNamed, List.all_cons, List.all_nil, List.length_cons, List.length_nil, Bool.and_true, Bool.true_and, Bool.and_self, Bool.not_true, Bool.not_false,
    decide_true, decide_eq_true_eq, beq_self_eq_true, true_and, and_true, if_true, if_false, reduceIte, reduceCtorEq, Option.isSome_some, Option.isSome_none, Nat.reduceAdd, Nat.reduceMul, Nat.reduceLeDiff, Nat.reduceSubDiff, Nat.add_one_sub_one, Nat.zero_lt_succ, Nat.succ_pos, Nat.lt_add_left_iff_pos,
    Bool.false_eq_true, false_and, and_false, behindInMarks, namesOf, Option.map_some, Option.some.injEq, exists_eq_left', exists_eq_left, or_false, false_or, or_self, not_true, not_false_iff]
  have rd := rd_Task_file (P := P)
  have g1 := gl_isinstance (P := P)
  have g2 := gl_str (P := P)
  rw [← hK] at rd g1 g2
  refine ⟨fd, _, _, rfl, h.g _ _ hf, rfl, ?_⟩
  refine forW_list .str (fun rest μ σ' => ∃ w fs, μ = [(Str.ofString "self", some (.ref x)), (Str.ofString "file_dep", some (.ref fd)), (Str.ofString "dep", w)] ∧ (∀ f ∈ fs, f ∈ files) ∧ (∀ f ∈ rest, f ∈ files) ∧ fs.length + rest.length ≤ files.length ∧
    TI σ0 σ' x dx es m (pre ++ (l, .list (sLst fs)) :: post)) ?_ ?_ files _ _ ⟨none, [], rfl, (fun _ h => nomatch h), fun _ h => h, by simp, h⟩
  · rintro μ σ' ⟨w, fs, rfl, h1, _, h2, h3⟩
    exact ⟨h3.g _ _ hf, k σ' fs h1 (by simpa using h2) h3⟩
  · rintro f rest μ σ' Kf ⟨w, fs, rfl, h1, h2, h3, h4⟩ kn _ _ _
    rw [List.length_cons] at h3
    refine ⟨h4.g _ _ hf, ?_⟩
    have hlst := (h4.l (l, .list (sLst fs)) (List.mem_append_right _ (.head _))).1
    have fl : ∀ q ∈ sLst fs, flatMV q = true := fun q hq => by obtain ⟨y, _, rfl⟩ := List.mem_map.mp hq; rfl
    simp only [WS, W1, W, WL, WK, WT, WTs, WB, WO, bindW, nameW, List.lookup, ofString_beq, ofString_inj, String.reduceBEq, String.reduceEq, String.reduceBNe, String.reduceNe, ML.get, ML.set, List.map_cons, List.map_nil, locals0,
    List.cons_append, List.nil_append, callW, callOk, plainArg, notSuper, kwNamed, List.all_cons, List.all_nil, List.length_cons, List.length_nil, Bool.and_true, Bool.true_and, Bool.and_self, Bool.not_true, Bool.not_false,
    decide_true, decide_eq_true_eq, beq_self_eq_true, true_and, and_true, if_true, if_false, reduceIte, reduceCtorEq, Option.isSome_some, Option.isSome_none, Nat.reduceAdd, Nat.reduceMul, Nat.reduceLeDiff, Nat.reduceSubDiff, Nat.add_one_sub_one, Nat.zero_lt_succ, Nat.succ_pos, Nat.lt_add_left_iff_pos,
    Bool.false_eq_true, false_and, and_false, behindInMarks, namesOf, Option.map_some, Option.some.injEq, exists_eq_left', exists_eq_left, or_false, false_or, or_self, not_true, not_false_iff, g1, g2, builtinW, truthW]
    refine vc_get rd h4 hl rfl ?_
    by_cases hm : MV.str f ∈ sLst fs
    · simp only [WS, W1, W, WL, WK, WT, WTs, WB, WO, bindW, nameW, List.lookup, ofString_beq, ofString_inj, String.reduceBEq, String.reduceEq, String.reduceBNe, String.reduceNe, ML.get, ML.set, List.map_cons, List.map_nil, locals0,
    List.cons_append, List.nil_append, callW, callOk, plainArg, notSuper, kwNamed, List.all_cons, List.all_nil, List.length_cons, List.length_nil, Bool.and_true, Bool.true_and, Bool.and_self, Bool.not_true, Bool.not_false,
    decide_true, decide_eq_true_eq, beq_self_eq_true, true_and, and_true, if_true, if_false, reduceIte, reduceCtorEq, Option.isSome_some, Option.isSome_none, Nat.reduceAdd, Nat.reduceMul, Nat.reduceLeDiff, Nat.reduceSubDiff, Nat.add_one_sub_one, Nat.zero_lt_succ, Nat.succ_pos, Nat.lt_add_left_iff_pos,
    Bool.false_eq_true, false_and, and_false, behindInMarks, namesOf, Option.map_some, Option.some.injEq, exists_eq_left', exists_eq_left, or_false, false_or, or_self, not_true, not_false_iff, cmpW, hlst, flat_str, hm]
      exact ⟨fl, kn _ _ ⟨_, fs, rfl, h1, fun y hy => h2 y (.tail _ hy), by omega, h4⟩⟩
    · simp only [WS, W1, W, WL, WK, WT, WTs, WB, WO, bindW, nameW, List.lookup, ofString_beq, ofString_inj, String.reduceBEq, String.reduceEq, String.reduceBNe, String.reduceNe, ML.get, ML.set, List.map_cons, List.map_nil, locals0,
    List.cons_append, List.nil_append, callW, callOk, plainArg, notSuper, kwNamed, List.all_cons, List.all_nil, List.length_cons, List.length_nil, Bool.and_true, Bool.true_and, Bool.and_self, Bool.not_true, Bool.not_false,
    decide_true, decide_eq_true_eq, beq_self_eq_true, true_and, and_true, if_true, if_false, reduceIte, reduceCtorEq, Option.isSome_some, Option.isSome_none, Nat.reduceAdd, Nat.reduceMul, Nat.reduceLeDiff, Nat.reduceSubDiff, Nat.add_one_sub_one, Nat.zero_lt_succ, Nat.succ_pos, Nat.lt_add_left_iff_pos,
    Bool.false_eq_true, false_and, and_false, behindInMarks, namesOf, Option.map_some, Option.some.injEq, exists_eq_left', exists_eq_left, or_false, false_or, or_self, not_true, not_false_iff, cmpW, hlst, flat_str, hm, decide_false]
      refine ⟨fl, vc_get rd h4 hl rfl ?_⟩
      simp only [WS, W1, W, WL, WK, WT, WTs, WB, WO, bindW, nameW, List.lookup, ofString_beq, ofString_inj, String.reduceBEq, String.reduceEq, String.reduceBNe, String.reduceNe, ML.get, ML.set, List.map_cons, List.map_nil, locals0,
    List.cons_append, List.nil_append, callW, callOk, plainArg, notSuper, kwNamed, List.all_cons, List.all_nil, List.length_cons, List.length_nil, Bool.and_true, Bool.true_and, Bool.and_self, Bool.not_true, Bool.not_false,
    decide_true, decide_eq_true_eq, beq_self_eq_true, true_and, and_true, if_true, if_false, reduceIte, reduceCtorEq, Option.isSome_some, Option.isSome_none, Nat.reduceAdd, Nat.reduceMul, Nat.reduceLeDiff, Nat.reduceSubDiff, Nat.add_one_sub_one, Nat.zero_lt_succ, Nat.succ_pos, Nat.lt_add_left_iff_pos,
    Bool.false_eq_true, false_and, and_false, behindInMarks, namesOf, Option.map_some, Option.some.injEq, exists_eq_left', exists_eq_left, or_false, false_or, or_self, not_true, not_false_iff, methW, hlst, builtinW]
      refine vc_app' (P := fun σ₂ => Kf .next _ σ₂) h4 (by rw [sizeLine_eq]; simp; omega) fun σ₂ h₅ => ?_
      refine kn _ _ ⟨_, fs ++ [f], rfl, ?_, fun y hy => h2 y (.tail _ hy), by simp; omega, by simpa using h₅⟩
      intro y hy
      rcases List.mem_append.mp hy with hy | hy
      · exact h1 y hy
      · simp only [List.mem_singleton] at hy; subst hy; exact h2 _ (.head _)

theorem c_expand_task (hK : Γ.K = KK P) {n : Nat} {σ0 σ : MH} {R : KP} {X : XP} {x dx l td : Addr} {es : List (Str × MV)} {m : Nat} {pre post : List (Addr × MO)} {deps : List Str}
    (h : TI σ0 σ x dx es m (pre ++ (l, .list []) :: post)) (hl : dget es (Str.ofString "task_dep") = some (.ref l)) (hf : σ0 td = some (.list (sLst deps))) (hz : deps.length ≤ 100)
    (hst : ∀ d ∈ deps, (Builtin.Str.occurrences d (Str.ofString "*") 0 d.length 1).isEmpty = true)
    (k : ∀ σ', TI σ0 σ' x dx es m (pre ++ (l, .list (sLst deps)) :: post) → R .none σ') : CodeP Γ (n + 1) (.ref 172) [.ref x, .ref td] [] σ R X := by
  refine code_body [Str.ofString "dep"] (by rw [hK]; exact rfl) (by rw [hK]; exact rfl) (mb := [(Str.ofString "self", .ref x), (Str.ofString "task_dep", .ref td)]) ?_ ?_ ?_ ?_ (by decide) rfl rfl rfl
  · intro s vs kws hX hv0 hk
    obtain ⟨v1, vs1, rfl, g1, hv1⟩ := hv0.cons_inv
    obtain ⟨v2, vs2, rfl, g2, hv2⟩ := hv1.cons_inv
    cases hv2
    cases hk
    exact ⟨_, .of_eq rfl, .cons ⟨rfl, g1⟩ (.cons ⟨rfl, g2⟩ .nil)⟩
  · simp only [WS, W1, W, WL, WK, WT, WTs, WB, WO, bindW, nameW, List.lookup, ofString_beq, ofString_inj, String.reduceBEq, String.reduceEq, String.reduceBNe, String.reduceNe, ML.get, ML.set, List.map_cons, List.map_nil, locals0,
    List.cons_append, List.nil_append, callW, callOk, plainArg, notSuper, kwNamed, List.all_cons, List.all_nil, List.length_cons, List.length_nil, Bool.and_true, Bool.true_and, Bool.and_self, Bool.not_true, Bool.not_false,
    decide_true, decide_eq_true_eq, beq_self_eq_true, true_and, and_true, if_true, if_false, reduceIte, reduceCtorEq, Option.isSome_some, Option.isSome_none, Nat.reduceAdd, Nat.reduceMul, Nat.reduceLeDiff, Nat.reduceSubDiff, Nat.add_one_sub_one, Nat.zero_lt_succ, Nat.succ_pos, Nat.lt_add_left_iff_pos,
    Bool.false_eq_true, false_and, and_false, behindInMarks, namesOf, Option.map_some, Option.some.injEq, exists_eq_left', exists_eq_left, or_false, false_or, or_self, not_true, not_false_iff, List.mem_cons, List.not_mem_nil, or_false, forall_eq_or_imp, forall_eq]
  · simp only [WS, W1, W, WL, WK, WT, WTs, WB, WO, bindW, nameW, List.lookup, ofString_beq, ofString_inj, String.reduceBEq, String.reduceEq, String.reduceBNe, String.reduceNe, ML.get, ML.set, List.map_cons, List.map_nil, locals0,
    List.cons_append, List.nil_append, callW, callOk, plainArg, notSuper, kwNamed, List.all_cons, List.all_nil, List.length_cons, List.length_nil, Bool.and_true, Bool.true_and, Bool.and_self, Bool.not_true, Bool.not_false,
    decide_true, decide_eq_true_eq, beq_self_eq_true, true_and, and_true, if_true, if_false, reduceIte, reduceCtorEq, Option.isSome_some, Option.isSome_none, Nat.reduceAdd, Nat.reduceMul, Nat.reduceLeDiff, Nat.reduceSubDiff, Nat.add_one_sub_one, Nat.zero_lt_succ, Nat.succ_pos, Nat.lt_add_left_iff_pos,
    Bool.false_eq_true, false_and, and_false, behindInMarks, namesOf, Option.map_some, Option.some.injEq, exists_eq_left', exists_eq_left, or_false, false_or, or_self, not_true, not_false_iff, List.nodup_cons, List.mem_cons, List.not_mem_nil, or_false, not_false_iff, List.nodup_nil, or_self]
  simp only [WS, W1, W, WL, WK, WT, WTs, WB, WO, bindW, nameW, List.lookup, ofString_beq, ofString_inj, String.reduceBEq, String.reduceEq, String.reduceBNe, String.reduceNe, ML.get, ML.set, List.map_cons, List.map_nil, locals0,
    List.cons_append, List.nil_append, callW, callOk, plainArg, notSuper, kwNamed, List.all_cons, List.all_nil, List.length_cons, List.length_nil, Bool.and_true, Bool.true_and, Bool.and_self, Bool.not_true, Bool.not_false,
    decide_true, decide_eq_true_eq, beq_self_eq_true, true_and, and_true, if_true, if_false, reduceIte, reduceCtorEq, Option.isSome_some, Option.isSome_none, Nat.reduceAdd, Nat.reduceMul, Nat.reduceLeDiff, Nat.reduceSubDiff, Nat.add_one_sub_one, Nat.zero_lt_succ, Nat.succ_pos, Nat.lt_add_left_iff_pos,
    Bool.false_eq_true, false_and, and_false, behindInMarks, namesOf, Option.map_some, Option.some.injEq, exists_eq_left', exists_eq_left, or_false, false_or, or_self, not_true, not_false_iff]
  have rd := rd_Task_dep (P := P)
  rw [← hK] at rd
  refine ⟨td, _, _, rfl, h.g _ _ hf, rfl, ?_⟩
  refine forW_list .str (fun rest μ σ' => ∃ w fs, μ = [(Str.ofString "self", some (.ref x)), (Str.ofString "task_dep", some (.ref td)), (Str.ofString "dep", w)] ∧ fs ++ rest = deps ∧
    TI σ0 σ' x dx es m (pre ++ (l, .list (sLst fs)) :: post)) ?_ ?_ deps _ _ ⟨none, [], rfl, rfl, h⟩
  · rintro μ σ' ⟨w, fs, rfl, h1, h3⟩
    rw [List.append_nil] at h1; subst h1
    exact ⟨h3.g _ _ hf, k σ' h3⟩
  · rintro f rest μ σ' Kf ⟨w, fs, rfl, h1, h4⟩ kn _ _ _
    have hm : f ∈ deps := h1 ▸ List.mem_append_right _ (.head _)
    have hle : fs.length ≤ 100 := by
      have := congrArg List.length h1
      rw [List.length_append] at this; omega
    refine ⟨h4.g _ _ hf, ?_⟩
    have hlst := (h4.l (l, .list (sLst fs)) (List.mem_append_right _ (.head _))).1
    simp only [WS, W1, W, WL, WK, WT, WTs, WB, WO, bindW, nameW, List.lookup, ofString_beq, ofString_inj, String.reduceBEq, String.reduceEq, String.reduceBNe, String.reduceNe, ML.get, ML.set, List.map_cons, List.map_nil, locals0,
    List.cons_append, List.nil_append, callW, callOk, plainArg, notSuper, kwNamed, List.all_cons, List.all_nil, List.length_cons, List.length_nil, Bool.and_true, Bool.true_and, Bool.and_self, Bool.not_true, Bool.not_false,
    decide_true, decide_eq_true_eq, beq_self_eq_true, true_and, and_true, if_true, if_false, reduceIte, reduceCtorEq, Option.isSome_some, Option.isSome_none, Nat.reduceAdd, Nat.reduceMul, Nat.reduceLeDiff, Nat.reduceSubDiff, Nat.add_one_sub_one, Nat.zero_lt_succ, Nat.succ_pos, Nat.lt_add_left_iff_pos,
    Bool.false_eq_true, false_and, and_false, behindInMarks, namesOf, Option.map_some, Option.some.injEq, exists_eq_left', exists_eq_left, or_false, false_or, or_self, not_true, not_false_iff, constW, strOk_ofString, cmpW, hst f hm]
    refine vc_get rd h4 hl rfl ?_
    simp only [WS, W1, W, WL, WK, WT, WTs, WB, WO, bindW, nameW, List.lookup, ofString_beq, ofString_inj, String.reduceBEq, String.reduceEq, String.reduceBNe, String.reduceNe, ML.get, ML.set, List.map_cons, List.map_nil, locals0,
    List.cons_append, List.nil_append, callW, callOk, plainArg, notSuper, kwNamed, List.all_cons, List.all_nil, List.length_cons, List.length_nil, Bool.and_true, Bool.true_and, Bool.and_self, Bool.not_true, Bool.not_false,
    decide_true, decide_eq_true_eq, beq_self_eq_true, true_and, and_true, if_true, if_false, reduceIte, reduceCtorEq, Option.isSome_some, Option.isSome_none, Nat.reduceAdd, Nat.reduceMul, Nat.reduceLeDiff, Nat.reduceSubDiff, Nat.add_one_sub_one, Nat.zero_lt_succ, Nat.succ_pos, Nat.lt_add_left_iff_pos,
    Bool.false_eq_true, false_and, and_false, behindInMarks, namesOf, Option.map_some, Option.some.injEq, exists_eq_left', exists_eq_left, or_false, false_or, or_self, not_true, not_false_iff, methW, hlst, builtinW]
    refine vc_app' (P := fun σ₂ => Kf .next _ σ₂) h4 (by rw [sizeLine_eq]; simp; omega) fun σ₂ h₅ => ?_
    exact kn _ _ ⟨_, fs ++ [f], rfl, by simp [h1], by simpa using h₅⟩

theorem c_init_targets (hK : Γ.K = KK P) {n : Nat} {σ0 σ : MH} {R : KP} {X : XP} {x dx tg : Addr} {es : List (Str × MV)} {m : Nat} {L : List (Addr × MO)} {outs : List Str}
    (h : TI σ0 σ x dx es m L) (hf : σ0 tg = some (.list (sLst outs))) (hz : outs.length ≤ 100)
    (k : ∀ σ' l, TI σ0 σ' x dx es m ((l, .list (sLst outs)) :: L) → R (.ref l) σ') : CodeP Γ (n + 1) (.ref 151) [.ref x, .ref tg] [] σ R X := by
  refine code_body [Str.ofString "targets", Str.ofString "target"] (by rw [hK]; exact rfl) (by rw [hK]; exact rfl) (mb := [(Str.ofString "self", .ref x), (Str.ofString "items", .ref tg)]) ?_ ?_ ?_ ?_ (by decide) rfl rfl rfl
  · intro s vs kws hX hv0 hk
    obtain ⟨v1, vs1, rfl, g1, hv1⟩ := hv0.cons_inv
    obtain ⟨v2, vs2, rfl, g2, hv2⟩ := hv1.cons_inv
    cases hv2
    cases hk
    exact ⟨_, .of_eq rfl, .cons ⟨rfl, g1⟩ (.cons ⟨rfl, g2⟩ .nil)⟩
  · simp only [WS, W1, W, WL, WK, WT, WTs, WB, WO, bindW, nameW, List.lookup, ofString_beq, ofString_inj, String.reduceBEq, String.reduceEq, String.reduceBNe, String.reduceNe, ML.get, ML.set, List.map_cons, List.map_nil, locals0,
    List.cons_append, List.nil_append, callW, callOk, plainArg, notSuper, kwNamed, List.all_cons, List.all_nil, List.length_cons, List.length_nil, Bool.and_true, Bool.true_and, Bool.and_self, Bool.not_true, Bool.not_false,
    decide_true, decide_eq_true_eq, beq_self_eq_true, true_and, and_true, if_true, if_false, reduceIte, reduceCtorEq, Option.isSome_some, Option.isSome_none, Nat.reduceAdd, Nat.reduceMul, Nat.reduceLeDiff, Nat.reduceSubDiff, Nat.add_one_sub_one, Nat.zero_lt_succ, Nat.succ_pos, Nat.lt_add_left_iff_pos,
    Bool.false_eq_true, false_and, and_false, behindInMarks, namesOf, Option.map_some, Option.some.injEq, exists_eq_left', exists_eq_left, or_false, false_or, or_self, not_true, not_false_iff, List.mem_cons, List.not_mem_nil, or_false, forall_eq_or_imp, forall_eq]
  · simp only [WS, W1, W, WL, WK, WT, WTs, WB, WO, bindW, nameW, List.lookup, ofString_beq, ofString_inj, String.reduceBEq, String.reduceEq, String.reduceBNe, String.reduceNe, ML.get, ML.set, List.map_cons, List.map_nil, locals0,
    List.cons_append, List.nil_append, callW, callOk, plainArg, notSuper, kwNamed, List.all_cons, List.all_nil, List.length_cons, List.length_nil, Bool.and_true, Bool.true_and, Bool.and_self, Bool.not_true, Bool.not_false,
    decide_true, decide_eq_true_eq, beq_self_eq_true, true_and, and_true, if_true, if_false, reduceIte, reduceCtorEq, Option.isSome_some, Option.isSome_none, Nat.reduceAdd, Nat.reduceMul, Nat.reduceLeDiff, Nat.reduceSubDiff, Nat.add_one_sub_one, Nat.zero_lt_succ, Nat.succ_pos, Nat.lt_add_left_iff_pos,
    Bool.false_eq_true, false_and, and_false, behindInMarks, namesOf, Option.map_some, Option.some.injEq, exists_eq_left', exists_eq_left, or_false, false_or, or_self, not_true, not_false_iff, List.nodup_cons, List.mem_cons, List.not_mem_nil, or_false, not_false_iff, List.nodup_nil, or_self]
  simp only [WS, W1, W, WL, WK, WT, WTs, WB, WO, bindW, nameW, List.lookup, ofString_beq, ofString_inj, String.reduceBEq, String.reduceEq, String.reduceBNe, String.reduceNe, ML.get, ML.set, List.map_cons, List.map_nil, locals0,
    List.cons_append, List.nil_append, callW, callOk, plainArg, notSuper, kwNamed, List.all_cons, List.all_nil, List.length_cons, List.length_nil, Bool.and_true, Bool.true_and, Bool.and_self, Bool.not_true, Bool.not_false,
    decide_true, decide_eq_true_eq, beq_self_eq_true, true_and, and_true, if_true, if_false, reduceIte, reduceCtorEq, Option.isSome_some, Option.isSome_none, Nat.reduceAdd, Nat.reduceMul, Nat.reduceLeDiff, Nat.reduceSubDiff, Nat.add_one_sub_one, Nat.zero_lt_succ, Nat.succ_pos, Nat.lt_add_left_iff_pos,
    Bool.false_eq_true, false_and, and_false, behindInMarks, namesOf, Option.map_some, Option.some.injEq, exists_eq_left', exists_eq_left, or_false, false_or, or_self, not_true, not_false_iff]
  have g1 := gl_isinstance (P := P)
  have g2 := gl_str (P := P)
  rw [← hK] at g1 g2
  refine vc_alloc h rfl fun l σ₁ h₁ => ?_
  refine ⟨tg, _, _, rfl, h₁.g _ _ hf, rfl, ?_⟩
  refine forW_list .str (fun rest μ σ' => ∃ w fs, μ = [(Str.ofString "self", some (.ref x)), (Str.ofString "items", some (.ref tg)), (Str.ofString "targets", some (.ref l)), (Str.ofString "target", w)] ∧ fs ++ rest = outs ∧
    TI σ0 σ' x dx es m ((l, .list (sLst fs)) :: L)) ?_ ?_ outs _ _ ⟨none, [], rfl, rfl, h₁⟩
  · rintro μ σ' ⟨w, fs, rfl, h1, h3⟩
    rw [List.append_nil] at h1; subst h1
    simp only [WS, W1, W, WL, WK, WT, WTs, WB, WO, bindW, nameW, List.lookup, ofString_beq, ofString_inj, String.reduceBEq, String.reduceEq, String.reduceBNe, String.reduceNe, ML.get, ML.set, List.map_cons, List.map_nil, locals0,
    List.cons_append, List.nil_append, callW, callOk, plainArg, notSuper, kwNamed, List.all_cons, List.all_nil, List.length_cons, List.length_nil, Bool.and_true, Bool.true_and, Bool.and_self, Bool.not_true, Bool.not_false,
    decide_true, decide_eq_true_eq, beq_self_eq_true, true_and, and_true, if_true, if_false, reduceIte, reduceCtorEq, Option.isSome_some, Option.isSome_none, Nat.reduceAdd, Nat.reduceMul, Nat.reduceLeDiff, Nat.reduceSubDiff, Nat.add_one_sub_one, Nat.zero_lt_succ, Nat.succ_pos, Nat.lt_add_left_iff_pos,
    Bool.false_eq_true, false_and, and_false, behindInMarks, namesOf, Option.map_some, Option.some.injEq, exists_eq_left', exists_eq_left, or_false, false_or, or_self, not_true, not_false_iff]
    exact ⟨h3.g _ _ hf, k σ' l h3⟩
  · rintro f rest μ σ' Kf ⟨w, fs, rfl, h1, h4⟩ kn _ _ _
    have hle : fs.length ≤ 100 := by
      have := congrArg List.length h1
      rw [List.length_append] at this; omega
    refine ⟨h4.g _ _ hf, ?_⟩
    have hlst := (h4.l (l, .list (sLst fs)) (.head _)).1
    simp only [WS, W1, W, WL, WK, WT, WTs, WB, WO, bindW, nameW, List.lookup, ofString_beq, ofString_inj, String.reduceBEq, String.reduceEq, String.reduceBNe, String.reduceNe, ML.get, ML.set, List.map_cons, List.map_nil, locals0,
    List.cons_append, List.nil_append, callW, callOk, plainArg, notSuper, kwNamed, List.all_cons, List.all_nil, List.length_cons, List.length_nil, Bool.and_true, Bool.true_and, Bool.and_self, Bool.not_true, Bool.not_false,
    decide_true, decide_eq_true_eq, beq_self_eq_true, true_and, and_true, if_true, if_false, reduceIte, reduceCtorEq, Option.isSome_some, Option.isSome_none, Nat.reduceAdd, Nat.reduceMul, Nat.reduceLeDiff, Nat.reduceSubDiff, Nat.add_one_sub_one, Nat.zero_lt_succ, Nat.succ_pos, Nat.lt_add_left_iff_pos,
    Bool.false_eq_true, false_and, and_false, behindInMarks, namesOf, Option.map_some, Option.some.injEq, exists_eq_left', exists_eq_left, or_false, false_or, or_self, not_true, not_false_iff, g1, g2, builtinW, truthW, methW, hlst]
    refine vc_app' (pre := []) (P := fun σ₂ => Kf .next _ σ₂) h4 (by rw [sizeLine_eq]; simp; omega) fun σ₂ h₅ => ?_
    exact kn _ _ ⟨_, fs ++ [f], rfl, by simp [h1], by simpa using h₅⟩

theorem c_init_uptodate (hK : Γ.K = KK P) {n : Nat} {σ0 σ : MH} {R : KP} {X : XP} {x dx up : Addr} {es : List (Str × MV)} {m : Nat} {L : List (Addr × MO)}
    (h : TI σ0 σ x dx es m L) (hf : (up, .list []) ∈ L)
    (k : ∀ σ' l, TI σ0 σ' x dx es m ((l, .list []) :: L) → R (.ref l) σ') : CodeP Γ (n + 1) (.ref 158) [.ref x, .ref up] [] σ R X := by
  refine code_body [Str.ofString "uptodate", Str.ofString "item"] (by rw [hK]; exact rfl) (by rw [hK]; exact rfl) (mb := [(Str.ofString "self", .ref x), (Str.ofString "items", .ref up)]) ?_ ?_ ?_ ?_ (by decide) rfl rfl rfl
  · intro s vs kws hX hv0 hk
    obtain ⟨v1, vs1, rfl, g1, hv1⟩ := hv0.cons_inv
    obtain ⟨v2, vs2, rfl, g2, hv2⟩ := hv1.cons_inv
    cases hv2
    cases hk
    exact ⟨_, .of_eq rfl, .cons ⟨rfl, g1⟩ (.cons ⟨rfl, g2⟩ .nil)⟩
  · simp only [WS, W1, W, WL, WK, WT, WTs, WB, WO, bindW, nameW, List.lookup, ofString_beq, ofString_inj, String.reduceBEq, String.reduceEq, String.reduceBNe, String.reduceNe, ML.get, ML.set, List.map_cons, List.map_nil, locals0,
    List.cons_append, List.nil_append, callW, callOk, plainArg, notSuper, kwNamed, List.all_cons, List.all_nil, List.length_cons, List.length_nil, Bool.and_true, Bool.true_and, Bool.and_self, Bool.not_true, Bool.not_false,
    decide_true, decide_eq_true_eq, beq_self_eq_true, true_and, and_true, if_true, if_false, reduceIte, reduceCtorEq, Option.isSome_some, Option.isSome_none, Nat.reduceAdd, Nat.reduceMul, Nat.reduceLeDiff, Nat.reduceSubDiff, Nat.add_one_sub_one, Nat.zero_lt_succ, Nat.succ_pos, Nat.lt_add_left_iff_pos,
    Bool.false_eq_true, false_and, and_false, behindInMarks, namesOf, Option.map_some, Option.some.injEq, exists_eq_left', exists_eq_left, or_false, false_or, or_self, not_true, not_false_iff, List.mem_cons, List.not_mem_nil, or_false, forall_eq_or_imp, forall_eq]
  · simp only [WS, W1, W, WL, WK, WT, WTs, WB, WO, bindW, nameW, List.lookup, ofString_beq, ofString_inj, String.reduceBEq, String.reduceEq, String.reduceBNe, String.reduceNe, ML.get, ML.set, List.map_cons, List.map_nil, locals0,
    List.cons_append, List.nil_append, callW, callOk, plainArg, notSuper, kwNamed, List.all_cons, List.all_nil, List.length_cons, List.length_nil, Bool.and_true, Bool.true_and, Bool.and_self, Bool.not_true, Bool.not_false,
    decide_true, decide_eq_true_eq, beq_self_eq_true, true_and, and_true, if_true, if_false, reduceIte, reduceCtorEq, Option.isSome_some, Option.isSome_none, Nat.reduceAdd, Nat.reduceMul, Nat.reduceLeDiff, Nat.reduceSubDiff, Nat.add_one_sub_one, Nat.zero_lt_succ, Nat.succ_pos, Nat.lt_add_left_iff_pos,
    Bool.false_eq_true, false_and, and_false, behindInMarks, namesOf, Option.map_some, Option.some.injEq, exists_eq_left', exists_eq_left, or_false, false_or, or_self, not_true, not_false_iff, List.nodup_cons, List.mem_cons, List.not_mem_nil, or_false, not_false_iff, List.nodup_nil, or_self]
  simp only [WS, W1, W, WL, WK, WT, WTs, WB, WO, bindW, nameW, List.lookup, ofString_beq, ofString_inj, String.reduceBEq, String.reduceEq, String.reduceBNe, String.reduceNe, ML.get, ML.set, List.map_cons, List.map_nil, locals0,
    List.cons_append, List.nil_append, callW, callOk, plainArg, notSuper, kwNamed, List.all_cons, List.all_nil, List.length_cons, List.length_nil, Bool.and_true, Bool.true_and, Bool.and_self, Bool.not_true, Bool.not_false,
    decide_true, decide_eq_true_eq, beq_self_eq_true, true_and, and_true, if_true, if_false, reduceIte, reduceCtorEq, Option.isSome_some, Option.isSome_none, Nat.reduceAdd, Nat.reduceMul, Nat.reduceLeDiff, Nat.reduceSubDiff, Nat.add_one_sub_one, Nat.zero_lt_succ, Nat.succ_pos, Nat.lt_add_left_iff_pos,
    Bool.false_eq_true, false_and, and_false, behindInMarks, namesOf, Option.map_some, Option.some.injEq, exists_eq_left', exists_eq_left, or_false, false_or, or_self, not_true, not_false_iff]
  refine vc_alloc h rfl fun l σ₁ h₁ => ?_
  have hu := (h₁.l _ (.tail _ hf)).1
  refine ⟨up, _, _, rfl, hu, rfl, ?_⟩
  simp only [WS, W1, W, WL, WK, WT, WTs, WB, WO, bindW, nameW, List.lookup, ofString_beq, ofString_inj, String.reduceBEq, String.reduceEq, String.reduceBNe, String.reduceNe, ML.get, ML.set, List.map_cons, List.map_nil, locals0,
    List.cons_append, List.nil_append, callW, callOk, plainArg, notSuper, kwNamed, List.all_cons, List.all_nil, List.length_cons, List.length_nil, Bool.and_true, Bool.true_and, Bool.and_self, Bool.not_true, Bool.not_false,
    decide_true, decide_eq_true_eq, beq_self_eq_true, true_and, and_true, if_true, if_false, reduceIte, reduceCtorEq, Option.isSome_some, Option.isSome_none, Nat.reduceAdd, Nat.reduceMul, Nat.reduceLeDiff, Nat.reduceSubDiff, Nat.add_one_sub_one, Nat.zero_lt_succ, Nat.succ_pos, Nat.lt_add_left_iff_pos,
    Bool.false_eq_true, false_and, and_false, behindInMarks, namesOf, Option.map_some, Option.some.injEq, exists_eq_left', exists_eq_left, or_false, false_or, or_self, not_true, not_false_iff, forW]
  exact ⟨hu, k σ₁ l h₁⟩
end
end Mine

open PySem PySem.W PyProof.Rows PySem.Calls
set_option Elab.async false
set_option autoImplicit false
set_option maxRecDepth 100000
set_option maxHeartbeats 8000000
set_option linter.all false
namespace Mine
section
variable {Γ : Rt} {P : Params}

theorem dget_nil {V : Type} {k : Str} : dget ([] : List (Str × V)) k = none := rfl

theorem c_init_deps (hK : Γ.K = KK P) {n : Nat} {σ0 σ : MH} {R : KP} {X : XP} {x dx fd td : Addr} {es : List (Str × MV)} {m : Nat} {L : List (Addr × MO)} {files deps : List Str}
    (h : TI σ0 σ x dx es m L) (hm : m < 900) (hf : σ0 fd = some (.list (sLst files))) (hzf : files.length ≤ 100) (ht : σ0 td = some (.list (sLst deps))) (hzt : deps.length ≤ 100)
    (hst : ∀ d ∈ deps, (Builtin.Str.occurrences d (Str.ofString "*") 0 d.length 1).isEmpty = true) (hc : σ0 128 = some (.tuple []))
    (n1 : dget es (Str.ofString "_expand_file_dep") = none) (n2 : dget es (Str.ofString "_expand_task_dep") = none)
    (k : ∀ σ' l1 l2 l3 l4 fs, (∀ f ∈ fs, f ∈ files) → fs.length ≤ files.length →
      TI σ0 σ' x dx (dput (dput (dput (dput (dput es (Str.ofString "dep_changed") .none) (Str.ofString "file_dep") (.ref l1)) (Str.ofString "task_dep") (.ref l2)) (Str.ofString "wild_dep") (.ref l3)) (Str.ofString "calc_dep") (.ref l4)) (m + 1 + 1 + 1 + 1 + 1)
        ((l4, .list []) :: (l3, .list []) :: (l2, .list (sLst deps)) :: (l1, .list (sLst fs)) :: L) → R .none σ') : CodeP Γ (n + 2) (.ref 144) [.ref x, .ref fd, .ref td, .ref 128] [] σ R X := by
  refine code_body [] (by rw [hK]; exact rfl) (by rw [hK]; exact rfl) (mb := [(Str.ofString "self", .ref x), (Str.ofString "file_dep", .ref fd), (Str.ofString "task_dep", .ref td), (Str.ofString "calc_dep", .ref 128)]) ?_ ?_ ?_ ?_ (by decide) rfl rfl rfl
  · intro s vs kws hX hv0 hk
    obtain ⟨v1, vs1, rfl, g1, hv1⟩ := hv0.cons_inv
    obtain ⟨v2, vs2, rfl, g2, hv2⟩ := hv1.cons_inv
    obtain ⟨v3, vs3, rfl, g3, hv3⟩ := hv2.cons_inv
    obtain ⟨v4, vs4, rfl, g4, hv4⟩ := hv3.cons_inv
    cases hv4
    cases hk
    exact ⟨_, .of_eq rfl, .cons ⟨rfl, g1⟩ (.cons ⟨rfl, g2⟩ (.cons ⟨rfl, g3⟩ (.cons ⟨rfl, g4⟩ .nil)))⟩
  · simp only [WS, W1, W, WL, WK, WT, WTs, WB, WO, bindW, nameW, List.lookup, ofString_beq, ofString_inj, String.reduceBEq, String.reduceEq, String.reduceBNe, String.reduceNe, ML.get, ML.set, List.map_cons, List.map_nil, locals0,
    List.cons_append, List.nil_append, callW, callOk, plainArg, notSuper, kwNamed, List.all_cons, List.all_nil, List.length_cons, List.length_nil, Bool.and_true, Bool.true_and, Bool.and_self, Bool.not_true, Bool.not_false,
    decide_true, decide_eq_true_eq, beq_self_eq_true, true_and, and_true, if_true, if_false, reduceIte, reduceCtorEq, Option.isSome_some, Option.isSome_none, Nat.reduceAdd, Nat.reduceMul, Nat.reduceLeDiff, Nat.reduceSubDiff, Nat.add_one_sub_one, Nat.zero_lt_succ, Nat.succ_pos, Nat.lt_add_left_iff_pos,
    Bool.false_eq_true, false_and, and_false, behindInMarks, namesOf, Option.map_some, Option.some.injEq, exists_eq_left', exists_eq_left, or_false, false_or, or_self, not_true, not_false_iff, List.mem_cons, List.not_mem_nil, or_false, forall_eq_or_imp, forall_eq]
  · simp only [WS, W1, W, WL, WK, WT, WTs, WB, WO, bindW, nameW, List.lookup, ofString_beq, ofString_inj, String.reduceBEq, String.reduceEq, String.reduceBNe, String.reduceNe, ML.get, ML.set, List.map_cons, List.map_nil, locals0,
    List.cons_append, List.nil_append, callW, callOk, plainArg, notSuper, kwNamed, List.all_cons, List.all_nil, List.length_cons, List.length_nil, Bool.and_true, Bool.true_and, Bool.and_self, Bool.not_true, Bool.not_false,
    decide_true, decide_eq_true_eq, beq_self_eq_true, true_and, and_true, if_true, if_false, reduceIte, reduceCtorEq, Option.isSome_some, Option.isSome_none, Nat.reduceAdd, Nat.reduceMul, Nat.reduceLeDiff, Nat.reduceSubDiff, Nat.add_one_sub_one, Nat.zero_lt_succ, Nat.succ_pos, Nat.lt_add_left_iff_pos,
    Bool.false_eq_true, false_and, and_false, behindInMarks, namesOf, Option.map_some, Option.some.injEq, exists_eq_left', exists_eq_left, or_false, false_or, or_self, not_true, not_false_iff, List.nodup_cons, List.mem_cons, List.not_mem_nil, or_false, not_false_iff, List.nodup_nil, or_self]
  have w1 := wr_dep_changed (P := P)
  have w2 := wr_file_dep (P := P)
  have w3 := wr_task_dep (P := P)
  have w4 := wr_wild_dep (P := P)
  have w5 := wr_calc_dep (P := P)
  have m1 := me_file (P := P)
  have m2 := me_task (P := P)
  have p1 := kp_165 (P := P)
  have p2 := kp_172 (P := P)
  rw [← hK] at w1 w2 w3 w4 w5 m1 m2 p1 p2
  simp only [WS, W1, W, WL, WK, WT, WTs, WB, WO, bindW, nameW, List.lookup, ofString_beq, ofString_inj, String.reduceBEq, String.reduceEq, String.reduceBNe, String.reduceNe, ML.get, ML.set, List.map_cons, List.map_nil, locals0,
    List.cons_append, List.nil_append, callW, callOk, plainArg, notSuper, kwNamed, List.all_cons, List.all_nil, List.length_cons, List.length_nil, Bool.and_true, Bool.true_and, Bool.and_self, Bool.not_true, Bool.not_false,
    decide_true, decide_eq_true_eq, beq_self_eq_true, true_and, and_true, if_true, if_false, reduceIte, reduceCtorEq, Option.isSome_some, Option.isSome_none, Nat.reduceAdd, Nat.reduceMul, Nat.reduceLeDiff, Nat.reduceSubDiff, Nat.add_one_sub_one, Nat.zero_lt_succ, Nat.succ_pos, Nat.lt_add_left_iff_pos,
    Bool.false_eq_true, false_and, and_false, behindInMarks, namesOf, Option.map_some, Option.some.injEq, exists_eq_left', exists_eq_left, or_false, false_or, or_self, not_true, not_false_iff, constW]
  refine vc_set w1 h (by omega) fun σ1 h => ?_
  refine vc_alloc h rfl fun l1 σ2 h => ?_
  refine vc_set w2 h (by omega) fun σ3 h => ?_
  refine vc_meth m1 h (by simp only [dget_dput, ofString_inj, String.reduceEq, if_false, n1]) ?_
  simp only [WS, W1, W, WL, WK, WT, WTs, WB, WO, bindW, nameW, List.lookup, ofString_beq, ofString_inj, String.reduceBEq, String.reduceEq, String.reduceBNe, String.reduceNe, ML.get, ML.set, List.map_cons, List.map_nil, locals0,
    List.cons_append, List.nil_append, callW, callOk, plainArg, notSuper, kwNamed, List.all_cons, List.all_nil, List.length_cons, List.length_nil, Bool.and_true, Bool.true_and, Bool.and_self, Bool.not_true, Bool.not_false,
    decide_true, decide_eq_true_eq, beq_self_eq_true, true_and, and_true, if_true, if_false, reduceIte, reduceCtorEq, Option.isSome_some, Option.isSome_none, Nat.reduceAdd, Nat.reduceMul, Nat.reduceLeDiff, Nat.reduceSubDiff, Nat.add_one_sub_one, Nat.zero_lt_succ, Nat.succ_pos, Nat.lt_add_left_iff_pos,
    Bool.false_eq_true, false_and, and_false, behindInMarks, namesOf, Option.map_some, Option.some.injEq, exists_eq_left', exists_eq_left, or_false, false_or, or_self, not_true, not_false_iff, p1]
  refine c_expand_file (pre := []) hK h (by simp only [dget_dput, ofString_inj, String.reduceEq, if_false, if_true]) hf hzf fun σ4 fs f1 f2 h => ?_
  refine vc_alloc h rfl fun l2 σ5 h => ?_
  refine vc_set w3 h (by omega) fun σ6 h => ?_
  refine vc_alloc h rfl fun l3 σ7 h => ?_
  refine vc_set w4 h (by omega) fun σ8 h => ?_
  have ht' := h.g _ _ ht
  simp only [WS, W1, W, WL, WK, WT, WTs, WB, WO, bindW, nameW, List.lookup, ofString_beq, ofString_inj, String.reduceBEq, String.reduceEq, String.reduceBNe, String.reduceNe, ML.get, ML.set, List.map_cons, List.map_nil, locals0,
    List.cons_append, List.nil_append, callW, callOk, plainArg, notSuper, kwNamed, List.all_cons, List.all_nil, List.length_cons, List.length_nil, Bool.and_true, Bool.true_and, Bool.and_self, Bool.not_true, Bool.not_false,
    decide_true, decide_eq_true_eq, beq_self_eq_true, true_and, and_true, if_true, if_false, reduceIte, reduceCtorEq, Option.isSome_some, Option.isSome_none, Nat.reduceAdd, Nat.reduceMul, Nat.reduceLeDiff, Nat.reduceSubDiff, Nat.add_one_sub_one, Nat.zero_lt_succ, Nat.succ_pos, Nat.lt_add_left_iff_pos,
    Bool.false_eq_true, false_and, and_false, behindInMarks, namesOf, Option.map_some, Option.some.injEq, exists_eq_left', exists_eq_left, or_false, false_or, or_self, not_true, not_false_iff, truthW, ht']
  cases deps with
  | nil =>
    simp only [WS, W1, W, WL, WK, WT, WTs, WB, WO, bindW, nameW, List.lookup, ofString_beq, ofString_inj, String.reduceBEq, String.reduceEq, String.reduceBNe, String.reduceNe, ML.get, ML.set, List.map_cons, List.map_nil, locals0,
    List.cons_append, List.nil_append, callW, callOk, plainArg, notSuper, kwNamed, List.all_cons, List.all_nil, List.length_cons, List.length_nil, Bool.and_true, Bool.true_and, Bool.and_self, Bool.not_true, Bool.not_false,
    decide_true, decide_eq_true_eq, beq_self_eq_true, true_and, and_true, if_true, if_false, reduceIte, reduceCtorEq, Option.isSome_some, Option.isSome_none, Nat.reduceAdd, Nat.reduceMul, Nat.reduceLeDiff, Nat.reduceSubDiff, Nat.add_one_sub_one, Nat.zero_lt_succ, Nat.succ_pos, Nat.lt_add_left_iff_pos,
    Bool.false_eq_true, false_and, and_false, behindInMarks, namesOf, Option.map_some, Option.some.injEq, exists_eq_left', exists_eq_left, or_false, false_or, or_self, not_true, not_false_iff, List.isEmpty_nil]
    refine vc_alloc h rfl fun l4 σ10 h => ?_
    refine vc_set w5 h (by omega) fun σ11 h => ?_
    have hc' := h.g _ _ hc
    simp only [WS, W1, W, WL, WK, WT, WTs, WB, WO, bindW, nameW, List.lookup, ofString_beq, ofString_inj, String.reduceBEq, String.reduceEq, String.reduceBNe, String.reduceNe, ML.get, ML.set, List.map_cons, List.map_nil, locals0,
    List.cons_append, List.nil_append, callW, callOk, plainArg, notSuper, kwNamed, List.all_cons, List.all_nil, List.length_cons, List.length_nil, Bool.and_true, Bool.true_and, Bool.and_self, Bool.not_true, Bool.not_false,
    decide_true, decide_eq_true_eq, beq_self_eq_true, true_and, and_true, if_true, if_false, reduceIte, reduceCtorEq, Option.isSome_some, Option.isSome_none, Nat.reduceAdd, Nat.reduceMul, Nat.reduceLeDiff, Nat.reduceSubDiff, Nat.add_one_sub_one, Nat.zero_lt_succ, Nat.succ_pos, Nat.lt_add_left_iff_pos,
    Bool.false_eq_true, false_and, and_false, behindInMarks, namesOf, Option.map_some, Option.some.injEq, exists_eq_left', exists_eq_left, or_false, false_or, or_self, not_true, not_false_iff, truthW, hc', List.isEmpty_nil]
    exact k _ l1 l2 l3 l4 fs f1 f2 h
  | cons d ds =>
    simp only [WS, W1, W, WL, WK, WT, WTs, WB, WO, bindW, nameW, List.lookup, ofString_beq, ofString_inj, String.reduceBEq, String.reduceEq, String.reduceBNe, String.reduceNe, ML.get, ML.set, List.map_cons, List.map_nil, locals0,
    List.cons_append, List.nil_append, callW, callOk, plainArg, notSuper, kwNamed, List.all_cons, List.all_nil, List.length_cons, List.length_nil, Bool.and_true, Bool.true_and, Bool.and_self, Bool.not_true, Bool.not_false,
    decide_true, decide_eq_true_eq, beq_self_eq_true, true_and, and_true, if_true, if_false, reduceIte, reduceCtorEq, Option.isSome_some, Option.isSome_none, Nat.reduceAdd, Nat.reduceMul, Nat.reduceLeDiff, Nat.reduceSubDiff, Nat.add_one_sub_one, Nat.zero_lt_succ, Nat.succ_pos, Nat.lt_add_left_iff_pos,
    Bool.false_eq_true, false_and, and_false, behindInMarks, namesOf, Option.map_some, Option.some.injEq, exists_eq_left', exists_eq_left, or_false, false_or, or_self, not_true, not_false_iff, List.isEmpty_cons]
    refine vc_meth m2 h (by simp only [dget_dput, ofString_inj, String.reduceEq, if_false, n2]) ?_
    simp only [WS, W1, W, WL, WK, WT, WTs, WB, WO, bindW, nameW, List.lookup, ofString_beq, ofString_inj, String.reduceBEq, String.reduceEq, String.reduceBNe, String.reduceNe, ML.get, ML.set, List.map_cons, List.map_nil, locals0,
    List.cons_append, List.nil_append, callW, callOk, plainArg, notSuper, kwNamed, List.all_cons, List.all_nil, List.length_cons, List.length_nil, Bool.and_true, Bool.true_and, Bool.and_self, Bool.not_true, Bool.not_false,
    decide_true, decide_eq_true_eq, beq_self_eq_true, true_and, and_true, if_true, if_false, reduceIte, reduceCtorEq, Option.isSome_some, Option.isSome_none, Nat.reduceAdd, Nat.reduceMul, Nat.reduceLeDiff, Nat.reduceSubDiff, Nat.add_one_sub_one, Nat.zero_lt_succ, Nat.succ_pos, Nat.lt_add_left_iff_pos,
    Bool.false_eq_true, false_and, and_false, behindInMarks, namesOf, Option.map_some, Option.some.injEq, exists_eq_left', exists_eq_left, or_false, false_or, or_self, not_true, not_false_iff, p2]
    refine c_expand_task (pre := [(l3, .list [])]) hK h (by simp only [dget_dput, ofString_inj, String.reduceEq, if_false, if_true]) ht hzt hst fun σ9 h => ?_
    refine vc_alloc h rfl fun l4 σ10 h => ?_
    refine vc_set w5 h (by omega) fun σ11 h => ?_
    have hc' := h.g _ _ hc
    simp only [WS, W1, W, WL, WK, WT, WTs, WB, WO, bindW, nameW, List.lookup, ofString_beq, ofString_inj, String.reduceBEq, String.reduceEq, String.reduceBNe, String.reduceNe, ML.get, ML.set, List.map_cons, List.map_nil, locals0,
    List.cons_append, List.nil_append, callW, callOk, plainArg, notSuper, kwNamed, List.all_cons, List.all_nil, List.length_cons, List.length_nil, Bool.and_true, Bool.true_and, Bool.and_self, Bool.not_true, Bool.not_false,
    decide_true, decide_eq_true_eq, beq_self_eq_true, true_and, and_true, if_true, if_false, reduceIte, reduceCtorEq, Option.isSome_some, Option.isSome_none, Nat.reduceAdd, Nat.reduceMul, Nat.reduceLeDiff, Nat.reduceSubDiff, Nat.add_one_sub_one, Nat.zero_lt_succ, Nat.succ_pos, Nat.lt_add_left_iff_pos,
    Bool.false_eq_true, false_and, and_false, behindInMarks, namesOf, Option.map_some, Option.some.injEq, exists_eq_left', exists_eq_left, or_false, false_or, or_self, not_true, not_false_iff, truthW, hc', List.isEmpty_nil]
    exact k _ l1 l2 l3 l4 fs f1 f2 h

/-- the class Task called, as law 2 does -/
theorem c_Task_init (hK : Γ.K = KK P) {n : Nat} {σ0 σ : MH} {R : KP} {X : XP} {x dx fd td tg : Addr} {name : Str} {files deps outs : List Str}
    (h : TI σ0 σ x dx [] 0 []) (hf : σ0 fd = some (.list (sLst files))) (hzf : files.length ≤ 100) (ht : σ0 td = some (.list (sLst deps))) (hzt : deps.length ≤ 100) (ho : σ0 tg = some (.list (sLst outs))) (hzo : outs.length ≤ 100)
    (hst : ∀ d ∈ deps, (Builtin.Str.occurrences d (Str.ofString "*") 0 d.length 1).isEmpty = true) (heq : (Builtin.Str.occurrences name (Str.ofString "=") 0 name.length 1).isEmpty = true)
    (h127 : σ0 127 = some (.tuple [])) (h128 : σ0 128 = some (.tuple [])) (h129 : σ0 129 = some (.tuple []))
    (k : ∀ σ' es' m' l1 l2 l3 fs L, (∀ f ∈ fs, f ∈ files) → fs.length ≤ files.length → TI σ0 σ' x dx es' m' L → (l1, .list (sLst fs)) ∈ L → (l2, .list (sLst deps)) ∈ L → (l3, .list (sLst outs)) ∈ L → [l1, l2, l3].Nodup →
      dget es' (Str.ofString "name") = some (.str name) → dget es' (Str.ofString "file_dep") = some (.ref l1) → dget es' (Str.ofString "task_dep") = some (.ref l2) → dget es' (Str.ofString "targets") = some (.ref l3) → R .none σ') :
    CodeP Γ (n + 3) (.ref 137) [.ref x, .str name, .none] [(Str.ofString "file_dep", .ref fd), (Str.ofString "targets", .ref tg), (Str.ofString "task_dep", .ref td)] σ R X := by
  refine code_body [] (by rw [hK]; exact rfl) (by rw [hK]; exact rfl) (mb := [(Str.ofString "self", .ref x), (Str.ofString "name", .str name), (Str.ofString "actions", .none), (Str.ofString "file_dep", .ref fd), (Str.ofString "targets", .ref tg), (Str.ofString "task_dep", .ref td),
    (Str.ofString "uptodate", .ref 127), (Str.ofString "calc_dep", .ref 128), (Str.ofString "setup", .ref 129), (Str.ofString "subtask_of", .none), (Str.ofString "has_subtask", .bool false), (Str.ofString "getargs", .none)]) ?_ ?_ ?_ ?_ (by decide) rfl rfl rfl
  · intro s vs kws hX hv0 hk
    obtain ⟨v1, vs1, rfl, g1, hv1⟩ := hv0.cons_inv
    obtain ⟨v2, vs2, rfl, g2, hv2⟩ := hv1.cons_inv
    obtain ⟨v3, vs3, rfl, g3, hv3⟩ := hv2.cons_inv
    cases hv3
    obtain ⟨⟨k1, u1⟩, ks1, rfl, ⟨e1, f1⟩, hk1⟩ := hk.cons_inv
    obtain ⟨⟨k2, u2⟩, ks2, rfl, ⟨e2, f2⟩, hk2⟩ := hk1.cons_inv
    obtain ⟨⟨k3, u3⟩, ks3, rfl, ⟨e3, f3⟩, hk3⟩ := hk2.cons_inv
    cases hk3
    simp only at e1 e2 e3 f1 f2 f3
    subst e1 e2 e3
    refine ⟨_, binds_K hX rfl (by rw [hK]; exact rfl) rfl rfl rfl, ?_⟩
    exact .cons ⟨rfl, g1⟩ (.cons ⟨rfl, g2⟩ (.cons ⟨rfl, g3⟩ (.cons ⟨rfl, f1⟩ (.cons ⟨rfl, f2⟩ (.cons ⟨rfl, f3⟩ (.cons ⟨rfl, rfl⟩ (.cons ⟨rfl, rfl⟩ (.cons ⟨rfl, rfl⟩ (.cons ⟨rfl, rfl⟩ (.cons ⟨rfl, rfl⟩ (.cons ⟨rfl, rfl⟩ .nil)))))))))))
  · simp only [WS, W1, W, WL, WK, WT, WTs, WB, WO, bindW, nameW, List.lookup, ofString_beq, ofString_inj, String.reduceBEq, String.reduceEq, String.reduceBNe, String.reduceNe, ML.get, ML.set, List.map_cons, List.map_nil, locals0,
    List.cons_append, List.nil_append, callW, callOk, plainArg, notSuper, kwNamed, List.all_cons, List.all_nil, List.length_cons, List.length_nil, Bool.and_true, Bool.true_and, Bool.and_self, Bool.not_true, Bool.not_false,
    decide_true, decide_eq_true_eq, beq_self_eq_true, true_and, and_true, if_true, if_false, reduceIte, reduceCtorEq, Option.isSome_some, Option.isSome_none, Nat.reduceAdd, Nat.reduceMul, Nat.reduceLeDiff, Nat.reduceSubDiff, Nat.add_one_sub_one, Nat.zero_lt_succ, Nat.succ_pos, Nat.lt_add_left_iff_pos,
    Bool.false_eq_true, false_and, and_false, behindInMarks, namesOf, Option.map_some, Option.some.injEq, exists_eq_left', exists_eq_left, or_false, false_or, or_self, not_true, not_false_iff, List.mem_cons, List.not_mem_nil, or_false, forall_eq_or_imp, forall_eq]
  · simp only [WS, W1, W, WL, WK, WT, WTs, WB, WO, bindW, nameW, List.lookup, ofString_beq, ofString_inj, String.reduceBEq, String.reduceEq, String.reduceBNe, String.reduceNe, ML.get, ML.set, List.map_cons, List.map_nil, locals0,
    List.cons_append, List.nil_append, callW, callOk, plainArg, notSuper, kwNamed, List.all_cons, List.all_nil, List.length_cons, List.length_nil, Bool.and_true, Bool.true_and, Bool.and_self, Bool.not_true, Bool.not_false,
    decide_true, decide_eq_true_eq, beq_self_eq_true, true_and, and_true, if_true, if_false, reduceIte, reduceCtorEq, Option.isSome_some, Option.isSome_none, Nat.reduceAdd, Nat.reduceMul, Nat.reduceLeDiff, Nat.reduceSubDiff, Nat.add_one_sub_one, Nat.zero_lt_succ, Nat.succ_pos, Nat.lt_add_left_iff_pos,
    Bool.false_eq_true, false_and, and_false, behindInMarks, namesOf, Option.map_some, Option.some.injEq, exists_eq_left', exists_eq_left, or_false, false_or, or_self, not_true, not_false_iff, List.nodup_cons, List.mem_cons, List.not_mem_nil, or_false, not_false_iff, List.nodup_nil, or_self]
  have w1 := wr_name (P := P)
  have w2 := wr_options (P := P)
  have w3 := wr_setup_tasks (P := P)
  have w4 := wr_actions (P := P)
  have w5 := wr_getargs (P := P)
  have w6 := wr_value_savers (P := P)
  have w7 := wr_uptodate (P := P)
  have w8 := wr_targets (P := P)
  have w9 := wr_subtask_of (P := P)
  have w10 := wr_has_subtask (P := P)
  have w11 := wr_result (P := P)
  have w12 := wr_values (P := P)
  have w13 := wr_executed (P := P)
  have r1 := rd_getargs (P := P)
  have m1 := me_deps (P := P)
  have m2 := me_uptodate (P := P)
  have m3 := me_targets (P := P)
  have p1 := kp_144 (P := P)
  have p2 := kp_158 (P := P)
  have p3 := kp_151 (P := P)
  have gl := gl_list (P := P)
  rw [← hK] at w1 w2 w3 w4 w5 w6 w7 w8 w9 w10 w11 w12 w13 r1 m1 m2 m3 p1 p2 p3 gl
  simp only [WS, W1, W, WL, WK, WT, WTs, WB, WO, bindW, nameW, List.lookup, ofString_beq, ofString_inj, String.reduceBEq, String.reduceEq, String.reduceBNe, String.reduceNe, ML.get, ML.set, List.map_cons, List.map_nil, locals0,
    List.cons_append, List.nil_append, callW, callOk, plainArg, notSuper, kwNamed, List.all_cons, List.all_nil, List.length_cons, List.length_nil, Bool.and_true, Bool.true_and, Bool.and_self, Bool.not_true, Bool.not_false,
    decide_true, decide_eq_true_eq, beq_self_eq_true, true_and, and_true, if_true, if_false, reduceIte, reduceCtorEq, Option.isSome_some, Option.isSome_none, Nat.reduceAdd, Nat.reduceMul, Nat.reduceLeDiff, Nat.reduceSubDiff, Nat.add_one_sub_one, Nat.zero_lt_succ, Nat.succ_pos, Nat.lt_add_left_iff_pos,
    Bool.false_eq_true, false_and, and_false, behindInMarks, namesOf, Option.map_some, Option.some.injEq, exists_eq_left', exists_eq_left, or_false, false_or, or_self, not_true, not_false_iff, constW, truthW, strOk_ofString, cmpW, heq, gl]
  refine vc_alloc h rfl fun ga σ1 h => ?_
  refine vc_set w1 h (by omega) fun σ2 h => ?_
  refine vc_set w2 h (by omega) fun σ3 h => ?_
  have h129' := h.g _ _ h129
  simp only [WS, W1, W, WL, WK, WT, WTs, WB, WO, bindW, nameW, List.lookup, ofString_beq, ofString_inj, String.reduceBEq, String.reduceEq, String.reduceBNe, String.reduceNe, ML.get, ML.set, List.map_cons, List.map_nil, locals0,
    List.cons_append, List.nil_append, callW, callOk, plainArg, notSuper, kwNamed, List.all_cons, List.all_nil, List.length_cons, List.length_nil, Bool.and_true, Bool.true_and, Bool.and_self, Bool.not_true, Bool.not_false,
    decide_true, decide_eq_true_eq, beq_self_eq_true, true_and, and_true, if_true, if_false, reduceIte, reduceCtorEq, Option.isSome_some, Option.isSome_none, Nat.reduceAdd, Nat.reduceMul, Nat.reduceLeDiff, Nat.reduceSubDiff, Nat.add_one_sub_one, Nat.zero_lt_succ, Nat.succ_pos, Nat.lt_add_left_iff_pos,
    Bool.false_eq_true, false_and, and_false, behindInMarks, namesOf, Option.map_some, Option.some.injEq, exists_eq_left', exists_eq_left, or_false, false_or, or_self, not_true, not_false_iff, typeW, h129']
  refine vc_alloc h rfl fun a1 σ4 h => ?_
  refine vc_set w3 h (by omega) fun σ5 h => ?_
  refine vc_alloc h rfl fun a2 σ6 h => ?_
  refine vc_set w4 h (by omega) fun σ7 h => ?_
  refine vc_meth m1 h (by simp only [dget_dput, ofString_inj, String.reduceEq, if_false, dget_nil]) ?_
  simp only [WS, W1, W, WL, WK, WT, WTs, WB, WO, bindW, nameW, List.lookup, ofString_beq, ofString_inj, String.reduceBEq, String.reduceEq, String.reduceBNe, String.reduceNe, ML.get, ML.set, List.map_cons, List.map_nil, locals0,
    List.cons_append, List.nil_append, callW, callOk, plainArg, notSuper, kwNamed, List.all_cons, List.all_nil, List.length_cons, List.length_nil, Bool.and_true, Bool.true_and, Bool.and_self, Bool.not_true, Bool.not_false,
    decide_true, decide_eq_true_eq, beq_self_eq_true, true_and, and_true, if_true, if_false, reduceIte, reduceCtorEq, Option.isSome_some, Option.isSome_none, Nat.reduceAdd, Nat.reduceMul, Nat.reduceLeDiff, Nat.reduceSubDiff, Nat.add_one_sub_one, Nat.zero_lt_succ, Nat.succ_pos, Nat.lt_add_left_iff_pos,
    Bool.false_eq_true, false_and, and_false, behindInMarks, namesOf, Option.map_some, Option.some.injEq, exists_eq_left', exists_eq_left, or_false, false_or, or_self, not_true, not_false_iff, p1]
  refine c_init_deps hK h (by omega) hf hzf ht hzt hst h128 (by simp only [dget_dput, ofString_inj, String.reduceEq, if_false, dget_nil]) (by simp only [dget_dput, ofString_inj, String.reduceEq, if_false, dget_nil]) fun σ8 l1 l2 l3 l4 fs f1 f2 h => ?_
  have h127' := h.g _ _ h127
  simp only [WS, W1, W, WL, WK, WT, WTs, WB, WO, bindW, nameW, List.lookup, ofString_beq, ofString_inj, String.reduceBEq, String.reduceEq, String.reduceBNe, String.reduceNe, ML.get, ML.set, List.map_cons, List.map_nil, locals0,
    List.cons_append, List.nil_append, callW, callOk, plainArg, notSuper, kwNamed, List.all_cons, List.all_nil, List.length_cons, List.length_nil, Bool.and_true, Bool.true_and, Bool.and_self, Bool.not_true, Bool.not_false,
    decide_true, decide_eq_true_eq, beq_self_eq_true, true_and, and_true, if_true, if_false, reduceIte, reduceCtorEq, Option.isSome_some, Option.isSome_none, Nat.reduceAdd, Nat.reduceMul, Nat.reduceLeDiff, Nat.reduceSubDiff, Nat.add_one_sub_one, Nat.zero_lt_succ, Nat.succ_pos, Nat.lt_add_left_iff_pos,
    Bool.false_eq_true, false_and, and_false, behindInMarks, namesOf, Option.map_some, Option.some.injEq, exists_eq_left', exists_eq_left, or_false, false_or, or_self, not_true, not_false_iff, truthW, h127', List.isEmpty_nil]
  refine vc_alloc h rfl fun up σ9 h => ?_
  refine vc_set w5 h (by omega) fun σ10 h => ?_
  refine vc_get (v := .ref ga) r1 h (by simp only [dget_dput, ofString_inj, String.reduceEq, if_false, if_true, dget_nil]) rfl ?_
  have hga := (h.l (ga, .dict []) (by simp)).1
  simp only [WS, W1, W, WL, WK, WT, WTs, WB, WO, bindW, nameW, List.lookup, ofString_beq, ofString_inj, String.reduceBEq, String.reduceEq, String.reduceBNe, String.reduceNe, ML.get, ML.set, List.map_cons, List.map_nil, locals0,
    List.cons_append, List.nil_append, callW, callOk, plainArg, notSuper, kwNamed, List.all_cons, List.all_nil, List.length_cons, List.length_nil, Bool.and_true, Bool.true_and, Bool.and_self, Bool.not_true, Bool.not_false,
    decide_true, decide_eq_true_eq, beq_self_eq_true, true_and, and_true, if_true, if_false, reduceIte, reduceCtorEq, Option.isSome_some, Option.isSome_none, Nat.reduceAdd, Nat.reduceMul, Nat.reduceLeDiff, Nat.reduceSubDiff, Nat.add_one_sub_one, Nat.zero_lt_succ, Nat.succ_pos, Nat.lt_add_left_iff_pos,
    Bool.false_eq_true, false_and, and_false, behindInMarks, namesOf, Option.map_some, Option.some.injEq, exists_eq_left', exists_eq_left, or_false, false_or, or_self, not_true, not_false_iff, hga, List.isEmpty_nil]
  refine vc_alloc h rfl fun sv σ11 h => ?_
  refine vc_set w6 h (by omega) fun σ12 h => ?_
  refine vc_meth m2 h (by simp only [dget_dput, ofString_inj, String.reduceEq, if_false, if_true, dget_nil]) ?_
  simp only [WS, W1, W, WL, WK, WT, WTs, WB, WO, bindW, nameW, List.lookup, ofString_beq, ofString_inj, String.reduceBEq, String.reduceEq, String.reduceBNe, String.reduceNe, ML.get, ML.set, List.map_cons, List.map_nil, locals0,
    List.cons_append, List.nil_append, callW, callOk, plainArg, notSuper, kwNamed, List.all_cons, List.all_nil, List.length_cons, List.length_nil, Bool.and_true, Bool.true_and, Bool.and_self, Bool.not_true, Bool.not_false,
    decide_true, decide_eq_true_eq, beq_self_eq_true, true_and, and_true, if_true, if_false, reduceIte, reduceCtorEq, Option.isSome_some, Option.isSome_none, Nat.reduceAdd, Nat.reduceMul, Nat.reduceLeDiff, Nat.reduceSubDiff, Nat.add_one_sub_one, Nat.zero_lt_succ, Nat.succ_pos, Nat.lt_add_left_iff_pos,
    Bool.false_eq_true, false_and, and_false, behindInMarks, namesOf, Option.map_some, Option.some.injEq, exists_eq_left', exists_eq_left, or_false, false_or, or_self, not_true, not_false_iff, p2]
  refine c_init_uptodate hK h (by simp) fun σ13 lu h => ?_
  refine vc_set w7 h (by omega) fun σ14 h => ?_
  refine vc_meth m3 h (by simp only [dget_dput, ofString_inj, String.reduceEq, if_false, if_true, dget_nil]) ?_
  simp only [WS, W1, W, WL, WK, WT, WTs, WB, WO, bindW, nameW, List.lookup, ofString_beq, ofString_inj, String.reduceBEq, String.reduceEq, String.reduceBNe, String.reduceNe, ML.get, ML.set, List.map_cons, List.map_nil, locals0,
    List.cons_append, List.nil_append, callW, callOk, plainArg, notSuper, kwNamed, List.all_cons, List.all_nil, List.length_cons, List.length_nil, Bool.and_true, Bool.true_and, Bool.and_self, Bool.not_true, Bool.not_false,
    decide_true, decide_eq_true_eq, beq_self_eq_true, true_and, and_true, if_true, if_false, reduceIte, reduceCtorEq, Option.isSome_some, Option.isSome_none, Nat.reduceAdd, Nat.reduceMul, Nat.reduceLeDiff, Nat.reduceSubDiff, Nat.add_one_sub_one, Nat.zero_lt_succ, Nat.succ_pos, Nat.lt_add_left_iff_pos,
    Bool.false_eq_true, false_and, and_false, behindInMarks, namesOf, Option.map_some, Option.some.injEq, exists_eq_left', exists_eq_left, or_false, false_or, or_self, not_true, not_false_iff, p3]
  refine c_init_targets hK h ho hzo fun σ15 l5 h => ?_
  refine vc_set w8 h (by omega) fun σ16 h => ?_
  refine vc_set w9 h (by omega) fun σ17 h => ?_
  refine vc_set w10 h (by omega) fun σ18 h => ?_
  refine vc_set w11 h (by omega) fun σ19 h => ?_
  refine vc_alloc h rfl fun dv σ20 h => ?_
  refine vc_set w12 h (by omega) fun σ21 h => ?_
  refine vc_set w13 h (by omega) fun σ22 h => ?_
  refine k _ _ _ l1 l2 l5 fs _ f1 f2 h (by simp) (by simp) (by simp) ?_ (by simp only [dget_dput, ofString_inj, String.reduceEq, if_false, if_true, dget_nil]) (by simp only [dget_dput, ofString_inj, String.reduceEq, if_false, if_true, dget_nil]) (by simp only [dget_dput, ofString_inj, String.reduceEq, if_false, if_true, dget_nil]) (by simp only [dget_dput, ofString_inj, String.reduceEq, if_false, if_true, dget_nil])
  have nd := h.nd
  simp only [List.map_cons, List.map_nil, List.nodup_cons, List.mem_cons, List.not_mem_nil, or_false, not_or, List.nodup_nil, and_true, not_false_iff] at nd ⊢
  refine ⟨⟨fun e => ?_, fun e => ?_⟩, fun e => ?_⟩ <;> simp [e] at nd

/-- Task(name, None, file_dep=.., targets=.., task_dep=..) -/
theorem c_Task (hK : Γ.K = KK P) {n : Nat} {σ : MH} {R : KP} {X : XP} {fd td tg : Addr} {name : Str} {files deps outs : List Str}
    (hf : σ fd = some (.list (sLst files))) (hzf : files.length ≤ 100) (ht : σ td = some (.list (sLst deps))) (hzt : deps.length ≤ 100) (ho : σ tg = some (.list (sLst outs))) (hzo : outs.length ≤ 100)
    (hst : ∀ d ∈ deps, (Builtin.Str.occurrences d (Str.ofString "*") 0 d.length 1).isEmpty = true) (heq : (Builtin.Str.occurrences name (Str.ofString "=") 0 name.length 1).isEmpty = true)
    (h127 : σ 127 = some (.tuple [])) (h128 : σ 128 = some (.tuple [])) (h129 : σ 129 = some (.tuple [])) (okn : okS name) (okf : ∀ f ∈ files, okS f) (oko : ∀ f ∈ outs, okS f)
    (k : ∀ σ' r, Grow σ σ' → TaskAt σ' r → r.name = name → r.files.length ≤ files.length → r.outs = outs → σ' r.td = some (.list (sLst deps)) → σ r.t = none → σ r.d = none → σ r.fd = none → σ r.td = none → σ r.tg = none → r.td ≠ r.fd → r.td ≠ r.tg → R (.ref r.t) σ') :
    CodeP Γ (n + 4) (.ref 223) [.str name, .none] [(Str.ofString "file_dep", .ref fd), (Str.ofString "targets", .ref tg), (Str.ofString "task_dep", .ref td)] σ R X := by
  refine code_make (n := n + 3) (fI := 137) (by rw [hK]; rfl) (by rw [hK]; rfl) (by rw [hK]; rfl) fun x dx hdx hx hne => ?_
  have h0 : TI σ (upd (upd σ dx (.ns [])) x (.inst 223 dx)) x dx [] 0 [] := by
    refine ⟨(Grow.refl.new hdx).new hx, upd_same, by rw [upd_ne (Ne.symm hne)]; exact upd_same, Nat.le_refl _, hx, hdx, fun _ h => (nomatch h), List.nodup_nil⟩
  refine c_Task_init hK h0 hf hzf ht hzt ho hzo hst heq h127 h128 h129 fun σ' es' m' l1 l2 l3 fs L f1 f2 h e1 e2 e3 nd d1 d2 d3 d4 => ⟨rfl, ?_⟩
  obtain ⟨a1, b1, _⟩ := h.l _ e1
  obtain ⟨a2, b2, _⟩ := h.l _ e2
  obtain ⟨a3, b3, _⟩ := h.l _ e3
  simp only [List.nodup_cons, List.mem_cons, List.not_mem_nil, or_false, not_or] at nd
  exact k σ' ⟨x, dx, l1, l2, l3, es', name, fs, outs⟩ h.g ⟨h.xi, h.d, d1, d2, d3, d4, a1, a3, okn, fun f hf => okf f (f1 f hf), oko⟩ rfl f2 rfl a2 hx hdx b1 b2 b3 (Ne.symm nd.1.1) nd.2.1
end
end Mine

open PySem PySem.W PyProof.Rows PySem.Calls
set_option Elab.async false
set_option autoImplicit false
set_option maxRecDepth 100000
set_option maxHeartbeats 8000000
set_option linter.all false
namespace Mine

/-- a task that the law has made: its own takings and the law's, the same -/
structure LR extends TR where
  nl : Addr
  deps : List MV

def nmOf (i k : Nat) : Str := Str.ofString "t" ++ Str.ofString (toString (i : Int)) ++ Str.ofString "_" ++ Str.ofString (toString (k : Int))

def keysNd (T : List (Str × MV)) : Prop := (T.map (·.1)).Nodup
theorem keysNd_put {T : List (Str × MV)} {k : Str} {v : MV} (h : keysNd T) : keysNd (dput T k v) := by
  unfold keysNd dput at *
  split
  · rw [List.map_map]
    have : (T.map ((fun q : Str × MV => q.1) ∘ fun q => if q.1 = k then (q.1, v) else q)) = T.map (·.1) := by
      refine List.map_congr_left fun q _ => ?_
      simp only [Function.comp]; split <;> rfl
    rw [this]; exact h
  · rename_i hn
    rw [List.map_append, List.nodup_append]
    refine ⟨h, by simp, ?_⟩
    intro a ha b hb e
    simp only [List.map_cons, List.map_nil, List.mem_singleton] at hb
    subst hb; subst e
    obtain ⟨q, hq, e⟩ := List.mem_map.mp ha
    exact hn (List.any_eq_true.mpr ⟨q, hq, by simpa using e⟩)
theorem dget_mem {T : List (Str × MV)} (h : keysNd T) {q : Str × MV} (hq : q ∈ T) : dget T q.1 = some q.2 := by
  unfold keysNd at h
  induction T with
  | nil => cases hq
  | cons p r ih =>
    rw [List.map_cons, List.nodup_cons] at h
    rw [dget_cons]
    rcases List.mem_cons.mp hq with e | hq
    · subst e; simp
    · have : p.1 ≠ q.1 := fun e => h.1 (e ▸ List.mem_map_of_mem (f := (·.1)) hq)
      rw [if_neg this]; exact ih h.2 hq

structure Inv (σ : MH) (recs : List LR) (NE T : List (Str × MV)) (nd lv kp bk : Addr) (rd : Nat) : Prop where
  hlv : σ lv = some (.list (recs.map fun r => .ref r.t))
  hnd : σ nd = some (.dict NE)
  hkp : σ kp = some (.dict T)
  hbk : σ bk = some (.dict T)
  d1 : kp ≠ bk
  d2 : nd ≠ kp
  d3 : nd ≠ bk
  tk : ∀ r ∈ recs, TaskAt σ r.toTR ∧ σ r.td = some (.list r.deps) ∧ σ r.nl = some (.list r.deps) ∧ dget NE r.name = some (.ref r.nl) ∧ (∃ i k, i < rd ∧ k < 3 ∧ r.name = nmOf i k) ∧ r.deps.length ≤ 3 * rd + 1 ∧ r.files.length ≤ 3 ∧ r.outs.length ≤ 2 ∧ (∀ q ∈ r.deps, ∃ x, q = .str x)
  mutn : (recs.map (fun r => r.td) ++ recs.map (fun r => r.nl)).Nodup
  sep : ∀ r ∈ recs, ∀ r' ∈ recs, r.td ≠ r'.fd ∧ r.td ≠ r'.tg ∧ r.nl ≠ r'.fd ∧ r.nl ≠ r'.tg
  sepl : ∀ r ∈ recs, r.td ≠ lv ∧ r.nl ≠ lv ∧ r.fd ≠ lv ∧ r.tg ≠ lv
  vals : strVals T
  kT : keysNd T
  lT : T.length ≤ 6 * rd
  lN : NE.length ≤ 3 * rd
  lR : recs.length ≤ 3 * rd

section
variable {Γ : Rt} {P : Params}
theorem gl_len : globOf (KK P) (Str.ofString "len") = some (.builtin "len") := by rfl
theorem gl_range : globOf (KK P) (Str.ofString "range") = some (.type "range") := by rfl
theorem gl_tuple : globOf (KK P) (Str.ofString "tuple") = some (.type "tuple") := by rfl
theorem gl_Task : globOf (KK P) (Str.ofString "Task") = some (.ref 223) := by rfl
theorem gl_num : globOf (KK P) (Str.ofString "_law_num") = some (.ref 485) := by rfl
theorem gl_names : globOf (KK P) (Str.ofString "_law_names") = some (.ref 492) := by rfl
theorem gl_batch : globOf (KK P) (Str.ofString "_law_batch") = some (.ref 499) := by rfl
theorem gl_take : globOf (KK P) (Str.ofString "_law_take") = some (.ref 506) := by rfl
theorem gl_refused : globOf (KK P) (Str.ofString "_law_refused") = some (.ref 513) := by rfl
theorem gl_holds : globOf (KK P) (Str.ofString "_law_holds") = some (.ref 520) := by rfl
theorem kp_223 : keepIn (KK P) (.ref 223) = true := by rfl
theorem kp_485 : keepIn (KK P) (.ref 485) = true := by rfl
theorem kp_492 : keepIn (KK P) (.ref 492) = true := by rfl
theorem kp_499 : keepIn (KK P) (.ref 499) = true := by rfl
theorem kp_506 : keepIn (KK P) (.ref 506) = true := by rfl
theorem kp_513 : keepIn (KK P) (.ref 513) = true := by rfl
theorem kp_520 : keepIn (KK P) (.ref 520) = true := by rfl

theorem c_num (hK : Γ.K = KK P) {n : Nat} {σ : MH} {R : KP} {X : XP} {sc : Addr} {ns : List Int} {k : Nat} (h : σ sc = some (.list (ns.map .int))) (kk : ∀ v, 0 ≤ v → v < 1000003 → R (.int v) σ) : CodeP Γ (n + 1) (.ref 485) [.ref sc, .int k] [] σ R X := by
  refine code_body [] (by rw [hK]; exact rfl) (by rw [hK]; exact rfl) (mb := [(Str.ofString "script", .ref sc), (Str.ofString "k", .int k)]) ?_ ?_ ?_ ?_ (by decide) rfl rfl rfl
  · intro s vs kws hX hv0 hk
    obtain ⟨v1, vs1, rfl, g1, hv1⟩ := hv0.cons_inv
    obtain ⟨v2, vs2, rfl, g2, hv2⟩ := hv1.cons_inv
    cases hv2
    cases hk
    exact ⟨_, .of_eq rfl, .cons ⟨rfl, g1⟩ (.cons ⟨rfl, g2⟩ .nil)⟩
  · simp only [WS, W1, W, WL, WK, WT, WTs, WB, WO, bindW, nameW, List.lookup, ofString_beq, ofString_inj, String.reduceBEq, String.reduceEq, String.reduceBNe, String.reduceNe, ML.get, ML.set, List.map_cons, List.map_nil, locals0,
    List.cons_append, List.nil_append, callW, callOk, plainArg, notSuper, kwNamed, List.all_cons, List.all_nil, List.length_cons, List.length_nil, Bool.and_true, Bool.true_and, Bool.and_self, Bool.not_true, Bool.not_false,
    decide_true, decide_eq_true_eq, beq_self_eq_true, true_and, and_true, if_true, if_false, reduceIte, reduceCtorEq, Option.isSome_some, Option.isSome_none, Nat.reduceAdd, Nat.reduceMul, Nat.reduceLeDiff, Nat.reduceSubDiff, Nat.add_one_sub_one, Nat.zero_lt_succ, Nat.succ_pos, Nat.lt_add_left_iff_pos,
    Bool.false_eq_true, false_and, and_false, behindInMarks, namesOf, Option.map_some, Option.some.injEq, exists_eq_left', exists_eq_left, or_false, false_or, or_self, not_true, not_false_iff, List.mem_cons, List.not_mem_nil, or_false, forall_eq_or_imp, forall_eq]
  · simp only [WS, W1, W, WL, WK, WT, WTs, WB, WO, bindW, nameW, List.lookup, ofString_beq, ofString_inj, String.reduceBEq, String.reduceEq, String.reduceBNe, String.reduceNe, ML.get, ML.set, List.map_cons, List.map_nil, locals0,
    List.cons_append, List.nil_append, callW, callOk, plainArg, notSuper, kwNamed, List.all_cons, List.all_nil, List.length_cons, List.length_nil, Bool.and_true, Bool.true_and, Bool.and_self, Bool.not_true, Bool.not_false,
    decide_true, decide_eq_true_eq, beq_self_eq_true, true_and, and_true, if_true, if_false, reduceIte, reduceCtorEq, Option.isSome_some, Option.isSome_none, Nat.reduceAdd, Nat.reduceMul, Nat.reduceLeDiff, Nat.reduceSubDiff, Nat.add_one_sub_one, Nat.zero_lt_succ, Nat.succ_pos, Nat.lt_add_left_iff_pos,
    Bool.false_eq_true, false_and, and_false, behindInMarks, namesOf, Option.map_some, Option.some.injEq, exists_eq_left', exists_eq_left, or_false, false_or, or_self, not_true, not_false_iff, List.nodup_cons, List.mem_cons, List.not_mem_nil, or_false, not_false_iff, List.nodup_nil, or_self]
  have g1 := gl_len (P := P)
  rw [← hK] at g1
  simp only [WS, W1, W, WL, WK, WT, WTs, WB, WO, bindW, nameW, List.lookup, ofString_beq, ofString_inj, String.reduceBEq, String.reduceEq, String.reduceBNe, String.reduceNe, ML.get, ML.set, List.map_cons, List.map_nil, locals0,
    List.cons_append, List.nil_append, callW, callOk, plainArg, notSuper, kwNamed, List.all_cons, List.all_nil, List.length_cons, List.length_nil, Bool.and_true, Bool.true_and, Bool.and_self, Bool.not_true, Bool.not_false,
    decide_true, decide_eq_true_eq, beq_self_eq_true, true_and, and_true, if_true, if_false, reduceIte, reduceCtorEq, Option.isSome_some, Option.isSome_none, Nat.reduceAdd, Nat.reduceMul, Nat.reduceLeDiff, Nat.reduceSubDiff, Nat.add_one_sub_one, Nat.zero_lt_succ, Nat.succ_pos, Nat.lt_add_left_iff_pos,
    Bool.false_eq_true, false_and, and_false, behindInMarks, namesOf, Option.map_some, Option.some.injEq, exists_eq_left', exists_eq_left, or_false, false_or, or_self, not_true, not_false_iff, g1, builtinW, h, cmpW, constW, binW]
  by_cases hk : (k : Int) < (ns.map MV.int).length
  · simp only [WS, W1, W, WL, WK, WT, WTs, WB, WO, bindW, nameW, List.lookup, ofString_beq, ofString_inj, String.reduceBEq, String.reduceEq, String.reduceBNe, String.reduceNe, ML.get, ML.set, List.map_cons, List.map_nil, locals0,
    List.cons_append, List.nil_append, callW, callOk, plainArg, notSuper, kwNamed, List.all_cons, List.all_nil, List.length_cons, List.length_nil, Bool.and_true, Bool.true_and, Bool.and_self, Bool.not_true, Bool.not_false,
    decide_true, decide_eq_true_eq, beq_self_eq_true, true_and, and_true, if_true, if_false, reduceIte, reduceCtorEq, Option.isSome_some, Option.isSome_none, Nat.reduceAdd, Nat.reduceMul, Nat.reduceLeDiff, Nat.reduceSubDiff, Nat.add_one_sub_one, Nat.zero_lt_succ, Nat.succ_pos, Nat.lt_add_left_iff_pos,
    Bool.false_eq_true, false_and, and_false, behindInMarks, namesOf, Option.map_some, Option.some.injEq, exists_eq_left', exists_eq_left, or_false, false_or, or_self, not_true, not_false_iff, hk, itemW, h]
    have hk' : k < ns.length := by simpa using hk
    refine ⟨by omega, .int ns[k], by simp [hk'], ?_⟩
    simp only [WS, W1, W, WL, WK, WT, WTs, WB, WO, bindW, nameW, List.lookup, ofString_beq, ofString_inj, String.reduceBEq, String.reduceEq, String.reduceBNe, String.reduceNe, ML.get, ML.set, List.map_cons, List.map_nil, locals0,
    List.cons_append, List.nil_append, callW, callOk, plainArg, notSuper, kwNamed, List.all_cons, List.all_nil, List.length_cons, List.length_nil, Bool.and_true, Bool.true_and, Bool.and_self, Bool.not_true, Bool.not_false,
    decide_true, decide_eq_true_eq, beq_self_eq_true, true_and, and_true, if_true, if_false, reduceIte, reduceCtorEq, Option.isSome_some, Option.isSome_none, Nat.reduceAdd, Nat.reduceMul, Nat.reduceLeDiff, Nat.reduceSubDiff, Nat.add_one_sub_one, Nat.zero_lt_succ, Nat.succ_pos, Nat.lt_add_left_iff_pos,
    Bool.false_eq_true, false_and, and_false, behindInMarks, namesOf, Option.map_some, Option.some.injEq, exists_eq_left', exists_eq_left, or_false, false_or, or_self, not_true, not_false_iff]
    refine ⟨by decide, kk _ (Int.fmod_nonneg_of_pos _ (by decide)) ?_⟩
    have := Int.fmod_lt_of_pos ns[k] (show (0 : Int) < 1000000 by decide)
    omega
  · simp only [WS, W1, W, WL, WK, WT, WTs, WB, WO, bindW, nameW, List.lookup, ofString_beq, ofString_inj, String.reduceBEq, String.reduceEq, String.reduceBNe, String.reduceNe, ML.get, ML.set, List.map_cons, List.map_nil, locals0,
    List.cons_append, List.nil_append, callW, callOk, plainArg, notSuper, kwNamed, List.all_cons, List.all_nil, List.length_cons, List.length_nil, Bool.and_true, Bool.true_and, Bool.and_self, Bool.not_true, Bool.not_false,
    decide_true, decide_eq_true_eq, beq_self_eq_true, true_and, and_true, if_true, if_false, reduceIte, reduceCtorEq, Option.isSome_some, Option.isSome_none, Nat.reduceAdd, Nat.reduceMul, Nat.reduceLeDiff, Nat.reduceSubDiff, Nat.add_one_sub_one, Nat.zero_lt_succ, Nat.succ_pos, Nat.lt_add_left_iff_pos,
    Bool.false_eq_true, false_and, and_false, behindInMarks, namesOf, Option.map_some, Option.some.injEq, exists_eq_left', exists_eq_left, or_false, false_or, or_self, not_true, not_false_iff, hk, decide_false]
    refine ⟨.inr (by decide), .inr (by decide), by decide, kk _ (Int.fmod_nonneg_of_pos _ (by decide)) ?_⟩
    exact Int.fmod_lt_of_pos _ (by decide)

theorem c_take (hK : Γ.K = KK P) {n : Nat} {σ : MH} {R : KP} {X : XP} {tg task d nd nl fl : Addr} {T es NE : List (Str × MV)} {files : List Str} {acc : List MV} {nm : Str}
    (h1 : σ tg = some (.dict T)) (h2 : σ task = some (.inst 223 d)) (h3 : σ d = some (.ns es)) (h4 : dget es (Str.ofString "name") = some (.str nm)) (hn : σ nd = some (.dict NE)) (hg : dget NE nm = some (.ref nl)) (h5 : σ nl = some (.list acc)) (h6 : σ fl = some (.list (sLst files))) (h7 : nl ≠ fl)
    (h8 : ∀ q ∈ T, ∃ x, q.2 = .str x) (h9 : ∀ q ∈ acc, ∃ x, q = .str x) (hl : acc.length + files.length ≤ sizeLine)
    (hR : R .none (upd σ nl (.list (takeF T files acc)))) : CodeP Γ (n + 1) (.ref 506) [.ref tg, .ref task, .ref fl, .ref nd] [] σ R X := by
  refine code_body [Str.ofString "f"] (by rw [hK]; exact rfl) (by rw [hK]; exact rfl) (mb := [(Str.ofString "targets", .ref tg), (Str.ofString "t", .ref task), (Str.ofString "files", .ref fl), (Str.ofString "needs", .ref nd)]) ?_ ?_ ?_ ?_ (by decide) rfl rfl rfl
  · intro s vs kws hX hv0 hk
    obtain ⟨v1, vs1, rfl, g1, hv1⟩ := hv0.cons_inv
    obtain ⟨v2, vs2, rfl, g2, hv2⟩ := hv1.cons_inv
    obtain ⟨v3, vs3, rfl, g3, hv3⟩ := hv2.cons_inv
    obtain ⟨v4, vs4, rfl, g4, hv4⟩ := hv3.cons_inv
    cases hv4
    cases hk
    exact ⟨_, .of_eq rfl, .cons ⟨rfl, g1⟩ (.cons ⟨rfl, g2⟩ (.cons ⟨rfl, g3⟩ (.cons ⟨rfl, g4⟩ .nil)))⟩
  · simp only [WS, W1, W, WL, WK, WT, WTs, WB, WO, bindW, nameW, List.lookup, ofString_beq, ofString_inj, String.reduceBEq, String.reduceEq, String.reduceBNe, String.reduceNe, ML.get, ML.set, List.map_cons, List.map_nil, locals0,
    List.cons_append, List.nil_append, callW, callOk, plainArg, notSuper, kwNamed, List.all_cons, List.all_nil, List.length_cons, List.length_nil, Bool.and_true, Bool.true_and, Bool.and_self, Bool.not_true, Bool.not_false,
    decide_true, decide_eq_true_eq, beq_self_eq_true, true_and, and_true, if_true, if_false, reduceIte, reduceCtorEq, Option.isSome_some, Option.isSome_none, Nat.reduceAdd, Nat.reduceMul, Nat.reduceLeDiff, Nat.reduceSubDiff, Nat.add_one_sub_one, Nat.zero_lt_succ, Nat.succ_pos, Nat.lt_add_left_iff_pos,
    Bool.false_eq_true, false_and, and_false, behindInMarks, namesOf, Option.map_some, Option.some.injEq, exists_eq_left', exists_eq_left, or_false, false_or, or_self, not_true, not_false_iff, List.mem_cons, List.not_mem_nil, or_false, forall_eq_or_imp, forall_eq]
  · simp only [WS, W1, W, WL, WK, WT, WTs, WB, WO, bindW, nameW, List.lookup, ofString_beq, ofString_inj, String.reduceBEq, String.reduceEq, String.reduceBNe, String.reduceNe, ML.get, ML.set, List.map_cons, List.map_nil, locals0,
    List.cons_append, List.nil_append, callW, callOk, plainArg, notSuper, kwNamed, List.all_cons, List.all_nil, List.length_cons, List.length_nil, Bool.and_true, Bool.true_and, Bool.and_self, Bool.not_true, Bool.not_false,
    decide_true, decide_eq_true_eq, beq_self_eq_true, true_and, and_true, if_true, if_false, reduceIte, reduceCtorEq, Option.isSome_some, Option.isSome_none, Nat.reduceAdd, Nat.reduceMul, Nat.reduceLeDiff, Nat.reduceSubDiff, Nat.add_one_sub_one, Nat.zero_lt_succ, Nat.succ_pos, Nat.lt_add_left_iff_pos,
    Bool.false_eq_true, false_and, and_false, behindInMarks, namesOf, Option.map_some, Option.some.injEq, exists_eq_left', exists_eq_left, or_false, false_or, or_self, not_true, not_false_iff, List.nodup_cons, List.mem_cons, List.not_mem_nil, or_false, not_false_iff, List.nodup_nil, or_self]
  simp only [WS, W1, W, WL, WK, WT, WTs, WB, WO, bindW, nameW, List.lookup, ofString_beq, ofString_inj, String.reduceBEq, String.reduceEq, String.reduceBNe, String.reduceNe, ML.get, ML.set, List.map_cons, List.map_nil, locals0,
    List.cons_append, List.nil_append, callW, callOk, plainArg, notSuper, kwNamed, List.all_cons, List.all_nil, List.length_cons, List.length_nil, Bool.and_true, Bool.true_and, Bool.and_self, Bool.not_true, Bool.not_false,
    decide_true, decide_eq_true_eq, beq_self_eq_true, true_and, and_true, if_true, if_false, reduceIte, reduceCtorEq, Option.isSome_some, Option.isSome_none, Nat.reduceAdd, Nat.reduceMul, Nat.reduceLeDiff, Nat.reduceSubDiff, Nat.add_one_sub_one, Nat.zero_lt_succ, Nat.succ_pos, Nat.lt_add_left_iff_pos,
    Bool.false_eq_true, false_and, and_false, behindInMarks, namesOf, Option.map_some, Option.some.injEq, exists_eq_left', exists_eq_left, or_false, false_or, or_self, not_true, not_false_iff]
  refine ⟨fl, _, _, rfl, h6, rfl, ?_⟩
  refine forW_list .str (fun rest μ σ' => ∃ w acc', μ = [(Str.ofString "targets", some (.ref tg)), (Str.ofString "t", some (.ref task)), (Str.ofString "files", some (.ref fl)), (Str.ofString "needs", some (.ref nd)), (Str.ofString "f", w)] ∧ σ' = upd σ nl (.list acc') ∧
    takeF T rest acc' = takeF T files acc ∧ (∀ q ∈ acc', ∃ x, q = .str x) ∧ acc'.length + rest.length ≤ sizeLine) ?_ ?_ files _ _ ⟨none, acc, rfl, (upd_id h5).symm, rfl, h9, hl⟩
  · rintro μ σ' ⟨w, acc', rfl, rfl, e, _, _⟩
    rw [upd_ne (Ne.symm h7)]
    refine ⟨h6, ?_⟩
    have e' : acc' = takeF T files acc := e
    rw [e']; exact hR
  · rintro x xs μ σ' Kf ⟨w, acc', rfl, rfl, e, hs, hl'⟩ kn _ _ _
    rw [takeF_cons] at e
    rw [List.length_cons] at hl'
    have n1 : upd σ nl (.list acc') tg = some (.dict T) := by rw [upd_ne (ne_of_mo h1 h5 (by simp))]; exact h1
    have n2 : upd σ nl (.list acc') task = some (.inst 223 d) := by rw [upd_ne (ne_of_mo h2 h5 (by simp))]; exact h2
    have n3 : upd σ nl (.list acc') d = some (.ns es) := by rw [upd_ne (ne_of_mo h3 h5 (by simp))]; exact h3
    have n4 : upd σ nl (.list acc') nd = some (.dict NE) := by rw [upd_ne (ne_of_mo hn h5 (by simp))]; exact hn
    have n6 : upd σ nl (.list acc') fl = some (.list (sLst files)) := by rw [upd_ne (Ne.symm h7)]; exact h6
    refine ⟨n6, ?_⟩
    have rd := rd_Task_name (P := P)
    rw [← hK] at rd
    cases hx : dget T x with
    | none =>
      rw [hx] at e
      simp only [WS, W1, W, WL, WK, WT, WTs, WB, WO, bindW, nameW, List.lookup, ofString_beq, ofString_inj, String.reduceBEq, String.reduceEq, String.reduceBNe, String.reduceNe, ML.get, ML.set, List.map_cons, List.map_nil, locals0,
    List.cons_append, List.nil_append, callW, callOk, plainArg, notSuper, kwNamed, List.all_cons, List.all_nil, List.length_cons, List.length_nil, Bool.and_true, Bool.true_and, Bool.and_self, Bool.not_true, Bool.not_false,
    decide_true, decide_eq_true_eq, beq_self_eq_true, true_and, and_true, if_true, if_false, reduceIte, reduceCtorEq, Option.isSome_some, Option.isSome_none, Nat.reduceAdd, Nat.reduceMul, Nat.reduceLeDiff, Nat.reduceSubDiff, Nat.add_one_sub_one, Nat.zero_lt_succ, Nat.succ_pos, Nat.lt_add_left_iff_pos,
    Bool.false_eq_true, false_and, and_false, behindInMarks, namesOf, Option.map_some, Option.some.injEq, exists_eq_left', exists_eq_left, or_false, false_or, or_self, not_true, not_false_iff, cmpW, n1, hx]
      exact kn _ _ ⟨_, acc', rfl, rfl, e, hs, by omega⟩
    | some m =>
      rw [hx] at e
      obtain ⟨nm', rfl⟩ : ∃ nm, m = .str nm := dget_val h8 hx
      have fl : ∀ q ∈ acc', flatMV q = true := fun q hq => by obtain ⟨y, rfl⟩ := hs q hq; rfl
      by_cases hm : MV.str nm' ∈ acc'
      · simp only [hm, if_true] at e
        simp only [WS, W1, W, WL, WK, WT, WTs, WB, WO, bindW, nameW, List.lookup, ofString_beq, ofString_inj, String.reduceBEq, String.reduceEq, String.reduceBNe, String.reduceNe, ML.get, ML.set, List.map_cons, List.map_nil, locals0,
    List.cons_append, List.nil_append, callW, callOk, plainArg, notSuper, kwNamed, List.all_cons, List.all_nil, List.length_cons, List.length_nil, Bool.and_true, Bool.true_and, Bool.and_self, Bool.not_true, Bool.not_false,
    decide_true, decide_eq_true_eq, beq_self_eq_true, true_and, and_true, if_true, if_false, reduceIte, reduceCtorEq, Option.isSome_some, Option.isSome_none, Nat.reduceAdd, Nat.reduceMul, Nat.reduceLeDiff, Nat.reduceSubDiff, Nat.add_one_sub_one, Nat.zero_lt_succ, Nat.succ_pos, Nat.lt_add_left_iff_pos,
    Bool.false_eq_true, false_and, and_false, behindInMarks, namesOf, Option.map_some, Option.some.injEq, exists_eq_left', exists_eq_left, or_false, false_or, or_self, not_true, not_false_iff, cmpW, n1, n2, n3, n4, h4, hg, hx, attrW, itemW, rd, plainMV, upd_same, flat_str, hm, fl, implies_true]
        exact ⟨fun q hq => fl q hq, kn _ _ ⟨_, acc', rfl, rfl, e, hs, by omega⟩⟩
      · simp only [hm, if_false] at e
        simp only [WS, W1, W, WL, WK, WT, WTs, WB, WO, bindW, nameW, List.lookup, ofString_beq, ofString_inj, String.reduceBEq, String.reduceEq, String.reduceBNe, String.reduceNe, ML.get, ML.set, List.map_cons, List.map_nil, locals0,
    List.cons_append, List.nil_append, callW, callOk, plainArg, notSuper, kwNamed, List.all_cons, List.all_nil, List.length_cons, List.length_nil, Bool.and_true, Bool.true_and, Bool.and_self, Bool.not_true, Bool.not_false,
    decide_true, decide_eq_true_eq, beq_self_eq_true, true_and, and_true, if_true, if_false, reduceIte, reduceCtorEq, Option.isSome_some, Option.isSome_none, Nat.reduceAdd, Nat.reduceMul, Nat.reduceLeDiff, Nat.reduceSubDiff, Nat.add_one_sub_one, Nat.zero_lt_succ, Nat.succ_pos, Nat.lt_add_left_iff_pos,
    Bool.false_eq_true, false_and, and_false, behindInMarks, namesOf, Option.map_some, Option.some.injEq, exists_eq_left', exists_eq_left, or_false, false_or, or_self, not_true, not_false_iff, cmpW, n1, n2, n3, n4, h4, hg, hx, attrW, itemW, rd, plainMV, upd_same, flat_str, hm, fl, implies_true, methW, builtinW, upd_upd, decide_false]
        refine ⟨fun q hq => fl q hq, by omega, kn _ _ ⟨_, _, rfl, rfl, e, ?_, by simp; omega⟩⟩
        intro q hq
        rcases List.mem_append.mp hq with hq | hq
        · exact hs q hq
        · exact ⟨nm', by simpa using hq⟩

theorem c_holds (hK : Γ.K = KK P) {n : Nat} {σ : MH} {R : KP} {X : XP} {recs : List LR} {NE T : List (Str × MV)} {nd lv kp bk : Addr} {rd : Nat} (h : Inv σ recs NE T nd lv kp bk rd) (hR : R (.bool true) σ) :
    CodeP Γ (n + 1) (.ref 520) [.ref lv, .ref nd, .ref bk, .ref kp] [] σ R X := by
  refine code_body [Str.ofString "t"] (by rw [hK]; exact rfl) (by rw [hK]; exact rfl) (mb := [(Str.ofString "live", .ref lv), (Str.ofString "needs", .ref nd), (Str.ofString "book", .ref bk), (Str.ofString "kept", .ref kp)]) ?_ ?_ ?_ ?_ (by decide) rfl rfl rfl
  · intro s vs kws hX hv0 hk
    obtain ⟨v1, vs1, rfl, g1, hv1⟩ := hv0.cons_inv
    obtain ⟨v2, vs2, rfl, g2, hv2⟩ := hv1.cons_inv
    obtain ⟨v3, vs3, rfl, g3, hv3⟩ := hv2.cons_inv
    obtain ⟨v4, vs4, rfl, g4, hv4⟩ := hv3.cons_inv
    cases hv4
    cases hk
    exact ⟨_, .of_eq rfl, .cons ⟨rfl, g1⟩ (.cons ⟨rfl, g2⟩ (.cons ⟨rfl, g3⟩ (.cons ⟨rfl, g4⟩ .nil)))⟩
  · simp only [WS, W1, W, WL, WK, WT, WTs, WB, WO, bindW, nameW, List.lookup, ofString_beq, ofString_inj, String.reduceBEq, String.reduceEq, String.reduceBNe, String.reduceNe, ML.get, ML.set, List.map_cons, List.map_nil, locals0,
    List.cons_append, List.nil_append, callW, callOk, plainArg, notSuper, kwNamed, List.all_cons, List.all_nil, List.length_cons, List.length_nil, Bool.and_true, Bool.true_and, Bool.and_self, Bool.not_true, Bool.not_false,
    decide_true, decide_eq_true_eq, beq_self_eq_true, true_and, and_true, if_true, if_false, reduceIte, reduceCtorEq, Option.isSome_some, Option.isSome_none, Nat.reduceAdd, Nat.reduceMul, Nat.reduceLeDiff, Nat.reduceSubDiff, Nat.add_one_sub_one, Nat.zero_lt_succ, Nat.succ_pos, Nat.lt_add_left_iff_pos,
    Bool.false_eq_true, false_and, and_false, behindInMarks, namesOf, Option.map_some, Option.some.injEq, exists_eq_left', exists_eq_left, or_false, false_or, or_self, not_true, not_false_iff, List.mem_cons, List.not_mem_nil, or_false, forall_eq_or_imp, forall_eq]
  · simp only [WS, W1, W, WL, WK, WT, WTs, WB, WO, bindW, nameW, List.lookup, ofString_beq, ofString_inj, String.reduceBEq, String.reduceEq, String.reduceBNe, String.reduceNe, ML.get, ML.set, List.map_cons, List.map_nil, locals0,
    List.cons_append, List.nil_append, callW, callOk, plainArg, notSuper, kwNamed, List.all_cons, List.all_nil, List.length_cons, List.length_nil, Bool.and_true, Bool.true_and, Bool.and_self, Bool.not_true, Bool.not_false,
    decide_true, decide_eq_true_eq, beq_self_eq_true, true_and, and_true, if_true, if_false, reduceIte, reduceCtorEq, Option.isSome_some, Option.isSome_none, Nat.reduceAdd, Nat.reduceMul, Nat.reduceLeDiff, Nat.reduceSubDiff, Nat.add_one_sub_one, Nat.zero_lt_succ, Nat.succ_pos, Nat.lt_add_left_iff_pos,
    Bool.false_eq_true, false_and, and_false, behindInMarks, namesOf, Option.map_some, Option.some.injEq, exists_eq_left', exists_eq_left, or_false, false_or, or_self, not_true, not_false_iff, List.nodup_cons, List.mem_cons, List.not_mem_nil, or_false, not_false_iff, List.nodup_nil, or_self]
  have r1 := rd_Task_name (P := P)
  have r2 := rd_Task_dep (P := P)
  rw [← hK] at r1 r2
  have fT : ∀ q ∈ T, flatMV q.2 = true := fun q hq => by obtain ⟨y, e, _⟩ := h.vals q hq; rw [e]; rfl
  have eT : ∀ I, @decide (T.length = T.length ∧ ∀ q ∈ T, dget T q.1 = some q.2) I = true := fun I => @decide_eq_true _ I ⟨rfl, fun q hq => dget_mem h.kT hq⟩
  have eq0 : ∀ P : Bool → Prop, P false → cmpW .NotEq (.ref kp) (.ref bk) σ P := by
    intro P hP
    unfold cmpW
    simp only [h.hkp, h.hbk]
    refine ⟨fT, fT, ?_⟩
    have go : ∀ b, b = false → P b := fun b e => e ▸ hP
    refine go _ ?_
    rw [Bool.not_eq_false', decide_eq_true_eq]
    exact ⟨trivial, fun q hq => dget_mem h.kT hq⟩
  simp only [WS, W1, W, WL, WK, WT, WTs, WB, WO, bindW, nameW, List.lookup, ofString_beq, ofString_inj, String.reduceBEq, String.reduceEq, String.reduceBNe, String.reduceNe, ML.get, ML.set, List.map_cons, List.map_nil, locals0,
    List.cons_append, List.nil_append, callW, callOk, plainArg, notSuper, kwNamed, List.all_cons, List.all_nil, List.length_cons, List.length_nil, Bool.and_true, Bool.true_and, Bool.and_self, Bool.not_true, Bool.not_false,
    decide_true, decide_eq_true_eq, beq_self_eq_true, true_and, and_true, if_true, if_false, reduceIte, reduceCtorEq, Option.isSome_some, Option.isSome_none, Nat.reduceAdd, Nat.reduceMul, Nat.reduceLeDiff, Nat.reduceSubDiff, Nat.add_one_sub_one, Nat.zero_lt_succ, Nat.succ_pos, Nat.lt_add_left_iff_pos,
    Bool.false_eq_true, false_and, and_false, behindInMarks, namesOf, Option.map_some, Option.some.injEq, exists_eq_left', exists_eq_left, or_false, false_or, or_self, not_true, not_false_iff]
  refine eq0 _ ?_
  simp only [WS, W1, W, WL, WK, WT, WTs, WB, WO, bindW, nameW, List.lookup, ofString_beq, ofString_inj, String.reduceBEq, String.reduceEq, String.reduceBNe, String.reduceNe, ML.get, ML.set, List.map_cons, List.map_nil, locals0,
    List.cons_append, List.nil_append, callW, callOk, plainArg, notSuper, kwNamed, List.all_cons, List.all_nil, List.length_cons, List.length_nil, Bool.and_true, Bool.true_and, Bool.and_self, Bool.not_true, Bool.not_false,
    decide_true, decide_eq_true_eq, beq_self_eq_true, true_and, and_true, if_true, if_false, reduceIte, reduceCtorEq, Option.isSome_some, Option.isSome_none, Nat.reduceAdd, Nat.reduceMul, Nat.reduceLeDiff, Nat.reduceSubDiff, Nat.add_one_sub_one, Nat.zero_lt_succ, Nat.succ_pos, Nat.lt_add_left_iff_pos,
    Bool.false_eq_true, false_and, and_false, behindInMarks, namesOf, Option.map_some, Option.some.injEq, exists_eq_left', exists_eq_left, or_false, false_or, or_self, not_true, not_false_iff]
  refine ⟨lv, _, _, rfl, h.hlv, rfl, ?_⟩
  refine forW_list (fun r : LR => .ref r.t) (fun rest μ σ' => ∃ w, μ = [(Str.ofString "live", some (.ref lv)), (Str.ofString "needs", some (.ref nd)), (Str.ofString "book", some (.ref bk)), (Str.ofString "kept", some (.ref kp)), (Str.ofString "t", w)] ∧ σ' = σ ∧ ∀ r ∈ rest, r ∈ recs) ?_ ?_ recs _ _ ⟨none, rfl, rfl, fun _ h => h⟩
  · rintro μ σ' ⟨w, rfl, rfl, _⟩
    exact ⟨h.hlv, hR⟩
  · rintro r rest μ σ' Kf ⟨w, rfl, rfl, hin⟩ kn _ _ _
    obtain ⟨A, t1, t2, t3, _, _, _, _, t5⟩ := h.tk r (hin r (.head _))
    have fl : ∀ q ∈ r.deps, flatMV q = true := fun q hq => by obtain ⟨y, rfl⟩ := t5 q hq; rfl
    refine ⟨h.hlv, ?_⟩
    simp only [WS, W1, W, WL, WK, WT, WTs, WB, WO, bindW, nameW, List.lookup, ofString_beq, ofString_inj, String.reduceBEq, String.reduceEq, String.reduceBNe, String.reduceNe, ML.get, ML.set, List.map_cons, List.map_nil, locals0,
    List.cons_append, List.nil_append, callW, callOk, plainArg, notSuper, kwNamed, List.all_cons, List.all_nil, List.length_cons, List.length_nil, Bool.and_true, Bool.true_and, Bool.and_self, Bool.not_true, Bool.not_false,
    decide_true, decide_eq_true_eq, beq_self_eq_true, true_and, and_true, if_true, if_false, reduceIte, reduceCtorEq, Option.isSome_some, Option.isSome_none, Nat.reduceAdd, Nat.reduceMul, Nat.reduceLeDiff, Nat.reduceSubDiff, Nat.add_one_sub_one, Nat.zero_lt_succ, Nat.succ_pos, Nat.lt_add_left_iff_pos,
    Bool.false_eq_true, false_and, and_false, behindInMarks, namesOf, Option.map_some, Option.some.injEq, exists_eq_left', exists_eq_left, or_false, false_or, or_self, not_true, not_false_iff, attrW, A.i, A.n, A.gd, A.nm, r1, r2, plainMV, h.hnd, itemW, t3, cmpW, t1, t2]
    exact ⟨fl, fl, kn _ _ ⟨_, rfl, rfl, fun r' h => hin r' (.tail _ h)⟩⟩
end
end Mine

open PySem PySem.W PyProof.Rows PySem.Calls
set_option Elab.async false
set_option autoImplicit false
set_option maxRecDepth 100000
set_option maxHeartbeats 8000000
set_option linter.all false
namespace Mine

theorem nm_facts : ∀ i : Fin 20, ∀ k : Fin 3, (nmOf i k).length ≤ 100 ∧ (Builtin.Str.occurrences (nmOf i k) (Str.ofString "=") 0 (nmOf i k).length 1).isEmpty = true ∧ (Builtin.Str.occurrences (nmOf i k) (Str.ofString "*") 0 (nmOf i k).length 1).isEmpty = true := by
  decide +kernel
theorem nm_inj : ∀ i j : Fin 20, ∀ k l : Fin 3, nmOf i k = nmOf j l → i = j ∧ k = l := by decide +kernel

theorem nm_ok {i k : Nat} (hi : i < 20) (hk : k < 3) : okS (nmOf i k) := by
  refine ⟨?_, (nm_facts ⟨i, hi⟩ ⟨k, hk⟩).1⟩
  unfold nmOf
  exact strOk_append (strOk_append (strOk_append (strOk_ofString _) (strOk_ofString _)) (strOk_ofString _)) (strOk_ofString _)

section
variable {Γ : Rt} {P : Params}
theorem c_refused (hK : Γ.K = KK P) {n : Nat} {σ : MH} {R : KP} {X : XP} {tg tl : Addr} {o : MO} {T T' : List (Str × MV)} {batch : List TR} {D : TR → List MV} (hn : σ 368 = some .kob)
    (h1 : σ tg = some (.dict T)) (hT : strVals T) (h2 : σ tl = some o) (h3 : iterOf o = some (batch.map fun r => .ref r.t)) (hb : ∀ r ∈ batch, TaskAt σ r)
    (hD : ∀ r ∈ batch, σ r.td = some (.list (D r)) ∧ (∀ q ∈ D r, ∃ x, q = .str x) ∧ (D r).length + r.files.length ≤ sizeLine)
    (hnd : (batch.map TR.td).Nodup) (hdf : ∀ r ∈ batch, ∀ r' ∈ batch, r.td ≠ r'.fd) (hdl : ∀ r ∈ batch, r.td ≠ tl) (hsz : T.length + (batch.map fun r => r.outs.length).sum < sizeLine)
    (hbad : addAll T batch = (T', false)) (hR : ∀ σ', Grow (upd σ tg (.dict T')) σ' → R (.bool true) σ') : CodeP Γ (n + 3) (.ref 513) [.ref tg, .ref tl] [] σ R X := by
  refine code_body [] (by rw [hK]; exact rfl) (by rw [hK]; exact rfl) (mb := [(Str.ofString "kept", .ref tg), (Str.ofString "batch", .ref tl)]) ?_ ?_ ?_ ?_ (by decide) rfl rfl rfl
  · intro s vs kws hX hv0 hk
    obtain ⟨v1, vs1, rfl, g1, hv1⟩ := hv0.cons_inv
    obtain ⟨v2, vs2, rfl, g2, hv2⟩ := hv1.cons_inv
    cases hv2
    cases hk
    exact ⟨_, .of_eq rfl, .cons ⟨rfl, g1⟩ (.cons ⟨rfl, g2⟩ .nil)⟩
  · simp only [WS, W1, W, WL, WK, WT, WTs, WB, WO, bindW, nameW, List.lookup, ofString_beq, ofString_inj, String.reduceBEq, String.reduceEq, String.reduceBNe, String.reduceNe, ML.get, ML.set, List.map_cons, List.map_nil, locals0,
    List.cons_append, List.nil_append, callW, callOk, plainArg, notSuper, kwNamed, List.all_cons, List.all_nil, List.length_cons, List.length_nil, Bool.and_true, Bool.true_and, Bool.and_self, Bool.not_true, Bool.not_false,
    decide_true, decide_eq_true_eq, beq_self_eq_true, true_and, and_true, if_true, if_false, reduceIte, reduceCtorEq, Option.isSome_some, Option.isSome_none, Nat.reduceAdd, Nat.reduceMul, Nat.reduceLeDiff, Nat.reduceSubDiff, Nat.add_one_sub_one, Nat.zero_lt_succ, Nat.succ_pos, Nat.lt_add_left_iff_pos,
    Bool.false_eq_true, false_and, and_false, behindInMarks, namesOf, Option.map_some, Option.some.injEq, exists_eq_left', exists_eq_left, or_false, false_or, or_self, not_true, not_false_iff, List.mem_cons, List.not_mem_nil, or_false, forall_eq_or_imp, forall_eq]
  · simp only [WS, W1, W, WL, WK, WT, WTs, WB, WO, bindW, nameW, List.lookup, ofString_beq, ofString_inj, String.reduceBEq, String.reduceEq, String.reduceBNe, String.reduceNe, ML.get, ML.set, List.map_cons, List.map_nil, locals0,
    List.cons_append, List.nil_append, callW, callOk, plainArg, notSuper, kwNamed, List.all_cons, List.all_nil, List.length_cons, List.length_nil, Bool.and_true, Bool.true_and, Bool.and_self, Bool.not_true, Bool.not_false,
    decide_true, decide_eq_true_eq, beq_self_eq_true, true_and, and_true, if_true, if_false, reduceIte, reduceCtorEq, Option.isSome_some, Option.isSome_none, Nat.reduceAdd, Nat.reduceMul, Nat.reduceLeDiff, Nat.reduceSubDiff, Nat.add_one_sub_one, Nat.zero_lt_succ, Nat.succ_pos, Nat.lt_add_left_iff_pos,
    Bool.false_eq_true, false_and, and_false, behindInMarks, namesOf, Option.map_some, Option.some.injEq, exists_eq_left', exists_eq_left, or_false, false_or, or_self, not_true, not_false_iff, List.nodup_cons, List.mem_cons, List.not_mem_nil, or_false, not_false_iff, List.nodup_nil, or_self]
  have gl := gl_TaskControl (P := P)
  have st := st_set (P := P)
  have kp := kp_317 (P := P)
  have ex := ex_InvalidTask (P := P)
  rw [← hK] at gl st kp ex
  simp only [WS, W1, W, WL, WK, WT, WTs, WB, WO, bindW, nameW, List.lookup, ofString_beq, ofString_inj, String.reduceBEq, String.reduceEq, String.reduceBNe, String.reduceNe, ML.get, ML.set, List.map_cons, List.map_nil, locals0,
    List.cons_append, List.nil_append, callW, callOk, plainArg, notSuper, kwNamed, List.all_cons, List.all_nil, List.length_cons, List.length_nil, Bool.and_true, Bool.true_and, Bool.and_self, Bool.not_true, Bool.not_false,
    decide_true, decide_eq_true_eq, beq_self_eq_true, true_and, and_true, if_true, if_false, reduceIte, reduceCtorEq, Option.isSome_some, Option.isSome_none, Nat.reduceAdd, Nat.reduceMul, Nat.reduceLeDiff, Nat.reduceSubDiff, Nat.add_one_sub_one, Nat.zero_lt_succ, Nat.succ_pos, Nat.lt_add_left_iff_pos,
    Bool.false_eq_true, false_and, and_false, behindInMarks, namesOf, Option.map_some, Option.some.injEq, exists_eq_left', exists_eq_left, or_false, false_or, or_self, not_true, not_false_iff, gl, methW, hn, excNm]
  refine ⟨78, ⟨ex.1, ex.2⟩, 317, st, kp, ?_⟩
  refine c_set_implicit hK (fun x y z hx hy hz => pct3 hx hy hz) hn h1 hT h2 h3 hb hD hnd hdf hdl hsz ?_ ?_
  · intro T2 msg σ' e g
    rw [hbad] at e; cases e
    exact ⟨rfl, hR σ' g⟩
  · intro T2 e
    rw [hbad] at e; cases e

theorem digit_ok (i : Int) (h0 : 0 ≤ i) (h1 : i < 10) : okS (Str.ofString "f" ++ Str.ofString (toString i)) := by
  refine ⟨strOk_append (strOk_ofString _) (strOk_ofString _), ?_⟩
  obtain ⟨k, rfl⟩ := Int.eq_ofNat_of_zero_le h0
  have hk : k < 10 := by omega
  have : ∀ k : Fin 10, (Str.ofString "f" ++ Str.ofString (toString ((k : Nat) : Int))).length ≤ 100 := by decide +kernel
  exact this ⟨k, hk⟩

theorem c_names (hK : Γ.K = KK P) {n : Nat} {σ : MH} {R : KP} {X : XP} {v most : Int} (hv : 0 ≤ v) (hm : 2 ≤ most) (hm' : most ≤ 10)
    (hR : ∀ σ' l xs, Grow σ σ' → σ l = none → σ' l = some (.list (sLst xs)) → xs.length < most.toNat → (∀ x ∈ xs, okS x) → R (.ref l) σ') : CodeP Γ (n + 1) (.ref 492) [.int v, .int most] [] σ R X := by
  refine code_body [Str.ofString "row", Str.ofString "k"] (by rw [hK]; exact rfl) (by rw [hK]; exact rfl) (mb := [(Str.ofString "v", .int v), (Str.ofString "most", .int most)]) ?_ ?_ ?_ ?_ (by decide) rfl rfl rfl
  · intro s vs kws hX hv0 hk
    obtain ⟨v1, vs1, rfl, g1, hv1⟩ := hv0.cons_inv
    obtain ⟨v2, vs2, rfl, g2, hv2⟩ := hv1.cons_inv
    cases hv2
    cases hk
    exact ⟨_, .of_eq rfl, .cons ⟨rfl, g1⟩ (.cons ⟨rfl, g2⟩ .nil)⟩
  · simp only [WS, W1, W, WL, WK, WT, WTs, WB, WO, bindW, nameW, List.lookup, ofString_beq, ofString_inj, String.reduceBEq, String.reduceEq, String.reduceBNe, String.reduceNe, ML.get, ML.set, List.map_cons, List.map_nil, locals0,
    List.cons_append, List.nil_append, callW, callOk, plainArg, notSuper, kwNamed, List.all_cons, List.all_nil, List.length_cons, List.length_nil, Bool.and_true, Bool.true_and, Bool.and_self, Bool.not_true, Bool.not_false,
    decide_true, decide_eq_true_eq, beq_self_eq_true, true_and, and_true, if_true, if_false, reduceIte, reduceCtorEq, Option.isSome_some, Option.isSome_none, Nat.reduceAdd, Nat.reduceMul, Nat.reduceLeDiff, Nat.reduceSubDiff, Nat.add_one_sub_one, Nat.zero_lt_succ, Nat.succ_pos, Nat.lt_add_left_iff_pos,
    Bool.false_eq_true, false_and, and_false, behindInMarks, namesOf, Option.map_some, Option.some.injEq, exists_eq_left', exists_eq_left, or_false, false_or, or_self, not_true, not_false_iff, List.mem_cons, List.not_mem_nil, or_false, forall_eq_or_imp, forall_eq]
  · simp only [WS, W1, W, WL, WK, WT, WTs, WB, WO, bindW, nameW, List.lookup, ofString_beq, ofString_inj, String.reduceBEq, String.reduceEq, String.reduceBNe, String.reduceNe, ML.get, ML.set, List.map_cons, List.map_nil, locals0,
    List.cons_append, List.nil_append, callW, callOk, plainArg, notSuper, kwNamed, List.all_cons, List.all_nil, List.length_cons, List.length_nil, Bool.and_true, Bool.true_and, Bool.and_self, Bool.not_true, Bool.not_false,
    decide_true, decide_eq_true_eq, beq_self_eq_true, true_and, and_true, if_true, if_false, reduceIte, reduceCtorEq, Option.isSome_some, Option.isSome_none, Nat.reduceAdd, Nat.reduceMul, Nat.reduceLeDiff, Nat.reduceSubDiff, Nat.add_one_sub_one, Nat.zero_lt_succ, Nat.succ_pos, Nat.lt_add_left_iff_pos,
    Bool.false_eq_true, false_and, and_false, behindInMarks, namesOf, Option.map_some, Option.some.injEq, exists_eq_left', exists_eq_left, or_false, false_or, or_self, not_true, not_false_iff, List.nodup_cons, List.mem_cons, List.not_mem_nil, or_false, not_false_iff, List.nodup_nil, or_self]
  have g1 := gl_range (P := P)
  have g2 := gl_str (P := P)
  rw [← hK] at g1 g2
  have b0 := Int.fmod_nonneg_of_pos v (show 0 < most by omega)
  have b1 := Int.fmod_lt_of_pos v (show 0 < most by omega)
  simp only [WS, W1, W, WL, WK, WT, WTs, WB, WO, bindW, nameW, List.lookup, ofString_beq, ofString_inj, String.reduceBEq, String.reduceEq, String.reduceBNe, String.reduceNe, ML.get, ML.set, List.map_cons, List.map_nil, locals0,
    List.cons_append, List.nil_append, callW, callOk, plainArg, notSuper, kwNamed, List.all_cons, List.all_nil, List.length_cons, List.length_nil, Bool.and_true, Bool.true_and, Bool.and_self, Bool.not_true, Bool.not_false,
    decide_true, decide_eq_true_eq, beq_self_eq_true, true_and, and_true, if_true, if_false, reduceIte, reduceCtorEq, Option.isSome_some, Option.isSome_none, Nat.reduceAdd, Nat.reduceMul, Nat.reduceLeDiff, Nat.reduceSubDiff, Nat.add_one_sub_one, Nat.zero_lt_succ, Nat.succ_pos, Nat.lt_add_left_iff_pos,
    Bool.false_eq_true, false_and, and_false, behindInMarks, namesOf, Option.map_some, Option.some.injEq, exists_eq_left', exists_eq_left, or_false, false_or, or_self, not_true, not_false_iff, g1, binW, allocW, typeW]
  intro l hl
  refine ⟨by omega, by omega, fun rg hrg => ?_⟩
  have hne : l ≠ rg := fun e => by rw [e] at hrg; rw [← e] at hrg; rw [upd_same] at hrg; cases hrg
  refine ⟨rg, _, _, rfl, upd_same, rfl, ?_⟩
  have hrg0 : σ rg = none := by rw [upd_ne (Ne.symm hne)] at hrg; exact hrg
  refine forW_list (fun i : Nat => .int (0 + i)) (fun rest μ σ' => ∃ w v' xs, μ = [(Str.ofString "v", some (.int v')), (Str.ofString "most", some (.int most)), (Str.ofString "row", some (.ref l)), (Str.ofString "k", w)] ∧ 0 ≤ v' ∧ Grow σ σ' ∧ σ' l = some (.list (sLst xs)) ∧
    σ' rg = some (.range 0 (v.fmod most) 1) ∧ xs.length + rest.length < most.toNat ∧ (∀ x ∈ xs, okS x)) ?_ ?_ _ _ _ ⟨none, v, [], rfl, hv, (Grow.refl.new hl).new hrg0, by rw [upd_ne hne]; exact upd_same, upd_same, by simp; omega, fun _ h => nomatch h⟩
  · rintro μ σ' ⟨w, v', xs, rfl, _, g, e1, e2, e3, e4⟩
    simp only [WS, W1, W, WL, WK, WT, WTs, WB, WO, bindW, nameW, List.lookup, ofString_beq, ofString_inj, String.reduceBEq, String.reduceEq, String.reduceBNe, String.reduceNe, ML.get, ML.set, List.map_cons, List.map_nil, locals0,
    List.cons_append, List.nil_append, callW, callOk, plainArg, notSuper, kwNamed, List.all_cons, List.all_nil, List.length_cons, List.length_nil, Bool.and_true, Bool.true_and, Bool.and_self, Bool.not_true, Bool.not_false,
    decide_true, decide_eq_true_eq, beq_self_eq_true, true_and, and_true, if_true, if_false, reduceIte, reduceCtorEq, Option.isSome_some, Option.isSome_none, Nat.reduceAdd, Nat.reduceMul, Nat.reduceLeDiff, Nat.reduceSubDiff, Nat.add_one_sub_one, Nat.zero_lt_succ, Nat.succ_pos, Nat.lt_add_left_iff_pos,
    Bool.false_eq_true, false_and, and_false, behindInMarks, namesOf, Option.map_some, Option.some.injEq, exists_eq_left', exists_eq_left, or_false, false_or, or_self, not_true, not_false_iff]
    exact ⟨e2, hR σ' l xs g hl e1 (by simpa using e3) e4⟩
  · rintro i rest μ σ' Kf ⟨w, v', xs, rfl, h0, g, e1, e2, e3, e4⟩ kn _ _ _
    rw [List.length_cons] at e3
    refine ⟨e2, ?_⟩
    simp only [WS, W1, W, WL, WK, WT, WTs, WB, WO, bindW, nameW, List.lookup, ofString_beq, ofString_inj, String.reduceBEq, String.reduceEq, String.reduceBNe, String.reduceNe, ML.get, ML.set, List.map_cons, List.map_nil, locals0,
    List.cons_append, List.nil_append, callW, callOk, plainArg, notSuper, kwNamed, List.all_cons, List.all_nil, List.length_cons, List.length_nil, Bool.and_true, Bool.true_and, Bool.and_self, Bool.not_true, Bool.not_false,
    decide_true, decide_eq_true_eq, beq_self_eq_true, true_and, and_true, if_true, if_false, reduceIte, reduceCtorEq, Option.isSome_some, Option.isSome_none, Nat.reduceAdd, Nat.reduceMul, Nat.reduceLeDiff, Nat.reduceSubDiff, Nat.add_one_sub_one, Nat.zero_lt_succ, Nat.succ_pos, Nat.lt_add_left_iff_pos,
    Bool.false_eq_true, false_and, and_false, behindInMarks, namesOf, Option.map_some, Option.some.injEq, exists_eq_left', exists_eq_left, or_false, false_or, or_self, not_true, not_false_iff, binW, constW, strOk_ofString, methW, e1, g2, typeW, builtinW]
    have q0 : 0 ≤ v'.fdiv most := Int.fdiv_nonneg h0 (by omega)
    have q1 := Int.fmod_nonneg_of_pos (v'.fdiv most + 3 * (0 + (i : Int)) + 1) (show (0 : Int) < 10 by decide)
    have q2 := Int.fmod_lt_of_pos (v'.fdiv most + 3 * (0 + (i : Int)) + 1) (show (0 : Int) < 10 by decide)
    have ok := digit_ok _ q1 q2
    refine ⟨by omega, by omega, .inl (by decide), by decide, by omega, ?_, ?_, kn _ _ ⟨_, _, xs ++ [_], rfl, by omega, g.new hl, by rw [upd_same]; exact congrArg (fun z => some (MO.list z)) (List.map_append (f := MV.str) (l₁ := xs) (l₂ := [_])).symm, by rw [upd_ne (Ne.symm hne)]; exact e2, by simp; omega, ?_⟩⟩
    · exact Nat.le_trans (Nat.add_le_add_left (toString_length_le q1 (k := 2) (by decide) (by omega)) _) (by rw [sizeLine_eq]; decide +kernel)
    · rw [sizeLine_eq, List.length_map]; omega
    · intro x hx
      rcases List.mem_append.mp hx with hx | hx
      · exact e4 x hx
      · rw [List.mem_singleton] at hx; subst hx; exact ok

theorem TaskAt.grow {σ σ' : MH} {r : TR} (h : TaskAt σ r) (g : Grow σ σ') : TaskAt σ' r :=
  ⟨g _ _ h.i, g _ _ h.n, h.nm, h.gf, h.gd, h.gt, g _ _ h.f, g _ _ h.o, h.okn, h.okf, h.oko⟩
theorem TaskAt.lst {σ : MH} {r : TR} (h : TaskAt σ r) {a : Addr} {xs ys : List MV} (e : σ a = some (.list xs)) (h1 : a ≠ r.fd) (h2 : a ≠ r.tg) : TaskAt (Mine.upd σ a (.list ys)) r :=
  ⟨by rw [upd_ne (ne_of_mo h.i e (by simp))]; exact h.i, by rw [upd_ne (ne_of_mo h.n e (by simp))]; exact h.n, h.nm, h.gf, h.gd, h.gt,
    by rw [upd_ne (Ne.symm h1)]; exact h.f, by rw [upd_ne (Ne.symm h2)]; exact h.o, h.okn, h.okf, h.oko⟩

/-- the round's new tasks, so far -/
structure Bat (σ σ' : MH) (bs : List LR) (NE NE' : List (Str × MV)) (nd bl : Addr) (rd cnt : Nat) : Prop where
  g : Grow (upd σ nd (.dict NE')) σ'
  hbl : σ' bl = some (.list (bs.map fun r => .ref r.t))
  b0 : σ bl = none
  tk : ∀ r ∈ bs, TaskAt σ' r.toTR ∧ σ' r.td = some (.list r.deps) ∧ σ' r.nl = some (.list r.deps) ∧ dget NE' r.name = some (.ref r.nl) ∧ (∃ k, k < cnt ∧ r.name = nmOf rd k) ∧ r.deps.length ≤ 1 ∧ r.files.length ≤ 3 ∧ r.outs.length ≤ 2 ∧ (∀ q ∈ r.deps, ∃ x, q = .str x)
  fr : ∀ r ∈ bs, (σ r.fd = none ∧ σ r.td = none ∧ σ r.tg = none ∧ σ r.nl = none) ∧ r.fd ≠ bl ∧ r.td ≠ bl ∧ r.tg ≠ bl ∧ r.nl ≠ bl
  mutn : (bs.map (fun r => r.td) ++ bs.map (fun r => r.nl)).Nodup
  sep : ∀ r ∈ bs, ∀ r' ∈ bs, r.td ≠ r'.fd ∧ r.td ≠ r'.tg ∧ r.nl ≠ r'.fd ∧ r.nl ≠ r'.tg
  old : ∀ key, (∀ k, k < cnt → key ≠ nmOf rd k) → dget NE' key = dget NE key
  lN : NE'.length ≤ NE.length + cnt
  lb : bs.length = cnt
end
end Mine

open PySem PySem.W PyProof.Rows PySem.Calls
set_option Elab.async false
set_option autoImplicit false
set_option maxHeartbeats 1000000
set_option linter.all false
namespace Mine
section
variable {σ σ' σ4 σ5 : MH} {bs : List LR} {NE NE' : List (Str × MV)} {nd bl nl : Addr} {i cnt : Nat} {r : TR} {deps : List MV}

theorem Bat.up (B : Bat σ σ' bs NE NE' nd bl i cnt) {a : Addr} {o : MO} (h : σ a = some o) (hn : a ≠ nd) : σ' a = some o := B.g a o (by rw [upd_ne hn]; exact h)
theorem Bat.hnd (B : Bat σ σ' bs NE NE' nd bl i cnt) : σ' nd = some (.dict NE') := B.g nd _ upd_same
theorem Bat.down (B : Bat σ σ' bs NE NE' nd bl i cnt) {a : Addr} (h : σ' a = none) : σ a = none := by
  cases e : σ a with
  | none => rfl
  | some o =>
    by_cases hn : a = nd
    · rw [hn, B.hnd] at h; cases h
    · rw [B.up e hn] at h; cases h

theorem Bat.step (B : Bat σ σ' bs NE NE' nd bl i cnt) (hi : i < 20) (hc : cnt < 3) (G4 : Grow σ' σ4) (G5 : Grow σ4 σ5) (A : TaskAt σ5 r) (hn : r.name = nmOf i cnt) (hd : σ5 r.td = some (.list deps))
    (f1 : σ4 r.fd = none) (f2 : σ4 r.td = none) (f3 : σ4 r.tg = none) (n1 : r.td ≠ r.fd) (n2 : r.td ≠ r.tg) (hnl : σ5 nl = none) (hs : ∀ q ∈ deps, ∃ x, q = .str x) (hl : deps.length ≤ 1) (lf : r.files.length ≤ 3) (lo : r.outs.length ≤ 2) :
    Bat σ (upd (upd (upd σ5 nl (.list deps)) nd (.dict (dput NE' (nmOf i cnt) (.ref nl)))) bl (.list (bs.map (fun r => .ref r.t) ++ [.ref r.t]))) (bs ++ [⟨r, nl, deps⟩]) NE (dput NE' (nmOf i cnt) (.ref nl)) nd bl i (cnt + 1) := by
  have G : Grow σ' σ5 := G4.trans G5
  have nd5 := G _ _ B.hnd
  have bl5 := G _ _ B.hbl
  have ndbl : nd ≠ bl := ne_of_mo nd5 bl5 (by simp)
  have nlnd : nl ≠ nd := fun e => by rw [e, nd5] at hnl; cases hnl
  have nlbl : nl ≠ bl := fun e => by rw [e, bl5] at hnl; cases hnl
  have keep : ∀ a o, σ5 a = some o → a ≠ nd → a ≠ bl → upd (upd (upd σ5 nl (.list deps)) nd (.dict (dput NE' (nmOf i cnt) (.ref nl)))) bl (.list (bs.map (fun r => .ref r.t) ++ [.ref r.t])) a = some o := by
    intro a o h h1 h2
    rw [upd_ne h2, upd_ne h1, upd_ne (ne_of_new hnl h)]; exact h
  have keepT : ∀ r' : TR, TaskAt σ5 r' → bl ≠ r'.fd → bl ≠ r'.tg → TaskAt (upd (upd (upd σ5 nl (.list deps)) nd (.dict (dput NE' (nmOf i cnt) (.ref nl)))) bl (.list (bs.map (fun r => .ref r.t) ++ [.ref r.t]))) r' := by
    intro r' h h1 h2
    have g : Grow σ5 (upd σ5 nl (.list deps)) := Grow.refl.new hnl
    have a1 := (h.grow g).upd (T' := dput NE' (nmOf i cnt) (.ref nl)) (g _ _ nd5)
    refine a1.lst (xs := bs.map (fun r => .ref r.t)) ?_ h1 h2
    rw [upd_ne (Ne.symm ndbl)]; exact g _ _ bl5
  have n4 : ∀ {a : Addr}, σ4 a = none → a ≠ bl := fun h e => by rw [e, G4 _ _ B.hbl] at h; cases h
  have n4d : ∀ {a : Addr}, σ4 a = none → σ a = none := fun h => B.down (G4.none h)
  have low : ∀ {a b : Addr} {o : MO}, σ4 a = none → σ' b = some o → a ≠ b := fun h e q => by rw [q, G4 _ _ e] at h; cases h
  have low5 : ∀ {b : Addr} {o : MO}, σ5 b = some o → nl ≠ b := fun e q => by rw [q, e] at hnl; cases hnl
  refine ⟨?_, ?_, B.b0, ?_, ?_, ?_, ?_, ?_, ?_, ?_⟩
  · intro a o h
    by_cases ha : a = nd
    · subst ha
      rw [upd_same] at h; cases h
      rw [upd_ne ndbl]; exact upd_same
    · rw [upd_ne ha] at h
      exact keep a o (G _ _ (B.up h ha)) ha fun e => by rw [e, B.b0] at h; cases h
  · rw [upd_same, List.map_append]; rfl
  · intro r' hr'
    rcases List.mem_append.mp hr' with hr' | hr'
    · obtain ⟨a1, a2, a3, a4, ⟨k, a5, a5'⟩, a6⟩ := B.tk r' hr'
      obtain ⟨_, e1, e2, e3, e4⟩ := B.fr r' hr'
      refine ⟨keepT _ (a1.grow G) (Ne.symm e1) (Ne.symm e3), keep _ _ (G _ _ a2) (ne_of_mo a2 B.hnd (by simp)) e2, keep _ _ (G _ _ a3) (ne_of_mo a3 B.hnd (by simp)) e4, ?_, ⟨k, Nat.lt_succ_of_lt a5, a5'⟩, a6⟩
      rw [dget_dput, if_neg, a4]
      intro e
      rw [a5'] at e
      have := (nm_inj ⟨i, hi⟩ ⟨i, hi⟩ ⟨k, by omega⟩ ⟨cnt, hc⟩ e).2
      simp at this; omega
    · rw [List.mem_singleton] at hr'; subst hr'
      refine ⟨keepT r A (Ne.symm (n4 f1)) (Ne.symm (n4 f3)), keep _ _ hd (ne_of_mo hd nd5 (by simp)) (n4 f2), ?_, ?_, ⟨cnt, Nat.lt_succ_self _, hn⟩, hl, lf, lo, hs⟩
      · show upd (upd (upd σ5 nl (.list deps)) nd _) bl _ nl = _
        rw [upd_ne nlbl, upd_ne nlnd]; exact upd_same
      · show dget _ r.name = _
        rw [dget_dput, hn, if_pos rfl]
  · intro r' hr'
    rcases List.mem_append.mp hr' with hr' | hr'
    · exact B.fr r' hr'
    · rw [List.mem_singleton] at hr'; subst hr'
      exact ⟨⟨n4d f1, n4d f2, n4d f3, B.down (G.none hnl)⟩, n4 f1, n4 f2, n4 f3, nlbl⟩
  · have pm : ((bs ++ [(⟨r, nl, deps⟩ : LR)]).map (fun r => r.td) ++ (bs ++ [(⟨r, nl, deps⟩ : LR)]).map (fun r => r.nl)).Perm (r.td :: nl :: (bs.map (fun r => r.td) ++ bs.map (fun r => r.nl))) := by
      simp only [List.map_append, List.map_cons, List.map_nil]
      rw [List.append_assoc]
      refine List.Perm.trans List.perm_middle (List.Perm.cons _ ?_)
      show (bs.map (fun r => r.td) ++ (bs.map (fun r => r.nl) ++ [nl])).Perm _
      rw [← List.append_assoc]
      exact List.perm_append_comm
    refine pm.nodup_iff.mpr ?_
    rw [List.nodup_cons, List.nodup_cons]
    refine ⟨fun hm => ?_, fun hm => ?_, B.mutn⟩
    · rcases List.mem_cons.mp hm with e | hm
      · exact low5 hd e.symm
      · rcases List.mem_append.mp hm with hm | hm
        · obtain ⟨r', hr', e⟩ := List.mem_map.mp hm
          exact low f2 (B.tk r' hr').2.1 e.symm
        · obtain ⟨r', hr', e⟩ := List.mem_map.mp hm
          exact low f2 (B.tk r' hr').2.2.1 e.symm
    · rcases List.mem_append.mp hm with hm | hm
      · obtain ⟨r', hr', e⟩ := List.mem_map.mp hm
        exact low5 (G _ _ (B.tk r' hr').2.1) e.symm
      · obtain ⟨r', hr', e⟩ := List.mem_map.mp hm
        exact low5 (G _ _ (B.tk r' hr').2.2.1) e.symm
  · intro r1 h1 r2 h2
    rcases List.mem_append.mp h1 with h1 | h1
    · obtain ⟨a1, a2, a3, _⟩ := B.tk r1 h1
      rcases List.mem_append.mp h2 with h2 | h2
      · exact B.sep r1 h1 r2 h2
      · rw [List.mem_singleton] at h2; subst h2
        exact ⟨Ne.symm (low f1 a2), Ne.symm (low f3 a2), Ne.symm (low f1 a3), Ne.symm (low f3 a3)⟩
    · rw [List.mem_singleton] at h1; subst h1
      rcases List.mem_append.mp h2 with h2 | h2
      · obtain ⟨a1, _⟩ := B.tk r2 h2
        exact ⟨low f2 a1.f, low f2 a1.o, low5 (G _ _ a1.f), low5 (G _ _ a1.o)⟩
      · rw [List.mem_singleton] at h2; subst h2
        exact ⟨n1, n2, low5 A.f, low5 A.o⟩
  · intro key hk
    rw [dget_dput, if_neg (hk cnt (Nat.lt_succ_self _))]
    exact B.old key fun k h => hk k (Nat.lt_succ_of_lt h)
  · exact Nat.le_trans dput_length (by have := B.lN; omega)
  · simp [B.lb]
end
end Mine

open PySem PySem.W PyProof.Rows PySem.Calls
set_option Elab.async false
set_option autoImplicit false
set_option linter.all false
namespace Mine
section
variable {Γ : Rt} {CP : CallT} {n : Nat} {args : List MV} {kw : List (Str × MV)} {σ : MH} {P : KP} {X : XP} {Pb : Bool → Prop} {Ph : MH → Prop} {PM : MV → List MV → Prop}
theorem callW_b {id : String} : callW Γ CP n (.builtin id) args kw σ P X = (kw = [] ∧ builtinW id args σ P) := rfl
theorem callW_t {id : String} : callW Γ CP n (.type id) args kw σ P X = (kw = [] ∧ typeW id args σ P) := rfl
theorem callW_r {c : Addr} : callW Γ CP n (.ref c) args kw σ P X = (0 < n ∧ keepIn Γ.K (.ref c) = true ∧ CP (n - 1) (.ref c) args kw σ P X) := rfl
theorem bin_fdiv {i j : Int} : binW .FloorDiv (.int i) (.int j) σ P = (j ≠ 0 ∧ j.natAbs < 1073741824 ∧ P (.int (i.fdiv j)) σ) := rfl
theorem bin_mod {i j : Int} : binW .Mod (.int i) (.int j) σ P = (j ≠ 0 ∧ P (.int (i.fmod j)) σ) := rfl
theorem bin_mul {i j : Int} : binW .Mult (.int i) (.int j) σ P = ((i.natAbs < 2 ^ 64 ∨ j.natAbs < 2 ^ 64) ∧ P (.int (i * j)) σ) := rfl
theorem bin_add {i j : Int} : binW .Add (.int i) (.int j) σ P = P (.int (i + j)) σ := rfl
theorem bin_sub {i j : Int} : binW .Sub (.int i) (.int j) σ P = P (.int (i - j)) σ := rfl
theorem bin_adds {x y : Str} : binW .Add (.str x) (.str y) σ P = (x.length + y.length ≤ sizeLine ∧ P (.str (x ++ y)) σ) := rfl
theorem const_int {i : Int} : constW (.int i) σ P = P (.int i) σ := rfl
theorem const_none : constW .none σ P = P .none σ := rfl
theorem const_bool {b : Bool} : constW (.bool b) σ P = P (.bool b) σ := rfl
theorem const_str {x : String} : constW (.str (Str.ofString x)) σ P = P (.str (Str.ofString x)) σ := by
  show (PyData.strOk _ = true ∧ _) = _
  rw [strOk_ofString]; simp
theorem ty_str {i : Int} : typeW "str" [.int i] σ P = (i.natAbs < 10 ^ 10 ∧ P (.str (Str.ofString (toString i))) σ) := rfl
theorem ty_range {i : Int} : typeW "range" [.int i] σ P = (i.natAbs < 2 ^ 62 ∧ allocW σ (.range 0 i 1) P) := rfl
theorem ty_list {a : Addr} {xs : List MV} (h : σ a = some (.list xs)) : typeW "list" [.ref a] σ P = allocW σ (.list xs) P := by
  unfold typeW; simp only [h]
theorem ty_tuple {a : Addr} {xs : List MV} (h : σ a = some (.list xs)) : typeW "tuple" [.ref a] σ P = allocW σ (.tuple xs) P := by
  unfold typeW; simp only [h]
theorem tr_bool {b : Bool} : truthW Γ σ (.bool b) Pb = Pb b := rfl
theorem tr_none : truthW Γ σ .none Pb = Pb false := rfl
theorem tr_int {i : Int} : truthW Γ σ (.int i) Pb = Pb (i != 0) := rfl
theorem tr_list {a : Addr} {xs : List MV} (h : σ a = some (.list xs)) : truthW Γ σ (.ref a) Pb = Pb (!xs.isEmpty) := by
  unfold truthW; simp only [h]
theorem cmp_int {i j : Int} {op : CmpOp} : cmpW op (.int i) (.int j) σ Pb = (match op with
    | .Eq => Pb (i == j) | .NotEq => Pb (i != j) | .Lt => Pb (decide (i < j)) | .LtE => Pb (decide (i ≤ j)) | .Gt => Pb (decide (j < i)) | .GtE => Pb (decide (j ≤ i)) | _ => False) := by
  unfold cmpW; rfl
theorem bw_len {a : Addr} {xs : List MV} (h : σ a = some (.list xs)) : builtinW "len" [.ref a] σ P = P (.int xs.length) σ := by
  unfold builtinW; simp only [h]
theorem bw_app {a : Addr} {x : MV} {xs : List MV} (h : σ a = some (.list xs)) : builtinW "list.append" [.ref a, x] σ P = (xs.length < sizeLine ∧ P .none (upd σ a (.list (xs ++ [x])))) := by
  unfold builtinW; simp only [h]
theorem bw_ext {a b : Addr} {xs ys : List MV} (h : σ a = some (.list xs)) (h' : σ b = some (.list ys)) : builtinW "list.extend" [.ref a, .ref b] σ P = (a ≠ b ∧ xs.length + ys.length ≤ sizeLine ∧ P .none (upd σ a (.list (xs ++ ys)))) := by
  unfold builtinW; simp only [h, h']
theorem me_app {a : Addr} {xs : List MV} (h : σ a = some (.list xs)) : methW Γ (.ref a) (Str.ofString "append") σ PM = PM (.builtin "list.append") [.ref a] := by
  unfold methW; simp only [h, ofString_inj, String.reduceEq, false_and, or_false, true_and]
theorem me_ext {a : Addr} {xs : List MV} (h : σ a = some (.list xs)) : methW Γ (.ref a) (Str.ofString "extend") σ PM = PM (.builtin "list.extend") [.ref a] := by
  unfold methW; simp only [h, ofString_inj, String.reduceEq, false_and, false_or, true_and]
theorem me_cls {a : Addr} {x : Str} (h : σ a = some .kob) : methW Γ (.ref a) x σ PM = ∃ f, stOk Γ.K a x f = true ∧ PM (.ref f) [] := by
  unfold methW; simp only [h]
theorem at_get {a d C : Addr} {x : Str} {es : List (Str × MV)} {v : MV} (h : σ a = some (.inst C d)) (h' : σ d = some (.ns es)) (hr : rdOk Γ.K C x = true) (e : dget es x = some v) (hp : plainMV v = true) : attrW Γ (.ref a) x σ P = P v σ := by
  unfold attrW; simp only [h, h', hr, e, true_and, Option.some.injEq, exists_eq_left', hp]
theorem si_dict {a : Addr} {k : Str} {v : MV} {es : List (Str × MV)} (h : σ a = some (.dict es)) : setItemW (.ref a) (.str k) v σ Ph = (es.length < sizeLine ∧ Ph (upd σ a (.dict (dput es k v)))) := by
  unfold setItemW; simp only [h]
theorem it_list {a : Addr} {k : Int} {xs : List MV} (h : σ a = some (.list xs)) : itemW (.ref a) (.int k) σ P = (0 ≤ k ∧ ∃ x, xs[k.toNat]? = some x ∧ P x σ) := by
  unfold itemW; simp only [h]
theorem it_dict {a : Addr} {k : Str} {es : List (Str × MV)} {x : MV} (h : σ a = some (.dict es)) (e : dget es k = some x) : itemW (.ref a) (.str k) σ P = P x σ := by
  unfold itemW; simp only [h, e, Option.some.injEq, exists_eq_left']
end
end Mine

open PySem PySem.W PyProof.Rows PySem.Calls
set_option Elab.async false
set_option autoImplicit false
set_option maxRecDepth 100000
set_option maxHeartbeats 8000000
set_option linter.all false
namespace Mine
section
variable {Γ : Rt} {P : Params}
theorem range'_head {k cnt : Nat} {rest : List Nat} (h : k :: rest = List.range' cnt (rest.length + 1)) : k = cnt ∧ rest = List.range' (cnt + 1) rest.length := by
  rw [List.range'_succ] at h
  injection h with h1 h2
  exact ⟨h1, h2⟩

theorem nm_len : ∀ i : Fin 20, ∀ k : Fin 3, (Str.ofString "t").length + (Str.ofString (toString ((i : Nat) : Int))).length ≤ 1000 ∧ (Str.ofString "t" ++ Str.ofString (toString ((i : Nat) : Int))).length + (Str.ofString "_").length ≤ 1000 ∧
    (Str.ofString "t" ++ Str.ofString (toString ((i : Nat) : Int)) ++ Str.ofString "_").length + (Str.ofString (toString ((k : Nat) : Int))).length ≤ 1000 := by decide +kernel

theorem c_batch (hK : Γ.K = KK P) {n : Nat} {σ : MH} {R : KP} {X : XP} {v : Int} {i : Nat} {recs : List LR} {NE T : List (Str × MV)} {nd lv kp bk : Addr} (hv : 0 ≤ v) (hi : i < 20) (h : Inv σ recs NE T nd lv kp bk i)
    (h127 : σ 127 = some (.tuple [])) (h128 : σ 128 = some (.tuple [])) (h129 : σ 129 = some (.tuple []))
    (hR : ∀ σ' bl bs NE' cnt, cnt ≤ 3 → Bat σ σ' bs NE NE' nd bl i cnt → R (.ref bl) σ') : CodeP Γ (n + 5) (.ref 499) [.int v, .int i, .ref lv, .ref nd] [] σ R X := by
  refine code_body [Str.ofString "batch", Str.ofString "k", Str.ofString "w", Str.ofString "name", Str.ofString "told", Str.ofString "t"] (by rw [hK]; exact rfl) (by rw [hK]; exact rfl) (mb := [(Str.ofString "v", .int v), (Str.ofString "round_", .int i), (Str.ofString "live", .ref lv), (Str.ofString "needs", .ref nd)]) ?_ ?_ ?_ ?_ (by decide) rfl rfl rfl
  · intro s vs kws hX hv0 hk
    obtain ⟨v1, vs1, rfl, g1, hv1⟩ := hv0.cons_inv
    obtain ⟨v2, vs2, rfl, g2, hv2⟩ := hv1.cons_inv
    obtain ⟨v3, vs3, rfl, g3, hv3⟩ := hv2.cons_inv
    obtain ⟨v4, vs4, rfl, g4, hv4⟩ := hv3.cons_inv
    cases hv4
    cases hk
    exact ⟨_, .of_eq rfl, .cons ⟨rfl, g1⟩ (.cons ⟨rfl, g2⟩ (.cons ⟨rfl, g3⟩ (.cons ⟨rfl, g4⟩ .nil)))⟩
  · simp only [WS, W1, W, WL, WK, WT, WTs, WB, WO, bindW, nameW, List.lookup, ofString_beq, ofString_inj, String.reduceBEq, String.reduceEq, String.reduceBNe, String.reduceNe, ML.get, ML.set, List.map_cons, List.map_nil, locals0,
    List.cons_append, List.nil_append, callW, callOk, plainArg, notSuper, kwNamed, List.all_cons, List.all_nil, List.length_cons, List.length_nil, Bool.and_true, Bool.true_and, Bool.and_self, Bool.not_true, Bool.not_false,
    decide_true, decide_eq_true_eq, beq_self_eq_true, true_and, and_true, if_true, if_false, reduceIte, reduceCtorEq, Option.isSome_some, Option.isSome_none, Nat.reduceAdd, Nat.reduceMul, Nat.reduceLeDiff, Nat.reduceSubDiff, Nat.add_one_sub_one, Nat.zero_lt_succ, Nat.succ_pos, Nat.lt_add_left_iff_pos,
    Bool.false_eq_true, false_and, and_false, behindInMarks, namesOf, Option.map_some, Option.some.injEq, exists_eq_left', exists_eq_left, or_false, false_or, or_self, not_true, not_false_iff, List.mem_cons, List.not_mem_nil, or_false, forall_eq_or_imp, forall_eq]
  · simp only [WS, W1, W, WL, WK, WT, WTs, WB, WO, bindW, nameW, List.lookup, ofString_beq, ofString_inj, String.reduceBEq, String.reduceEq, String.reduceBNe, String.reduceNe, ML.get, ML.set, List.map_cons, List.map_nil, locals0,
    List.cons_append, List.nil_append, callW, callOk, plainArg, notSuper, kwNamed, List.all_cons, List.all_nil, List.length_cons, List.length_nil, Bool.and_true, Bool.true_and, Bool.and_self, Bool.not_true, Bool.not_false,
    decide_true, decide_eq_true_eq, beq_self_eq_true, true_and, and_true, if_true, if_false, reduceIte, reduceCtorEq, Option.isSome_some, Option.isSome_none, Nat.reduceAdd, Nat.reduceMul, Nat.reduceLeDiff, Nat.reduceSubDiff, Nat.add_one_sub_one, Nat.zero_lt_succ, Nat.succ_pos, Nat.lt_add_left_iff_pos,
    Bool.false_eq_true, false_and, and_false, behindInMarks, namesOf, Option.map_some, Option.some.injEq, exists_eq_left', exists_eq_left, or_false, false_or, or_self, not_true, not_false_iff, List.nodup_cons, List.mem_cons, List.not_mem_nil, or_false, not_false_iff, List.nodup_nil, or_self]
  have g1 := gl_range (P := P)
  have g2 := gl_str (P := P)
  have g3 := gl_len (P := P)
  have g4 := gl_Task (P := P)
  have g5 := gl_names (P := P)
  have g6 := gl_list (P := P)
  have p1 := kp_223 (P := P)
  have p2 := kp_492 (P := P)
  have r1 := rd_Task_name (P := P)
  rw [← hK] at g1 g2 g3 g4 g5 g6 p1 p2 r1
  have q0 := Int.fmod_nonneg_of_pos (v.fdiv 8) (show (0 : Int) < 3 by decide)
  have q1 := Int.fmod_lt_of_pos (v.fdiv 8) (show (0 : Int) < 3 by decide)
  simp only [WS, W1, W, WL, WK, WT, WTs, WB, WO, bindW, nameW, List.lookup, ofString_beq, ofString_inj, String.reduceBEq, String.reduceEq, String.reduceBNe, String.reduceNe, ML.get, ML.set, List.map_cons, List.map_nil, locals0,
    List.cons_append, List.nil_append, callW_b, callW_t, callW_r, bin_fdiv, bin_mod, bin_mul, bin_add, bin_sub, bin_adds, const_int, const_none, const_bool, const_str, ty_str, ty_range, tr_bool, tr_none, tr_int, cmp_int, Int.zero_add, callOk, plainArg, notSuper, kwNamed, List.all_cons, List.all_nil, List.length_cons, List.length_nil, Bool.and_true, Bool.true_and, Bool.and_self, Bool.not_true, Bool.not_false,
    decide_true, decide_eq_true_eq, beq_self_eq_true, true_and, and_true, if_true, if_false, reduceIte, reduceCtorEq, Option.isSome_some, Option.isSome_none, Nat.reduceAdd, Nat.reduceMul, Nat.reduceLeDiff, Nat.reduceSubDiff, Nat.add_one_sub_one, Nat.zero_lt_succ, Nat.succ_pos, Nat.lt_add_left_iff_pos,
    Bool.false_eq_true, false_and, and_false, behindInMarks, namesOf, Option.map_some, Option.some.injEq, exists_eq_left', exists_eq_left, or_false, false_or, or_self, not_true, not_false_iff, g1]
  intro bl hbl
  refine ⟨by decide, by decide, by decide, by omega, fun rg hrg => ?_⟩
  have hne : bl ≠ rg := fun e => by rw [← e, upd_same] at hrg; cases hrg
  have hrg0 : σ rg = none := by rw [upd_ne (Ne.symm hne)] at hrg; exact hrg
  refine ⟨rg, _, _, rfl, upd_same, rfl, ?_⟩
  have B0 : Bat σ (upd (upd σ bl (.list [])) rg (.range 0 (1 + (v.fdiv 8).fmod 3) 1)) [] NE NE nd bl i 0 := by
    refine ⟨by rw [upd_id h.hnd]; exact (Grow.refl.new hbl).new hrg0, by rw [upd_ne hne]; exact upd_same, hbl, (fun _ h => nomatch h), (fun _ h => nomatch h), List.nodup_nil, (fun _ h => nomatch h), fun _ _ => rfl, Nat.le_refl _, rfl⟩
  refine forW_list (fun i : Nat => .int (0 + i)) (fun rest μ σ' => ∃ w1 w2 w3 w4 w5 bs NE' cnt, μ = [(Str.ofString "v", some (.int v)), (Str.ofString "round_", some (.int i)), (Str.ofString "live", some (.ref lv)), (Str.ofString "needs", some (.ref nd)), (Str.ofString "batch", some (.ref bl)), (Str.ofString "k", w1), (Str.ofString "w", w2), (Str.ofString "name", w3), (Str.ofString "told", w4), (Str.ofString "t", w5)] ∧
    Bat σ σ' bs NE NE' nd bl i cnt ∧ σ' rg = some (.range 0 (1 + (v.fdiv 8).fmod 3) 1) ∧ rest = List.range' cnt rest.length ∧ cnt + rest.length ≤ 3) ?_ ?_ _ _ _ ⟨none, none, none, none, none, [], NE, 0, rfl, B0, upd_same, by simp [List.range_eq_range'], by simp; omega⟩
  · rintro μ σ' ⟨w1, w2, w3, w4, w5, bs, NE', cnt, rfl, B, e, _, hc⟩
    simp only [WS, W1, W, WL, WK, WT, WTs, WB, WO, bindW, nameW, List.lookup, ofString_beq, ofString_inj, String.reduceBEq, String.reduceEq, String.reduceBNe, String.reduceNe, ML.get, ML.set, List.map_cons, List.map_nil, locals0,
    List.cons_append, List.nil_append, callW, callOk, plainArg, notSuper, kwNamed, List.all_cons, List.all_nil, List.length_cons, List.length_nil, Bool.and_true, Bool.true_and, Bool.and_self, Bool.not_true, Bool.not_false,
    decide_true, decide_eq_true_eq, beq_self_eq_true, true_and, and_true, if_true, if_false, reduceIte, reduceCtorEq, Option.isSome_some, Option.isSome_none, Nat.reduceAdd, Nat.reduceMul, Nat.reduceLeDiff, Nat.reduceSubDiff, Nat.add_one_sub_one, Nat.zero_lt_succ, Nat.succ_pos, Nat.lt_add_left_iff_pos,
    Bool.false_eq_true, false_and, and_false, behindInMarks, namesOf, Option.map_some, Option.some.injEq, exists_eq_left', exists_eq_left, or_false, false_or, or_self, not_true, not_false_iff]
    exact ⟨e, hR σ' bl bs NE' cnt (by simpa using hc) B⟩
  · rintro k rest μ σ' Kf ⟨w1, w2, w3, w4, w5, bs, NE', cnt, rfl, B, e, hr, hc⟩ kn _ _ _
    rw [List.length_cons] at hc
    obtain ⟨rfl, hr'⟩ := range'_head hr
    refine ⟨e, ?_⟩
    have hk3 : k < 3 := by omega
    obtain ⟨nl0, nl1, nl2⟩ := nm_facts ⟨i, hi⟩ ⟨k, hk3⟩
    have lv' := B.up h.hlv (ne_of_mo h.hlv h.hnd (by simp))
    have wz : 0 ≤ v.fdiv 24 + 131 * (k : Int) + 7 := by
      have : 0 ≤ v.fdiv 24 := Int.fdiv_nonneg hv (by decide)
      omega
    have len1 : (Str.ofString "t").length + (Str.ofString (toString (i : Int))).length ≤ sizeLine := Nat.le_trans (Nat.add_le_add_left (toString_length_le (k := 2) (by omega) (by decide) (by omega)) _) (by rw [sizeLine_eq]; decide +kernel)
    simp only [WS, W1, W, WL, WK, WT, WTs, WB, WO, bindW, nameW, List.lookup, ofString_beq, ofString_inj, String.reduceBEq, String.reduceEq, String.reduceBNe, String.reduceNe, ML.get, ML.set, List.map_cons, List.map_nil, locals0,
    List.cons_append, List.nil_append, callW_b, callW_t, callW_r, bin_fdiv, bin_mod, bin_mul, bin_add, bin_sub, bin_adds, const_int, const_none, const_bool, const_str, ty_str, ty_range, tr_bool, tr_none, tr_int, cmp_int, Int.zero_add, callOk, plainArg, notSuper, kwNamed, List.all_cons, List.all_nil, List.length_cons, List.length_nil, Bool.and_true, Bool.true_and, Bool.and_self, Bool.not_true, Bool.not_false,
    decide_true, decide_eq_true_eq, beq_self_eq_true, true_and, and_true, if_true, if_false, reduceIte, reduceCtorEq, Option.isSome_some, Option.isSome_none, Nat.reduceAdd, Nat.reduceMul, Nat.reduceLeDiff, Nat.reduceSubDiff, Nat.add_one_sub_one, Nat.zero_lt_succ, Nat.succ_pos, Nat.lt_add_left_iff_pos,
    Bool.false_eq_true, false_and, and_false, behindInMarks, namesOf, Option.map_some, Option.some.injEq, exists_eq_left', exists_eq_left, or_false, false_or, or_self, not_true, not_false_iff, g1, g2, g3, g4, g5, g6]
    obtain ⟨s1, s2, s3⟩ := nm_len ⟨i, hi⟩ ⟨k, hk3⟩
    have big : 1000 ≤ sizeLine := by rw [sizeLine_eq]; decide
    refine ⟨by decide, by decide, .inl (by decide), by omega, Nat.le_trans s1 big, Nat.le_trans s2 big, by omega, Nat.le_trans s3 big, fun tl htl => ?_⟩
    have lv1 : upd σ' tl (.list []) lv = some (.list (recs.map fun r => .ref r.t)) := by rw [upd_ne (ne_of_new htl lv')]; exact lv'
    simp only [tr_list lv1]
    by_cases hrecs : recs = []
    · have hemp : (recs.map fun r => MV.ref r.t).isEmpty = true := by rw [hrecs]; rfl
      simp only [hemp, Bool.not_true]
      obtain ⟨ds, hds⟩ : ∃ ds : List Str, ds = [] := ⟨_, rfl⟩
      have dl : ds.length ≤ 1 := by rw [hds]; exact Nat.zero_le _
      have dst : ∀ d ∈ ds, (Builtin.Str.occurrences d (Str.ofString "*") 0 d.length 1).isEmpty = true := by rw [hds]; exact fun _ h => nomatch h
      have G2 : Grow σ' (upd σ' tl (.list [])) := Grow.refl.new htl
      have e2 : upd σ' tl (.list []) tl = some (.list (sLst ds)) := by rw [upd_same, hds]; rfl
      refine ⟨by decide, by decide, p2, ?_⟩
      refine c_names (n := n + 3) hK (Int.fdiv_nonneg wz (by decide)) (by decide) (by decide) fun σ3 fl1 xs1 G3 z1 e3 ln1 ok1 => ?_
      refine ⟨by decide, by decide, p2, ?_⟩
      refine c_names (n := n + 3) hK (Int.fdiv_nonneg wz (by decide)) (by decide) (by decide) fun σ4 fl2 xs2 G4 z2 e4 ln2 ok2 => ?_
      refine ⟨p1, ?_⟩
      have up4 : ∀ a o, σ a = some o → a ≠ nd → σ4 a = some o := fun a o e q => G4 _ _ (G3 _ _ (G2 _ _ (B.up e q)))
      refine c_Task (n := n) hK (files := xs1) (deps := ds) (outs := xs2) (G4 _ _ e3) (by simp at ln1; omega) (G4 _ _ (G3 _ _ e2)) (by omega) e4 (by simp at ln2; omega) dst nl1
        (up4 _ _ h127 (ne_of_mo h127 h.hnd (by simp))) (up4 _ _ h128 (ne_of_mo h128 h.hnd (by simp))) (up4 _ _ h129 (ne_of_mo h129 h.hnd (by simp))) (nm_ok hi hk3) ok1 ok2 fun σ5 r G5 A hnm lf lo hd f1 f2 f3 f4 f5 n1 n2 => ?_
      have G : Grow σ' σ5 := ((G2.trans G3).trans G4).trans G5
      have tl5 : σ5 tl = some (.list (sLst ds)) := G5 _ _ (G4 _ _ (G3 _ _ e2))
      simp only [ty_list tl5]
      refine fun nl hnl => ?_
      have nd5 := G _ _ B.hnd
      have bl5 := G _ _ B.hbl
      have rg5 := G _ _ e
      have nd6 : upd σ5 nl (.list (sLst ds)) nd = some (.dict NE') := by rw [upd_ne (ne_of_new hnl nd5)]; exact nd5
      simp only [si_dict nd6]
      have bl7 : ∀ D, upd (upd σ5 nl (.list (sLst ds))) nd (.dict D) bl = some (.list (bs.map (fun r => .ref r.t))) := fun D => by
        rw [upd_ne (ne_of_mo bl5 nd5 (by simp)), upd_ne (ne_of_new hnl bl5)]; exact bl5
      refine ⟨by have := B.lN; have := h.lN; rw [sizeLine_eq]; omega, ?_⟩
      simp only [WS, W1, W, WL, WK, WT, WTs, WB, WO, bindW, nameW, List.lookup, ofString_beq, ofString_inj, String.reduceBEq, String.reduceEq, String.reduceBNe, String.reduceNe, ML.get, ML.set, List.map_cons, List.map_nil, locals0,
    List.cons_append, List.nil_append, callW_b, callW_t, callW_r, bin_fdiv, bin_mod, bin_mul, bin_add, bin_sub, bin_adds, const_int, const_none, const_bool, const_str, ty_str, ty_range, tr_bool, tr_none, tr_int, cmp_int, Int.zero_add, callOk, plainArg, notSuper, kwNamed, List.all_cons, List.all_nil, List.length_cons, List.length_nil, Bool.and_true, Bool.true_and, Bool.and_self, Bool.not_true, Bool.not_false,
    decide_true, decide_eq_true_eq, beq_self_eq_true, true_and, and_true, if_true, if_false, reduceIte, reduceCtorEq, Option.isSome_some, Option.isSome_none, Nat.reduceAdd, Nat.reduceMul, Nat.reduceLeDiff, Nat.reduceSubDiff, Nat.add_one_sub_one, Nat.zero_lt_succ, Nat.succ_pos, Nat.lt_add_left_iff_pos,
    Bool.false_eq_true, false_and, and_false, behindInMarks, namesOf, Option.map_some, Option.some.injEq, exists_eq_left', exists_eq_left, or_false, false_or, or_self, not_true, not_false_iff, me_app (bl7 _), bw_app (bl7 _)]
      refine ⟨by have := B.lb; rw [sizeLine_eq, List.length_map]; omega, kn _ _ ⟨_, _, _, _, _, bs ++ [(⟨r, nl, sLst ds⟩ : LR)], dput NE' (nmOf i k) (.ref nl), k + 1, rfl,
        B.step hi hk3 ((G2.trans G3).trans G4) G5 A hnm hd f3 f4 f5 n1 n2 hnl (fun q hq => by obtain ⟨y, _, rfl⟩ := List.mem_map.mp hq; exact ⟨y, rfl⟩) (by simpa using dl) (by simp at ln1; omega) (by rw [lo]; simp at ln2; omega), ?_, hr', by omega⟩⟩
      rw [upd_ne (ne_of_mo rg5 bl5 (by simp)), upd_ne (ne_of_mo rg5 nd5 (by simp)), upd_ne (ne_of_new hnl rg5)]
      exact rg5
    · have hemp : (recs.map fun r => MV.ref r.t).isEmpty = false := by
        cases recs with
        | nil => exact absurd rfl hrecs
        | cons _ _ => rfl
      simp only [hemp, Bool.not_false]
      refine ⟨by decide, ?_⟩
      by_cases hz : (v.fdiv 24 + 131 * (k : Int) + 7).fmod 3 = 0
      · simp only [hz, beq_self_eq_true]
        have tl1 : upd σ' tl (.list []) tl = some (.list []) := upd_same
        simp only [WS, W1, W, WL, WK, WT, WTs, WB, WO, bindW, nameW, List.lookup, ofString_beq, ofString_inj, String.reduceBEq, String.reduceEq, String.reduceBNe, String.reduceNe, ML.get, ML.set, List.map_cons, List.map_nil, locals0,
    List.cons_append, List.nil_append, callW_b, callW_t, callW_r, bin_fdiv, bin_mod, bin_mul, bin_add, bin_sub, bin_adds, const_int, const_none, const_bool, const_str, ty_str, ty_range, tr_bool, tr_none, tr_int, cmp_int, Int.zero_add, callOk, plainArg, notSuper, kwNamed, List.all_cons, List.all_nil, List.length_cons, List.length_nil, Bool.and_true, Bool.true_and, Bool.and_self, Bool.not_true, Bool.not_false,
    decide_true, decide_eq_true_eq, beq_self_eq_true, true_and, and_true, if_true, if_false, reduceIte, reduceCtorEq, Option.isSome_some, Option.isSome_none, Nat.reduceAdd, Nat.reduceMul, Nat.reduceLeDiff, Nat.reduceSubDiff, Nat.add_one_sub_one, Nat.zero_lt_succ, Nat.succ_pos, Nat.lt_add_left_iff_pos,
    Bool.false_eq_true, false_and, and_false, behindInMarks, namesOf, Option.map_some, Option.some.injEq, exists_eq_left', exists_eq_left, or_false, false_or, or_self, not_true, not_false_iff, me_app tl1, bw_len lv1]
        have hpos : 0 < recs.length := List.length_pos_iff.mpr hrecs
        have hlen : ((recs.map fun r => MV.ref r.t).length : Int) = (recs.length : Int) := by rw [List.length_map]
        have j0 := Int.fmod_nonneg_of_pos ((v.fdiv 24 + 131 * (k : Int) + 7).fdiv 3) (show 0 < ((recs.map fun r => MV.ref r.t).length : Int) by omega)
        have j1 := Int.fmod_lt_of_pos ((v.fdiv 24 + 131 * (k : Int) + 7).fdiv 3) (show 0 < ((recs.map fun r => MV.ref r.t).length : Int) by omega)
        obtain ⟨j, hj⟩ := Int.eq_ofNat_of_zero_le j0
        have hjl : j < recs.length := by omega
        refine ⟨by decide, by decide, by omega, ?_⟩
        simp only [it_list lv1]
        rw [hj]
        obtain ⟨Ar, _, _, _, ⟨ii, kk, hii, hkk, hnm'⟩, _⟩ := h.tk recs[j] (List.getElem_mem hjl)
        refine ⟨by omega, .ref recs[j].t, by simp [hjl], ?_⟩
        have Ai : upd σ' tl (.list []) recs[j].t = some (.inst 223 recs[j].d) := by
          have := B.up Ar.i (ne_of_mo Ar.i h.hnd (by simp))
          rw [upd_ne (ne_of_new htl this)]; exact this
        have An : upd σ' tl (.list []) recs[j].d = some (.ns recs[j].es) := by
          have := B.up Ar.n (ne_of_mo Ar.n h.hnd (by simp))
          rw [upd_ne (ne_of_new htl this)]; exact this
        simp only [WS, W1, W, WL, WK, WT, WTs, WB, WO, bindW, nameW, List.lookup, ofString_beq, ofString_inj, String.reduceBEq, String.reduceEq, String.reduceBNe, String.reduceNe, ML.get, ML.set, List.map_cons, List.map_nil, locals0,
    List.cons_append, List.nil_append, callW_b, callW_t, callW_r, bin_fdiv, bin_mod, bin_mul, bin_add, bin_sub, bin_adds, const_int, const_none, const_bool, const_str, ty_str, ty_range, tr_bool, tr_none, tr_int, cmp_int, Int.zero_add, callOk, plainArg, notSuper, kwNamed, List.all_cons, List.all_nil, List.length_cons, List.length_nil, Bool.and_true, Bool.true_and, Bool.and_self, Bool.not_true, Bool.not_false,
    decide_true, decide_eq_true_eq, beq_self_eq_true, true_and, and_true, if_true, if_false, reduceIte, reduceCtorEq, Option.isSome_some, Option.isSome_none, Nat.reduceAdd, Nat.reduceMul, Nat.reduceLeDiff, Nat.reduceSubDiff, Nat.add_one_sub_one, Nat.zero_lt_succ, Nat.succ_pos, Nat.lt_add_left_iff_pos,
    Bool.false_eq_true, false_and, and_false, behindInMarks, namesOf, Option.map_some, Option.some.injEq, exists_eq_left', exists_eq_left, or_false, false_or, or_self, not_true, not_false_iff, at_get Ai An r1 Ar.nm rfl, bw_app tl1, upd_upd, List.nil_append]
        refine ⟨by rw [sizeLine_eq]; decide, ?_⟩
        obtain ⟨ds, hds⟩ : ∃ ds : List Str, ds = [recs[j].name] := ⟨_, rfl⟩
        have dl : ds.length ≤ 1 := by rw [hds]; exact Nat.le_refl _
        have dst : ∀ d ∈ ds, (Builtin.Str.occurrences d (Str.ofString "*") 0 d.length 1).isEmpty = true := by
          rw [hds]; intro d hd
          rw [List.mem_singleton] at hd; subst hd
          rw [hnm']
          exact (nm_facts ⟨ii, by omega⟩ ⟨kk, hkk⟩).2.2
        have G2 : Grow σ' (upd σ' tl (.list [.str recs[j].name])) := Grow.refl.new htl
        have e2 : upd σ' tl (.list [.str recs[j].name]) tl = some (.list (sLst ds)) := by rw [upd_same, hds]; rfl
        refine ⟨by decide, by decide, p2, ?_⟩
        refine c_names (n := n + 3) hK (Int.fdiv_nonneg wz (by decide)) (by decide) (by decide) fun σ3 fl1 xs1 G3 z1 e3 ln1 ok1 => ?_
        refine ⟨by decide, by decide, p2, ?_⟩
        refine c_names (n := n + 3) hK (Int.fdiv_nonneg wz (by decide)) (by decide) (by decide) fun σ4 fl2 xs2 G4 z2 e4 ln2 ok2 => ?_
        refine ⟨p1, ?_⟩
        have up4 : ∀ a o, σ a = some o → a ≠ nd → σ4 a = some o := fun a o e q => G4 _ _ (G3 _ _ (G2 _ _ (B.up e q)))
        refine c_Task (n := n) hK (files := xs1) (deps := ds) (outs := xs2) (G4 _ _ e3) (by simp at ln1; omega) (G4 _ _ (G3 _ _ e2)) (by omega) e4 (by simp at ln2; omega) dst nl1
          (up4 _ _ h127 (ne_of_mo h127 h.hnd (by simp))) (up4 _ _ h128 (ne_of_mo h128 h.hnd (by simp))) (up4 _ _ h129 (ne_of_mo h129 h.hnd (by simp))) (nm_ok hi hk3) ok1 ok2 fun σ5 r G5 A hnm lf lo hd f1 f2 f3 f4 f5 n1 n2 => ?_
        have G : Grow σ' σ5 := ((G2.trans G3).trans G4).trans G5
        have tl5 : σ5 tl = some (.list (sLst ds)) := G5 _ _ (G4 _ _ (G3 _ _ e2))
        simp only [ty_list tl5]
        refine fun nl hnl => ?_
        have nd5 := G _ _ B.hnd
        have bl5 := G _ _ B.hbl
        have rg5 := G _ _ e
        have nd6 : upd σ5 nl (.list (sLst ds)) nd = some (.dict NE') := by rw [upd_ne (ne_of_new hnl nd5)]; exact nd5
        simp only [si_dict nd6]
        have bl7 : ∀ D, upd (upd σ5 nl (.list (sLst ds))) nd (.dict D) bl = some (.list (bs.map (fun r => .ref r.t))) := fun D => by
          rw [upd_ne (ne_of_mo bl5 nd5 (by simp)), upd_ne (ne_of_new hnl bl5)]; exact bl5
        refine ⟨by have := B.lN; have := h.lN; rw [sizeLine_eq]; omega, ?_⟩
        simp only [WS, W1, W, WL, WK, WT, WTs, WB, WO, bindW, nameW, List.lookup, ofString_beq, ofString_inj, String.reduceBEq, String.reduceEq, String.reduceBNe, String.reduceNe, ML.get, ML.set, List.map_cons, List.map_nil, locals0,
    List.cons_append, List.nil_append, callW_b, callW_t, callW_r, bin_fdiv, bin_mod, bin_mul, bin_add, bin_sub, bin_adds, const_int, const_none, const_bool, const_str, ty_str, ty_range, tr_bool, tr_none, tr_int, cmp_int, Int.zero_add, callOk, plainArg, notSuper, kwNamed, List.all_cons, List.all_nil, List.length_cons, List.length_nil, Bool.and_true, Bool.true_and, Bool.and_self, Bool.not_true, Bool.not_false,
    decide_true, decide_eq_true_eq, beq_self_eq_true, true_and, and_true, if_true, if_false, reduceIte, reduceCtorEq, Option.isSome_some, Option.isSome_none, Nat.reduceAdd, Nat.reduceMul, Nat.reduceLeDiff, Nat.reduceSubDiff, Nat.add_one_sub_one, Nat.zero_lt_succ, Nat.succ_pos, Nat.lt_add_left_iff_pos,
    Bool.false_eq_true, false_and, and_false, behindInMarks, namesOf, Option.map_some, Option.some.injEq, exists_eq_left', exists_eq_left, or_false, false_or, or_self, not_true, not_false_iff, me_app (bl7 _), bw_app (bl7 _)]
        refine ⟨by have := B.lb; rw [sizeLine_eq, List.length_map]; omega, kn _ _ ⟨_, _, _, _, _, bs ++ [(⟨r, nl, sLst ds⟩ : LR)], dput NE' (nmOf i k) (.ref nl), k + 1, rfl,
          B.step hi hk3 ((G2.trans G3).trans G4) G5 A hnm hd f3 f4 f5 n1 n2 hnl (fun q hq => by obtain ⟨y, _, rfl⟩ := List.mem_map.mp hq; exact ⟨y, rfl⟩) (by simpa using dl) (by simp at ln1; omega) (by rw [lo]; simp at ln2; omega), ?_, hr', by omega⟩⟩
        rw [upd_ne (ne_of_mo rg5 bl5 (by simp)), upd_ne (ne_of_mo rg5 nd5 (by simp)), upd_ne (ne_of_new hnl rg5)]
        exact rg5
      · have hz' : ((v.fdiv 24 + 131 * (k : Int) + 7).fmod 3 == 0) = false := by simpa using hz
        simp only [hz']
        obtain ⟨ds, hds⟩ : ∃ ds : List Str, ds = [] := ⟨_, rfl⟩
        have dl : ds.length ≤ 1 := by rw [hds]; exact Nat.zero_le _
        have dst : ∀ d ∈ ds, (Builtin.Str.occurrences d (Str.ofString "*") 0 d.length 1).isEmpty = true := by rw [hds]; exact fun _ h => nomatch h
        have G2 : Grow σ' (upd σ' tl (.list [])) := Grow.refl.new htl
        have e2 : upd σ' tl (.list []) tl = some (.list (sLst ds)) := by rw [upd_same, hds]; rfl
        refine ⟨by decide, by decide, p2, ?_⟩
        refine c_names (n := n + 3) hK (Int.fdiv_nonneg wz (by decide)) (by decide) (by decide) fun σ3 fl1 xs1 G3 z1 e3 ln1 ok1 => ?_
        refine ⟨by decide, by decide, p2, ?_⟩
        refine c_names (n := n + 3) hK (Int.fdiv_nonneg wz (by decide)) (by decide) (by decide) fun σ4 fl2 xs2 G4 z2 e4 ln2 ok2 => ?_
        refine ⟨p1, ?_⟩
        have up4 : ∀ a o, σ a = some o → a ≠ nd → σ4 a = some o := fun a o e q => G4 _ _ (G3 _ _ (G2 _ _ (B.up e q)))
        refine c_Task (n := n) hK (files := xs1) (deps := ds) (outs := xs2) (G4 _ _ e3) (by simp at ln1; omega) (G4 _ _ (G3 _ _ e2)) (by omega) e4 (by simp at ln2; omega) dst nl1
          (up4 _ _ h127 (ne_of_mo h127 h.hnd (by simp))) (up4 _ _ h128 (ne_of_mo h128 h.hnd (by simp))) (up4 _ _ h129 (ne_of_mo h129 h.hnd (by simp))) (nm_ok hi hk3) ok1 ok2 fun σ5 r G5 A hnm lf lo hd f1 f2 f3 f4 f5 n1 n2 => ?_
        have G : Grow σ' σ5 := ((G2.trans G3).trans G4).trans G5
        have tl5 : σ5 tl = some (.list (sLst ds)) := G5 _ _ (G4 _ _ (G3 _ _ e2))
        simp only [ty_list tl5]
        refine fun nl hnl => ?_
        have nd5 := G _ _ B.hnd
        have bl5 := G _ _ B.hbl
        have rg5 := G _ _ e
        have nd6 : upd σ5 nl (.list (sLst ds)) nd = some (.dict NE') := by rw [upd_ne (ne_of_new hnl nd5)]; exact nd5
        simp only [si_dict nd6]
        have bl7 : ∀ D, upd (upd σ5 nl (.list (sLst ds))) nd (.dict D) bl = some (.list (bs.map (fun r => .ref r.t))) := fun D => by
          rw [upd_ne (ne_of_mo bl5 nd5 (by simp)), upd_ne (ne_of_new hnl bl5)]; exact bl5
        refine ⟨by have := B.lN; have := h.lN; rw [sizeLine_eq]; omega, ?_⟩
        simp only [WS, W1, W, WL, WK, WT, WTs, WB, WO, bindW, nameW, List.lookup, ofString_beq, ofString_inj, String.reduceBEq, String.reduceEq, String.reduceBNe, String.reduceNe, ML.get, ML.set, List.map_cons, List.map_nil, locals0,
    List.cons_append, List.nil_append, callW_b, callW_t, callW_r, bin_fdiv, bin_mod, bin_mul, bin_add, bin_sub, bin_adds, const_int, const_none, const_bool, const_str, ty_str, ty_range, tr_bool, tr_none, tr_int, cmp_int, Int.zero_add, callOk, plainArg, notSuper, kwNamed, List.all_cons, List.all_nil, List.length_cons, List.length_nil, Bool.and_true, Bool.true_and, Bool.and_self, Bool.not_true, Bool.not_false,
    decide_true, decide_eq_true_eq, beq_self_eq_true, true_and, and_true, if_true, if_false, reduceIte, reduceCtorEq, Option.isSome_some, Option.isSome_none, Nat.reduceAdd, Nat.reduceMul, Nat.reduceLeDiff, Nat.reduceSubDiff, Nat.add_one_sub_one, Nat.zero_lt_succ, Nat.succ_pos, Nat.lt_add_left_iff_pos,
    Bool.false_eq_true, false_and, and_false, behindInMarks, namesOf, Option.map_some, Option.some.injEq, exists_eq_left', exists_eq_left, or_false, false_or, or_self, not_true, not_false_iff, me_app (bl7 _), bw_app (bl7 _)]
        refine ⟨by have := B.lb; rw [sizeLine_eq, List.length_map]; omega, kn _ _ ⟨_, _, _, _, _, bs ++ [(⟨r, nl, sLst ds⟩ : LR)], dput NE' (nmOf i k) (.ref nl), k + 1, rfl,
          B.step hi hk3 ((G2.trans G3).trans G4) G5 A hnm hd f3 f4 f5 n1 n2 hnl (fun q hq => by obtain ⟨y, _, rfl⟩ := List.mem_map.mp hq; exact ⟨y, rfl⟩) (by simpa using dl) (by simp at ln1; omega) (by rw [lo]; simp at ln2; omega), ?_, hr', by omega⟩⟩
        rw [upd_ne (ne_of_mo rg5 bl5 (by simp)), upd_ne (ne_of_mo rg5 nd5 (by simp)), upd_ne (ne_of_new hnl rg5)]
        exact rg5
end
end Mine

open PySem PySem.W PyProof.Rows PySem.Calls
set_option Elab.async false
set_option autoImplicit false
set_option maxHeartbeats 1000000
set_option linter.all false
namespace Mine
section
variable {σ σ' : MH} {recs bs : List LR} {NE NE' T T' : List (Str × MV)} {nd lv kp bk bl : Addr} {rd rd' cnt : Nat}

theorem Inv.grow (h : Inv σ recs NE T nd lv kp bk rd) (g : Grow σ σ') : Inv σ' recs NE T nd lv kp bk rd := by
  refine ⟨g _ _ h.hlv, g _ _ h.hnd, g _ _ h.hkp, g _ _ h.hbk, h.d1, h.d2, h.d3, fun r hr => ?_, h.mutn, h.sep, h.sepl, h.vals, h.kT, h.lT, h.lN, h.lR⟩
  obtain ⟨a1, a2, a3, a4⟩ := h.tk r hr
  exact ⟨a1.grow g, g _ _ a2, g _ _ a3, a4⟩

/-- new takings, new tables -/
theorem Inv.fin (h : Inv σ recs NE T nd lv kp bk rd) (D : LR → List MV) (hle : rd ≤ rd')
    (ht : ∀ r ∈ recs, σ' r.td = some (.list (D r)) ∧ σ' r.nl = some (.list (D r)) ∧ (∀ q ∈ D r, ∃ x, q = .str x) ∧ (D r).length ≤ 3 * rd' + 1)
    (keep : ∀ a o, σ a = some o → (∀ r ∈ recs, a ≠ r.td ∧ a ≠ r.nl) → a ≠ kp → a ≠ bk → σ' a = some o)
    (hk : σ' kp = some (.dict T')) (hb : σ' bk = some (.dict T')) (v : strVals T') (k : keysNd T') (l : T'.length ≤ 6 * rd') : Inv σ' (recs.map fun r => { r with deps := D r }) NE T' nd lv kp bk rd' := by
  have notl : ∀ {a : Addr} {o : MO}, σ a = some o → (∀ xs, o ≠ .list xs) → ∀ r ∈ recs, a ≠ r.td ∧ a ≠ r.nl := fun e n r hr =>
    ⟨ne_of_mo e (h.tk r hr).2.1 (n _), ne_of_mo e (h.tk r hr).2.2.1 (n _)⟩
  refine ⟨?_, ?_, hk, hb, h.d1, h.d2, h.d3, ?_, ?_, ?_, ?_, v, k, l, by have := h.lN; omega, by have := h.lR; rw [List.length_map]; omega⟩
  · rw [List.map_map]
    exact keep lv _ h.hlv (fun r hr => ⟨Ne.symm (h.sepl r hr).1, Ne.symm (h.sepl r hr).2.1⟩) (ne_of_mo h.hlv h.hkp (by simp)) (ne_of_mo h.hlv h.hbk (by simp))
  · exact keep nd _ h.hnd (notl h.hnd (by simp)) h.d2 h.d3
  · intro r' hr'
    obtain ⟨r, hr, rfl⟩ := List.mem_map.mp hr'
    obtain ⟨a1, a2, a3, a4, ⟨i, j, a5, a6, a7⟩, a8, a9, a10, a11⟩ := h.tk r hr
    obtain ⟨b1, b2, b3, b4⟩ := ht r hr
    refine ⟨⟨keep _ _ a1.i (notl a1.i (by simp)) (ne_of_mo a1.i h.hkp (by simp)) (ne_of_mo a1.i h.hbk (by simp)), keep _ _ a1.n (notl a1.n (by simp)) (ne_of_mo a1.n h.hkp (by simp)) (ne_of_mo a1.n h.hbk (by simp)), a1.nm, a1.gf, a1.gd, a1.gt,
      keep _ _ a1.f (fun r2 h2 => ⟨Ne.symm (h.sep r2 h2 r hr).1, Ne.symm (h.sep r2 h2 r hr).2.2.1⟩) (ne_of_mo a1.f h.hkp (by simp)) (ne_of_mo a1.f h.hbk (by simp)),
      keep _ _ a1.o (fun r2 h2 => ⟨Ne.symm (h.sep r2 h2 r hr).2.1, Ne.symm (h.sep r2 h2 r hr).2.2.2⟩) (ne_of_mo a1.o h.hkp (by simp)) (ne_of_mo a1.o h.hbk (by simp)), a1.okn, a1.okf, a1.oko⟩,
      b1, b2, a4, ⟨i, j, by omega, a6, a7⟩, b4, a9, a10, b3⟩
  · rw [List.map_map, List.map_map]; exact h.mutn
  · intro r1 h1 r2 h2
    obtain ⟨r1', h1', rfl⟩ := List.mem_map.mp h1
    obtain ⟨r2', h2', rfl⟩ := List.mem_map.mp h2
    exact h.sep r1' h1' r2' h2'
  · intro r1 h1
    obtain ⟨r1', h1', rfl⟩ := List.mem_map.mp h1
    exact h.sepl r1' h1'

/-- both tables anew -/
theorem Inv.clear (h : Inv σ recs NE T nd lv kp bk rd) {k1 k2 : Addr} (hle : rd ≤ rd') (g : Grow σ σ') (h1 : σ' k1 = some (.dict [])) (h2 : σ' k2 = some (.dict [])) (hne : k1 ≠ k2) (f1 : σ k1 = none) (f2 : σ k2 = none) : Inv σ' recs NE [] nd lv k1 k2 rd' := by
  have h' := h.grow g
  refine ⟨h'.hlv, h'.hnd, h1, h2, hne, ne_of_new f1 h.hnd, ne_of_new f2 h.hnd, fun r hr => ?_, h.mutn, h.sep, h.sepl, (fun q hq => nomatch hq), List.nodup_nil, Nat.zero_le _, by have := h.lN; omega, by have := h.lR; omega⟩
  obtain ⟨a1, a2, a3, a4, ⟨i, j, a5, a6, a7⟩, a8, a9⟩ := h'.tk r hr
  exact ⟨a1, a2, a3, a4, ⟨i, j, by omega, a6, a7⟩, by omega, a9⟩

/-- the round's tasks join the living -/
theorem Inv.join (h : Inv σ recs NE T nd lv kp bk rd) (B : Bat σ σ' bs NE NE' nd bl rd cnt) (hr : rd < 20) (hc : cnt ≤ 3) :
    Inv (upd σ' lv (.list ((recs ++ bs).map fun r => .ref r.t))) (recs ++ bs) NE' T nd lv kp bk (rd + 1) := by
  have lv' := B.up h.hlv (ne_of_mo h.hlv h.hnd (by simp))
  have keep : ∀ {a : Addr} {o : MO}, σ' a = some o → a ≠ lv → upd σ' lv (.list ((recs ++ bs).map fun r => .ref r.t)) a = some o := fun e q => by rw [upd_ne q]; exact e
  have old : ∀ {a : Addr} {o : MO}, σ a = some o → a ≠ nd → a ≠ lv → upd σ' lv (.list ((recs ++ bs).map fun r => .ref r.t)) a = some o := fun e q q' => keep (B.up e q) q'
  have new_lv : ∀ r ∈ bs, r.td ≠ lv ∧ r.nl ≠ lv ∧ r.fd ≠ lv ∧ r.tg ≠ lv := fun r hr => by
    obtain ⟨⟨f1, f2, f3, f4⟩, _⟩ := B.fr r hr
    exact ⟨Ne.symm (ne_of_new f2 h.hlv), Ne.symm (ne_of_new f4 h.hlv), Ne.symm (ne_of_new f1 h.hlv), Ne.symm (ne_of_new f3 h.hlv)⟩
  refine ⟨upd_same, keep B.hnd (ne_of_mo B.hnd lv' (by simp)), old h.hkp (Ne.symm h.d2) (ne_of_mo h.hkp h.hlv (by simp)), old h.hbk (Ne.symm h.d3) (ne_of_mo h.hbk h.hlv (by simp)), h.d1, h.d2, h.d3, ?_, ?_, ?_, ?_, h.vals, h.kT, by have := h.lT; omega, by have := h.lN; have := B.lN; omega, by have := h.lR; have := B.lb; rw [List.length_append]; omega⟩
  · intro r hr'
    rcases List.mem_append.mp hr' with hr' | hr'
    · obtain ⟨a1, a2, a3, a4, ⟨i, j, a5, a6, a7⟩, a8, a9⟩ := h.tk r hr'
      obtain ⟨e1, e2, e3, e4⟩ := h.sepl r hr'
      refine ⟨⟨old a1.i (ne_of_mo a1.i h.hnd (by simp)) (ne_of_mo a1.i h.hlv (by simp)), old a1.n (ne_of_mo a1.n h.hnd (by simp)) (ne_of_mo a1.n h.hlv (by simp)), a1.nm, a1.gf, a1.gd, a1.gt, old a1.f (ne_of_mo a1.f h.hnd (by simp)) e3, old a1.o (ne_of_mo a1.o h.hnd (by simp)) e4, a1.okn, a1.okf, a1.oko⟩,
        old a2 (ne_of_mo a2 h.hnd (by simp)) e1, old a3 (ne_of_mo a3 h.hnd (by simp)) e2, ?_, ⟨i, j, by omega, a6, a7⟩, by omega, a9⟩
      rw [B.old r.name fun k hk e => ?_, a4]
      rw [a7] at e
      have := (nm_inj ⟨i, by omega⟩ ⟨rd, hr⟩ ⟨j, a6⟩ ⟨k, by omega⟩ e).1
      simp at this; omega
    · obtain ⟨a1, a2, a3, a4, ⟨k, a5, a6⟩, a7, a8⟩ := B.tk r hr'
      obtain ⟨e1, e2, e3, e4⟩ := new_lv r hr'
      exact ⟨⟨keep a1.i (ne_of_mo a1.i lv' (by simp)), keep a1.n (ne_of_mo a1.n lv' (by simp)), a1.nm, a1.gf, a1.gd, a1.gt, keep a1.f e3, keep a1.o e4, a1.okn, a1.okf, a1.oko⟩, keep a2 e1, keep a3 e2, a4, ⟨rd, k, by omega, by omega, a6⟩, by omega, a8⟩
  · have pm : ((recs ++ bs).map (fun r => r.td) ++ (recs ++ bs).map (fun r => r.nl)).Perm ((recs.map (fun r => r.td) ++ recs.map (fun r => r.nl)) ++ (bs.map (fun r => r.td) ++ bs.map (fun r => r.nl))) := by
      rw [List.map_append, List.map_append, List.append_assoc, List.append_assoc]
      refine List.Perm.append_left _ ?_
      rw [← List.append_assoc, ← List.append_assoc]
      exact List.perm_append_comm.append_right _
    refine pm.nodup_iff.mpr (List.nodup_append.mpr ⟨h.mutn, B.mutn, ?_⟩)
    intro a ha b hb e
    subst e
    have hs : ∃ xs, σ a = some (.list xs) := by
      rcases List.mem_append.mp ha with ha | ha
      · obtain ⟨r, hr, rfl⟩ := List.mem_map.mp ha; exact ⟨_, (h.tk r hr).2.1⟩
      · obtain ⟨r, hr, rfl⟩ := List.mem_map.mp ha; exact ⟨_, (h.tk r hr).2.2.1⟩
    obtain ⟨xs, hs⟩ := hs
    rcases List.mem_append.mp hb with hb | hb
    · obtain ⟨r, hr, rfl⟩ := List.mem_map.mp hb
      rw [(B.fr r hr).1.2.1] at hs; cases hs
    · obtain ⟨r, hr, rfl⟩ := List.mem_map.mp hb
      rw [(B.fr r hr).1.2.2.2] at hs; cases hs
  · intro r1 h1 r2 h2
    rcases List.mem_append.mp h1 with h1 | h1
    · obtain ⟨_, a2, a3, _⟩ := h.tk r1 h1
      rcases List.mem_append.mp h2 with h2 | h2
      · exact h.sep r1 h1 r2 h2
      · obtain ⟨⟨f1, f2, f3, f4⟩, _⟩ := B.fr r2 h2
        exact ⟨ne_of_new f1 a2, ne_of_new f3 a2, ne_of_new f1 a3, ne_of_new f3 a3⟩
    · rcases List.mem_append.mp h2 with h2 | h2
      · obtain ⟨a1, _⟩ := h.tk r2 h2
        obtain ⟨⟨f1, f2, f3, f4⟩, _⟩ := B.fr r1 h1
        exact ⟨Ne.symm (ne_of_new f2 a1.f), Ne.symm (ne_of_new f2 a1.o), Ne.symm (ne_of_new f4 a1.f), Ne.symm (ne_of_new f4 a1.o)⟩
      · exact B.sep r1 h1 r2 h2
  · intro r hr'
    rcases List.mem_append.mp hr' with hr' | hr'
    · exact h.sepl r hr'
    · exact new_lv r hr'
end

/- the tables' growth -/
theorem addOuts_facts {name : Str} (hn : okS name) : ∀ (fs : List Str) (T : List (Str × MV)), strVals T → keysNd T → strVals (addOuts name T fs).1 ∧ keysNd (addOuts name T fs).1 ∧ (addOuts name T fs).1.length ≤ T.length + fs.length
  | [], T, h1, h2 => ⟨h1, h2, Nat.le_refl _⟩
  | f :: fs, T, h1, h2 => by
    rw [addOuts_cons]
    split
    · exact ⟨h1, h2, Nat.le_add_right _ _⟩
    · obtain ⟨a, b, c⟩ := addOuts_facts hn fs (dput T f (.str name)) (strVals_put h1 hn) (keysNd_put h2)
      refine ⟨a, b, ?_⟩
      have := dput_length (es := T) (k := f) (v := MV.str name)
      rw [List.length_cons]; omega
theorem addAll_facts : ∀ (rs : List TR) (T : List (Str × MV)), (∀ r ∈ rs, okS r.name ∧ r.outs.length ≤ 2) → strVals T → keysNd T → strVals (addAll T rs).1 ∧ keysNd (addAll T rs).1 ∧ (addAll T rs).1.length ≤ T.length + 2 * rs.length
  | [], T, _, h1, h2 => ⟨h1, h2, Nat.le_refl _⟩
  | r :: rs, T, h, h1, h2 => by
    obtain ⟨a, b, c⟩ := addOuts_facts (h r (.head _)).1 r.outs T h1 h2
    have hr := (h r (.head _)).2
    rw [addAll_cons, List.length_cons]
    split
    · obtain ⟨a', b', c'⟩ := addAll_facts rs _ (fun x hx => h x (.tail _ hx)) a b
      exact ⟨a', b', by omega⟩
    · exact ⟨a, b, by omega⟩
theorem takeF_facts {T : List (Str × MV)} (hT : strVals T) : ∀ (fs : List Str) (acc : List MV), (∀ q ∈ acc, ∃ x, q = .str x) → (∀ q ∈ takeF T fs acc, ∃ x, q = .str x) ∧ (takeF T fs acc).length ≤ acc.length + fs.length
  | [], acc, h => ⟨h, Nat.le_refl _⟩
  | f :: fs, acc, h => by
    rw [takeF_cons, List.length_cons]
    cases e : dget T f with
    | none =>
      obtain ⟨a, b⟩ := takeF_facts hT fs acc h
      exact ⟨a, Nat.le_trans b (Nat.add_le_add_left (Nat.le_succ _) _)⟩
    | some m =>
      obtain ⟨x, rfl, _⟩ := strVals_get hT e
      by_cases hm : MV.str x ∈ acc
      · simp only [hm, if_true]
        obtain ⟨a, b⟩ := takeF_facts hT fs acc h
        exact ⟨a, Nat.le_trans b (Nat.add_le_add_left (Nat.le_succ _) _)⟩
      · simp only [hm, if_false]
        obtain ⟨a, b⟩ := takeF_facts hT fs (acc ++ [.str x]) (fun q hq => by
          rcases List.mem_append.mp hq with hq | hq
          · exact h q hq
          · exact ⟨x, by simpa using hq⟩)
        refine ⟨a, ?_⟩
        rw [List.length_append, List.length_singleton] at b; omega
end Mine

open PySem PySem.W PyProof.Rows PySem.Calls
set_option Elab.async false
set_option autoImplicit false
set_option maxRecDepth 100000
set_option maxHeartbeats 8000000
set_option linter.all false
namespace Mine
def bodyOf (K : Frag) (f : Addr) : List Stmt := match K.lookup f with
  | some ⟨_, _, .func fd, _⟩ => (match fd.body with | .stmts b => b | _ => [])
  | _ => []
def scopeOf (K : Frag) (f : Addr) : Scope := match K.lookup f with
  | some ⟨_, _, .func fd, _⟩ => fd.scope
  | _ => default
theorem use_fn {K : Frag} {f : Addr} {Q : List Stmt → Scope → Prop} {name qual : Str} {params : Arguments} {body : List Stmt} {scope : Scope} {dV kV doc pm : Value} {an : Option Addr} {cdv ct oc : Value} {od : Option Addr} {osl : Array (Option Value)}
  (h : K.lookup f = some ⟨oc, od, .func (fnOf name qual params body scope dV kV doc pm an cdv ct), osl⟩) (q : Q body scope) : Q (bodyOf K f) (scopeOf K f) := by
  unfold bodyOf scopeOf; rw [h]; exact q

theorem nodup_inj {α β : Type} {f : α → β} : ∀ {l : List α}, (l.map f).Nodup → ∀ {x y}, x ∈ l → y ∈ l → f x = f y → x = y
  | a :: l, nd, x, y, hx, hy, e => by
    rw [List.map_cons, List.nodup_cons] at nd
    rcases List.mem_cons.mp hx with h1 | h1
    · rcases List.mem_cons.mp hy with h2 | h2
      · rw [h1, h2]
      · exact absurd (List.mem_map.mpr ⟨y, h2, by rw [← e, h1]⟩) nd.1
    · rcases List.mem_cons.mp hy with h2 | h2
      · exact absurd (List.mem_map.mpr ⟨x, h1, by rw [e, h2]⟩) nd.1
      · exact nodup_inj nd.2 h1 h2 e
/-- the takings' lists are apart -/
theorem Inv.apart {σ : MH} {recs : List LR} {NE T : List (Str × MV)} {nd lv kp bk : Addr} {rd : Nat} (h : Inv σ recs NE T nd lv kp bk rd) :
    (recs.map (fun r => r.td)).Nodup ∧ (recs.map (fun r => r.nl)).Nodup ∧ ∀ x ∈ recs, ∀ y ∈ recs, x.td ≠ y.nl := by
  have nd := h.mutn
  rw [List.nodup_append] at nd
  exact ⟨nd.1, nd.2.1, fun x hx y hy => nd.2.2 _ (List.mem_map.mpr ⟨x, hx, rfl⟩) _ (List.mem_map.mpr ⟨y, hy, rfl⟩)⟩
theorem upd_none {σ : MH} {k x : Addr} {o : MO} (h : upd σ k o x = none) : x ≠ k ∧ σ x = none := by
  by_cases e : x = k
  · rw [e, upd_same] at h; cases h
  · rw [upd_ne e] at h; exact ⟨e, h⟩
theorem cm_same {a b : Addr} {xs : List MV} {σ : MH} {Pb : Bool → Prop} (h : σ a = some (.list xs)) (h' : σ b = some (.list xs)) (f : ∀ q ∈ xs, flatMV q = true) (hP : Pb false) : cmpW .NotEq (.ref a) (.ref b) σ Pb := by
  unfold cmpW; simp only [h, h']
  refine ⟨f, f, ?_⟩
  simpa using hP
theorem WS_step {Γ : Rt} {CP : CallT} {sc : Scope} {n : Nat} {s : Stmt} {r : List Stmt} {μ : ML} {σ : MH} {P : KF} {X : XP} (J : ML → MH → Prop) (h2 : ∀ μ σ, J μ σ → WS Γ CP sc n r μ σ P X)
    (h1 : ∀ K : KF, (∀ μ σ, J μ σ → K .next μ σ) → (∀ v μ σ, P (.ret v) μ σ → K (.ret v) μ σ) → W1 Γ CP sc n s μ σ K X) : WS Γ CP sc n (s :: r) μ σ P X := by
  rw [WS]
  exact h1 _ (fun μ σ h => h2 μ σ h) (fun _ _ _ h => h)
theorem WS_nil {Γ : Rt} {CP : CallT} {sc : Scope} {n : Nat} {μ : ML} {σ : MH} {P : KF} {X : XP} (h : P .next μ σ) : WS Γ CP sc n [] μ σ P X := by rw [WS]; exact h

abbrev muL (sc kp bk lv nd : Addr) (w1 w2 w3 w4 w5 w6 w7 w8 : Option MV) : ML := [(Str.ofString "script", some (.ref sc)), (Str.ofString "kept", some (.ref kp)), (Str.ofString "book", some (.ref bk)), (Str.ofString "live", some (.ref lv)), (Str.ofString "needs", some (.ref nd)),
  (Str.ofString "round_", w1), (Str.ofString "v", w2), (Str.ofString "t", w3), (Str.ofString "files", w4), (Str.ofString "before", w5), (Str.ofString "batch", w6), (Str.ofString "good", w7), (Str.ofString "f", w8)]

structure Base (σ : MH) (recs : List LR) (lv sc rg : Addr) (ns : List Int) : Prop where
  s : σ sc = some (.list (ns.map .int))
  a : σ 127 = some (.tuple [])
  b : σ 128 = some (.tuple [])
  c : σ 129 = some (.tuple [])
  k : σ 368 = some .kob
  r : σ rg = some (.range 0 20 1)
  m : ∀ x ∈ recs, x.td ≠ sc ∧ x.nl ≠ sc
  l : lv ≠ sc
theorem Base.grow {σ σ' : MH} {recs : List LR} {lv sc rg : Addr} {ns : List Int} (h : Base σ recs lv sc rg ns) (g : Grow σ σ') : Base σ' recs lv sc rg ns :=
  ⟨g _ _ h.s, g _ _ h.a, g _ _ h.b, g _ _ h.c, g _ _ h.k, g _ _ h.r, h.m, h.l⟩

/-- the round's batch among the living -/
structure CS (σ : MH) (recs bs : List LR) (NE T : List (Str × MV)) (nd lv kp bk bl : Addr) (i : Nat) (sc rg : Addr) (ns : List Int) : Prop where
  I : Inv σ (recs ++ bs) NE T nd lv kp bk (i + 1)
  B : Base σ (recs ++ bs) lv sc rg ns
  hbl : σ bl = some (.list (bs.map fun r => .ref r.t))
  sb : ∀ r ∈ recs ++ bs, r.td ≠ bl ∧ r.nl ≠ bl
  len : bs.length ≤ 3
  d1 : ∀ r ∈ bs, r.deps.length ≤ 1
  vT : T.length ≤ 6 * i

theorem CS.of {σ σ' : MH} {recs bs : List LR} {NE NE' T : List (Str × MV)} {nd lv kp bk bl : Addr} {i cnt : Nat} {sc rg : Addr} {ns : List Int} (I : Inv σ recs NE T nd lv kp bk i) (B : Base σ recs lv sc rg ns) (Bt : Bat σ σ' bs NE NE' nd bl i cnt) (hi : i < 20) (hc : cnt ≤ 3) :
    CS (upd σ' lv (.list ((recs ++ bs).map fun r => .ref r.t))) recs bs NE' T nd lv kp bk bl i sc rg ns := by
  have lvbl : lv ≠ bl := ne_of_new Bt.b0 I.hlv
  have up : ∀ {a : Addr} {o : MO}, σ a = some o → a ≠ nd → a ≠ lv → upd σ' lv (.list ((recs ++ bs).map fun r => .ref r.t)) a = some o := fun e q q' => by rw [upd_ne q']; exact Bt.up e q
  have un : ∀ {a : Addr} {o : MO}, σ a = some o → (∀ ys, o ≠ .list ys) → (∀ ys, o ≠ .dict ys) → upd σ' lv (.list ((recs ++ bs).map fun r => .ref r.t)) a = some o := fun e q q' => up e (ne_of_mo e I.hnd (q' _)) (ne_of_mo e I.hlv (q _))
  refine ⟨I.join Bt hi hc, ⟨up B.s (ne_of_mo B.s I.hnd (by simp)) (Ne.symm B.l), un B.a (by simp) (by simp), un B.b (by simp) (by simp), un B.c (by simp) (by simp), un B.k (by simp) (by simp), un B.r (by simp) (by simp), fun r hr => ?_, B.l⟩,
    by rw [upd_ne (Ne.symm lvbl)]; exact Bt.hbl, fun r hr => ?_, by have := Bt.lb; omega, fun r hr => (Bt.tk r hr).2.2.2.2.2.1, I.lT⟩
  · rcases List.mem_append.mp hr with hr | hr
    · exact B.m r hr
    · obtain ⟨⟨f1, f2, f3, f4⟩, _⟩ := Bt.fr r hr
      exact ⟨Ne.symm (ne_of_new f2 B.s), Ne.symm (ne_of_new f4 B.s)⟩
  · rcases List.mem_append.mp hr with hr | hr
    · exact ⟨ne_of_new Bt.b0 (I.tk r hr).2.1, ne_of_new Bt.b0 (I.tk r hr).2.2.1⟩
    · exact ⟨(Bt.fr r hr).2.2.1, (Bt.fr r hr).2.2.2.2⟩

section
variable {σ2 σ4 σ5 σF : MH} {recs bs : List LR} {NE T T1 : List (Str × MV)} {nd lv kp bk bl : Addr} {i : Nat} {sc rg : Addr} {ns : List Int}

theorem CS.in1 (C : CS σ2 recs bs NE T nd lv kp bk bl i sc rg ns) {r : LR} (h : r ∈ bs) : r ∈ recs ++ bs := List.mem_append_right _ h

/-- after the law's own takings -/
theorem CS.off4 (C : CS σ2 recs bs NE T nd lv kp bk bl i sc rg ns) (h4 : ∃ done : List LR, (∀ r ∈ done, r ∈ bs) ∧ σ4 = updL (upd σ2 bk (.dict T1)) (done.map fun r => (r.nl, .list (takeF T1 r.files r.deps)))) {a : Addr} {o : MO} (h : σ2 a = some o) (hb : a ≠ bk) (hn : ∀ r ∈ bs, a ≠ r.nl) : σ4 a = some o := by
  obtain ⟨done, hd, rfl⟩ := h4
  rw [updL_ne fun q hq => ?_, upd_ne hb]
  · exact h
  · obtain ⟨r, hr, rfl⟩ := List.mem_map.mp hq
    exact hn r (hd r hr)
theorem CS.kind4 (C : CS σ2 recs bs NE T nd lv kp bk bl i sc rg ns) (h4 : ∃ done : List LR, (∀ r ∈ done, r ∈ bs) ∧ σ4 = updL (upd σ2 bk (.dict T1)) (done.map fun r => (r.nl, .list (takeF T1 r.files r.deps)))) {a : Addr} {o : MO} (h : σ2 a = some o) (q1 : ∀ ys, o ≠ .list ys) (q2 : ∀ ys, o ≠ .dict ys) : σ4 a = some o :=
  C.off4 h4 h (ne_of_mo h C.I.hbk (q2 _)) fun r hr => ne_of_mo h (C.I.tk r (C.in1 hr)).2.2.1 (q1 _)
theorem CS.bk4 (C : CS σ2 recs bs NE T nd lv kp bk bl i sc rg ns) (h4 : ∃ done : List LR, (∀ r ∈ done, r ∈ bs) ∧ σ4 = updL (upd σ2 bk (.dict T1)) (done.map fun r => (r.nl, .list (takeF T1 r.files r.deps)))) : σ4 bk = some (.dict T1) := by
  obtain ⟨done, hd, rfl⟩ := h4
  rw [updL_ne fun q hq => ?_]
  · exact upd_same
  · obtain ⟨r, hr, rfl⟩ := List.mem_map.mp hq
    exact ne_of_mo C.I.hbk (C.I.tk r (C.in1 (hd r hr))).2.2.1 (by simp)
theorem CS.task4 (C : CS σ2 recs bs NE T nd lv kp bk bl i sc rg ns) (h4 : ∃ done : List LR, (∀ r ∈ done, r ∈ bs) ∧ σ4 = updL (upd σ2 bk (.dict T1)) (done.map fun r => (r.nl, .list (takeF T1 r.files r.deps)))) {r : LR} (hr : r ∈ bs) : TaskAt σ4 r.toTR ∧ σ4 r.td = some (.list r.deps) := by
  obtain ⟨A, a2, _⟩ := C.I.tk r (C.in1 hr)
  refine ⟨⟨C.kind4 h4 A.i (by simp) (by simp), C.kind4 h4 A.n (by simp) (by simp), A.nm, A.gf, A.gd, A.gt, C.off4 h4 A.f (ne_of_mo A.f C.I.hbk (by simp)) fun r' h => Ne.symm (C.I.sep r' (C.in1 h) r (C.in1 hr)).2.2.1,
    C.off4 h4 A.o (ne_of_mo A.o C.I.hbk (by simp)) fun r' h => Ne.symm (C.I.sep r' (C.in1 h) r (C.in1 hr)).2.2.2, A.okn, A.okf, A.oko⟩, C.off4 h4 a2 (ne_of_mo a2 C.I.hbk (by simp)) fun r' h => C.I.apart.2.2 r (C.in1 hr) r' (C.in1 h)⟩

theorem CS.ndb (C : CS σ2 recs bs NE T nd lv kp bk bl i sc rg ns) : (bs.map (fun r => r.td)).Nodup ∧ (bs.map (fun r => r.nl)).Nodup := by
  obtain ⟨a, b, _⟩ := C.I.apart
  rw [List.map_append, List.nodup_append] at a b
  exact ⟨a.2.1, b.2.1⟩

theorem CS.good (C : CS σ2 recs bs NE T nd lv kp bk bl i sc rg ns) (v1 : strVals T1) (k1 : keysNd T1) (l1 : T1.length ≤ 6 * (i + 1)) (h4 : σ4 = updL (upd σ2 bk (.dict T1)) (bs.map fun r => (r.nl, .list (takeF T1 r.files r.deps)))) (G : Grow σ4 σ5)
    (hF : σF = updL (upd σ5 kp (.dict T1)) (bs.map fun r => (r.td, .list (takeF T1 r.files r.deps)))) : ∃ recs', Inv σF recs' NE T1 nd lv kp bk (i + 1) ∧ Base σF recs' lv sc rg ns := by
  have h4' : ∃ done : List LR, (∀ r ∈ done, r ∈ bs) ∧ σ4 = updL (upd σ2 bk (.dict T1)) (done.map fun r => (r.nl, .list (takeF T1 r.files r.deps))) := ⟨bs, fun _ h => h, h4⟩
  obtain ⟨ap1, ap2, ap3⟩ := C.I.apart
  obtain ⟨nb1, nb2⟩ := C.ndb
  have m1 : ((bs.map fun r => (r.nl, MO.list (takeF T1 r.files r.deps))).map (·.1)).Nodup := by rw [List.map_map]; exact nb2
  have m2 : ((bs.map fun r => (r.td, MO.list (takeF T1 r.files r.deps))).map (·.1)).Nodup := by rw [List.map_map]; exact nb1
  have keepF : ∀ a o, σ4 a = some o → a ≠ kp → (∀ r ∈ bs, a ≠ r.td) → σF a = some o := by
    intro a o h h1 h2
    rw [hF, updL_ne fun q hq => ?_, upd_ne h1]
    · exact G _ _ h
    · obtain ⟨r, hr, rfl⟩ := List.mem_map.mp hq
      exact h2 r hr
  have keep2 : ∀ a o, σ2 a = some o → (∀ r ∈ recs ++ bs, a ≠ r.td ∧ a ≠ r.nl) → a ≠ kp → a ≠ bk → σF a = some o := fun a o h h1 h2 h3 =>
    keepF a o (C.off4 h4' h h3 fun r hr => (h1 r (C.in1 hr)).2) h2 fun r hr => (h1 r (C.in1 hr)).1
  have notl : ∀ {a : Addr} {o : MO}, σ2 a = some o → (∀ xs, o ≠ .list xs) → ∀ r ∈ recs ++ bs, a ≠ r.td ∧ a ≠ r.nl := fun e n r hr =>
    ⟨ne_of_mo e (C.I.tk r hr).2.1 (n _), ne_of_mo e (C.I.tk r hr).2.2.1 (n _)⟩
  have kind2 : ∀ {a : Addr} {o : MO}, σ2 a = some o → (∀ ys, o ≠ .list ys) → (∀ ys, o ≠ .dict ys) → σF a = some o := fun e q q' => keep2 _ _ e (notl e q) (ne_of_mo e C.I.hkp (q' _)) (ne_of_mo e C.I.hbk (q' _))
  have Fin := C.I.fin (σ' := σF) (rd' := i + 1) (T' := T1) (fun x => if x.td ∈ bs.map (fun r => r.td) then takeF T1 x.files x.deps else x.deps) (Nat.le_refl _) (fun x hx => by
      obtain ⟨_, x2, x3, _, _, x6, x7, _, x9⟩ := C.I.tk x hx
      by_cases hm : x.td ∈ bs.map (fun r => r.td)
      · obtain ⟨y, hy, e⟩ := List.mem_map.mp hm
        have : y = x := nodup_inj ap1 (C.in1 hy) hx e
        subst this
        simp only [if_pos hm]
        obtain ⟨t1, t2⟩ := takeF_facts v1 y.files y.deps x9
        have := C.d1 y hy
        refine ⟨by rw [hF]; exact updL_mem m2 (List.mem_map.mpr ⟨y, hy, rfl⟩), ?_, t1, by omega⟩
        refine keepF _ _ (by rw [h4]; exact updL_mem m1 (List.mem_map.mpr ⟨y, hy, rfl⟩)) (ne_of_mo x3 C.I.hkp (by simp)) fun r hr => Ne.symm (ap3 r (C.in1 hr) y hx)
      · simp only [if_neg hm]
        have hnb : ∀ r ∈ bs, x ≠ r := fun r hr e => hm (List.mem_map.mpr ⟨r, hr, by rw [e]⟩)
        refine ⟨keepF _ _ (C.off4 h4' x2 (ne_of_mo x2 C.I.hbk (by simp)) fun r hr => ap3 x hx r (C.in1 hr)) (ne_of_mo x2 C.I.hkp (by simp)) fun r hr e => hm (e ▸ List.mem_map.mpr ⟨r, hr, rfl⟩),
          keepF _ _ (C.off4 h4' x3 (ne_of_mo x3 C.I.hbk (by simp)) fun r hr e => hnb r hr (nodup_inj ap2 hx (C.in1 hr) e)) (ne_of_mo x3 C.I.hkp (by simp)) fun r hr => Ne.symm (ap3 r (C.in1 hr) x hx), x9, x6⟩)
    keep2 (by
      rw [hF, updL_ne fun q hq => ?_]
      · exact upd_same
      · obtain ⟨r, hr, rfl⟩ := List.mem_map.mp hq
        exact ne_of_mo C.I.hkp (C.I.tk r (C.in1 hr)).2.1 (by simp)) (keepF _ _ (C.bk4 h4') (Ne.symm C.I.d1) fun r hr => ne_of_mo C.I.hbk (C.I.tk r (C.in1 hr)).2.1 (by simp)) v1 k1 l1
  refine ⟨_, Fin, keep2 _ _ C.B.s (fun r hr => ⟨Ne.symm (C.B.m r hr).1, Ne.symm (C.B.m r hr).2⟩) (ne_of_mo C.B.s C.I.hkp (by simp)) (ne_of_mo C.B.s C.I.hbk (by simp)), kind2 C.B.a (by simp) (by simp), kind2 C.B.b (by simp) (by simp), kind2 C.B.c (by simp) (by simp), kind2 C.B.k (by simp) (by simp), kind2 C.B.r (by simp) (by simp), fun x hx => ?_, C.B.l⟩
  obtain ⟨y, hy, rfl⟩ := List.mem_map.mp hx
  exact C.B.m y hy

theorem CS.bad (C : CS σ2 recs bs NE T nd lv kp bk bl i sc rg ns) (v1 : strVals T1) (k1 : keysNd T1) (l1 : T1.length ≤ 6 * (i + 1)) (G : Grow (upd (upd σ2 bk (.dict T1)) kp (.dict T1)) σF) : ∃ recs', Inv σF recs' NE T1 nd lv kp bk (i + 1) ∧ Base σF recs' lv sc rg ns := by
  have keep2 : ∀ a o, σ2 a = some o → a ≠ kp → a ≠ bk → σF a = some o := fun a o h h2 h3 => G _ _ (by rw [upd_ne h2, upd_ne h3]; exact h)
  have kind2 : ∀ {a : Addr} {o : MO}, σ2 a = some o → (∀ ys, o ≠ .dict ys) → σF a = some o := fun e q' => keep2 _ _ e (ne_of_mo e C.I.hkp (q' _)) (ne_of_mo e C.I.hbk (q' _))
  have Fin := C.I.fin (σ' := σF) (rd' := i + 1) (T' := T1) (fun x => x.deps) (Nat.le_refl _) (fun x hx => by
      obtain ⟨_, x2, x3, _, _, x6, x7, _, x9⟩ := C.I.tk x hx
      exact ⟨kind2 x2 (by simp), kind2 x3 (by simp), x9, x6⟩)
    (fun a o h _ h2 h3 => keep2 a o h h2 h3) (G _ _ upd_same) (G _ _ (by rw [upd_ne (Ne.symm C.I.d1)]; exact upd_same)) v1 k1 l1
  refine ⟨_, Fin, kind2 C.B.s (by simp), kind2 C.B.a (by simp), kind2 C.B.b (by simp), kind2 C.B.c (by simp), kind2 C.B.k (by simp), kind2 C.B.r (by simp), fun x hx => ?_, C.B.l⟩
  obtain ⟨y, hy, rfl⟩ := List.mem_map.mp hx
  exact C.B.m y hy
end

def AA (g : Bool) (T : List (Str × MV)) (rest : List LR) : List (Str × MV) × Bool := if g = true then addAll T (rest.map LR.toTR) else (T, false)
def AO (name : Str) (g : Bool) (T : List (Str × MV)) (fs : List Str) : List (Str × MV) × Bool := if g = true then addOuts name T fs else (T, false)
theorem AA_step {r : LR} {rest : List LR} {g g0 : Bool} {T1 T0 : List (Str × MV)} (e : AO r.name g T1 [] = AO r.name g0 T0 r.outs) : AA g T1 rest = AA g0 T0 (r :: rest) := by
  have h1 : AO r.name g T1 [] = (T1, g) := by unfold AO; cases g <;> rfl
  rw [h1] at e
  unfold AA AO at *
  cases g0 with
  | false => simp only [Bool.false_eq_true, if_false] at e ⊢; cases e; rfl
  | true =>
    simp only [if_true] at e ⊢
    rw [List.map_cons, addAll_cons, ← e]
    cases g <;> rfl

section
variable {Γ : Rt} {P : Params}
theorem c_law (hK : Γ.K = KK P) {σ0 : MH} {sc : Addr} {ns : List Int} (h0 : σ0 sc = some (.list (ns.map .int))) (h127 : σ0 127 = some (.tuple [])) (h128 : σ0 128 = some (.tuple [])) (h129 : σ0 129 = some (.tuple [])) (h368 : σ0 368 = some .kob) :
    WS Γ (CodeP Γ) (scopeOf (KK P) 527) 10 ((bodyOf (KK P) 527).tail) (locals0 [(Str.ofString "script", .ref sc)] [Str.ofString "kept", Str.ofString "book", Str.ofString "live", Str.ofString "needs", Str.ofString "round_", Str.ofString "v", Str.ofString "t", Str.ofString "files", Str.ofString "before", Str.ofString "batch", Str.ofString "good", Str.ofString "f"]) σ0
      (fun fl _ _ => fl = .ret (.bool true)) (fun _ _ _ => False) := by
  refine use_fn (Q := fun b s => WS Γ (CodeP Γ) s 10 b.tail _ σ0 _ _) (by exact rfl) ?_
  have g1 := gl_range (P := P)
  have g2 := gl_len (P := P)
  have g3 := gl_list (P := P)
  have g4 := gl_tuple (P := P)
  have g5 := gl_num (P := P)
  have g6 := gl_names (P := P)
  have g7 := gl_batch (P := P)
  have g8 := gl_take (P := P)
  have g9 := gl_refused (P := P)
  have g10 := gl_holds (P := P)
  have g11 := gl_TaskControl (P := P)
  have p1 := kp_485 (P := P)
  have p2 := kp_492 (P := P)
  have p3 := kp_499 (P := P)
  have p4 := kp_506 (P := P)
  have p5 := kp_513 (P := P)
  have p6 := kp_520 (P := P)
  have p7 := kp_317 (P := P)
  have p8 := kp_327 (P := P)
  have r1 := rd_Task_file (P := P)
  have r2 := rd_Task_name (P := P)
  have r3 := rd_Task_targets (P := P)
  have s1 := st_set (P := P)
  have s2 := st_add (P := P)
  rw [← hK] at g1 g2 g3 g4 g5 g6 g7 g8 g9 g10 g11 p1 p2 p3 p4 p5 p6 p7 p8 r1 r2 r3 s1 s2
  simp only [List.tail_cons]
  refine WS_step (fun μ σ => ∃ nd lv kp bk, μ = muL sc kp bk lv nd none none none none none none none none ∧ Inv σ [] [] [] nd lv kp bk 0 ∧ Grow σ0 σ ∧ lv ≠ sc) ?_ ?_
  rotate_left
  · intro K hN _
    simp only [W1]
    refine ⟨_, rfl, by simp only [W, WL, WK, WT, WTs, WB, WO, bindW, nameW, List.lookup, ofString_beq, ofString_inj, String.reduceBEq, String.reduceEq, String.reduceBNe, String.reduceNe, ML.get, ML.set, List.map_cons, List.map_nil, locals0,
    List.cons_append, List.nil_append, callW_b, callW_t, callW_r, bin_fdiv, bin_mod, bin_mul, bin_add, bin_sub, bin_adds, const_int, const_none, const_bool, const_str, ty_str, ty_range, tr_bool, tr_none, tr_int, cmp_int, Int.zero_add, callOk, plainArg, notSuper, kwNamed, List.all_cons, List.all_nil, List.length_cons, List.length_nil, Bool.and_true, Bool.true_and, Bool.and_self, Bool.not_true, Bool.not_false,
    decide_true, decide_eq_true_eq, beq_self_eq_true, true_and, and_true, if_true, if_false, reduceIte, reduceCtorEq, Option.isSome_some, Option.isSome_none, Nat.reduceAdd, Nat.reduceMul, Nat.reduceLeDiff, Nat.reduceSubDiff, Nat.add_one_sub_one, Nat.zero_lt_succ, Nat.succ_pos, Nat.lt_add_left_iff_pos,
    Bool.false_eq_true, false_and, and_false, behindInMarks, namesOf, Option.map_some, Option.some.injEq, exists_eq_left', exists_eq_left, or_false, false_or, or_self, not_true, not_false_iff, List.nodup_cons, List.mem_cons, List.not_mem_nil, or_false, not_false_iff, List.nodup_nil, or_self], fun env he => ⟨rfl, .inl rfl⟩, ?_⟩
    simp only [W, WL, WK, WT, WTs, WB, WO, bindW, nameW, List.lookup, ofString_beq, ofString_inj, String.reduceBEq, String.reduceEq, String.reduceBNe, String.reduceNe, ML.get, ML.set, List.map_cons, List.map_nil, locals0,
    List.cons_append, List.nil_append, callW_b, callW_t, callW_r, bin_fdiv, bin_mod, bin_mul, bin_add, bin_sub, bin_adds, const_int, const_none, const_bool, const_str, ty_str, ty_range, tr_bool, tr_none, tr_int, cmp_int, Int.zero_add, callOk, plainArg, notSuper, kwNamed, List.all_cons, List.all_nil, List.length_cons, List.length_nil, Bool.and_true, Bool.true_and, Bool.and_self, Bool.not_true, Bool.not_false,
    decide_true, decide_eq_true_eq, beq_self_eq_true, true_and, and_true, if_true, if_false, reduceIte, reduceCtorEq, Option.isSome_some, Option.isSome_none, Nat.reduceAdd, Nat.reduceMul, Nat.reduceLeDiff, Nat.reduceSubDiff, Nat.add_one_sub_one, Nat.zero_lt_succ, Nat.succ_pos, Nat.lt_add_left_iff_pos,
    Bool.false_eq_true, false_and, and_false, behindInMarks, namesOf, Option.map_some, Option.some.injEq, exists_eq_left', exists_eq_left, or_false, false_or, or_self, not_true, not_false_iff]
    refine fun kp hkp => ?_
    refine fun bk hbk => ?_
    simp only [W, WL, WK, WT, WTs, WB, WO, bindW, nameW, List.lookup, ofString_beq, ofString_inj, String.reduceBEq, String.reduceEq, String.reduceBNe, String.reduceNe, ML.get, ML.set, List.map_cons, List.map_nil, locals0,
    List.cons_append, List.nil_append, callW_b, callW_t, callW_r, bin_fdiv, bin_mod, bin_mul, bin_add, bin_sub, bin_adds, const_int, const_none, const_bool, const_str, ty_str, ty_range, tr_bool, tr_none, tr_int, cmp_int, Int.zero_add, callOk, plainArg, notSuper, kwNamed, List.all_cons, List.all_nil, List.length_cons, List.length_nil, Bool.and_true, Bool.true_and, Bool.and_self, Bool.not_true, Bool.not_false,
    decide_true, decide_eq_true_eq, beq_self_eq_true, true_and, and_true, if_true, if_false, reduceIte, reduceCtorEq, Option.isSome_some, Option.isSome_none, Nat.reduceAdd, Nat.reduceMul, Nat.reduceLeDiff, Nat.reduceSubDiff, Nat.add_one_sub_one, Nat.zero_lt_succ, Nat.succ_pos, Nat.lt_add_left_iff_pos,
    Bool.false_eq_true, false_and, and_false, behindInMarks, namesOf, Option.map_some, Option.some.injEq, exists_eq_left', exists_eq_left, or_false, false_or, or_self, not_true, not_false_iff]
    refine fun lv hlv => ?_
    refine fun nd hnd => ?_
    simp only [W, WL, WK, WT, WTs, WB, WO, bindW, nameW, List.lookup, ofString_beq, ofString_inj, String.reduceBEq, String.reduceEq, String.reduceBNe, String.reduceNe, ML.get, ML.set, List.map_cons, List.map_nil, locals0,
    List.cons_append, List.nil_append, callW_b, callW_t, callW_r, bin_fdiv, bin_mod, bin_mul, bin_add, bin_sub, bin_adds, const_int, const_none, const_bool, const_str, ty_str, ty_range, tr_bool, tr_none, tr_int, cmp_int, Int.zero_add, callOk, plainArg, notSuper, kwNamed, List.all_cons, List.all_nil, List.length_cons, List.length_nil, Bool.and_true, Bool.true_and, Bool.and_self, Bool.not_true, Bool.not_false,
    decide_true, decide_eq_true_eq, beq_self_eq_true, true_and, and_true, if_true, if_false, reduceIte, reduceCtorEq, Option.isSome_some, Option.isSome_none, Nat.reduceAdd, Nat.reduceMul, Nat.reduceLeDiff, Nat.reduceSubDiff, Nat.add_one_sub_one, Nat.zero_lt_succ, Nat.succ_pos, Nat.lt_add_left_iff_pos,
    Bool.false_eq_true, false_and, and_false, behindInMarks, namesOf, Option.map_some, Option.some.injEq, exists_eq_left', exists_eq_left, or_false, false_or, or_self, not_true, not_false_iff, bindsW]
    refine fun t ht => ?_
    obtain ⟨b1, b2⟩ := upd_none hbk
    obtain ⟨l1, l2⟩ := upd_none hlv
    obtain ⟨l3, l4⟩ := upd_none l2
    obtain ⟨n1, n2⟩ := upd_none hnd
    obtain ⟨n3, n4⟩ := upd_none n2
    obtain ⟨n5, n6⟩ := upd_none n4
    obtain ⟨t1, t2⟩ := upd_none ht
    obtain ⟨t3, t4⟩ := upd_none t2
    obtain ⟨t5, t6⟩ := upd_none t4
    obtain ⟨t7, t8⟩ := upd_none t6
    refine hN _ _ ⟨nd, lv, kp, bk, rfl, ?_, ((((Grow.refl.new hkp).new b2).new l4).new n6).new t8, fun e => by rw [e, h0] at l4; cases l4⟩
    refine ⟨?_, ?_, ?_, ?_, Ne.symm b1, n5, n3, (fun _ h => nomatch h), List.nodup_nil, (fun _ h => nomatch h), (fun _ h => nomatch h), (fun _ h => nomatch h), List.nodup_nil, Nat.le_refl _, Nat.le_refl _, Nat.le_refl _⟩
    · rw [upd_ne (Ne.symm t3), upd_ne (Ne.symm n1)]; exact upd_same
    · rw [upd_ne (Ne.symm t1)]; exact upd_same
    · rw [upd_ne (Ne.symm t7), upd_ne (Ne.symm n5), upd_ne (Ne.symm l3), upd_ne (Ne.symm b1)]; exact upd_same
    · rw [upd_ne (Ne.symm t5), upd_ne (Ne.symm n3), upd_ne (Ne.symm l1)]; exact upd_same
  · rintro μ σ ⟨nd, lv, kp, bk, rfl, I0, G0, hls⟩
    refine WS_step (fun _ _ => True) (fun μ σ _ => by simp only [WS, W1, W, WL, WK, WT, WTs, WB, WO, bindW, nameW, List.lookup, ofString_beq, ofString_inj, String.reduceBEq, String.reduceEq, String.reduceBNe, String.reduceNe, ML.get, ML.set, List.map_cons, List.map_nil, locals0,
    List.cons_append, List.nil_append, callW_b, callW_t, callW_r, bin_fdiv, bin_mod, bin_mul, bin_add, bin_sub, bin_adds, const_int, const_none, const_bool, const_str, ty_str, ty_range, tr_bool, tr_none, tr_int, cmp_int, Int.zero_add, callOk, plainArg, notSuper, kwNamed, List.all_cons, List.all_nil, List.length_cons, List.length_nil, Bool.and_true, Bool.true_and, Bool.and_self, Bool.not_true, Bool.not_false,
    decide_true, decide_eq_true_eq, beq_self_eq_true, true_and, and_true, if_true, if_false, reduceIte, reduceCtorEq, Option.isSome_some, Option.isSome_none, Nat.reduceAdd, Nat.reduceMul, Nat.reduceLeDiff, Nat.reduceSubDiff, Nat.add_one_sub_one, Nat.zero_lt_succ, Nat.succ_pos, Nat.lt_add_left_iff_pos,
    Bool.false_eq_true, false_and, and_false, behindInMarks, namesOf, Option.map_some, Option.some.injEq, exists_eq_left', exists_eq_left, or_false, false_or, or_self, not_true, not_false_iff]) ?_
    intro K hN hRet
    simp only [W1]
    simp only [W, WL, WK, WT, WTs, WB, WO, bindW, nameW, List.lookup, ofString_beq, ofString_inj, String.reduceBEq, String.reduceEq, String.reduceBNe, String.reduceNe, ML.get, ML.set, List.map_cons, List.map_nil, locals0,
    List.cons_append, List.nil_append, callW_b, callW_t, callW_r, bin_fdiv, bin_mod, bin_mul, bin_add, bin_sub, bin_adds, const_int, const_none, const_bool, const_str, ty_str, ty_range, tr_bool, tr_none, tr_int, cmp_int, Int.zero_add, callOk, plainArg, notSuper, kwNamed, List.all_cons, List.all_nil, List.length_cons, List.length_nil, Bool.and_true, Bool.true_and, Bool.and_self, Bool.not_true, Bool.not_false,
    decide_true, decide_eq_true_eq, beq_self_eq_true, true_and, and_true, if_true, if_false, reduceIte, reduceCtorEq, Option.isSome_some, Option.isSome_none, Nat.reduceAdd, Nat.reduceMul, Nat.reduceLeDiff, Nat.reduceSubDiff, Nat.add_one_sub_one, Nat.zero_lt_succ, Nat.succ_pos, Nat.lt_add_left_iff_pos,
    Bool.false_eq_true, false_and, and_false, behindInMarks, namesOf, Option.map_some, Option.some.injEq, exists_eq_left', exists_eq_left, or_false, false_or, or_self, not_true, not_false_iff, g1]
    refine ⟨by decide, fun rg hrg => ?_⟩
    refine ⟨rg, _, _, rfl, upd_same, rfl, ?_⟩
    have B0 : Base (upd σ rg (.range 0 20 1)) [] lv sc rg ns := by
      have G := G0.trans (Grow.refl.new (o := .range 0 20 1) hrg)
      exact ⟨G _ _ h0, G _ _ h127, G _ _ h128, G _ _ h129, G _ _ h368, upd_same, (fun _ h => nomatch h), hls⟩
    refine forW_list (fun i : Nat => .int (0 + i)) (fun rest μ σ' => ∃ w1 w2 w3 w4 w5 w6 w7 w8 recs NE T nd lv kp bk rd, μ = muL sc kp bk lv nd w1 w2 w3 w4 w5 w6 w7 w8 ∧ Inv σ' recs NE T nd lv kp bk rd ∧ Base σ' recs lv sc rg ns ∧ rest = List.range' rd rest.length ∧ rd + rest.length ≤ 20) ?_ ?_ _ _ _
      ⟨none, none, none, none, none, none, none, none, [], [], [], nd, lv, kp, bk, 0, rfl, I0.grow (Grow.refl.new hrg), B0, by simp [List.range_eq_range'], by simp⟩
    · rintro μ σ' ⟨w1, w2, w3, w4, w5, w6, w7, w8, recs, NE, T, nd, lv, kp, bk, rd, rfl, I, B, _, _⟩
      exact ⟨B.r, hN _ _ trivial⟩
    · rintro i rest μ σ' Kf ⟨w1, w2, w3, w4, w5, w6, w7, w8, recs, NE, T, nd, lv, kp, bk, rd, rfl, I, B, hr, hc⟩ kn _ _ kret
      rw [List.length_cons] at hc
      obtain ⟨rfl, hr'⟩ := range'_head hr
      have hi20 : i < 20 := by omega
      refine ⟨B.r, ?_⟩
      simp only [W, WL, WK, WT, WTs, WB, WO, bindW, nameW, List.lookup, ofString_beq, ofString_inj, String.reduceBEq, String.reduceEq, String.reduceBNe, String.reduceNe, ML.get, ML.set, List.map_cons, List.map_nil, locals0,
    List.cons_append, List.nil_append, callW_b, callW_t, callW_r, bin_fdiv, bin_mod, bin_mul, bin_add, bin_sub, bin_adds, const_int, const_none, const_bool, const_str, ty_str, ty_range, tr_bool, tr_none, tr_int, cmp_int, Int.zero_add, callOk, plainArg, notSuper, kwNamed, List.all_cons, List.all_nil, List.length_cons, List.length_nil, Bool.and_true, Bool.true_and, Bool.and_self, Bool.not_true, Bool.not_false,
    decide_true, decide_eq_true_eq, beq_self_eq_true, true_and, and_true, if_true, if_false, reduceIte, reduceCtorEq, Option.isSome_some, Option.isSome_none, Nat.reduceAdd, Nat.reduceMul, Nat.reduceLeDiff, Nat.reduceSubDiff, Nat.add_one_sub_one, Nat.zero_lt_succ, Nat.succ_pos, Nat.lt_add_left_iff_pos,
    Bool.false_eq_true, false_and, and_false, behindInMarks, namesOf, Option.map_some, Option.some.injEq, exists_eq_left', exists_eq_left, or_false, false_or, or_self, not_true, not_false_iff]
      refine WS_step (fun μ σ => ∃ v, 0 ≤ v ∧ σ = σ' ∧ μ = muL sc kp bk lv nd (some (.int i)) (some (.int v)) w3 w4 w5 w6 w7 w8) ?_ ?_
      rotate_left
      · intro K hN _
        simp only [W1]
        simp only [W, WL, WK, WT, WTs, WB, WO, bindW, nameW, List.lookup, ofString_beq, ofString_inj, String.reduceBEq, String.reduceEq, String.reduceBNe, String.reduceNe, ML.get, ML.set, List.map_cons, List.map_nil, locals0,
    List.cons_append, List.nil_append, callW_b, callW_t, callW_r, bin_fdiv, bin_mod, bin_mul, bin_add, bin_sub, bin_adds, const_int, const_none, const_bool, const_str, ty_str, ty_range, tr_bool, tr_none, tr_int, cmp_int, Int.zero_add, callOk, plainArg, notSuper, kwNamed, List.all_cons, List.all_nil, List.length_cons, List.length_nil, Bool.and_true, Bool.true_and, Bool.and_self, Bool.not_true, Bool.not_false,
    decide_true, decide_eq_true_eq, beq_self_eq_true, true_and, and_true, if_true, if_false, reduceIte, reduceCtorEq, Option.isSome_some, Option.isSome_none, Nat.reduceAdd, Nat.reduceMul, Nat.reduceLeDiff, Nat.reduceSubDiff, Nat.add_one_sub_one, Nat.zero_lt_succ, Nat.succ_pos, Nat.lt_add_left_iff_pos,
    Bool.false_eq_true, false_and, and_false, behindInMarks, namesOf, Option.map_some, Option.some.injEq, exists_eq_left', exists_eq_left, or_false, false_or, or_self, not_true, not_false_iff, g5]
        refine ⟨p1, c_num (n := 8) hK B.s fun v v0 v1 => ?_⟩
        exact hN _ _ ⟨v, v0, rfl, rfl⟩
      rintro μ2 σ2 ⟨v0, hv0, hσ2, hμ2⟩
      rw [hσ2, hμ2]
      clear hσ2 hμ2
      refine WS_step (fun μ σ => ∃ v, 0 ≤ v ∧ σ = σ' ∧ μ = muL sc kp bk lv nd (some (.int i)) (some (.int v)) w3 w4 w5 w6 w7 w8) ?_ ?_
      rotate_left
      · intro K hN _
        simp only [W1]
        simp only [W, WL, WK, WT, WTs, WB, WO, bindW, nameW, List.lookup, ofString_beq, ofString_inj, String.reduceBEq, String.reduceEq, String.reduceBNe, String.reduceNe, ML.get, ML.set, List.map_cons, List.map_nil, locals0,
    List.cons_append, List.nil_append, callW_b, callW_t, callW_r, bin_fdiv, bin_mod, bin_mul, bin_add, bin_sub, bin_adds, const_int, const_none, const_bool, const_str, ty_str, ty_range, tr_bool, tr_none, tr_int, cmp_int, Int.zero_add, callOk, plainArg, notSuper, kwNamed, List.all_cons, List.all_nil, List.length_cons, List.length_nil, Bool.and_true, Bool.true_and, Bool.and_self, Bool.not_true, Bool.not_false,
    decide_true, decide_eq_true_eq, beq_self_eq_true, true_and, and_true, if_true, if_false, reduceIte, reduceCtorEq, Option.isSome_some, Option.isSome_none, Nat.reduceAdd, Nat.reduceMul, Nat.reduceLeDiff, Nat.reduceSubDiff, Nat.add_one_sub_one, Nat.zero_lt_succ, Nat.succ_pos, Nat.lt_add_left_iff_pos,
    Bool.false_eq_true, false_and, and_false, behindInMarks, namesOf, Option.map_some, Option.some.injEq, exists_eq_left', exists_eq_left, or_false, false_or, or_self, not_true, not_false_iff]
        by_cases hz : ((i : Int) == 0) = true
        · simp only [hz, if_true]
          simp only [WS, W1, W, WL, WK, WT, WTs, WB, WO, bindW, nameW, List.lookup, ofString_beq, ofString_inj, String.reduceBEq, String.reduceEq, String.reduceBNe, String.reduceNe, ML.get, ML.set, List.map_cons, List.map_nil, locals0,
    List.cons_append, List.nil_append, callW_b, callW_t, callW_r, bin_fdiv, bin_mod, bin_mul, bin_add, bin_sub, bin_adds, const_int, const_none, const_bool, const_str, ty_str, ty_range, tr_bool, tr_none, tr_int, cmp_int, Int.zero_add, callOk, plainArg, notSuper, kwNamed, List.all_cons, List.all_nil, List.length_cons, List.length_nil, Bool.and_true, Bool.true_and, Bool.and_self, Bool.not_true, Bool.not_false,
    decide_true, decide_eq_true_eq, beq_self_eq_true, true_and, and_true, if_true, if_false, reduceIte, reduceCtorEq, Option.isSome_some, Option.isSome_none, Nat.reduceAdd, Nat.reduceMul, Nat.reduceLeDiff, Nat.reduceSubDiff, Nat.add_one_sub_one, Nat.zero_lt_succ, Nat.succ_pos, Nat.lt_add_left_iff_pos,
    Bool.false_eq_true, false_and, and_false, behindInMarks, namesOf, Option.map_some, Option.some.injEq, exists_eq_left', exists_eq_left, or_false, false_or, or_self, not_true, not_false_iff]
          have := Int.fmod_lt_of_pos v0 (show (0 : Int) < 8 by decide)
          refine ⟨by decide, hN _ _ ⟨_, ?_, rfl, rfl⟩⟩
          have h1 := Int.fmod_def v0 8
          have h2 : 0 ≤ v0.fdiv 8 := Int.fdiv_nonneg hv0 (by decide)
          omega
        · simp only [hz]
          first | exact hN _ _ ⟨_, hv0, rfl, rfl⟩ | exact WS_nil (hN _ _ ⟨_, hv0, rfl, rfl⟩)
      rintro μ2 σ2 ⟨v, hv, hσ2, hμ2⟩
      rw [hσ2, hμ2]
      clear hσ2 hμ2
      refine WS_step (fun μ σ => ∃ w3 w4 w5 w6 w7 w8 recs NE T nd lv kp bk, μ = muL sc kp bk lv nd (some (.int i)) (some (.int v)) w3 w4 w5 w6 w7 w8 ∧ Inv σ recs NE T nd lv kp bk (i + 1) ∧ Base σ recs lv sc rg ns) ?_ ?_
      · rintro μ σ2 ⟨w3, w4, w5, w6, w7, w8, recs, NE, T, nd, lv, kp, bk, rfl, I2, B2⟩
        simp only [WS, W1, W, WL, WK, WT, WTs, WB, WO, bindW, nameW, List.lookup, ofString_beq, ofString_inj, String.reduceBEq, String.reduceEq, String.reduceBNe, String.reduceNe, ML.get, ML.set, List.map_cons, List.map_nil, locals0,
    List.cons_append, List.nil_append, callW_b, callW_t, callW_r, bin_fdiv, bin_mod, bin_mul, bin_add, bin_sub, bin_adds, const_int, const_none, const_bool, const_str, ty_str, ty_range, tr_bool, tr_none, tr_int, cmp_int, Int.zero_add, callOk, plainArg, notSuper, kwNamed, List.all_cons, List.all_nil, List.length_cons, List.length_nil, Bool.and_true, Bool.true_and, Bool.and_self, Bool.not_true, Bool.not_false,
    decide_true, decide_eq_true_eq, beq_self_eq_true, true_and, and_true, if_true, if_false, reduceIte, reduceCtorEq, Option.isSome_some, Option.isSome_none, Nat.reduceAdd, Nat.reduceMul, Nat.reduceLeDiff, Nat.reduceSubDiff, Nat.add_one_sub_one, Nat.zero_lt_succ, Nat.succ_pos, Nat.lt_add_left_iff_pos,
    Bool.false_eq_true, false_and, and_false, behindInMarks, namesOf, Option.map_some, Option.some.injEq, exists_eq_left', exists_eq_left, or_false, false_or, or_self, not_true, not_false_iff, g10]
        refine ⟨p6, c_holds (n := 8) hK I2 ?_⟩
        simp only [tr_bool, Bool.not_true]
        exact kn _ _ ⟨_, _, _, _, _, _, _, _, recs, NE, T, nd, lv, kp, bk, i + 1, rfl, I2, B2, hr', by omega⟩
      · intro K hN hret
        simp only [W1]
        simp only [W, WL, WK, WT, WTs, WB, WO, bindW, nameW, List.lookup, ofString_beq, ofString_inj, String.reduceBEq, String.reduceEq, String.reduceBNe, String.reduceNe, ML.get, ML.set, List.map_cons, List.map_nil, locals0,
    List.cons_append, List.nil_append, callW_b, callW_t, callW_r, bin_fdiv, bin_mod, bin_mul, bin_add, bin_sub, bin_adds, const_int, const_none, const_bool, const_str, ty_str, ty_range, tr_bool, tr_none, tr_int, cmp_int, Int.zero_add, callOk, plainArg, notSuper, kwNamed, List.all_cons, List.all_nil, List.length_cons, List.length_nil, Bool.and_true, Bool.true_and, Bool.and_self, Bool.not_true, Bool.not_false,
    decide_true, decide_eq_true_eq, beq_self_eq_true, true_and, and_true, if_true, if_false, reduceIte, reduceCtorEq, Option.isSome_some, Option.isSome_none, Nat.reduceAdd, Nat.reduceMul, Nat.reduceLeDiff, Nat.reduceSubDiff, Nat.add_one_sub_one, Nat.zero_lt_succ, Nat.succ_pos, Nat.lt_add_left_iff_pos,
    Bool.false_eq_true, false_and, and_false, behindInMarks, namesOf, Option.map_some, Option.some.injEq, exists_eq_left', exists_eq_left, or_false, false_or, or_self, not_true, not_false_iff]
        refine ⟨by decide, ?_⟩
        by_cases h7 : (v.fmod 8 == 7) = true
        · simp only [h7, if_true]
          refine WS_step (fun μ σ => K .next μ σ) (fun μ σ h => WS_nil h) ?_
          intro K2 hN2 _
          simp only [W1]
          refine ⟨_, rfl, by simp only [W, WL, WK, WT, WTs, WB, WO, bindW, nameW, List.lookup, ofString_beq, ofString_inj, String.reduceBEq, String.reduceEq, String.reduceBNe, String.reduceNe, ML.get, ML.set, List.map_cons, List.map_nil, locals0,
    List.cons_append, List.nil_append, callW_b, callW_t, callW_r, bin_fdiv, bin_mod, bin_mul, bin_add, bin_sub, bin_adds, const_int, const_none, const_bool, const_str, ty_str, ty_range, tr_bool, tr_none, tr_int, cmp_int, Int.zero_add, callOk, plainArg, notSuper, kwNamed, List.all_cons, List.all_nil, List.length_cons, List.length_nil, Bool.and_true, Bool.true_and, Bool.and_self, Bool.not_true, Bool.not_false,
    decide_true, decide_eq_true_eq, beq_self_eq_true, true_and, and_true, if_true, if_false, reduceIte, reduceCtorEq, Option.isSome_some, Option.isSome_none, Nat.reduceAdd, Nat.reduceMul, Nat.reduceLeDiff, Nat.reduceSubDiff, Nat.add_one_sub_one, Nat.zero_lt_succ, Nat.succ_pos, Nat.lt_add_left_iff_pos,
    Bool.false_eq_true, false_and, and_false, behindInMarks, namesOf, Option.map_some, Option.some.injEq, exists_eq_left', exists_eq_left, or_false, false_or, or_self, not_true, not_false_iff, List.nodup_cons, List.mem_cons, List.not_mem_nil, or_false, not_false_iff, List.nodup_nil, or_self], fun env he => by (cases env; simp only at he; subst he; exact ⟨rfl, .inr rfl⟩), ?_⟩
          simp only [W, WL, WK, WT, WTs, WB, WO, bindW, nameW, List.lookup, ofString_beq, ofString_inj, String.reduceBEq, String.reduceEq, String.reduceBNe, String.reduceNe, ML.get, ML.set, List.map_cons, List.map_nil, locals0,
    List.cons_append, List.nil_append, callW_b, callW_t, callW_r, bin_fdiv, bin_mod, bin_mul, bin_add, bin_sub, bin_adds, const_int, const_none, const_bool, const_str, ty_str, ty_range, tr_bool, tr_none, tr_int, cmp_int, Int.zero_add, callOk, plainArg, notSuper, kwNamed, List.all_cons, List.all_nil, List.length_cons, List.length_nil, Bool.and_true, Bool.true_and, Bool.and_self, Bool.not_true, Bool.not_false,
    decide_true, decide_eq_true_eq, beq_self_eq_true, true_and, and_true, if_true, if_false, reduceIte, reduceCtorEq, Option.isSome_some, Option.isSome_none, Nat.reduceAdd, Nat.reduceMul, Nat.reduceLeDiff, Nat.reduceSubDiff, Nat.add_one_sub_one, Nat.zero_lt_succ, Nat.succ_pos, Nat.lt_add_left_iff_pos,
    Bool.false_eq_true, false_and, and_false, behindInMarks, namesOf, Option.map_some, Option.some.injEq, exists_eq_left', exists_eq_left, or_false, false_or, or_self, not_true, not_false_iff]
          refine fun k1 hk1 => ?_
          refine fun k2 hk2 => ?_
          simp only [W, WL, WK, WT, WTs, WB, WO, bindW, nameW, List.lookup, ofString_beq, ofString_inj, String.reduceBEq, String.reduceEq, String.reduceBNe, String.reduceNe, ML.get, ML.set, List.map_cons, List.map_nil, locals0,
    List.cons_append, List.nil_append, callW_b, callW_t, callW_r, bin_fdiv, bin_mod, bin_mul, bin_add, bin_sub, bin_adds, const_int, const_none, const_bool, const_str, ty_str, ty_range, tr_bool, tr_none, tr_int, cmp_int, Int.zero_add, callOk, plainArg, notSuper, kwNamed, List.all_cons, List.all_nil, List.length_cons, List.length_nil, Bool.and_true, Bool.true_and, Bool.and_self, Bool.not_true, Bool.not_false,
    decide_true, decide_eq_true_eq, beq_self_eq_true, true_and, and_true, if_true, if_false, reduceIte, reduceCtorEq, Option.isSome_some, Option.isSome_none, Nat.reduceAdd, Nat.reduceMul, Nat.reduceLeDiff, Nat.reduceSubDiff, Nat.add_one_sub_one, Nat.zero_lt_succ, Nat.succ_pos, Nat.lt_add_left_iff_pos,
    Bool.false_eq_true, false_and, and_false, behindInMarks, namesOf, Option.map_some, Option.some.injEq, exists_eq_left', exists_eq_left, or_false, false_or, or_self, not_true, not_false_iff, bindsW]
          refine fun t ht => ?_
          obtain ⟨c1, c2⟩ := upd_none hk2
          obtain ⟨c3, c4⟩ := upd_none ht
          obtain ⟨c5, c6⟩ := upd_none c4
          have G : Grow σ' (upd (upd (upd σ' k1 (.dict [])) k2 (.dict [])) t (.tuple [.ref k1, .ref k2])) := ((Grow.refl.new hk1).new c2).new c6
          exact hN2 _ _ (hN _ _ ⟨_, _, _, _, _, _, recs, NE, [], nd, lv, k1, k2, rfl, I.clear (Nat.le_succ _) G (by rw [upd_ne (Ne.symm c5), upd_ne (Ne.symm c1)]; exact upd_same) (by rw [upd_ne (Ne.symm c3)]; exact upd_same) (Ne.symm c1) hk1 c2, B.grow G⟩)
        · simp only [h7]
          refine WS_step (fun μ σ => K .next μ σ) (fun μ σ h => WS_nil h) ?_
          intro K2 hN2 hret2
          simp only [W1]
          simp only [W, WL, WK, WT, WTs, WB, WO, bindW, nameW, List.lookup, ofString_beq, ofString_inj, String.reduceBEq, String.reduceEq, String.reduceBNe, String.reduceNe, ML.get, ML.set, List.map_cons, List.map_nil, locals0,
    List.cons_append, List.nil_append, callW_b, callW_t, callW_r, bin_fdiv, bin_mod, bin_mul, bin_add, bin_sub, bin_adds, const_int, const_none, const_bool, const_str, ty_str, ty_range, tr_bool, tr_none, tr_int, cmp_int, Int.zero_add, callOk, plainArg, notSuper, kwNamed, List.all_cons, List.all_nil, List.length_cons, List.length_nil, Bool.and_true, Bool.true_and, Bool.and_self, Bool.not_true, Bool.not_false,
    decide_true, decide_eq_true_eq, beq_self_eq_true, true_and, and_true, if_true, if_false, reduceIte, reduceCtorEq, Option.isSome_some, Option.isSome_none, Nat.reduceAdd, Nat.reduceMul, Nat.reduceLeDiff, Nat.reduceSubDiff, Nat.add_one_sub_one, Nat.zero_lt_succ, Nat.succ_pos, Nat.lt_add_left_iff_pos,
    Bool.false_eq_true, false_and, and_false, behindInMarks, namesOf, Option.map_some, Option.some.injEq, exists_eq_left', exists_eq_left, or_false, false_or, or_self, not_true, not_false_iff]
          by_cases h5 : 5 ≤ v.fmod 8
          · simp only [h5, decide_true, tr_list I.hlv]
            by_cases hrecs : recs = []
            · have hemp : (recs.map fun r => MV.ref r.t).isEmpty = true := by rw [hrecs]; rfl
              simp only [hemp, Bool.not_true]
              refine ⟨by decide, ?_⟩
              refine WS_step (fun μ σ => ∃ bl bs NE' cnt, cnt ≤ 3 ∧ Bat σ' σ bs NE NE' nd bl i cnt ∧ μ = muL sc kp bk lv nd (some (.int i)) (some (.int v)) w3 w4 w5 (some (.ref bl)) w7 w8) ?_ ?_
              rotate_left
              · intro K3 hN3 _
                simp only [W1]
                simp only [W, WL, WK, WT, WTs, WB, WO, bindW, nameW, List.lookup, ofString_beq, ofString_inj, String.reduceBEq, String.reduceEq, String.reduceBNe, String.reduceNe, ML.get, ML.set, List.map_cons, List.map_nil, locals0,
    List.cons_append, List.nil_append, callW_b, callW_t, callW_r, bin_fdiv, bin_mod, bin_mul, bin_add, bin_sub, bin_adds, const_int, const_none, const_bool, const_str, ty_str, ty_range, tr_bool, tr_none, tr_int, cmp_int, Int.zero_add, callOk, plainArg, notSuper, kwNamed, List.all_cons, List.all_nil, List.length_cons, List.length_nil, Bool.and_true, Bool.true_and, Bool.and_self, Bool.not_true, Bool.not_false,
    decide_true, decide_eq_true_eq, beq_self_eq_true, true_and, and_true, if_true, if_false, reduceIte, reduceCtorEq, Option.isSome_some, Option.isSome_none, Nat.reduceAdd, Nat.reduceMul, Nat.reduceLeDiff, Nat.reduceSubDiff, Nat.add_one_sub_one, Nat.zero_lt_succ, Nat.succ_pos, Nat.lt_add_left_iff_pos,
    Bool.false_eq_true, false_and, and_false, behindInMarks, namesOf, Option.map_some, Option.some.injEq, exists_eq_left', exists_eq_left, or_false, false_or, or_self, not_true, not_false_iff, g7]
                exact ⟨p3, c_batch (n := 4) hK hv hi20 I B.a B.b B.c fun σB bl bs NE' cnt hcnt Bt => hN3 _ _ ⟨bl, bs, NE', cnt, hcnt, Bt, rfl⟩⟩
              rintro μ2 σB ⟨bl, bs, NE', cnt, hcnt, Bt, hμ2⟩
              rw [hμ2]
              clear hμ2
              refine WS_step (fun μ σ => CS σ recs bs NE' T nd lv kp bk bl i sc rg ns ∧ μ = muL sc kp bk lv nd (some (.int i)) (some (.int v)) w3 w4 w5 (some (.ref bl)) w7 w8) ?_ ?_
              rotate_left
              · intro K3 hN3 _
                have lvB := Bt.up I.hlv (ne_of_mo I.hlv I.hnd (by simp))
                have lvbl : lv ≠ bl := ne_of_new Bt.b0 I.hlv
                simp only [W1]
                simp only [W, WL, WK, WT, WTs, WB, WO, bindW, nameW, List.lookup, ofString_beq, ofString_inj, String.reduceBEq, String.reduceEq, String.reduceBNe, String.reduceNe, ML.get, ML.set, List.map_cons, List.map_nil, locals0,
    List.cons_append, List.nil_append, callW_b, callW_t, callW_r, bin_fdiv, bin_mod, bin_mul, bin_add, bin_sub, bin_adds, const_int, const_none, const_bool, const_str, ty_str, ty_range, tr_bool, tr_none, tr_int, cmp_int, Int.zero_add, callOk, plainArg, notSuper, kwNamed, List.all_cons, List.all_nil, List.length_cons, List.length_nil, Bool.and_true, Bool.true_and, Bool.and_self, Bool.not_true, Bool.not_false,
    decide_true, decide_eq_true_eq, beq_self_eq_true, true_and, and_true, if_true, if_false, reduceIte, reduceCtorEq, Option.isSome_some, Option.isSome_none, Nat.reduceAdd, Nat.reduceMul, Nat.reduceLeDiff, Nat.reduceSubDiff, Nat.add_one_sub_one, Nat.zero_lt_succ, Nat.succ_pos, Nat.lt_add_left_iff_pos,
    Bool.false_eq_true, false_and, and_false, behindInMarks, namesOf, Option.map_some, Option.some.injEq, exists_eq_left', exists_eq_left, or_false, false_or, or_self, not_true, not_false_iff, me_ext lvB, bw_ext lvB Bt.hbl]
                refine ⟨lvbl, by rw [sizeLine_eq, List.length_map, List.length_map]; have := I.lR; have := Bt.lb; omega, ?_⟩
                rw [← List.map_append]
                exact hN3 _ _ ⟨CS.of I B Bt hi20 hcnt, rfl⟩
              rintro μ2 σ2 ⟨C2, hμ2⟩
              rw [hμ2]
              clear hμ2
              refine WS_step (fun μ σ => σ = σ2 ∧ μ = muL sc kp bk lv nd (some (.int i)) (some (.int v)) w3 w4 w5 (some (.ref bl)) (some (.bool true)) w8) ?_ ?_
              rotate_left
              · intro K3 hN3 _
                simp only [WS, W1, W, WL, WK, WT, WTs, WB, WO, bindW, nameW, List.lookup, ofString_beq, ofString_inj, String.reduceBEq, String.reduceEq, String.reduceBNe, String.reduceNe, ML.get, ML.set, List.map_cons, List.map_nil, locals0,
    List.cons_append, List.nil_append, callW_b, callW_t, callW_r, bin_fdiv, bin_mod, bin_mul, bin_add, bin_sub, bin_adds, const_int, const_none, const_bool, const_str, ty_str, ty_range, tr_bool, tr_none, tr_int, cmp_int, Int.zero_add, callOk, plainArg, notSuper, kwNamed, List.all_cons, List.all_nil, List.length_cons, List.length_nil, Bool.and_true, Bool.true_and, Bool.and_self, Bool.not_true, Bool.not_false,
    decide_true, decide_eq_true_eq, beq_self_eq_true, true_and, and_true, if_true, if_false, reduceIte, reduceCtorEq, Option.isSome_some, Option.isSome_none, Nat.reduceAdd, Nat.reduceMul, Nat.reduceLeDiff, Nat.reduceSubDiff, Nat.add_one_sub_one, Nat.zero_lt_succ, Nat.succ_pos, Nat.lt_add_left_iff_pos,
    Bool.false_eq_true, false_and, and_false, behindInMarks, namesOf, Option.map_some, Option.some.injEq, exists_eq_left', exists_eq_left, or_false, false_or, or_self, not_true, not_false_iff]
                exact hN3 _ _ ⟨rfl, rfl⟩
              rintro μ2 σ2' ⟨hσ2, hμ2⟩
              rw [hσ2, hμ2]
              clear hσ2 hμ2
              refine WS_step (fun μ σ => ∃ w3 w8 T1 g, (T1, g) = addAll T (bs.map LR.toTR) ∧ σ = upd σ2 bk (.dict T1) ∧ μ = muL sc kp bk lv nd (some (.int i)) (some (.int v)) w3 w4 w5 (some (.ref bl)) (some (.bool g)) w8) ?_ ?_
              rotate_left
              · intro K3 hN3 _
                simp only [W1]
                simp only [W, WL, WK, WT, WTs, WB, WO, bindW, nameW, List.lookup, ofString_beq, ofString_inj, String.reduceBEq, String.reduceEq, String.reduceBNe, String.reduceNe, ML.get, ML.set, List.map_cons, List.map_nil, locals0,
    List.cons_append, List.nil_append, callW_b, callW_t, callW_r, bin_fdiv, bin_mod, bin_mul, bin_add, bin_sub, bin_adds, const_int, const_none, const_bool, const_str, ty_str, ty_range, tr_bool, tr_none, tr_int, cmp_int, Int.zero_add, callOk, plainArg, notSuper, kwNamed, List.all_cons, List.all_nil, List.length_cons, List.length_nil, Bool.and_true, Bool.true_and, Bool.and_self, Bool.not_true, Bool.not_false,
    decide_true, decide_eq_true_eq, beq_self_eq_true, true_and, and_true, if_true, if_false, reduceIte, reduceCtorEq, Option.isSome_some, Option.isSome_none, Nat.reduceAdd, Nat.reduceMul, Nat.reduceLeDiff, Nat.reduceSubDiff, Nat.add_one_sub_one, Nat.zero_lt_succ, Nat.succ_pos, Nat.lt_add_left_iff_pos,
    Bool.false_eq_true, false_and, and_false, behindInMarks, namesOf, Option.map_some, Option.some.injEq, exists_eq_left', exists_eq_left, or_false, false_or, or_self, not_true, not_false_iff]
                refine ⟨bl, _, _, rfl, C2.hbl, rfl, ?_⟩
                refine forW_list (fun r : LR => .ref r.t) (fun rest μ σ => ∃ w3 w8 T1 g, μ = muL sc kp bk lv nd (some (.int i)) (some (.int v)) w3 w4 w5 (some (.ref bl)) (some (.bool g)) w8 ∧ σ = upd σ2 bk (.dict T1) ∧ AA g T1 rest = addAll T (bs.map LR.toTR) ∧ (∀ r ∈ rest, r ∈ bs) ∧ T1.length + 2 * rest.length ≤ 1000) ?_ ?_ bs _ _
                  ⟨w3, w8, T, true, rfl, (upd_id C2.I.hbk).symm, rfl, fun _ h => h, by have := I.lT; have := Bt.lb; omega⟩
                · rintro μ σ ⟨w3, w8, T1, g, rfl, rfl, e, _⟩
                  refine ⟨by rw [upd_ne (ne_of_mo C2.hbl C2.I.hbk (by simp))]; exact C2.hbl, hN3 _ _ ⟨_, _, T1, g, ?_, rfl, rfl⟩⟩
                  rw [← e]; cases g <;> rfl
                · rintro r rest μ σ Kf4 ⟨w3, w8, T0, g0, rfl, rfl, e, hin, hlen⟩ kn4 _ _ _
                  have hrb := hin r (.head _)
                  have A := (C2.I.tk r (List.mem_append_right _ hrb)).1.upd (T' := T0) C2.I.hbk
                  have ol := (C2.I.tk r (List.mem_append_right _ hrb)).2.2.2.2.2.2.2.1
                  rw [List.length_cons] at hlen
                  refine ⟨by rw [upd_ne (ne_of_mo C2.hbl C2.I.hbk (by simp))]; exact C2.hbl, ?_⟩
                  simp only [WS, W1, W, WL, WK, WT, WTs, WB, WO, bindW, nameW, List.lookup, ofString_beq, ofString_inj, String.reduceBEq, String.reduceEq, String.reduceBNe, String.reduceNe, ML.get, ML.set, List.map_cons, List.map_nil, locals0,
    List.cons_append, List.nil_append, callW_b, callW_t, callW_r, bin_fdiv, bin_mod, bin_mul, bin_add, bin_sub, bin_adds, const_int, const_none, const_bool, const_str, ty_str, ty_range, tr_bool, tr_none, tr_int, cmp_int, Int.zero_add, callOk, plainArg, notSuper, kwNamed, List.all_cons, List.all_nil, List.length_cons, List.length_nil, Bool.and_true, Bool.true_and, Bool.and_self, Bool.not_true, Bool.not_false,
    decide_true, decide_eq_true_eq, beq_self_eq_true, true_and, and_true, if_true, if_false, reduceIte, reduceCtorEq, Option.isSome_some, Option.isSome_none, Nat.reduceAdd, Nat.reduceMul, Nat.reduceLeDiff, Nat.reduceSubDiff, Nat.add_one_sub_one, Nat.zero_lt_succ, Nat.succ_pos, Nat.lt_add_left_iff_pos,
    Bool.false_eq_true, false_and, and_false, behindInMarks, namesOf, Option.map_some, Option.some.injEq, exists_eq_left', exists_eq_left, or_false, false_or, or_self, not_true, not_false_iff, at_get A.i A.n r3 A.gt rfl]
                  refine ⟨r.tg, _, _, rfl, A.o, rfl, ?_⟩
                  refine forW_list .str (fun fs μ σ => ∃ w8 T1 g, μ = muL sc kp bk lv nd (some (.int i)) (some (.int v)) (some (.ref r.t)) w4 w5 (some (.ref bl)) (some (.bool g)) w8 ∧ σ = upd σ2 bk (.dict T1) ∧ AO r.name g T1 fs = AO r.name g0 T0 r.outs ∧ T1.length + fs.length + 2 * rest.length ≤ 1000) ?_ ?_ r.outs _ _ ⟨w8, T0, g0, rfl, rfl, rfl, by omega⟩
                  · rintro μ σ ⟨w8, T1, g, rfl, rfl, e2, hl2⟩
                    have A1 := (C2.I.tk r (List.mem_append_right _ hrb)).1.upd (T' := T1) C2.I.hbk
                    refine ⟨A1.o, kn4 _ _ ⟨_, _, T1, g, rfl, rfl, ?_, fun x h => hin x (.tail _ h), by simpa using hl2⟩⟩
                    rw [← e]
                    exact AA_step e2
                  · rintro f fs μ σ Kf5 ⟨w8, T1, g, rfl, rfl, e2, hl2⟩ kn5 _ _ _
                    have A1 := (C2.I.tk r (List.mem_append_right _ hrb)).1.upd (T' := T1) C2.I.hbk
                    rw [List.length_cons] at hl2
                    refine ⟨A1.o, ?_⟩
                    have bk1 : upd σ2 bk (.dict T1) bk = some (.dict T1) := upd_same
                    cases g with
                    | false =>
                      simp only [WS, W1, W, WL, WK, WT, WTs, WB, WO, bindW, nameW, List.lookup, ofString_beq, ofString_inj, String.reduceBEq, String.reduceEq, String.reduceBNe, String.reduceNe, ML.get, ML.set, List.map_cons, List.map_nil, locals0,
    List.cons_append, List.nil_append, callW_b, callW_t, callW_r, bin_fdiv, bin_mod, bin_mul, bin_add, bin_sub, bin_adds, const_int, const_none, const_bool, const_str, ty_str, ty_range, tr_bool, tr_none, tr_int, cmp_int, Int.zero_add, callOk, plainArg, notSuper, kwNamed, List.all_cons, List.all_nil, List.length_cons, List.length_nil, Bool.and_true, Bool.true_and, Bool.and_self, Bool.not_true, Bool.not_false,
    decide_true, decide_eq_true_eq, beq_self_eq_true, true_and, and_true, if_true, if_false, reduceIte, reduceCtorEq, Option.isSome_some, Option.isSome_none, Nat.reduceAdd, Nat.reduceMul, Nat.reduceLeDiff, Nat.reduceSubDiff, Nat.add_one_sub_one, Nat.zero_lt_succ, Nat.succ_pos, Nat.lt_add_left_iff_pos,
    Bool.false_eq_true, false_and, and_false, behindInMarks, namesOf, Option.map_some, Option.some.injEq, exists_eq_left', exists_eq_left, or_false, false_or, or_self, not_true, not_false_iff]
                      exact kn5 _ _ ⟨_, T1, false, rfl, rfl, by rw [← e2]; rfl, by omega⟩
                    | true =>
                      cases hf : dget T1 f with
                      | none =>
                        simp only [WS, W1, W, WL, WK, WT, WTs, WB, WO, bindW, nameW, List.lookup, ofString_beq, ofString_inj, String.reduceBEq, String.reduceEq, String.reduceBNe, String.reduceNe, ML.get, ML.set, List.map_cons, List.map_nil, locals0,
    List.cons_append, List.nil_append, callW_b, callW_t, callW_r, bin_fdiv, bin_mod, bin_mul, bin_add, bin_sub, bin_adds, const_int, const_none, const_bool, const_str, ty_str, ty_range, tr_bool, tr_none, tr_int, cmp_int, Int.zero_add, callOk, plainArg, notSuper, kwNamed, List.all_cons, List.all_nil, List.length_cons, List.length_nil, Bool.and_true, Bool.true_and, Bool.and_self, Bool.not_true, Bool.not_false,
    decide_true, decide_eq_true_eq, beq_self_eq_true, true_and, and_true, if_true, if_false, reduceIte, reduceCtorEq, Option.isSome_some, Option.isSome_none, Nat.reduceAdd, Nat.reduceMul, Nat.reduceLeDiff, Nat.reduceSubDiff, Nat.add_one_sub_one, Nat.zero_lt_succ, Nat.succ_pos, Nat.lt_add_left_iff_pos,
    Bool.false_eq_true, false_and, and_false, behindInMarks, namesOf, Option.map_some, Option.some.injEq, exists_eq_left', exists_eq_left, or_false, false_or, or_self, not_true, not_false_iff, cmpW, bk1, hf]
                        simp only [WS, W1, W, WL, WK, WT, WTs, WB, WO, bindW, nameW, List.lookup, ofString_beq, ofString_inj, String.reduceBEq, String.reduceEq, String.reduceBNe, String.reduceNe, ML.get, ML.set, List.map_cons, List.map_nil, locals0,
    List.cons_append, List.nil_append, callW_b, callW_t, callW_r, bin_fdiv, bin_mod, bin_mul, bin_add, bin_sub, bin_adds, const_int, const_none, const_bool, const_str, ty_str, ty_range, tr_bool, tr_none, tr_int, cmp_int, Int.zero_add, callOk, plainArg, notSuper, kwNamed, List.all_cons, List.all_nil, List.length_cons, List.length_nil, Bool.and_true, Bool.true_and, Bool.and_self, Bool.not_true, Bool.not_false,
    decide_true, decide_eq_true_eq, beq_self_eq_true, true_and, and_true, if_true, if_false, reduceIte, reduceCtorEq, Option.isSome_some, Option.isSome_none, Nat.reduceAdd, Nat.reduceMul, Nat.reduceLeDiff, Nat.reduceSubDiff, Nat.add_one_sub_one, Nat.zero_lt_succ, Nat.succ_pos, Nat.lt_add_left_iff_pos,
    Bool.false_eq_true, false_and, and_false, behindInMarks, namesOf, Option.map_some, Option.some.injEq, exists_eq_left', exists_eq_left, or_false, false_or, or_self, not_true, not_false_iff, at_get A1.i A1.n r2 A1.nm rfl, si_dict bk1, upd_upd]
                        refine ⟨by rw [sizeLine_eq]; omega, kn5 _ _ ⟨_, _, true, rfl, rfl, ?_, ?_⟩⟩
                        · rw [← e2]; unfold AO; simp only [if_true]; rw [addOuts_cons, hf]; rfl
                        · have := dput_length (es := T1) (k := f) (v := MV.str r.name); omega
                      | some m =>
                        simp only [WS, W1, W, WL, WK, WT, WTs, WB, WO, bindW, nameW, List.lookup, ofString_beq, ofString_inj, String.reduceBEq, String.reduceEq, String.reduceBNe, String.reduceNe, ML.get, ML.set, List.map_cons, List.map_nil, locals0,
    List.cons_append, List.nil_append, callW_b, callW_t, callW_r, bin_fdiv, bin_mod, bin_mul, bin_add, bin_sub, bin_adds, const_int, const_none, const_bool, const_str, ty_str, ty_range, tr_bool, tr_none, tr_int, cmp_int, Int.zero_add, callOk, plainArg, notSuper, kwNamed, List.all_cons, List.all_nil, List.length_cons, List.length_nil, Bool.and_true, Bool.true_and, Bool.and_self, Bool.not_true, Bool.not_false,
    decide_true, decide_eq_true_eq, beq_self_eq_true, true_and, and_true, if_true, if_false, reduceIte, reduceCtorEq, Option.isSome_some, Option.isSome_none, Nat.reduceAdd, Nat.reduceMul, Nat.reduceLeDiff, Nat.reduceSubDiff, Nat.add_one_sub_one, Nat.zero_lt_succ, Nat.succ_pos, Nat.lt_add_left_iff_pos,
    Bool.false_eq_true, false_and, and_false, behindInMarks, namesOf, Option.map_some, Option.some.injEq, exists_eq_left', exists_eq_left, or_false, false_or, or_self, not_true, not_false_iff, cmpW, bk1, hf]
                        refine kn5 _ _ ⟨_, T1, false, rfl, rfl, ?_, by omega⟩
                        rw [← e2]; unfold AO; simp only [if_true]; rw [addOuts_cons, hf]; rfl
              rintro μ2 σ3 ⟨w3, w8, T1, g, e1, hσ3, hμ2⟩
              rw [hσ3, hμ2]
              clear hσ3 hμ2
              have tf := addAll_facts (bs.map LR.toTR) T (fun q hq => by
                obtain ⟨r, hr, rfl⟩ := List.mem_map.mp hq
                have := C2.I.tk r (C2.in1 hr)
                exact ⟨this.1.okn, this.2.2.2.2.2.2.2.1⟩) C2.I.vals C2.I.kT
              rw [← e1, List.length_map] at tf
              obtain ⟨tv1, tk1, tl1⟩ := tf
              have sz1 : T1.length ≤ 6 * (i + 1) := by have := C2.vT; have := C2.len; simp only at tl1; omega
              have vT1 : ∀ q ∈ T1, ∃ x, q.2 = MV.str x := fun q hq => by obtain ⟨x, hx, _⟩ := tv1 q hq; exact ⟨x, hx⟩
              obtain ⟨nb1, nb2⟩ := C2.ndb
              obtain ⟨Dd, hDd⟩ : ∃ Dd : TR → List MV, ∀ r ∈ bs, Dd r.toTR = r.deps := by
                refine ⟨fun q => ((bs.find? fun r => r.td = q.td).map (·.deps)).getD [], fun r hr => ?_⟩
                have : bs.find? (fun x => decide (x.td = r.td)) = some r := by
                  cases hq : bs.find? (fun x => decide (x.td = r.td)) with
                  | none => exact absurd (List.find?_eq_none.mp hq r hr) (by simp)
                  | some y =>
                    have h1 := List.mem_of_find?_eq_some hq
                    have h2 := List.find?_some hq
                    rw [nodup_inj nb1 h1 hr (by simpa using h2)]
                simp only [this, Option.map_some, Option.getD_some]
              have oS : ((bs.map LR.toTR).map fun r => r.outs.length).sum ≤ 6 := by
                have h3 := C2.len
                have h4 : ∀ r ∈ bs, r.outs.length ≤ 2 := fun r hr => (C2.I.tk r (C2.in1 hr)).2.2.2.2.2.2.2.1
                have : ∀ l : List LR, (∀ r ∈ l, r.outs.length ≤ 2) → ((l.map LR.toTR).map fun r => r.outs.length).sum ≤ 2 * l.length := by
                  intro l
                  induction l with
                  | nil => intro _; simp
                  | cons a l ih =>
                    intro h
                    have h1 := ih fun r hr => h r (.tail _ hr)
                    have h2 := h a (.head _)
                    simp only [List.map_cons, List.sum_cons, List.length_cons]
                    omega
                have := this bs h4
                omega
              refine WS_step (fun μ σ => K2 .next μ σ) (fun μ σ h => WS_nil h) ?_
              intro K3 hN3 _
              simp only [W1]
              simp only [W, WL, WK, WT, WTs, WB, WO, bindW, nameW, List.lookup, ofString_beq, ofString_inj, String.reduceBEq, String.reduceEq, String.reduceBNe, String.reduceNe, ML.get, ML.set, List.map_cons, List.map_nil, locals0,
    List.cons_append, List.nil_append, callW_b, callW_t, callW_r, bin_fdiv, bin_mod, bin_mul, bin_add, bin_sub, bin_adds, const_int, const_none, const_bool, const_str, ty_str, ty_range, tr_bool, tr_none, tr_int, cmp_int, Int.zero_add, callOk, plainArg, notSuper, kwNamed, List.all_cons, List.all_nil, List.length_cons, List.length_nil, Bool.and_true, Bool.true_and, Bool.and_self, Bool.not_true, Bool.not_false,
    decide_true, decide_eq_true_eq, beq_self_eq_true, true_and, and_true, if_true, if_false, reduceIte, reduceCtorEq, Option.isSome_some, Option.isSome_none, Nat.reduceAdd, Nat.reduceMul, Nat.reduceLeDiff, Nat.reduceSubDiff, Nat.add_one_sub_one, Nat.zero_lt_succ, Nat.succ_pos, Nat.lt_add_left_iff_pos,
    Bool.false_eq_true, false_and, and_false, behindInMarks, namesOf, Option.map_some, Option.some.injEq, exists_eq_left', exists_eq_left, or_false, false_or, or_self, not_true, not_false_iff, tr_bool]
              cases g with
              | true =>
                simp only [if_true]
                refine WS_step (fun μ σ => ∃ w3, σ = updL (upd σ2 bk (.dict T1)) (bs.map fun r => (r.nl, .list (takeF T1 r.files r.deps))) ∧ μ = muL sc kp bk lv nd (some (.int i)) (some (.int v)) w3 w4 w5 (some (.ref bl)) (some (.bool true)) w8) ?_ ?_
                rotate_left
                · intro K4 hN4 _
                  simp only [W1]
                  simp only [W, WL, WK, WT, WTs, WB, WO, bindW, nameW, List.lookup, ofString_beq, ofString_inj, String.reduceBEq, String.reduceEq, String.reduceBNe, String.reduceNe, ML.get, ML.set, List.map_cons, List.map_nil, locals0,
    List.cons_append, List.nil_append, callW_b, callW_t, callW_r, bin_fdiv, bin_mod, bin_mul, bin_add, bin_sub, bin_adds, const_int, const_none, const_bool, const_str, ty_str, ty_range, tr_bool, tr_none, tr_int, cmp_int, Int.zero_add, callOk, plainArg, notSuper, kwNamed, List.all_cons, List.all_nil, List.length_cons, List.length_nil, Bool.and_true, Bool.true_and, Bool.and_self, Bool.not_true, Bool.not_false,
    decide_true, decide_eq_true_eq, beq_self_eq_true, true_and, and_true, if_true, if_false, reduceIte, reduceCtorEq, Option.isSome_some, Option.isSome_none, Nat.reduceAdd, Nat.reduceMul, Nat.reduceLeDiff, Nat.reduceSubDiff, Nat.add_one_sub_one, Nat.zero_lt_succ, Nat.succ_pos, Nat.lt_add_left_iff_pos,
    Bool.false_eq_true, false_and, and_false, behindInMarks, namesOf, Option.map_some, Option.some.injEq, exists_eq_left', exists_eq_left, or_false, false_or, or_self, not_true, not_false_iff]
                  have bl3 : upd σ2 bk (.dict T1) bl = some (.list (bs.map fun r => .ref r.t)) := by rw [upd_ne (ne_of_mo C2.hbl C2.I.hbk (by simp))]; exact C2.hbl
                  refine ⟨bl, _, _, rfl, bl3, rfl, ?_⟩
                  refine forW_list (fun r : LR => .ref r.t) (fun rest μ σ => ∃ w3 done, done ++ rest = bs ∧ σ = updL (upd σ2 bk (.dict T1)) (done.map fun r => (r.nl, .list (takeF T1 r.files r.deps))) ∧ μ = muL sc kp bk lv nd (some (.int i)) (some (.int v)) w3 w4 w5 (some (.ref bl)) (some (.bool true)) w8) ?_ ?_ bs _ _ ⟨w3, [], rfl, rfl, rfl⟩
                  · rintro μ σ ⟨w3, done, hd, rfl, rfl⟩
                    rw [List.append_nil] at hd; subst hd
                    exact ⟨C2.off4 ⟨done, fun _ h => h, rfl⟩ C2.hbl (ne_of_mo C2.hbl C2.I.hbk (by simp)) fun r hr => Ne.symm (C2.sb r (C2.in1 hr)).2, hN4 _ _ ⟨_, rfl, rfl⟩⟩
                  · rintro r rest μ σ Kf6 ⟨w3, done, hd, rfl, rfl⟩ kn6 _ _ _
                    have hrb : r ∈ bs := hd ▸ List.mem_append_right _ (.head _)
                    have hdn : ∃ done' : List LR, (∀ r ∈ done', r ∈ bs) ∧ updL (upd σ2 bk (.dict T1)) (done.map fun r => (r.nl, MO.list (takeF T1 r.files r.deps))) = updL (upd σ2 bk (.dict T1)) (done'.map fun r => (r.nl, .list (takeF T1 r.files r.deps))) := ⟨done, fun r' h => hd ▸ List.mem_append_left _ h, rfl⟩
                    obtain ⟨A4, _⟩ := C2.task4 hdn hrb
                    obtain ⟨_, x2, x3, x4, _, x6, x7, _, x9⟩ := C2.I.tk r (C2.in1 hrb)
                    have nl4 : updL (upd σ2 bk (.dict T1)) (done.map fun r => (r.nl, MO.list (takeF T1 r.files r.deps))) r.nl = some (.list r.deps) := by
                      rw [updL_ne fun q hq => ?_, upd_ne (ne_of_mo x3 C2.I.hbk (by simp))]
                      · exact x3
                      · obtain ⟨r', hr', rfl⟩ := List.mem_map.mp hq
                        intro e
                        have nb := nb2
                        rw [← hd, List.map_append, List.map_cons, List.nodup_append] at nb
                        exact nb.2.2 _ (List.mem_map.mpr ⟨r', hr', rfl⟩) _ (.head _) e.symm
                    have nd4 := C2.off4 hdn C2.I.hnd C2.I.d3 fun r' h => ne_of_mo C2.I.hnd (C2.I.tk r' (C2.in1 h)).2.2.1 (by simp)
                    refine ⟨C2.off4 hdn C2.hbl (ne_of_mo C2.hbl C2.I.hbk (by simp)) fun r hr => Ne.symm (C2.sb r (C2.in1 hr)).2, ?_⟩
                    simp only [WS, W1, W, WL, WK, WT, WTs, WB, WO, bindW, nameW, List.lookup, ofString_beq, ofString_inj, String.reduceBEq, String.reduceEq, String.reduceBNe, String.reduceNe, ML.get, ML.set, List.map_cons, List.map_nil, locals0,
    List.cons_append, List.nil_append, callW_b, callW_t, callW_r, bin_fdiv, bin_mod, bin_mul, bin_add, bin_sub, bin_adds, const_int, const_none, const_bool, const_str, ty_str, ty_range, tr_bool, tr_none, tr_int, cmp_int, Int.zero_add, callOk, plainArg, notSuper, kwNamed, List.all_cons, List.all_nil, List.length_cons, List.length_nil, Bool.and_true, Bool.true_and, Bool.and_self, Bool.not_true, Bool.not_false,
    decide_true, decide_eq_true_eq, beq_self_eq_true, true_and, and_true, if_true, if_false, reduceIte, reduceCtorEq, Option.isSome_some, Option.isSome_none, Nat.reduceAdd, Nat.reduceMul, Nat.reduceLeDiff, Nat.reduceSubDiff, Nat.add_one_sub_one, Nat.zero_lt_succ, Nat.succ_pos, Nat.lt_add_left_iff_pos,
    Bool.false_eq_true, false_and, and_false, behindInMarks, namesOf, Option.map_some, Option.some.injEq, exists_eq_left', exists_eq_left, or_false, false_or, or_self, not_true, not_false_iff, g8, at_get A4.i A4.n r1 A4.gf rfl]
                    refine ⟨p4, c_take (n := 8) hK (C2.bk4 hdn) A4.i A4.n A4.nm nd4 x4 nl4 A4.f (C2.I.sep r (C2.in1 hrb) r (C2.in1 hrb)).2.2.1 vT1 x9 (by rw [sizeLine_eq]; omega) ?_⟩
                    refine kn6 _ _ ⟨_, done ++ [r], by simp [hd], ?_, rfl⟩
                    simp [updL]
                rintro μ4 σ4 ⟨w3, h4, hμ4⟩
                have h4' : ∃ done : List LR, (∀ r ∈ done, r ∈ bs) ∧ σ4 = updL (upd σ2 bk (.dict T1)) (done.map fun r => (r.nl, .list (takeF T1 r.files r.deps))) := ⟨bs, fun _ h => h, h4⟩
                have bl4 := C2.off4 h4' C2.hbl (ne_of_mo C2.hbl C2.I.hbk (by simp)) fun r hr => Ne.symm (C2.sb r (C2.in1 hr)).2
                have k4 := C2.kind4 h4' C2.B.k (by simp) (by simp)
                have kp4 := C2.off4 h4' C2.I.hkp C2.I.d1 fun r hr => ne_of_mo C2.I.hkp (C2.I.tk r (C2.in1 hr)).2.2.1 (by simp)
                have key : ∀ (Kx : KF), (∀ μ σ, K3 .next μ σ → Kx .next μ σ) → ∀ σ5 tl o, Grow σ4 σ5 → σ5 tl = some o → iterOf o = some ((bs.map LR.toTR).map fun r => .ref r.t) → (∀ r ∈ bs, r.td ≠ tl) → CodeP Γ 9 (.ref 317) [.ref kp, .ref tl] [] σ5 (fun _ σ => Kx .next μ4 σ) (fun _ _ _ => False) := by
                  intro Kx hKx σ5 tl o G5 ht hi hne
                  have tk5 : ∀ r ∈ bs, TaskAt σ5 r.toTR ∧ σ5 r.td = some (.list r.deps) := fun r hr => ⟨(C2.task4 h4' hr).1.grow G5, G5 _ _ (C2.task4 h4' hr).2⟩
                  refine c_set_implicit (n := 7) hK (fun x y z hx hy hz => pct3 hx hy hz) (G5 _ _ k4) (G5 _ _ kp4) C2.I.vals ht hi (D := Dd) ?_ ?_ ?_ ?_ ?_ ?_ ?_ ?_
                  · intro q hq
                    obtain ⟨r, hr, rfl⟩ := List.mem_map.mp hq
                    exact (tk5 r hr).1
                  · intro q hq
                    obtain ⟨r, hr, rfl⟩ := List.mem_map.mp hq
                    rw [hDd r hr]
                    obtain ⟨_, x2, x3, x4, _, x6, x7, _, x9⟩ := C2.I.tk r (C2.in1 hr)
                    exact ⟨(tk5 r hr).2, x9, by rw [sizeLine_eq]; omega⟩
                  · rw [List.map_map]; exact nb1
                  · intro q hq q' hq'
                    obtain ⟨r, hr, rfl⟩ := List.mem_map.mp hq
                    obtain ⟨r', hr', rfl⟩ := List.mem_map.mp hq'
                    exact (C2.I.sep r (C2.in1 hr) r' (C2.in1 hr')).1
                  · intro q hq
                    obtain ⟨r, hr, rfl⟩ := List.mem_map.mp hq
                    exact hne r hr
                  · have := C2.vT; rw [sizeLine_eq]; omega
                  · intro T' msg σ' e
                    rw [← e1] at e; cases e
                  · intro T' e
                    rw [← e1] at e
                    obtain rfl : T1 = T' := (Prod.mk.inj e).1
                    have conv : ((bs.map LR.toTR).map fun r => (r.td, MO.list (takeF T1 r.files (Dd r)))) = bs.map fun r => (r.td, MO.list (takeF T1 r.files r.deps)) := by
                      rw [List.map_map]
                      refine List.map_congr_left fun r hr => ?_
                      simp only [Function.comp, hDd r hr]
                    rw [conv]
                    obtain ⟨recs', If, Bf⟩ := C2.good tv1 tk1 sz1 h4 G5 rfl
                    rw [hμ4]
                    exact hKx _ _ <| hN3 _ _ (hN2 _ _ (hN _ _ ⟨_, _, _, _, _, _, recs', NE', T1, nd, lv, kp, bk, rfl, If, Bf⟩))
                rw [hμ4] at key ⊢
                refine WS_step (fun μ σ => K3 .next μ σ) (fun μ σ h => WS_nil h) ?_
                intro K5 hN5 _
                simp only [W1]
                simp only [W, WL, WK, WT, WTs, WB, WO, bindW, nameW, List.lookup, ofString_beq, ofString_inj, String.reduceBEq, String.reduceEq, String.reduceBNe, String.reduceNe, ML.get, ML.set, List.map_cons, List.map_nil, locals0,
    List.cons_append, List.nil_append, callW_b, callW_t, callW_r, bin_fdiv, bin_mod, bin_mul, bin_add, bin_sub, bin_adds, const_int, const_none, const_bool, const_str, ty_str, ty_range, tr_bool, tr_none, tr_int, cmp_int, Int.zero_add, callOk, plainArg, notSuper, kwNamed, List.all_cons, List.all_nil, List.length_cons, List.length_nil, Bool.and_true, Bool.true_and, Bool.and_self, Bool.not_true, Bool.not_false,
    decide_true, decide_eq_true_eq, beq_self_eq_true, true_and, and_true, if_true, if_false, reduceIte, reduceCtorEq, Option.isSome_some, Option.isSome_none, Nat.reduceAdd, Nat.reduceMul, Nat.reduceLeDiff, Nat.reduceSubDiff, Nat.add_one_sub_one, Nat.zero_lt_succ, Nat.succ_pos, Nat.lt_add_left_iff_pos,
    Bool.false_eq_true, false_and, and_false, behindInMarks, namesOf, Option.map_some, Option.some.injEq, exists_eq_left', exists_eq_left, or_false, false_or, or_self, not_true, not_false_iff, g11, me_cls k4]
                refine ⟨317, s1, ?_⟩
                have hmap : ((bs.map LR.toTR).map fun r => MV.ref r.t) = bs.map fun r => MV.ref r.t := by rw [List.map_map]; rfl
                simp only [WS, W1, W, WL, WK, WT, WTs, WB, WO, bindW, nameW, List.lookup, ofString_beq, ofString_inj, String.reduceBEq, String.reduceEq, String.reduceBNe, String.reduceNe, ML.get, ML.set, List.map_cons, List.map_nil, locals0,
    List.cons_append, List.nil_append, callW_b, callW_t, callW_r, bin_fdiv, bin_mod, bin_mul, bin_add, bin_sub, bin_adds, const_int, const_none, const_bool, const_str, ty_str, ty_range, tr_bool, tr_none, tr_int, cmp_int, Int.zero_add, callOk, plainArg, notSuper, kwNamed, List.all_cons, List.all_nil, List.length_cons, List.length_nil, Bool.and_true, Bool.true_and, Bool.and_self, Bool.not_true, Bool.not_false,
    decide_true, decide_eq_true_eq, beq_self_eq_true, true_and, and_true, if_true, if_false, reduceIte, reduceCtorEq, Option.isSome_some, Option.isSome_none, Nat.reduceAdd, Nat.reduceMul, Nat.reduceLeDiff, Nat.reduceSubDiff, Nat.add_one_sub_one, Nat.zero_lt_succ, Nat.succ_pos, Nat.lt_add_left_iff_pos,
    Bool.false_eq_true, false_and, and_false, behindInMarks, namesOf, Option.map_some, Option.some.injEq, exists_eq_left', exists_eq_left, or_false, false_or, or_self, not_true, not_false_iff, g4]
                refine ⟨by decide, ?_⟩
                by_cases hv2 : (v.fmod 2 != 0) = true
                · simp only [hv2, if_true]
                  simp only [WS, W1, W, WL, WK, WT, WTs, WB, WO, bindW, nameW, List.lookup, ofString_beq, ofString_inj, String.reduceBEq, String.reduceEq, String.reduceBNe, String.reduceNe, ML.get, ML.set, List.map_cons, List.map_nil, locals0,
    List.cons_append, List.nil_append, callW_b, callW_t, callW_r, bin_fdiv, bin_mod, bin_mul, bin_add, bin_sub, bin_adds, const_int, const_none, const_bool, const_str, ty_str, ty_range, tr_bool, tr_none, tr_int, cmp_int, Int.zero_add, callOk, plainArg, notSuper, kwNamed, List.all_cons, List.all_nil, List.length_cons, List.length_nil, Bool.and_true, Bool.true_and, Bool.and_self, Bool.not_true, Bool.not_false,
    decide_true, decide_eq_true_eq, beq_self_eq_true, true_and, and_true, if_true, if_false, reduceIte, reduceCtorEq, Option.isSome_some, Option.isSome_none, Nat.reduceAdd, Nat.reduceMul, Nat.reduceLeDiff, Nat.reduceSubDiff, Nat.add_one_sub_one, Nat.zero_lt_succ, Nat.succ_pos, Nat.lt_add_left_iff_pos,
    Bool.false_eq_true, false_and, and_false, behindInMarks, namesOf, Option.map_some, Option.some.injEq, exists_eq_left', exists_eq_left, or_false, false_or, or_self, not_true, not_false_iff, ty_tuple bl4]
                  refine fun tp htp => ?_
                  refine ⟨p7, key K5 hN5 _ tp (.tuple (bs.map fun r => .ref r.t)) (Grow.refl.new htp) upd_same (by rw [hmap]; rfl) fun r hr => ne_of_new htp (C2.task4 h4' hr).2⟩
                · simp only [hv2]
                  simp only [WS, W1, W, WL, WK, WT, WTs, WB, WO, bindW, nameW, List.lookup, ofString_beq, ofString_inj, String.reduceBEq, String.reduceEq, String.reduceBNe, String.reduceNe, ML.get, ML.set, List.map_cons, List.map_nil, locals0,
    List.cons_append, List.nil_append, callW_b, callW_t, callW_r, bin_fdiv, bin_mod, bin_mul, bin_add, bin_sub, bin_adds, const_int, const_none, const_bool, const_str, ty_str, ty_range, tr_bool, tr_none, tr_int, cmp_int, Int.zero_add, callOk, plainArg, notSuper, kwNamed, List.all_cons, List.all_nil, List.length_cons, List.length_nil, Bool.and_true, Bool.true_and, Bool.and_self, Bool.not_true, Bool.not_false,
    decide_true, decide_eq_true_eq, beq_self_eq_true, true_and, and_true, if_true, if_false, reduceIte, reduceCtorEq, Option.isSome_some, Option.isSome_none, Nat.reduceAdd, Nat.reduceMul, Nat.reduceLeDiff, Nat.reduceSubDiff, Nat.add_one_sub_one, Nat.zero_lt_succ, Nat.succ_pos, Nat.lt_add_left_iff_pos,
    Bool.false_eq_true, false_and, and_false, behindInMarks, namesOf, Option.map_some, Option.some.injEq, exists_eq_left', exists_eq_left, or_false, false_or, or_self, not_true, not_false_iff]
                  refine ⟨p7, key K5 hN5 _ bl _ Grow.refl bl4 (by rw [hmap]; rfl) fun r hr => (C2.sb r (C2.in1 hr)).1⟩
              | false =>
                simp only [Bool.false_eq_true, if_false]
                refine WS_step (fun μ σ => K3 .next μ σ) (fun μ σ h => WS_nil h) ?_
                intro K5 hN5 _
                simp only [W1]
                simp only [W, WL, WK, WT, WTs, WB, WO, bindW, nameW, List.lookup, ofString_beq, ofString_inj, String.reduceBEq, String.reduceEq, String.reduceBNe, String.reduceNe, ML.get, ML.set, List.map_cons, List.map_nil, locals0,
    List.cons_append, List.nil_append, callW_b, callW_t, callW_r, bin_fdiv, bin_mod, bin_mul, bin_add, bin_sub, bin_adds, const_int, const_none, const_bool, const_str, ty_str, ty_range, tr_bool, tr_none, tr_int, cmp_int, Int.zero_add, callOk, plainArg, notSuper, kwNamed, List.all_cons, List.all_nil, List.length_cons, List.length_nil, Bool.and_true, Bool.true_and, Bool.and_self, Bool.not_true, Bool.not_false,
    decide_true, decide_eq_true_eq, beq_self_eq_true, true_and, and_true, if_true, if_false, reduceIte, reduceCtorEq, Option.isSome_some, Option.isSome_none, Nat.reduceAdd, Nat.reduceMul, Nat.reduceLeDiff, Nat.reduceSubDiff, Nat.add_one_sub_one, Nat.zero_lt_succ, Nat.succ_pos, Nat.lt_add_left_iff_pos,
    Bool.false_eq_true, false_and, and_false, behindInMarks, namesOf, Option.map_some, Option.some.injEq, exists_eq_left', exists_eq_left, or_false, false_or, or_self, not_true, not_false_iff, g9]
                refine ⟨p5, ?_⟩
                have bl3 : upd σ2 bk (.dict T1) bl = some (.list (bs.map fun r => .ref r.t)) := by rw [upd_ne (ne_of_mo C2.hbl C2.I.hbk (by simp))]; exact C2.hbl
                have h0' : ∃ done : List LR, (∀ r ∈ done, r ∈ bs) ∧ upd σ2 bk (.dict T1) = updL (upd σ2 bk (.dict T1)) (done.map fun r => (r.nl, .list (takeF T1 r.files r.deps))) := ⟨[], (fun _ h => nomatch h), rfl⟩
                refine c_refused (n := 6) hK (T := T) (T' := T1) (D := Dd) (batch := bs.map LR.toTR) (o := .list (bs.map fun r => .ref r.t)) (C2.kind4 h0' C2.B.k (by simp) (by simp)) (by rw [upd_ne C2.I.d1]; exact C2.I.hkp) C2.I.vals bl3 (by rw [List.map_map]; rfl) ?_ ?_ ?_ ?_ ?_ ?_ e1.symm ?_
                · intro q hq
                  obtain ⟨r, hr, rfl⟩ := List.mem_map.mp hq
                  exact (C2.task4 h0' hr).1
                · intro q hq
                  obtain ⟨r, hr, rfl⟩ := List.mem_map.mp hq
                  rw [hDd r hr]
                  obtain ⟨_, x2, x3, x4, _, x6, x7, _, x9⟩ := C2.I.tk r (C2.in1 hr)
                  exact ⟨(C2.task4 h0' hr).2, x9, by rw [sizeLine_eq]; omega⟩
                · rw [List.map_map]; exact nb1
                · intro q hq q' hq'
                  obtain ⟨r, hr, rfl⟩ := List.mem_map.mp hq
                  obtain ⟨r', hr', rfl⟩ := List.mem_map.mp hq'
                  exact (C2.I.sep r (C2.in1 hr) r' (C2.in1 hr')).1
                · intro q hq
                  obtain ⟨r, hr, rfl⟩ := List.mem_map.mp hq
                  exact (C2.sb r (C2.in1 hr)).1
                · have := C2.vT; rw [sizeLine_eq]; omega
                · intro σF GF
                  obtain ⟨recs', If, Bf⟩ := C2.bad tv1 tk1 sz1 GF
                  simp only [tr_bool, Bool.not_true, Bool.false_eq_true, if_false]
                  have done : K5 .next (muL sc kp bk lv nd (some (.int i)) (some (.int v)) w3 w4 w5 (some (.ref bl)) (some (.bool false)) w8) σF :=
                    hN5 _ _ (hN3 _ _ (hN2 _ _ (hN _ _ ⟨_, _, _, _, _, _, recs', NE', T1, nd, lv, kp, bk, rfl, If, Bf⟩)))
                  first | exact done | exact WS_nil done
            · have hemp : (recs.map fun r => MV.ref r.t).isEmpty = false := by
                cases recs with
                | nil => exact absurd rfl hrecs
                | cons _ _ => rfl
              simp only [hemp, Bool.not_false]
              have hpos : 0 < recs.length := List.length_pos_iff.mpr hrecs
              have hlen : ((recs.map fun r => MV.ref r.t).length : Int) = (recs.length : Int) := by rw [List.length_map]
              have j0 := Int.fmod_nonneg_of_pos (v.fdiv 8) (show 0 < ((recs.map fun r => MV.ref r.t).length : Int) by omega)
              have j1 := Int.fmod_lt_of_pos (v.fdiv 8) (show 0 < ((recs.map fun r => MV.ref r.t).length : Int) by omega)
              obtain ⟨j, hj⟩ := Int.eq_ofNat_of_zero_le j0
              have hjl : j < recs.length := by omega
              simp only [WS, W1, W, WL, WK, WT, WTs, WB, WO, bindW, nameW, List.lookup, ofString_beq, ofString_inj, String.reduceBEq, String.reduceEq, String.reduceBNe, String.reduceNe, ML.get, ML.set, List.map_cons, List.map_nil, locals0,
    List.cons_append, List.nil_append, callW_b, callW_t, callW_r, bin_fdiv, bin_mod, bin_mul, bin_add, bin_sub, bin_adds, const_int, const_none, const_bool, const_str, ty_str, ty_range, tr_bool, tr_none, tr_int, cmp_int, Int.zero_add, callOk, plainArg, notSuper, kwNamed, List.all_cons, List.all_nil, List.length_cons, List.length_nil, Bool.and_true, Bool.true_and, Bool.and_self, Bool.not_true, Bool.not_false,
    decide_true, decide_eq_true_eq, beq_self_eq_true, true_and, and_true, if_true, if_false, reduceIte, reduceCtorEq, Option.isSome_some, Option.isSome_none, Nat.reduceAdd, Nat.reduceMul, Nat.reduceLeDiff, Nat.reduceSubDiff, Nat.add_one_sub_one, Nat.zero_lt_succ, Nat.succ_pos, Nat.lt_add_left_iff_pos,
    Bool.false_eq_true, false_and, and_false, behindInMarks, namesOf, Option.map_some, Option.some.injEq, exists_eq_left', exists_eq_left, or_false, false_or, or_self, not_true, not_false_iff, g2, g3, g6, g8, g11, bw_len I.hlv]
              refine ⟨by decide, by decide, by omega, ?_⟩
              simp only [it_list I.hlv]
              rw [hj]
              obtain ⟨r, hrj⟩ : ∃ r, r = recs[j] := ⟨_, rfl⟩
              have hrm : r ∈ recs := by rw [hrj]; exact List.getElem_mem hjl
              obtain ⟨A, td0, nl0, ne0, hnm, dl0, fl0, ol0, ds0⟩ := I.tk r hrm
              refine ⟨by omega, by omega, .ref r.t, by simp [hjl, hrj], by decide, by decide, p2, ?_⟩
              refine c_names (n := 8) hK (Int.fdiv_nonneg hv (by decide)) (by decide) (by decide) fun σ3 fl xs G3 z3 e3 ln ok => ?_
              have I3 := I.grow G3
              have B3 := B.grow G3
              have A3 := A.grow G3
              simp only [at_get A3.i A3.n r1 A3.gf rfl, ty_list A3.f]
              refine fun bf hbf => ?_
              have G4 : Grow σ3 (upd σ3 bf (.list (sLst r.files))) := Grow.refl.new hbf
              have I4 := I3.grow G4
              have B4 := B3.grow G4
              have A4 := A3.grow G4
              have fl4 := G4 _ _ e3
              have nlfl : r.nl ≠ fl := ne_of_new z3 nl0
              have tdfl : r.td ≠ fl := ne_of_new z3 td0
              have td4 := (I4.tk r hrm).2.1
              have nl4 := (I4.tk r hrm).2.2.1
              have nltd : r.nl ≠ r.td := by
                intro e
                have nd := I.mutn
                rw [List.nodup_append] at nd
                exact nd.2.2 _ (List.mem_map.mpr ⟨r, hrm, rfl⟩) _ (List.mem_map.mpr ⟨r, hrm, rfl⟩) e.symm
              have vT : ∀ q ∈ T, ∃ x, q.2 = MV.str x := fun q hq => by obtain ⟨x, hx, _⟩ := I.vals q hq; exact ⟨x, hx⟩
              have szb : r.deps.length + xs.length ≤ sizeLine := by rw [sizeLine_eq]; simp at ln; omega
              refine ⟨p4, c_take (n := 8) hK I4.hbk A4.i A4.n A4.nm I4.hnd ne0 nl4 fl4 nlfl vT ds0 szb ?_⟩
              obtain ⟨Dn, hDn⟩ : ∃ D, D = takeF T xs r.deps := ⟨_, rfl⟩
              rw [← hDn]
              have k5 : upd (upd σ3 bf (.list (sLst r.files))) r.nl (.list Dn) 368 = some .kob := by rw [upd_ne (ne_of_mo B4.k nl4 (by simp))]; exact B4.k
              simp only [me_cls k5]
              refine ⟨327, s2, ?_⟩
              simp only [WS, W1, W, WL, WK, WT, WTs, WB, WO, bindW, nameW, List.lookup, ofString_beq, ofString_inj, String.reduceBEq, String.reduceEq, String.reduceBNe, String.reduceNe, ML.get, ML.set, List.map_cons, List.map_nil, locals0,
    List.cons_append, List.nil_append, callW_b, callW_t, callW_r, bin_fdiv, bin_mod, bin_mul, bin_add, bin_sub, bin_adds, const_int, const_none, const_bool, const_str, ty_str, ty_range, tr_bool, tr_none, tr_int, cmp_int, Int.zero_add, callOk, plainArg, notSuper, kwNamed, List.all_cons, List.all_nil, List.length_cons, List.length_nil, Bool.and_true, Bool.true_and, Bool.and_self, Bool.not_true, Bool.not_false,
    decide_true, decide_eq_true_eq, beq_self_eq_true, true_and, and_true, if_true, if_false, reduceIte, reduceCtorEq, Option.isSome_some, Option.isSome_none, Nat.reduceAdd, Nat.reduceMul, Nat.reduceLeDiff, Nat.reduceSubDiff, Nat.add_one_sub_one, Nat.zero_lt_succ, Nat.succ_pos, Nat.lt_add_left_iff_pos,
    Bool.false_eq_true, false_and, and_false, behindInMarks, namesOf, Option.map_some, Option.some.injEq, exists_eq_left', exists_eq_left, or_false, false_or, or_self, not_true, not_false_iff]
              refine ⟨p8, c_add_implicit (n := 8) hK (by rw [upd_ne (ne_of_mo I4.hkp nl4 (by simp))]; exact I4.hkp) (by rw [upd_ne (ne_of_mo A4.i nl4 (by simp))]; exact A4.i) (by rw [upd_ne (ne_of_mo A4.n nl4 (by simp))]; exact A4.n) A4.gd (by rw [upd_ne (Ne.symm nltd)]; exact td4) (by rw [upd_ne (Ne.symm nlfl)]; exact fl4) tdfl vT ds0 szb ?_⟩
              rw [← hDn]
              have td5 : upd (upd σ3 bf (.list (sLst r.files))) r.nl (.list Dn) r.td = some (.list r.deps) := by rw [upd_ne (Ne.symm nltd)]; exact td4
              have keep6 : ∀ a o, upd σ3 bf (.list (sLst r.files)) a = some o → a ≠ r.td → a ≠ r.nl → upd (upd (upd σ3 bf (.list (sLst r.files))) r.nl (.list Dn)) r.td (.list Dn) a = some o := fun a o e q1 q2 => by rw [upd_ne q1, upd_ne q2]; exact e
              have kn6 : ∀ a o, upd σ3 bf (.list (sLst r.files)) a = some o → (∀ ys, o ≠ .list ys) → upd (upd (upd σ3 bf (.list (sLst r.files))) r.nl (.list Dn)) r.td (.list Dn) a = some o := fun a o e q => keep6 a o e (ne_of_mo e td4 (q _)) (ne_of_mo e nl4 (q _))
              have A6i := kn6 _ _ A4.i (by simp)
              have A6n := kn6 _ _ A4.n (by simp)
              have sepr := I.sep r hrm r hrm
              have A6f := keep6 _ _ A4.f (Ne.symm sepr.1) (Ne.symm sepr.2.2.1)
              have bf6 := keep6 bf _ upd_same (fun e => by rw [e, (I3.tk r hrm).2.1] at hbf; cases hbf) (fun e => by rw [e, (I3.tk r hrm).2.2.1] at hbf; cases hbf)
              simp only [at_get A6i A6n r1 A4.gf rfl]
              refine cm_same A6f bf6 (fun q hq => by obtain ⟨y, _, rfl⟩ := List.mem_map.mp hq; rfl) ?_
              simp only [Bool.false_eq_true, if_false]
              obtain ⟨ap1, ap2, ap3⟩ := I.apart
              obtain ⟨tf1, tf2⟩ := takeF_facts I.vals xs r.deps ds0
              rw [← hDn] at tf1 tf2
              have ln' : xs.length < 4 := by simpa using ln
              have Fin := I4.fin (σ' := upd (upd (upd σ3 bf (.list (sLst r.files))) r.nl (.list Dn)) r.td (.list Dn)) (rd' := i + 1) (T' := T) (fun x => if x.td = r.td then Dn else x.deps) (Nat.le_succ _) (fun x hx => by
                by_cases hxr : x.td = r.td
                · have : x = r := nodup_inj ap1 hx hrm hxr
                  subst this
                  simp only [if_true]
                  exact ⟨upd_same, by rw [upd_ne nltd]; exact upd_same, tf1, by omega⟩
                · simp only [if_neg hxr]
                  obtain ⟨_, x2, x3, _, _, x6, _, _, x9⟩ := I4.tk x hx
                  have hne : x ≠ r := fun e => hxr (by rw [e])
                  exact ⟨keep6 _ _ x2 hxr (ap3 x hx r hrm), keep6 _ _ x3 (Ne.symm (ap3 r hrm x hx)) (fun e => hne (nodup_inj ap2 hx hrm e)), x9, by omega⟩)
                (fun a o e q _ _ => keep6 a o e (q r hrm).1 (q r hrm).2) (kn6 _ _ I4.hkp (by simp)) (kn6 _ _ I4.hbk (by simp)) I.vals I.kT (by have := I.lT; omega)
              refine hN2 _ _ (hN _ _ ⟨_, _, _, _, _, _, _, NE, T, nd, lv, kp, bk, rfl, Fin, ?_⟩)
              refine ⟨keep6 _ _ B4.s (Ne.symm (B.m r hrm).1) (Ne.symm (B.m r hrm).2), kn6 _ _ B4.a (by simp), kn6 _ _ B4.b (by simp), kn6 _ _ B4.c (by simp), kn6 _ _ B4.k (by simp), kn6 _ _ B4.r (by simp), fun x hx => ?_, B.l⟩
              obtain ⟨y, hy, rfl⟩ := List.mem_map.mp hx
              exact B.m y hy
          · simp only [h5, decide_false]
            refine ⟨by decide, ?_⟩
            refine WS_step (fun μ σ => ∃ bl bs NE' cnt, cnt ≤ 3 ∧ Bat σ' σ bs NE NE' nd bl i cnt ∧ μ = muL sc kp bk lv nd (some (.int i)) (some (.int v)) w3 w4 w5 (some (.ref bl)) w7 w8) ?_ ?_
            rotate_left
            · intro K3 hN3 _
              simp only [W1]
              simp only [W, WL, WK, WT, WTs, WB, WO, bindW, nameW, List.lookup, ofString_beq, ofString_inj, String.reduceBEq, String.reduceEq, String.reduceBNe, String.reduceNe, ML.get, ML.set, List.map_cons, List.map_nil, locals0,
    List.cons_append, List.nil_append, callW_b, callW_t, callW_r, bin_fdiv, bin_mod, bin_mul, bin_add, bin_sub, bin_adds, const_int, const_none, const_bool, const_str, ty_str, ty_range, tr_bool, tr_none, tr_int, cmp_int, Int.zero_add, callOk, plainArg, notSuper, kwNamed, List.all_cons, List.all_nil, List.length_cons, List.length_nil, Bool.and_true, Bool.true_and, Bool.and_self, Bool.not_true, Bool.not_false,
    decide_true, decide_eq_true_eq, beq_self_eq_true, true_and, and_true, if_true, if_false, reduceIte, reduceCtorEq, Option.isSome_some, Option.isSome_none, Nat.reduceAdd, Nat.reduceMul, Nat.reduceLeDiff, Nat.reduceSubDiff, Nat.add_one_sub_one, Nat.zero_lt_succ, Nat.succ_pos, Nat.lt_add_left_iff_pos,
    Bool.false_eq_true, false_and, and_false, behindInMarks, namesOf, Option.map_some, Option.some.injEq, exists_eq_left', exists_eq_left, or_false, false_or, or_self, not_true, not_false_iff, g7]
              exact ⟨p3, c_batch (n := 4) hK hv hi20 I B.a B.b B.c fun σB bl bs NE' cnt hcnt Bt => hN3 _ _ ⟨bl, bs, NE', cnt, hcnt, Bt, rfl⟩⟩
            rintro μ2 σB ⟨bl, bs, NE', cnt, hcnt, Bt, hμ2⟩
            rw [hμ2]
            clear hμ2
            refine WS_step (fun μ σ => CS σ recs bs NE' T nd lv kp bk bl i sc rg ns ∧ μ = muL sc kp bk lv nd (some (.int i)) (some (.int v)) w3 w4 w5 (some (.ref bl)) w7 w8) ?_ ?_
            rotate_left
            · intro K3 hN3 _
              have lvB := Bt.up I.hlv (ne_of_mo I.hlv I.hnd (by simp))
              have lvbl : lv ≠ bl := ne_of_new Bt.b0 I.hlv
              simp only [W1]
              simp only [W, WL, WK, WT, WTs, WB, WO, bindW, nameW, List.lookup, ofString_beq, ofString_inj, String.reduceBEq, String.reduceEq, String.reduceBNe, String.reduceNe, ML.get, ML.set, List.map_cons, List.map_nil, locals0,
    List.cons_append, List.nil_append, callW_b, callW_t, callW_r, bin_fdiv, bin_mod, bin_mul, bin_add, bin_sub, bin_adds, const_int, const_none, const_bool, const_str, ty_str, ty_range, tr_bool, tr_none, tr_int, cmp_int, Int.zero_add, callOk, plainArg, notSuper, kwNamed, List.all_cons, List.all_nil, List.length_cons, List.length_nil, Bool.and_true, Bool.true_and, Bool.and_self, Bool.not_true, Bool.not_false,
    decide_true, decide_eq_true_eq, beq_self_eq_true, true_and, and_true, if_true, if_false, reduceIte, reduceCtorEq, Option.isSome_some, Option.isSome_none, Nat.reduceAdd, Nat.reduceMul, Nat.reduceLeDiff, Nat.reduceSubDiff, Nat.add_one_sub_one, Nat.zero_lt_succ, Nat.succ_pos, Nat.lt_add_left_iff_pos,
    Bool.false_eq_true, false_and, and_false, behindInMarks, namesOf, Option.map_some, Option.some.injEq, exists_eq_left', exists_eq_left, or_false, false_or, or_self, not_true, not_false_iff, me_ext lvB, bw_ext lvB Bt.hbl]
              refine ⟨lvbl, by rw [sizeLine_eq, List.length_map, List.length_map]; have := I.lR; have := Bt.lb; omega, ?_⟩
              rw [← List.map_append]
              exact hN3 _ _ ⟨CS.of I B Bt hi20 hcnt, rfl⟩
            rintro μ2 σ2 ⟨C2, hμ2⟩
            rw [hμ2]
            clear hμ2
            refine WS_step (fun μ σ => σ = σ2 ∧ μ = muL sc kp bk lv nd (some (.int i)) (some (.int v)) w3 w4 w5 (some (.ref bl)) (some (.bool true)) w8) ?_ ?_
            rotate_left
            · intro K3 hN3 _
              simp only [WS, W1, W, WL, WK, WT, WTs, WB, WO, bindW, nameW, List.lookup, ofString_beq, ofString_inj, String.reduceBEq, String.reduceEq, String.reduceBNe, String.reduceNe, ML.get, ML.set, List.map_cons, List.map_nil, locals0,
    List.cons_append, List.nil_append, callW_b, callW_t, callW_r, bin_fdiv, bin_mod, bin_mul, bin_add, bin_sub, bin_adds, const_int, const_none, const_bool, const_str, ty_str, ty_range, tr_bool, tr_none, tr_int, cmp_int, Int.zero_add, callOk, plainArg, notSuper, kwNamed, List.all_cons, List.all_nil, List.length_cons, List.length_nil, Bool.and_true, Bool.true_and, Bool.and_self, Bool.not_true, Bool.not_false,
    decide_true, decide_eq_true_eq, beq_self_eq_true, true_and, and_true, if_true, if_false, reduceIte, reduceCtorEq, Option.isSome_some, Option.isSome_none, Nat.reduceAdd, Nat.reduceMul, Nat.reduceLeDiff, Nat.reduceSubDiff, Nat.add_one_sub_one, Nat.zero_lt_succ, Nat.succ_pos, Nat.lt_add_left_iff_pos,
    Bool.false_eq_true, false_and, and_false, behindInMarks, namesOf, Option.map_some, Option.some.injEq, exists_eq_left', exists_eq_left, or_false, false_or, or_self, not_true, not_false_iff]
              exact hN3 _ _ ⟨rfl, rfl⟩
            rintro μ2 σ2' ⟨hσ2, hμ2⟩
            rw [hσ2, hμ2]
            clear hσ2 hμ2
            refine WS_step (fun μ σ => ∃ w3 w8 T1 g, (T1, g) = addAll T (bs.map LR.toTR) ∧ σ = upd σ2 bk (.dict T1) ∧ μ = muL sc kp bk lv nd (some (.int i)) (some (.int v)) w3 w4 w5 (some (.ref bl)) (some (.bool g)) w8) ?_ ?_
            rotate_left
            · intro K3 hN3 _
              simp only [W1]
              simp only [W, WL, WK, WT, WTs, WB, WO, bindW, nameW, List.lookup, ofString_beq, ofString_inj, String.reduceBEq, String.reduceEq, String.reduceBNe, String.reduceNe, ML.get, ML.set, List.map_cons, List.map_nil, locals0,
    List.cons_append, List.nil_append, callW_b, callW_t, callW_r, bin_fdiv, bin_mod, bin_mul, bin_add, bin_sub, bin_adds, const_int, const_none, const_bool, const_str, ty_str, ty_range, tr_bool, tr_none, tr_int, cmp_int, Int.zero_add, callOk, plainArg, notSuper, kwNamed, List.all_cons, List.all_nil, List.length_cons, List.length_nil, Bool.and_true, Bool.true_and, Bool.and_self, Bool.not_true, Bool.not_false,
    decide_true, decide_eq_true_eq, beq_self_eq_true, true_and, and_true, if_true, if_false, reduceIte, reduceCtorEq, Option.isSome_some, Option.isSome_none, Nat.reduceAdd, Nat.reduceMul, Nat.reduceLeDiff, Nat.reduceSubDiff, Nat.add_one_sub_one, Nat.zero_lt_succ, Nat.succ_pos, Nat.lt_add_left_iff_pos,
    Bool.false_eq_true, false_and, and_false, behindInMarks, namesOf, Option.map_some, Option.some.injEq, exists_eq_left', exists_eq_left, or_false, false_or, or_self, not_true, not_false_iff]
              refine ⟨bl, _, _, rfl, C2.hbl, rfl, ?_⟩
              refine forW_list (fun r : LR => .ref r.t) (fun rest μ σ => ∃ w3 w8 T1 g, μ = muL sc kp bk lv nd (some (.int i)) (some (.int v)) w3 w4 w5 (some (.ref bl)) (some (.bool g)) w8 ∧ σ = upd σ2 bk (.dict T1) ∧ AA g T1 rest = addAll T (bs.map LR.toTR) ∧ (∀ r ∈ rest, r ∈ bs) ∧ T1.length + 2 * rest.length ≤ 1000) ?_ ?_ bs _ _
                ⟨w3, w8, T, true, rfl, (upd_id C2.I.hbk).symm, rfl, fun _ h => h, by have := I.lT; have := Bt.lb; omega⟩
              · rintro μ σ ⟨w3, w8, T1, g, rfl, rfl, e, _⟩
                refine ⟨by rw [upd_ne (ne_of_mo C2.hbl C2.I.hbk (by simp))]; exact C2.hbl, hN3 _ _ ⟨_, _, T1, g, ?_, rfl, rfl⟩⟩
                rw [← e]; cases g <;> rfl
              · rintro r rest μ σ Kf4 ⟨w3, w8, T0, g0, rfl, rfl, e, hin, hlen⟩ kn4 _ _ _
                have hrb := hin r (.head _)
                have A := (C2.I.tk r (List.mem_append_right _ hrb)).1.upd (T' := T0) C2.I.hbk
                have ol := (C2.I.tk r (List.mem_append_right _ hrb)).2.2.2.2.2.2.2.1
                rw [List.length_cons] at hlen
                refine ⟨by rw [upd_ne (ne_of_mo C2.hbl C2.I.hbk (by simp))]; exact C2.hbl, ?_⟩
                simp only [WS, W1, W, WL, WK, WT, WTs, WB, WO, bindW, nameW, List.lookup, ofString_beq, ofString_inj, String.reduceBEq, String.reduceEq, String.reduceBNe, String.reduceNe, ML.get, ML.set, List.map_cons, List.map_nil, locals0,
    List.cons_append, List.nil_append, callW_b, callW_t, callW_r, bin_fdiv, bin_mod, bin_mul, bin_add, bin_sub, bin_adds, const_int, const_none, const_bool, const_str, ty_str, ty_range, tr_bool, tr_none, tr_int, cmp_int, Int.zero_add, callOk, plainArg, notSuper, kwNamed, List.all_cons, List.all_nil, List.length_cons, List.length_nil, Bool.and_true, Bool.true_and, Bool.and_self, Bool.not_true, Bool.not_false,
    decide_true, decide_eq_true_eq, beq_self_eq_true, true_and, and_true, if_true, if_false, reduceIte, reduceCtorEq, Option.isSome_some, Option.isSome_none, Nat.reduceAdd, Nat.reduceMul, Nat.reduceLeDiff, Nat.reduceSubDiff, Nat.add_one_sub_one, Nat.zero_lt_succ, Nat.succ_pos, Nat.lt_add_left_iff_pos,
    Bool.false_eq_true, false_and, and_false, behindInMarks, namesOf, Option.map_some, Option.some.injEq, exists_eq_left', exists_eq_left, or_false, false_or, or_self, not_true, not_false_iff, at_get A.i A.n r3 A.gt rfl]
                refine ⟨r.tg, _, _, rfl, A.o, rfl, ?_⟩
                refine forW_list .str (fun fs μ σ => ∃ w8 T1 g, μ = muL sc kp bk lv nd (some (.int i)) (some (.int v)) (some (.ref r.t)) w4 w5 (some (.ref bl)) (some (.bool g)) w8 ∧ σ = upd σ2 bk (.dict T1) ∧ AO r.name g T1 fs = AO r.name g0 T0 r.outs ∧ T1.length + fs.length + 2 * rest.length ≤ 1000) ?_ ?_ r.outs _ _ ⟨w8, T0, g0, rfl, rfl, rfl, by omega⟩
                · rintro μ σ ⟨w8, T1, g, rfl, rfl, e2, hl2⟩
                  have A1 := (C2.I.tk r (List.mem_append_right _ hrb)).1.upd (T' := T1) C2.I.hbk
                  refine ⟨A1.o, kn4 _ _ ⟨_, _, T1, g, rfl, rfl, ?_, fun x h => hin x (.tail _ h), by simpa using hl2⟩⟩
                  rw [← e]
                  exact AA_step e2
                · rintro f fs μ σ Kf5 ⟨w8, T1, g, rfl, rfl, e2, hl2⟩ kn5 _ _ _
                  have A1 := (C2.I.tk r (List.mem_append_right _ hrb)).1.upd (T' := T1) C2.I.hbk
                  rw [List.length_cons] at hl2
                  refine ⟨A1.o, ?_⟩
                  have bk1 : upd σ2 bk (.dict T1) bk = some (.dict T1) := upd_same
                  cases g with
                  | false =>
                    simp only [WS, W1, W, WL, WK, WT, WTs, WB, WO, bindW, nameW, List.lookup, ofString_beq, ofString_inj, String.reduceBEq, String.reduceEq, String.reduceBNe, String.reduceNe, ML.get, ML.set, List.map_cons, List.map_nil, locals0,
    List.cons_append, List.nil_append, callW_b, callW_t, callW_r, bin_fdiv, bin_mod, bin_mul, bin_add, bin_sub, bin_adds, const_int, const_none, const_bool, const_str, ty_str, ty_range, tr_bool, tr_none, tr_int, cmp_int, Int.zero_add, callOk, plainArg, notSuper, kwNamed, List.all_cons, List.all_nil, List.length_cons, List.length_nil, Bool.and_true, Bool.true_and, Bool.and_self, Bool.not_true, Bool.not_false,
    decide_true, decide_eq_true_eq, beq_self_eq_true, true_and, and_true, if_true, if_false, reduceIte, reduceCtorEq, Option.isSome_some, Option.isSome_none, Nat.reduceAdd, Nat.reduceMul, Nat.reduceLeDiff, Nat.reduceSubDiff, Nat.add_one_sub_one, Nat.zero_lt_succ, Nat.succ_pos, Nat.lt_add_left_iff_pos,
    Bool.false_eq_true, false_and, and_false, behindInMarks, namesOf, Option.map_some, Option.some.injEq, exists_eq_left', exists_eq_left, or_false, false_or, or_self, not_true, not_false_iff]
                    exact kn5 _ _ ⟨_, T1, false, rfl, rfl, by rw [← e2]; rfl, by omega⟩
                  | true =>
                    cases hf : dget T1 f with
                    | none =>
                      simp only [WS, W1, W, WL, WK, WT, WTs, WB, WO, bindW, nameW, List.lookup, ofString_beq, ofString_inj, String.reduceBEq, String.reduceEq, String.reduceBNe, String.reduceNe, ML.get, ML.set, List.map_cons, List.map_nil, locals0,
    List.cons_append, List.nil_append, callW_b, callW_t, callW_r, bin_fdiv, bin_mod, bin_mul, bin_add, bin_sub, bin_adds, const_int, const_none, const_bool, const_str, ty_str, ty_range, tr_bool, tr_none, tr_int, cmp_int, Int.zero_add, callOk, plainArg, notSuper, kwNamed, List.all_cons, List.all_nil, List.length_cons, List.length_nil, Bool.and_true, Bool.true_and, Bool.and_self, Bool.not_true, Bool.not_false,
    decide_true, decide_eq_true_eq, beq_self_eq_true, true_and, and_true, if_true, if_false, reduceIte, reduceCtorEq, Option.isSome_some, Option.isSome_none, Nat.reduceAdd, Nat.reduceMul, Nat.reduceLeDiff, Nat.reduceSubDiff, Nat.add_one_sub_one, Nat.zero_lt_succ, Nat.succ_pos, Nat.lt_add_left_iff_pos,
    Bool.false_eq_true, false_and, and_false, behindInMarks, namesOf, Option.map_some, Option.some.injEq, exists_eq_left', exists_eq_left, or_false, false_or, or_self, not_true, not_false_iff, cmpW, bk1, hf]
                      simp only [WS, W1, W, WL, WK, WT, WTs, WB, WO, bindW, nameW, List.lookup, ofString_beq, ofString_inj, String.reduceBEq, String.reduceEq, String.reduceBNe, String.reduceNe, ML.get, ML.set, List.map_cons, List.map_nil, locals0,
    List.cons_append, List.nil_append, callW_b, callW_t, callW_r, bin_fdiv, bin_mod, bin_mul, bin_add, bin_sub, bin_adds, const_int, const_none, const_bool, const_str, ty_str, ty_range, tr_bool, tr_none, tr_int, cmp_int, Int.zero_add, callOk, plainArg, notSuper, kwNamed, List.all_cons, List.all_nil, List.length_cons, List.length_nil, Bool.and_true, Bool.true_and, Bool.and_self, Bool.not_true, Bool.not_false,
    decide_true, decide_eq_true_eq, beq_self_eq_true, true_and, and_true, if_true, if_false, reduceIte, reduceCtorEq, Option.isSome_some, Option.isSome_none, Nat.reduceAdd, Nat.reduceMul, Nat.reduceLeDiff, Nat.reduceSubDiff, Nat.add_one_sub_one, Nat.zero_lt_succ, Nat.succ_pos, Nat.lt_add_left_iff_pos,
    Bool.false_eq_true, false_and, and_false, behindInMarks, namesOf, Option.map_some, Option.some.injEq, exists_eq_left', exists_eq_left, or_false, false_or, or_self, not_true, not_false_iff, at_get A1.i A1.n r2 A1.nm rfl, si_dict bk1, upd_upd]
                      refine ⟨by rw [sizeLine_eq]; omega, kn5 _ _ ⟨_, _, true, rfl, rfl, ?_, ?_⟩⟩
                      · rw [← e2]; unfold AO; simp only [if_true]; rw [addOuts_cons, hf]; rfl
                      · have := dput_length (es := T1) (k := f) (v := MV.str r.name); omega
                    | some m =>
                      simp only [WS, W1, W, WL, WK, WT, WTs, WB, WO, bindW, nameW, List.lookup, ofString_beq, ofString_inj, String.reduceBEq, String.reduceEq, String.reduceBNe, String.reduceNe, ML.get, ML.set, List.map_cons, List.map_nil, locals0,
    List.cons_append, List.nil_append, callW_b, callW_t, callW_r, bin_fdiv, bin_mod, bin_mul, bin_add, bin_sub, bin_adds, const_int, const_none, const_bool, const_str, ty_str, ty_range, tr_bool, tr_none, tr_int, cmp_int, Int.zero_add, callOk, plainArg, notSuper, kwNamed, List.all_cons, List.all_nil, List.length_cons, List.length_nil, Bool.and_true, Bool.true_and, Bool.and_self, Bool.not_true, Bool.not_false,
    decide_true, decide_eq_true_eq, beq_self_eq_true, true_and, and_true, if_true, if_false, reduceIte, reduceCtorEq, Option.isSome_some, Option.isSome_none, Nat.reduceAdd, Nat.reduceMul, Nat.reduceLeDiff, Nat.reduceSubDiff, Nat.add_one_sub_one, Nat.zero_lt_succ, Nat.succ_pos, Nat.lt_add_left_iff_pos,
    Bool.false_eq_true, false_and, and_false, behindInMarks, namesOf, Option.map_some, Option.some.injEq, exists_eq_left', exists_eq_left, or_false, false_or, or_self, not_true, not_false_iff, cmpW, bk1, hf]
                      refine kn5 _ _ ⟨_, T1, false, rfl, rfl, ?_, by omega⟩
                      rw [← e2]; unfold AO; simp only [if_true]; rw [addOuts_cons, hf]; rfl
            rintro μ2 σ3 ⟨w3, w8, T1, g, e1, hσ3, hμ2⟩
            rw [hσ3, hμ2]
            clear hσ3 hμ2
            have tf := addAll_facts (bs.map LR.toTR) T (fun q hq => by
              obtain ⟨r, hr, rfl⟩ := List.mem_map.mp hq
              have := C2.I.tk r (C2.in1 hr)
              exact ⟨this.1.okn, this.2.2.2.2.2.2.2.1⟩) C2.I.vals C2.I.kT
            rw [← e1, List.length_map] at tf
            obtain ⟨tv1, tk1, tl1⟩ := tf
            have sz1 : T1.length ≤ 6 * (i + 1) := by have := C2.vT; have := C2.len; simp only at tl1; omega
            have vT1 : ∀ q ∈ T1, ∃ x, q.2 = MV.str x := fun q hq => by obtain ⟨x, hx, _⟩ := tv1 q hq; exact ⟨x, hx⟩
            obtain ⟨nb1, nb2⟩ := C2.ndb
            obtain ⟨Dd, hDd⟩ : ∃ Dd : TR → List MV, ∀ r ∈ bs, Dd r.toTR = r.deps := by
              refine ⟨fun q => ((bs.find? fun r => r.td = q.td).map (·.deps)).getD [], fun r hr => ?_⟩
              have : bs.find? (fun x => decide (x.td = r.td)) = some r := by
                cases hq : bs.find? (fun x => decide (x.td = r.td)) with
                | none => exact absurd (List.find?_eq_none.mp hq r hr) (by simp)
                | some y =>
                  have h1 := List.mem_of_find?_eq_some hq
                  have h2 := List.find?_some hq
                  rw [nodup_inj nb1 h1 hr (by simpa using h2)]
              simp only [this, Option.map_some, Option.getD_some]
            have oS : ((bs.map LR.toTR).map fun r => r.outs.length).sum ≤ 6 := by
              have h3 := C2.len
              have h4 : ∀ r ∈ bs, r.outs.length ≤ 2 := fun r hr => (C2.I.tk r (C2.in1 hr)).2.2.2.2.2.2.2.1
              have : ∀ l : List LR, (∀ r ∈ l, r.outs.length ≤ 2) → ((l.map LR.toTR).map fun r => r.outs.length).sum ≤ 2 * l.length := by
                intro l
                induction l with
                | nil => intro _; simp
                | cons a l ih =>
                  intro h
                  have h1 := ih fun r hr => h r (.tail _ hr)
                  have h2 := h a (.head _)
                  simp only [List.map_cons, List.sum_cons, List.length_cons]
                  omega
              have := this bs h4
              omega
            refine WS_step (fun μ σ => K2 .next μ σ) (fun μ σ h => WS_nil h) ?_
            intro K3 hN3 _
            simp only [W1]
            simp only [W, WL, WK, WT, WTs, WB, WO, bindW, nameW, List.lookup, ofString_beq, ofString_inj, String.reduceBEq, String.reduceEq, String.reduceBNe, String.reduceNe, ML.get, ML.set, List.map_cons, List.map_nil, locals0,
    List.cons_append, List.nil_append, callW_b, callW_t, callW_r, bin_fdiv, bin_mod, bin_mul, bin_add, bin_sub, bin_adds, const_int, const_none, const_bool, const_str, ty_str, ty_range, tr_bool, tr_none, tr_int, cmp_int, Int.zero_add, callOk, plainArg, notSuper, kwNamed, List.all_cons, List.all_nil, List.length_cons, List.length_nil, Bool.and_true, Bool.true_and, Bool.and_self, Bool.not_true, Bool.not_false,
    decide_true, decide_eq_true_eq, beq_self_eq_true, true_and, and_true, if_true, if_false, reduceIte, reduceCtorEq, Option.isSome_some, Option.isSome_none, Nat.reduceAdd, Nat.reduceMul, Nat.reduceLeDiff, Nat.reduceSubDiff, Nat.add_one_sub_one, Nat.zero_lt_succ, Nat.succ_pos, Nat.lt_add_left_iff_pos,
    Bool.false_eq_true, false_and, and_false, behindInMarks, namesOf, Option.map_some, Option.some.injEq, exists_eq_left', exists_eq_left, or_false, false_or, or_self, not_true, not_false_iff, tr_bool]
            cases g with
            | true =>
              simp only [if_true]
              refine WS_step (fun μ σ => ∃ w3, σ = updL (upd σ2 bk (.dict T1)) (bs.map fun r => (r.nl, .list (takeF T1 r.files r.deps))) ∧ μ = muL sc kp bk lv nd (some (.int i)) (some (.int v)) w3 w4 w5 (some (.ref bl)) (some (.bool true)) w8) ?_ ?_
              rotate_left
              · intro K4 hN4 _
                simp only [W1]
                simp only [W, WL, WK, WT, WTs, WB, WO, bindW, nameW, List.lookup, ofString_beq, ofString_inj, String.reduceBEq, String.reduceEq, String.reduceBNe, String.reduceNe, ML.get, ML.set, List.map_cons, List.map_nil, locals0,
    List.cons_append, List.nil_append, callW_b, callW_t, callW_r, bin_fdiv, bin_mod, bin_mul, bin_add, bin_sub, bin_adds, const_int, const_none, const_bool, const_str, ty_str, ty_range, tr_bool, tr_none, tr_int, cmp_int, Int.zero_add, callOk, plainArg, notSuper, kwNamed, List.all_cons, List.all_nil, List.length_cons, List.length_nil, Bool.and_true, Bool.true_and, Bool.and_self, Bool.not_true, Bool.not_false,
    decide_true, decide_eq_true_eq, beq_self_eq_true, true_and, and_true, if_true, if_false, reduceIte, reduceCtorEq, Option.isSome_some, Option.isSome_none, Nat.reduceAdd, Nat.reduceMul, Nat.reduceLeDiff, Nat.reduceSubDiff, Nat.add_one_sub_one, Nat.zero_lt_succ, Nat.succ_pos, Nat.lt_add_left_iff_pos,
    Bool.false_eq_true, false_and, and_false, behindInMarks, namesOf, Option.map_some, Option.some.injEq, exists_eq_left', exists_eq_left, or_false, false_or, or_self, not_true, not_false_iff]
                have bl3 : upd σ2 bk (.dict T1) bl = some (.list (bs.map fun r => .ref r.t)) := by rw [upd_ne (ne_of_mo C2.hbl C2.I.hbk (by simp))]; exact C2.hbl
                refine ⟨bl, _, _, rfl, bl3, rfl, ?_⟩
                refine forW_list (fun r : LR => .ref r.t) (fun rest μ σ => ∃ w3 done, done ++ rest = bs ∧ σ = updL (upd σ2 bk (.dict T1)) (done.map fun r => (r.nl, .list (takeF T1 r.files r.deps))) ∧ μ = muL sc kp bk lv nd (some (.int i)) (some (.int v)) w3 w4 w5 (some (.ref bl)) (some (.bool true)) w8) ?_ ?_ bs _ _ ⟨w3, [], rfl, rfl, rfl⟩
                · rintro μ σ ⟨w3, done, hd, rfl, rfl⟩
                  rw [List.append_nil] at hd; subst hd
                  exact ⟨C2.off4 ⟨done, fun _ h => h, rfl⟩ C2.hbl (ne_of_mo C2.hbl C2.I.hbk (by simp)) fun r hr => Ne.symm (C2.sb r (C2.in1 hr)).2, hN4 _ _ ⟨_, rfl, rfl⟩⟩
                · rintro r rest μ σ Kf6 ⟨w3, done, hd, rfl, rfl⟩ kn6 _ _ _
                  have hrb : r ∈ bs := hd ▸ List.mem_append_right _ (.head _)
                  have hdn : ∃ done' : List LR, (∀ r ∈ done', r ∈ bs) ∧ updL (upd σ2 bk (.dict T1)) (done.map fun r => (r.nl, MO.list (takeF T1 r.files r.deps))) = updL (upd σ2 bk (.dict T1)) (done'.map fun r => (r.nl, .list (takeF T1 r.files r.deps))) := ⟨done, fun r' h => hd ▸ List.mem_append_left _ h, rfl⟩
                  obtain ⟨A4, _⟩ := C2.task4 hdn hrb
                  obtain ⟨_, x2, x3, x4, _, x6, x7, _, x9⟩ := C2.I.tk r (C2.in1 hrb)
                  have nl4 : updL (upd σ2 bk (.dict T1)) (done.map fun r => (r.nl, MO.list (takeF T1 r.files r.deps))) r.nl = some (.list r.deps) := by
                    rw [updL_ne fun q hq => ?_, upd_ne (ne_of_mo x3 C2.I.hbk (by simp))]
                    · exact x3
                    · obtain ⟨r', hr', rfl⟩ := List.mem_map.mp hq
                      intro e
                      have nb := nb2
                      rw [← hd, List.map_append, List.map_cons, List.nodup_append] at nb
                      exact nb.2.2 _ (List.mem_map.mpr ⟨r', hr', rfl⟩) _ (.head _) e.symm
                  have nd4 := C2.off4 hdn C2.I.hnd C2.I.d3 fun r' h => ne_of_mo C2.I.hnd (C2.I.tk r' (C2.in1 h)).2.2.1 (by simp)
                  refine ⟨C2.off4 hdn C2.hbl (ne_of_mo C2.hbl C2.I.hbk (by simp)) fun r hr => Ne.symm (C2.sb r (C2.in1 hr)).2, ?_⟩
                  simp only [WS, W1, W, WL, WK, WT, WTs, WB, WO, bindW, nameW, List.lookup, ofString_beq, ofString_inj, String.reduceBEq, String.reduceEq, String.reduceBNe, String.reduceNe, ML.get, ML.set, List.map_cons, List.map_nil, locals0,
    List.cons_append, List.nil_append, callW_b, callW_t, callW_r, bin_fdiv, bin_mod, bin_mul, bin_add, bin_sub, bin_adds, const_int, const_none, const_bool, const_str, ty_str, ty_range, tr_bool, tr_none, tr_int, cmp_int, Int.zero_add, callOk, plainArg, notSuper, kwNamed, List.all_cons, List.all_nil, List.length_cons, List.length_nil, Bool.and_true, Bool.true_and, Bool.and_self, Bool.not_true, Bool.not_false,
    decide_true, decide_eq_true_eq, beq_self_eq_true, true_and, and_true, if_true, if_false, reduceIte, reduceCtorEq, Option.isSome_some, Option.isSome_none, Nat.reduceAdd, Nat.reduceMul, Nat.reduceLeDiff, Nat.reduceSubDiff, Nat.add_one_sub_one, Nat.zero_lt_succ, Nat.succ_pos, Nat.lt_add_left_iff_pos,
    Bool.false_eq_true, false_and, and_false, behindInMarks, namesOf, Option.map_some, Option.some.injEq, exists_eq_left', exists_eq_left, or_false, false_or, or_self, not_true, not_false_iff, g8, at_get A4.i A4.n r1 A4.gf rfl]
                  refine ⟨p4, c_take (n := 8) hK (C2.bk4 hdn) A4.i A4.n A4.nm nd4 x4 nl4 A4.f (C2.I.sep r (C2.in1 hrb) r (C2.in1 hrb)).2.2.1 vT1 x9 (by rw [sizeLine_eq]; omega) ?_⟩
                  refine kn6 _ _ ⟨_, done ++ [r], by simp [hd], ?_, rfl⟩
                  simp [updL]
              rintro μ4 σ4 ⟨w3, h4, hμ4⟩
              have h4' : ∃ done : List LR, (∀ r ∈ done, r ∈ bs) ∧ σ4 = updL (upd σ2 bk (.dict T1)) (done.map fun r => (r.nl, .list (takeF T1 r.files r.deps))) := ⟨bs, fun _ h => h, h4⟩
              have bl4 := C2.off4 h4' C2.hbl (ne_of_mo C2.hbl C2.I.hbk (by simp)) fun r hr => Ne.symm (C2.sb r (C2.in1 hr)).2
              have k4 := C2.kind4 h4' C2.B.k (by simp) (by simp)
              have kp4 := C2.off4 h4' C2.I.hkp C2.I.d1 fun r hr => ne_of_mo C2.I.hkp (C2.I.tk r (C2.in1 hr)).2.2.1 (by simp)
              have key : ∀ (Kx : KF), (∀ μ σ, K3 .next μ σ → Kx .next μ σ) → ∀ σ5 tl o, Grow σ4 σ5 → σ5 tl = some o → iterOf o = some ((bs.map LR.toTR).map fun r => .ref r.t) → (∀ r ∈ bs, r.td ≠ tl) → CodeP Γ 9 (.ref 317) [.ref kp, .ref tl] [] σ5 (fun _ σ => Kx .next μ4 σ) (fun _ _ _ => False) := by
                intro Kx hKx σ5 tl o G5 ht hi hne
                have tk5 : ∀ r ∈ bs, TaskAt σ5 r.toTR ∧ σ5 r.td = some (.list r.deps) := fun r hr => ⟨(C2.task4 h4' hr).1.grow G5, G5 _ _ (C2.task4 h4' hr).2⟩
                refine c_set_implicit (n := 7) hK (fun x y z hx hy hz => pct3 hx hy hz) (G5 _ _ k4) (G5 _ _ kp4) C2.I.vals ht hi (D := Dd) ?_ ?_ ?_ ?_ ?_ ?_ ?_ ?_
                · intro q hq
                  obtain ⟨r, hr, rfl⟩ := List.mem_map.mp hq
                  exact (tk5 r hr).1
                · intro q hq
                  obtain ⟨r, hr, rfl⟩ := List.mem_map.mp hq
                  rw [hDd r hr]
                  obtain ⟨_, x2, x3, x4, _, x6, x7, _, x9⟩ := C2.I.tk r (C2.in1 hr)
                  exact ⟨(tk5 r hr).2, x9, by rw [sizeLine_eq]; omega⟩
                · rw [List.map_map]; exact nb1
                · intro q hq q' hq'
                  obtain ⟨r, hr, rfl⟩ := List.mem_map.mp hq
                  obtain ⟨r', hr', rfl⟩ := List.mem_map.mp hq'
                  exact (C2.I.sep r (C2.in1 hr) r' (C2.in1 hr')).1
                · intro q hq
                  obtain ⟨r, hr, rfl⟩ := List.mem_map.mp hq
                  exact hne r hr
                · have := C2.vT; rw [sizeLine_eq]; omega
                · intro T' msg σ' e
                  rw [← e1] at e; cases e
                · intro T' e
                  rw [← e1] at e
                  obtain rfl : T1 = T' := (Prod.mk.inj e).1
                  have conv : ((bs.map LR.toTR).map fun r => (r.td, MO.list (takeF T1 r.files (Dd r)))) = bs.map fun r => (r.td, MO.list (takeF T1 r.files r.deps)) := by
                    rw [List.map_map]
                    refine List.map_congr_left fun r hr => ?_
                    simp only [Function.comp, hDd r hr]
                  rw [conv]
                  obtain ⟨recs', If, Bf⟩ := C2.good tv1 tk1 sz1 h4 G5 rfl
                  rw [hμ4]
                  exact hKx _ _ <| hN3 _ _ (hN2 _ _ (hN _ _ ⟨_, _, _, _, _, _, recs', NE', T1, nd, lv, kp, bk, rfl, If, Bf⟩))
              rw [hμ4] at key ⊢
              refine WS_step (fun μ σ => K3 .next μ σ) (fun μ σ h => WS_nil h) ?_
              intro K5 hN5 _
              simp only [W1]
              simp only [W, WL, WK, WT, WTs, WB, WO, bindW, nameW, List.lookup, ofString_beq, ofString_inj, String.reduceBEq, String.reduceEq, String.reduceBNe, String.reduceNe, ML.get, ML.set, List.map_cons, List.map_nil, locals0,
    List.cons_append, List.nil_append, callW_b, callW_t, callW_r, bin_fdiv, bin_mod, bin_mul, bin_add, bin_sub, bin_adds, const_int, const_none, const_bool, const_str, ty_str, ty_range, tr_bool, tr_none, tr_int, cmp_int, Int.zero_add, callOk, plainArg, notSuper, kwNamed, List.all_cons, List.all_nil, List.length_cons, List.length_nil, Bool.and_true, Bool.true_and, Bool.and_self, Bool.not_true, Bool.not_false,
    decide_true, decide_eq_true_eq, beq_self_eq_true, true_and, and_true, if_true, if_false, reduceIte, reduceCtorEq, Option.isSome_some, Option.isSome_none, Nat.reduceAdd, Nat.reduceMul, Nat.reduceLeDiff, Nat.reduceSubDiff, Nat.add_one_sub_one, Nat.zero_lt_succ, Nat.succ_pos, Nat.lt_add_left_iff_pos,
    Bool.false_eq_true, false_and, and_false, behindInMarks, namesOf, Option.map_some, Option.some.injEq, exists_eq_left', exists_eq_left, or_false, false_or, or_self, not_true, not_false_iff, g11, me_cls k4]
              refine ⟨317, s1, ?_⟩
              have hmap : ((bs.map LR.toTR).map fun r => MV.ref r.t) = bs.map fun r => MV.ref r.t := by rw [List.map_map]; rfl
              simp only [WS, W1, W, WL, WK, WT, WTs, WB, WO, bindW, nameW, List.lookup, ofString_beq, ofString_inj, String.reduceBEq, String.reduceEq, String.reduceBNe, String.reduceNe, ML.get, ML.set, List.map_cons, List.map_nil, locals0,
    List.cons_append, List.nil_append, callW_b, callW_t, callW_r, bin_fdiv, bin_mod, bin_mul, bin_add, bin_sub, bin_adds, const_int, const_none, const_bool, const_str, ty_str, ty_range, tr_bool, tr_none, tr_int, cmp_int, Int.zero_add, callOk, plainArg, notSuper, kwNamed, List.all_cons, List.all_nil, List.length_cons, List.length_nil, Bool.and_true, Bool.true_and, Bool.and_self, Bool.not_true, Bool.not_false,
    decide_true, decide_eq_true_eq, beq_self_eq_true, true_and, and_true, if_true, if_false, reduceIte, reduceCtorEq, Option.isSome_some, Option.isSome_none, Nat.reduceAdd, Nat.reduceMul, Nat.reduceLeDiff, Nat.reduceSubDiff, Nat.add_one_sub_one, Nat.zero_lt_succ, Nat.succ_pos, Nat.lt_add_left_iff_pos,
    Bool.false_eq_true, false_and, and_false, behindInMarks, namesOf, Option.map_some, Option.some.injEq, exists_eq_left', exists_eq_left, or_false, false_or, or_self, not_true, not_false_iff, g4]
              refine ⟨by decide, ?_⟩
              by_cases hv2 : (v.fmod 2 != 0) = true
              · simp only [hv2, if_true]
                simp only [WS, W1, W, WL, WK, WT, WTs, WB, WO, bindW, nameW, List.lookup, ofString_beq, ofString_inj, String.reduceBEq, String.reduceEq, String.reduceBNe, String.reduceNe, ML.get, ML.set, List.map_cons, List.map_nil, locals0,
    List.cons_append, List.nil_append, callW_b, callW_t, callW_r, bin_fdiv, bin_mod, bin_mul, bin_add, bin_sub, bin_adds, const_int, const_none, const_bool, const_str, ty_str, ty_range, tr_bool, tr_none, tr_int, cmp_int, Int.zero_add, callOk, plainArg, notSuper, kwNamed, List.all_cons, List.all_nil, List.length_cons, List.length_nil, Bool.and_true, Bool.true_and, Bool.and_self, Bool.not_true, Bool.not_false,
    decide_true, decide_eq_true_eq, beq_self_eq_true, true_and, and_true, if_true, if_false, reduceIte, reduceCtorEq, Option.isSome_some, Option.isSome_none, Nat.reduceAdd, Nat.reduceMul, Nat.reduceLeDiff, Nat.reduceSubDiff, Nat.add_one_sub_one, Nat.zero_lt_succ, Nat.succ_pos, Nat.lt_add_left_iff_pos,
    Bool.false_eq_true, false_and, and_false, behindInMarks, namesOf, Option.map_some, Option.some.injEq, exists_eq_left', exists_eq_left, or_false, false_or, or_self, not_true, not_false_iff, ty_tuple bl4]
                refine fun tp htp => ?_
                refine ⟨p7, key K5 hN5 _ tp (.tuple (bs.map fun r => .ref r.t)) (Grow.refl.new htp) upd_same (by rw [hmap]; rfl) fun r hr => ne_of_new htp (C2.task4 h4' hr).2⟩
              · simp only [hv2]
                simp only [WS, W1, W, WL, WK, WT, WTs, WB, WO, bindW, nameW, List.lookup, ofString_beq, ofString_inj, String.reduceBEq, String.reduceEq, String.reduceBNe, String.reduceNe, ML.get, ML.set, List.map_cons, List.map_nil, locals0,
    List.cons_append, List.nil_append, callW_b, callW_t, callW_r, bin_fdiv, bin_mod, bin_mul, bin_add, bin_sub, bin_adds, const_int, const_none, const_bool, const_str, ty_str, ty_range, tr_bool, tr_none, tr_int, cmp_int, Int.zero_add, callOk, plainArg, notSuper, kwNamed, List.all_cons, List.all_nil, List.length_cons, List.length_nil, Bool.and_true, Bool.true_and, Bool.and_self, Bool.not_true, Bool.not_false,
    decide_true, decide_eq_true_eq, beq_self_eq_true, true_and, and_true, if_true, if_false, reduceIte, reduceCtorEq, Option.isSome_some, Option.isSome_none, Nat.reduceAdd, Nat.reduceMul, Nat.reduceLeDiff, Nat.reduceSubDiff, Nat.add_one_sub_one, Nat.zero_lt_succ, Nat.succ_pos, Nat.lt_add_left_iff_pos,
    Bool.false_eq_true, false_and, and_false, behindInMarks, namesOf, Option.map_some, Option.some.injEq, exists_eq_left', exists_eq_left, or_false, false_or, or_self, not_true, not_false_iff]
                refine ⟨p7, key K5 hN5 _ bl _ Grow.refl bl4 (by rw [hmap]; rfl) fun r hr => (C2.sb r (C2.in1 hr)).1⟩
            | false =>
              simp only [Bool.false_eq_true, if_false]
              refine WS_step (fun μ σ => K3 .next μ σ) (fun μ σ h => WS_nil h) ?_
              intro K5 hN5 _
              simp only [W1]
              simp only [W, WL, WK, WT, WTs, WB, WO, bindW, nameW, List.lookup, ofString_beq, ofString_inj, String.reduceBEq, String.reduceEq, String.reduceBNe, String.reduceNe, ML.get, ML.set, List.map_cons, List.map_nil, locals0,
    List.cons_append, List.nil_append, callW_b, callW_t, callW_r, bin_fdiv, bin_mod, bin_mul, bin_add, bin_sub, bin_adds, const_int, const_none, const_bool, const_str, ty_str, ty_range, tr_bool, tr_none, tr_int, cmp_int, Int.zero_add, callOk, plainArg, notSuper, kwNamed, List.all_cons, List.all_nil, List.length_cons, List.length_nil, Bool.and_true, Bool.true_and, Bool.and_self, Bool.not_true, Bool.not_false,
    decide_true, decide_eq_true_eq, beq_self_eq_true, true_and, and_true, if_true, if_false, reduceIte, reduceCtorEq, Option.isSome_some, Option.isSome_none, Nat.reduceAdd, Nat.reduceMul, Nat.reduceLeDiff, Nat.reduceSubDiff, Nat.add_one_sub_one, Nat.zero_lt_succ, Nat.succ_pos, Nat.lt_add_left_iff_pos,
    Bool.false_eq_true, false_and, and_false, behindInMarks, namesOf, Option.map_some, Option.some.injEq, exists_eq_left', exists_eq_left, or_false, false_or, or_self, not_true, not_false_iff, g9]
              refine ⟨p5, ?_⟩
              have bl3 : upd σ2 bk (.dict T1) bl = some (.list (bs.map fun r => .ref r.t)) := by rw [upd_ne (ne_of_mo C2.hbl C2.I.hbk (by simp))]; exact C2.hbl
              have h0' : ∃ done : List LR, (∀ r ∈ done, r ∈ bs) ∧ upd σ2 bk (.dict T1) = updL (upd σ2 bk (.dict T1)) (done.map fun r => (r.nl, .list (takeF T1 r.files r.deps))) := ⟨[], (fun _ h => nomatch h), rfl⟩
              refine c_refused (n := 6) hK (T := T) (T' := T1) (D := Dd) (batch := bs.map LR.toTR) (o := .list (bs.map fun r => .ref r.t)) (C2.kind4 h0' C2.B.k (by simp) (by simp)) (by rw [upd_ne C2.I.d1]; exact C2.I.hkp) C2.I.vals bl3 (by rw [List.map_map]; rfl) ?_ ?_ ?_ ?_ ?_ ?_ e1.symm ?_
              · intro q hq
                obtain ⟨r, hr, rfl⟩ := List.mem_map.mp hq
                exact (C2.task4 h0' hr).1
              · intro q hq
                obtain ⟨r, hr, rfl⟩ := List.mem_map.mp hq
                rw [hDd r hr]
                obtain ⟨_, x2, x3, x4, _, x6, x7, _, x9⟩ := C2.I.tk r (C2.in1 hr)
                exact ⟨(C2.task4 h0' hr).2, x9, by rw [sizeLine_eq]; omega⟩
              · rw [List.map_map]; exact nb1
              · intro q hq q' hq'
                obtain ⟨r, hr, rfl⟩ := List.mem_map.mp hq
                obtain ⟨r', hr', rfl⟩ := List.mem_map.mp hq'
                exact (C2.I.sep r (C2.in1 hr) r' (C2.in1 hr')).1
              · intro q hq
                obtain ⟨r, hr, rfl⟩ := List.mem_map.mp hq
                exact (C2.sb r (C2.in1 hr)).1
              · have := C2.vT; rw [sizeLine_eq]; omega
              · intro σF GF
                obtain ⟨recs', If, Bf⟩ := C2.bad tv1 tk1 sz1 GF
                simp only [tr_bool, Bool.not_true, Bool.false_eq_true, if_false]
                have done : K5 .next (muL sc kp bk lv nd (some (.int i)) (some (.int v)) w3 w4 w5 (some (.ref bl)) (some (.bool false)) w8) σF :=
                  hN5 _ _ (hN3 _ _ (hN2 _ _ (hN _ _ ⟨_, _, _, _, _, _, recs', NE', T1, nd, lv, kp, bk, rfl, If, Bf⟩)))
                first | exact done | exact WS_nil done

end
end Mine

open PySem PySem.W PyProof.Rows PySem.Calls
set_option Elab.async false
set_option autoImplicit false
set_option maxRecDepth 100000
set_option maxHeartbeats 4000000
set_option linter.all false
namespace Mine
section
variable {Γ : Rt} {n : Nat} {a : Act} {ext : List (Addr × Obj)} {σ : MH} {μ : ML} {A : Around} {s : Shared} {E : Value → Shared → Prop}

/-- x = y[:k], y a list of the base heap -/
theorem run_first {x y : Str} {pn pp ps pc p' pos : Pos} {kd : _} {k : Int} {l : Addr} {vs : List Value} {xs : List MV} {P : ML → Prop} {Q : Flow → Shared → Prop} (hA : AOk a n A) (S : St Γ a ext σ μ s.heap) (hl : Γ.hb.IsList l vs.toArray) (hr : R2 VR vs xs) (hz : xs.length ≤ sizeLine)
    (hy : nameW Γ a.scope y μ σ (fun v σ' => v = .ref l ∧ σ' = σ)) (hk : 0 ≤ k) (hb : ∀ ad, bindW a.scope x (.ref ad) μ fun _ => True)
    (q : ∀ ad h' tk', σ ad = none → St Γ a ext (upd σ ad (.list (xs.take k.toNat))) (μ.set x (.ref ad)) h' → Q .next { s with heap := h', toks := tk' }) :
    wpAny Γ.M A (exec (.Assign [.Name x pn] (.Subscript (.Name y pp) (.Slice none (some (.Constant (.int k) kd pc)) none ps) p') pos) a.env) Q E s := by
  refine wpAny_Assign_Name ?_ rfl
  refine Subscript_ (sW (.Name y pp) a A ext μ σ (fun v σ' => v = .ref l ∧ σ' = σ) (fun _ _ _ => False) s _ E rfl hA S (by simpa only [W] using hy) (fun d σ₁ h₁ t₁ v hP S₁ hv => ?_) (fun _ _ _ _ _ _ h => h.elim))
  obtain ⟨rfl, rfl⟩ := hP
  obtain rfl : v = _ := hv
  refine wpAny_Slice (sWO (Γ := Γ) (sc := a.scope) (n := n) none a A ext μ σ₁ (fun d σ' => d = .none ∧ σ' = σ₁) (fun _ _ _ => False) _ _ E rfl hA S₁ (by simp only [WO]; exact ⟨trivial, trivial⟩) (fun d₂ σ₂ h₂ t₂ v₂ hP₂ S₂ hv₂ => ?_) (fun _ _ _ _ _ _ h => h.elim))
  obtain ⟨rfl, rfl⟩ := hP₂
  obtain rfl : v₂ = _ := hv₂
  refine sWO (Γ := Γ) (sc := a.scope) (n := n) (some (.Constant (.int k) kd pc)) a A ext μ σ₂ (fun d σ' => d = .int k ∧ σ' = σ₂) (fun _ _ _ => False) _ _ E rfl hA S₂ (by simp only [WO, W, constW]; exact ⟨trivial, trivial⟩) (fun d₃ σ₃ h₃ t₃ v₃ hP₃ S₃ hv₃ => ?_) (fun _ _ _ _ _ _ h => h.elim)
  obtain ⟨rfl, rfl⟩ := hP₃
  obtain ⟨tk, rfl⟩ := hv₃
  refine wpAny_evalPart_none ?_
  obtain ⟨m, news, cs, frs, F, N, H, Lc, Fo⟩ := S₃
  have hlst : h₃.IsList l vs.toArray := by
    obtain ⟨o, ho, r⟩ := hl
    exact ⟨o, F.keep _ _ ho, r⟩
  obtain ⟨r1, r2, r3⟩ := hr.slicePick
  refine tail_any (ops := [.ref h₃.objs.size, .ref l]) (Heap.IsList.typeIs (s := { s with heap := h₃.push { cls := .type "slice", data := .fields #[.none, .int k tk, .none] }, toks := t₃ }) (hlst.push _)) list_getitem_lookup
      (wpAny_getItem_list_slice (hlst.push _) (Heap.IsSliceOf.new ..) .none (.int k tk) .none (by simp) ?_ (by simp [hr.length]; exact hz)) rfl
  have N1 := News.push (F.push { cls := .type "slice", data := .fields #[.none, .int k tk, .none] }) (N.grown fun _ _ e => Heap.get?_push_of_some _ e) { cls := .type "list", data := .seq (slicePick vs.toArray none (some k) none) }
  obtain ⟨S', hn⟩ := St.alloc ((F.push _).push _) N1 (fun p hp => Nat.lt_trans (newsLt N p hp) (by rw [Heap.size_push]; exact Nat.lt_succ_self _)) H Lc Fo (o := .list (xs.take k.toNat)) ⟨by rw [List.length_take]; omega, _, 0, by rw [Array.toArray_toList], r2 _ hk⟩
  refine St.bind (d := .ref _) (s := { s with heap := _, toks := _ }) S' rfl (hb _) fun h' _ S₄ => ?_
  exact q _ _ _ hn S₄
end
end Mine

open PySem PySem.W PyProof.Rows PySem.Calls
set_option Elab.async false
set_option autoImplicit false
set_option maxRecDepth 100000
set_option maxHeartbeats 8000000
set_option linter.all false
namespace Mine

theorem ints_r2 : ∀ {vs : List Value} {ns : List Int}, IntsAre vs ns → R2 VR vs (ns.map .int)
  | _, _, .nil => .nil
  | _, _, .cons n t h => .cons ⟨t, rfl⟩ (ints_r2 h)

def σi : MH := fun a => if a = 127 ∨ a = 128 ∨ a = 129 then some (.tuple []) else if a = 368 then some .kob else none

theorem law2 {prog : Program} {w : World} {p : Program} {loose : List Str} {mean : ExcName → Option Value} {mg mb : Str → Option Value} {gh : Heap} {L l f : Addr} {cd : Value} {s : Shared} {vs : List Value} {ns : List Int} {qn : Addr × Obj} {Q : Flow → Shared → Prop} {E : Value → Shared → Prop}
    (X : (KK w.params).In gh) (T : Top p loose mean mg mb gh) (K : Below callerA gh [] gh) (F : Fr gh L s.heap (fun x => List.lookup x [(Str.ofString "script", Value.ref l)].reverse)) (hl : gh.IsList l vs.toArray) (hI : IntsAre vs ns) (hz : ¬ 63 < ns.length) (N : News gh L s.heap [qn])
    (hk : (scopeOf (KK w.params) 527).kind = .function) (hQ : ∀ h' tk' m, Fr gh L h' m → News gh L h' [qn] → Q (.ret (.bool true)) { s with heap := h', toks := tk' }) :
    wpAny (model prog w) (callerA.deeper (envOf "law" (scopeOf (KK w.params) 527) L f cd)) (execs (bodyOf (KK w.params) 527) (envOf "law" (scopeOf (KK w.params) 527) L f cd)) Q E s := by
  let Γ : Rt := { prog := prog, w := w, K := KK w.params, p := p, loose := loose, mean := mean, mg := mg, mb := mb, hb := gh, X := X, T := T }
  let a : Act := { nm := "law", scope := scopeOf (KK w.params) 527, L := L, fa := f, cd := cd, cl := [], outer := [], om := [], hk := hk }
  have hA : AOk a 10 (callerA.deeper a.env) := by
    refine ⟨Around.frames_deeper K.stack, rfl, ?_, ?_⟩
    · show callerA.depth + 1 + 2 * 10 < recursionLimit
      decide
    · show callerA.units + 3 + 8 * 10 + 100 < cLine
      decide
  have hr := ints_r2 hI
  let rest := [Str.ofString "kept", Str.ofString "book", Str.ofString "live", Str.ofString "needs", Str.ofString "round_", Str.ofString "v", Str.ofString "t", Str.ofString "files", Str.ofString "before", Str.ofString "batch", Str.ofString "good", Str.ofString "f"]
  have S0 : St Γ a [qn] σi (locals0 [(Str.ofString "script", .ref l)] rest) s.heap := by
    refine ⟨_, [qn], [], [], F, N, ⟨by simp, by simp, (fun q h => ⟨by simpa using h, ?_⟩), fun b o e => ?_⟩, ?_, trivial⟩
    · have hq : q = qn := by simpa using h
      subst hq
      cases e : σi q.1 with
      | none => rfl
      | some o =>
        have hb := (N q (.head _)).2.2
        exfalso
        have inK : ∀ b, (b = 127 ∨ b = 128 ∨ b = 129 ∨ b = 368) → gh.get? b ≠ none := by
          rintro b (rfl | rfl | rfl | rfl) e'
          · have := X 127 _ rfl; rw [e'] at this; cases this
          · have := X 128 _ rfl; rw [e'] at this; cases this
          · have := X 129 _ rfl; rw [e'] at this; cases this
          · have := X 368 _ rfl; rw [e'] at this; cases this
        refine inK q.1 ?_ hb
        unfold σi at e
        split at e
        · rename_i hh; rcases hh with hh | hh | hh
          · exact .inl hh
          · exact .inr (.inl hh)
          · exact .inr (.inr (.inl hh))
        · split at e
          · rename_i hh; exact .inr (.inr (.inr hh))
          · cases e
    · unfold σi at e
      split at e
      · rename_i hb
        cases e
        rcases hb with rfl | rfl | rfl
        · exact .inr ⟨_, rfl, ⟨Nat.zero_le _, [], _, rfl, .nil⟩, rfl⟩
        · exact .inr ⟨_, rfl, ⟨Nat.zero_le _, [], _, rfl, .nil⟩, rfl⟩
        · exact .inr ⟨_, rfl, ⟨Nat.zero_le _, [], _, rfl, .nil⟩, rfl⟩
      · split at e
        · rename_i hb
          cases e; subst hb
          exact .inr ⟨_, rfl, trivial, rfl⟩
        · cases e
    · intro x d hx
      have hm := locals0_get hx
      rw [List.mem_singleton] at hm
      cases hm
      exact .inl ⟨by rfl, .ref l, by simp, rfl⟩
  have main : ∀ ad h' tk', σi ad = none → St Γ a [qn] (upd σi ad (.list ((ns.map MV.int).take (24 : Int).toNat))) ((locals0 [(Str.ofString "script", .ref l)] rest).set (Str.ofString "script") (.ref ad)) h' →
      wpAny (model prog w) (callerA.deeper a.env) (execs (bodyOf (KK w.params) 527).tail a.env) Q E { s with heap := h', toks := tk' } := by
    intro ad h' tk' had S'
    refine sWS (Γ := Γ) (sc := scopeOf (KK w.params) 527) (n := 10) (bodyOf (KK w.params) 527).tail a (callerA.deeper a.env) [qn] (locals0 [(Str.ofString "script", .ref ad)] rest) (upd σi ad (.list ((ns.map MV.int).take (24 : Int).toNat))) (fun fl _ _ => fl = .ret (.bool true)) (fun _ _ _ => False) { s with heap := h', toks := tk' } Q E rfl hA ?_ (c_law (Γ := Γ) (σ0 := upd σi ad (.list ((ns.map MV.int).take (24 : Int).toNat))) rfl (sc := ad) (ns := ns.take 24) ?_ ?_ ?_ ?_ ?_) ?_ (fun _ _ _ _ _ _ h => h.elim)
    · have e : (locals0 [(Str.ofString "script", .ref l)] rest).set (Str.ofString "script") (.ref ad) = locals0 [(Str.ofString "script", .ref ad)] rest := by
        show ML.set _ _ _ = _
        simp only [rest, locals0, ML.set, List.map_cons, List.map_nil, List.cons_append, List.nil_append, ofString_inj, String.reduceEq, if_true, if_false]
      rw [e] at S'
      exact S'
    · rw [upd_same, List.map_take]; rfl
    · rw [upd_ne (ne_of_new had (show σi 127 = some (.tuple []) by simp [σi]))]; simp [σi]
    · rw [upd_ne (ne_of_new had (show σi 128 = some (.tuple []) by simp [σi]))]; simp [σi]
    · rw [upd_ne (ne_of_new had (show σi 129 = some (.tuple []) by simp [σi]))]; simp [σi]
    · rw [upd_ne (ne_of_new had (show σi 368 = some .kob by simp [σi]))]; simp [σi]
    · intro fl μ' σ' h₂ t₂ fv hP S₂ hr
      subst hP
      cases fv with
      | ret v =>
        obtain rfl : v = .bool true := hr
        obtain ⟨m, news, cs, frs, F₂, N₂, H₂, _⟩ := S₂
        exact hQ h₂ t₂ m F₂ fun p hp => by
          have : p = qn := by simpa using hp
          subst this
          exact N₂ _ (H₂.ext _ (List.mem_append_right _ (List.mem_append_right _ (.head _)))).1
      | _ => exact hr.elim
  have hlen : (ns.map MV.int).length ≤ sizeLine := by rw [sizeLine_eq, List.length_map]; omega
  revert main
  refine use_fn (K := KK w.params) (f := 527) (Q := fun b sc => (∀ ad h' tk', σi ad = none → St Γ a [qn] (upd σi ad (.list ((ns.map MV.int).take (24 : Int).toNat))) ((locals0 [(Str.ofString "script", .ref l)] rest).set (Str.ofString "script") (.ref ad)) h' → wpAny (model prog w) (callerA.deeper a.env) (execs b.tail a.env) Q E { s with heap := h', toks := tk' }) → wpAny (model prog w) (callerA.deeper a.env) (execs b a.env) Q E s) (by exact rfl) ?_
  intro main
  refine wpAny_execs_cons ?_
  refine run_first (Γ := Γ) (a := a) (P := fun _ => True) (k := 24) (Q := fun fl s' => match fl with | .next => wpAny (model prog w) (callerA.deeper a.env) (execs _ a.env) Q E s' | f => Q f s') hA S0 hl hr hlen ?_ (by decide) ?_ main
  · exact ⟨rfl, rfl, rfl⟩
  · exact fun ad => ⟨rfl, rfl, trivial⟩
end Mine

open PySem PySem.W PyProof.Rows PySem.Calls
set_option Elab.async false
set_option linter.all false
namespace Mine
set_option maxRecDepth 100000 in
set_option maxHeartbeats 8000000 in
theorem t2 : PySem.Challenge.rw_aa6016_02.Holds := hd (by
  k_go0
  all_goals try k_fold
  refine law2 (by assumption) (by assumption) (by assumption) (by assumption) (by assumption) (by assumption) (by first | assumption | omega | grind) (by assumption) rfl ?_
  intro h' tk' m hF hN
  refine ⟨goodW_bool (b := true) hF ?_ ?_ ?_, ?_⟩
  · first | assumption | (dsimp only; assumption)
  · first | exact raisesW_false (by wrow_none_raised) | exact fun cls => rfl
  · first | kernel_rfl | (refine postW_of rfl ?_ ?_ <;> first | rfl | exact fun _ => rfl)
  · exact ⟨GrownAt.of hN (.head _), trivial⟩)
end Mine

set_option maxRecDepth 100000 in
set_option maxHeartbeats 8000000 in
theorem PySem.Challenge.cw_aa6016_02_holds : PySem.Challenge.rw_aa6016_02.Holds :=
  Mine.t2
