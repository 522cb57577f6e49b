import PyProof.Rows.All
import Wide.All
import OpenK.AllK
import Wide.FinOn
import Lean
import PySem.Challenge.RW_wa0004_02
set_option Elab.async false
set_option maxRecDepth 100000
set_option maxHeartbeats 4000000
set_option linter.unusedVariables false
set_option linter.unusedSimpArgs false
namespace Mine
open PySem PySem.W PyProof.Rows PyProof.Rows.LCg PySem.Calls PySem.Spec

/-! abstract values, and how the heap bears them -/
inductive AV where
  | none
  | bool (b : Bool)
  | int (i : Int)
  | str (s : Str)
  | val (v : Value)
  | ref (a : Addr)
  | tup (l : List AV)
  | lst (l : List AV)
  | dct (es : List (Str × AV))
  | rng (lo hi : Int)
  | exc (c : Addr) (at_ : List (Str × AV))

/-- what an activation stands on -/
structure Gr where
  prog : Program
  w : World
  hb : Heap
  K : Frag
  p : Program
  loose : List Str
  mean : ExcName → Option Value
  mg : Str → Option Value
  mb : Str → Option Value

structure GOk (G : Gr) : Prop where
  KB : G.K.In G.hb
  TB : Top G.p G.loose G.mean G.mg G.mb G.hb
  big : sysModules < G.hb.objs.size

noncomputable abbrev Objs := List (Addr × Obj)
noncomputable def Has (fz : Objs) (h : Heap) : Prop := ∀ p ∈ fz, h.get? p.1 = some p.2

mutual
inductive Rel (G : Gr) (fz : Objs) : AV → Value → Prop
  | none : Rel G fz .none .none
  | bool (b) : Rel G fz (.bool b) (.bool b)
  | int (i t) : Rel G fz (.int i) (.int i t)
  | str (s t) : Rel G fz (.str s) (.str s t)
  | val (v) : Rel G fz (.val v) v
  | ref (a) : Rel G fz (.ref a) (.ref a)
  | tup {a : Addr} {o : Obj} {vs : Array Value} {n : Nat} {l} : (a, o) ∈ fz → o.cls = .type "tuple" → o.data = .seq vs n → RelL G fz l vs.toList → Rel G fz (.tup l) (.ref a)
  | lst {a : Addr} {o : Obj} {vs : Array Value} {n : Nat} {l} : (a, o) ∈ fz → o.cls = .type "list" → o.data = .seq vs n → RelL G fz l vs.toList → Rel G fz (.lst l) (.ref a)
  | dct {a : Addr} {o : Obj} {kvs : List (Str × Value)} {es} : (a, o) ∈ fz → (a == sysModules) = false → o.IsDictOf (strKind G.prog G.w) kvs → RelE G fz es kvs → Rel G fz (.dct es) (.ref a)
  | rng {a : Addr} {t u v : Tok} {lo hi} : (a, ({ cls := .type "range", data := .fields #[.int lo t, .int hi u, .int 1 v] } : Obj)) ∈ fz → Rel G fz (.rng lo hi) (.ref a)
  | exc {a d : Addr} {o od : Obj} {vs : Array Value} {m : Str → Option Value} {W : Str → Value} {c es} : (a, o) ∈ fz → o.cls = .ref c → o.dict = some d → o.data = .fields vs → (d, od) ∈ fz → NsObj od m → (∀ x v, List.lookup x es = some v → m x = some (W x)) → (∀ x v, List.lookup x es = some v → Rel G fz v (W x)) → Rel G fz (.exc c es) (.ref a)
inductive RelL (G : Gr) (fz : Objs) : List AV → List Value → Prop
  | nil : RelL G fz [] []
  | cons {v V l vs} : Rel G fz v V → RelL G fz l vs → RelL G fz (v :: l) (V :: vs)
inductive RelE (G : Gr) (fz : Objs) : List (Str × AV) → List (Str × Value) → Prop
  | nil : RelE G fz [] []
  | cons {k v V l vs} : Rel G fz v V → RelE G fz l vs → RelE G fz ((k, v) :: l) ((k, V) :: vs)
end

theorem RelL.ind {G : Gr} {fz : Objs} {P : List AV → List Value → Prop} (n : P [] []) (c : ∀ {v V l vs}, Rel G fz v V → RelL G fz l vs → P l vs → P (v :: l) (V :: vs)) {l vs} (h : RelL G fz l vs) : P l vs :=
  RelL.rec (motive_1 := fun _ _ _ => True) (motive_2 := fun l vs _ => P l vs) (motive_3 := fun _ _ _ => True) trivial (fun _ => trivial) (fun _ _ => trivial) (fun _ _ => trivial) (fun _ => trivial) (fun _ => trivial)
    (fun _ _ _ _ _ => trivial) (fun _ _ _ _ _ => trivial) (fun _ _ _ _ _ => trivial) (fun _ => trivial) (fun _ _ _ _ _ _ _ _ _ => trivial) n (fun h r _ ih => c h r ih) trivial (fun _ _ _ _ => trivial) h
theorem RelE.ind {G : Gr} {fz : Objs} {P : List (Str × AV) → List (Str × Value) → Prop} (n : P [] []) (c : ∀ {k v V l vs}, Rel G fz v V → RelE G fz l vs → P l vs → P ((k, v) :: l) ((k, V) :: vs)) {l vs} (h : RelE G fz l vs) : P l vs :=
  RelE.rec (motive_1 := fun _ _ _ => True) (motive_2 := fun _ _ _ => True) (motive_3 := fun l vs _ => P l vs) trivial (fun _ => trivial) (fun _ _ => trivial) (fun _ _ => trivial) (fun _ => trivial) (fun _ => trivial)
    (fun _ _ _ _ _ => trivial) (fun _ _ _ _ _ => trivial) (fun _ _ _ _ _ => trivial) (fun _ => trivial) (fun _ _ _ _ _ _ _ _ _ => trivial) trivial (fun _ _ _ _ => trivial) n (fun h r _ ih => c h r ih) h
theorem Rel.mono {G : Gr} {fz fz' : Objs} (k : ∀ p ∈ fz, p ∈ fz') {v V} (h : Rel G fz v V) : Rel G fz' v V :=
  Rel.rec (motive_1 := fun v V _ => Rel G fz' v V) (motive_2 := fun l vs _ => RelL G fz' l vs) (motive_3 := fun l vs _ => RelE G fz' l vs) .none .bool .int .str .val .ref
    (fun hm hc hd _ ih => .tup (k _ hm) hc hd ih) (fun hm hc hd _ ih => .lst (k _ hm) hc hd ih) (fun hm hs hd _ ih => .dct (k _ hm) hs hd ih) (fun hm => .rng (k _ hm))
    (fun hm hc hd hv hm' hd' hl _ ih => .exc (k _ hm) hc hd hv (k _ hm') hd' hl ih) .nil (fun _ _ a b => .cons a b) .nil (fun _ _ a b => .cons a b) h
theorem RelL.mono {G : Gr} {fz fz' : Objs} (k : ∀ p ∈ fz, p ∈ fz') {l vs} (h : RelL G fz l vs) : RelL G fz' l vs := h.ind .nil fun a _ b => .cons (a.mono k) b
theorem RelE.mono {G : Gr} {fz fz' : Objs} (k : ∀ p ∈ fz, p ∈ fz') {l vs} (h : RelE G fz l vs) : RelE G fz' l vs := h.ind .nil fun a _ b => .cons (a.mono k) b

theorem RelL.length {G : Gr} {fz : Objs} {l vs} (h : RelL G fz l vs) : vs.length = l.length := RelL.ind (P := fun l vs => vs.length = l.length) rfl (fun _ _ ih => congrArg (· + 1) ih) h
theorem RelL.get {G : Gr} {fz : Objs} {l vs} (h : RelL G fz l vs) : ∀ {i : Nat} {v : AV}, l[i]? = some v → ∃ V, vs[i]? = some V ∧ Rel G fz v V :=
  RelL.ind (P := fun l vs => ∀ {i : Nat} {v : AV}, l[i]? = some v → ∃ V, vs[i]? = some V ∧ Rel G fz v V) (fun e => nomatch e) (fun h _ ih i v e => by
    cases i with
    | zero => cases e; exact ⟨_, rfl, h⟩
    | succ i => exact ih (i := i) e) h
theorem RelL.get' {G : Gr} {fz : Objs} {l vs} (h : RelL G fz l vs) : ∀ {i : Nat} {V : Value}, vs[i]? = some V → ∃ v, l[i]? = some v ∧ Rel G fz v V :=
  RelL.ind (P := fun l vs => ∀ {i : Nat} {V : Value}, vs[i]? = some V → ∃ v, l[i]? = some v ∧ Rel G fz v V) (fun e => nomatch e) (fun h _ ih i v e => by
    cases i with
    | zero => cases e; exact ⟨_, rfl, h⟩
    | succ i => exact ih (i := i) e) h
theorem RelL.append {G : Gr} {fz : Objs} {l vs l' vs'} (h : RelL G fz l vs) (r : RelL G fz l' vs') : RelL G fz (l ++ l') (vs ++ vs') := RelL.ind (P := fun l vs => RelL G fz (l ++ l') (vs ++ vs')) r (fun a _ ih => .cons a ih) h
theorem RelL.one {G : Gr} {fz : Objs} {v V} (h : Rel G fz v V) : RelL G fz [v] [V] := .cons h .nil
theorem RelE.length {G : Gr} {fz : Objs} {l vs} (h : RelE G fz l vs) : vs.length = l.length := RelE.ind (P := fun l vs => vs.length = l.length) rfl (fun _ _ ih => congrArg (· + 1) ih) h
theorem RelE.keys {G : Gr} {fz : Objs} {l vs} (h : RelE G fz l vs) : vs.map (·.1) = l.map (·.1) := RelE.ind (P := fun l vs => vs.map Prod.fst = l.map Prod.fst) rfl (fun _ _ ih => congrArg (_ :: ·) ih) h
/-! the live part: objects that may still change -/
inductive AO where
  | lst (l : List AV)
  | dct (es : List (Str × AV))
  | ns (es : List (Str × AV))
  | ins (c : Addr) (d : Option Addr)
noncomputable def NsB (o : Obj) (m : Str → Option Value) (n : Nat) : Prop := ∃ es ep, o.data = .dict es ep ∧ StrKeys es ∧ (∀ name, nsFind es name = m name) ∧ es.size ≤ n
theorem NsB.obj {o m n} (h : NsB o m n) : NsObj o m := let ⟨es, ep, a, b, c, _⟩ := h; ⟨es, ep, a, b, c⟩
noncomputable def AtR (G : Gr) (fz : Objs) (es : List (Str × AV)) (m : Str → Option Value) : Prop := ∀ x v, es.lookup x = some v → ∃ V, m x = some V ∧ Rel G fz v V
theorem AtR.mono {G : Gr} {fz fz' : Objs} (k : ∀ p ∈ fz, p ∈ fz') {es m} (h : AtR G fz es m) : AtR G fz' es m := fun x v e => let ⟨V, a, b⟩ := h x v e; ⟨V, a, b.mono k⟩
noncomputable abbrev AH := List (Addr × AO)

noncomputable def RelO (G : Gr) (fz : Objs) : AO → Obj → Prop
  | .lst l, o => ∃ vs n, o = { cls := .type "list", data := .seq vs n } ∧ RelL G fz l vs.toList
  | .dct es, o => ∃ kvs, o.IsDictOf (strKind G.prog G.w) kvs ∧ RelE G fz es kvs
  | .ns es, o => ∃ m, NsB o m es.length ∧ AtR G fz es m
  | .ins c d, o => o.cls = .ref c ∧ o.dict = d ∧ ∃ vs, o.data = .fields vs ∧ vs.size = 11 ∧ (∃ t, vs[0]? = some (.ref t)) ∧ vs[1]? = some .none
theorem RelO.mono {G : Gr} {fz fz' : Objs} (k : ∀ p ∈ fz, p ∈ fz') : ∀ {ao o}, RelO G fz ao o → RelO G fz' ao o
  | .lst _, _, ⟨vs, n, hd, hl⟩ => ⟨vs, n, hd, hl.mono k⟩
  | .dct _, _, ⟨kvs, hd, hl⟩ => ⟨kvs, hd, hl.mono k⟩
  | .ns _, _, ⟨m, hd, hl⟩ => ⟨m, hd, hl.mono k⟩
  | .ins _ _, _, h => h

/-- the frame at hand -/
structure Cx where
  A : Around
  d : Nat
  hd : Option Value
  env : Env
  stk : List (Env × (Str → Option Value))
  own : List Addr
  cl : List (Addr × Obj)
  comp : Bool
noncomputable def Cx.frames (cx : Cx) : List Env := if cx.comp then cx.stk.map (·.1) else cx.env :: cx.stk.map (·.1)

structure CxOk (cx : Cx) : Prop where
  frames : cx.A.frames = some cx.frames
  depth : cx.A.depth + cx.d ≤ 900
  units : cx.A.units + 20 * cx.d ≤ 9000
  hd : cx.A.handled = cx.hd
  kf : cx.env.scope.kind = .function
  fr : cx.comp = false → cx.env.frame = some cx.env.locals
  fs : ∀ p ∈ cx.stk, p.1.scope.kind = .function ∧ p.1.frame = some p.1.locals
  gl : cx.env.globals = mainGlobals ∧ cx.env.builtins = builtinsNs
  cs : ∀ x, cx.env.kindOf x = some .cell ∨ cx.env.kindOf x = some .free → ∃ c, cx.env.cells.lookup x = some c
  ca : ∀ x c, cx.env.cells.lookup x = some c → c ∈ cx.own ∨ c ∈ cx.cl.map (·.1)
  ci : ∀ x y c, c ∈ cx.own → cx.env.cells.lookup x = some c → cx.env.cells.lookup y = some c → x = y

noncomputable def keys (l : Objs) : List Addr := l.map (·.1)
noncomputable def Cx.mut (cx : Cx) (σ : AH) : List Addr := cx.env.locals :: (cx.stk.map (·.1.locals) ++ cx.own ++ σ.map (·.1))

noncomputable abbrev AE := Str → Option AV
noncomputable def upd (ρ : AE) (x : Str) (v : AV) : AE := fun y => if y = x then some v else ρ y

noncomputable def VarOk (G : Gr) (cx : Cx) (fz : Objs) (m : Str → Option Value) (h : Heap) (x : Str) (v : AV) : Prop :=
  (cx.env.kindOf x = some .local ∧ ∃ V, m x = some V ∧ Rel G fz v V) ∨
  (cx.env.kindOf x = some .cell ∧ ∃ c V, cx.env.cells.lookup x = some c ∧ c ∈ cx.own ∧ h.IsCell c (some V) ∧ Rel G fz v V) ∨
  ((cx.env.kindOf x = some .free ∨ cx.env.kindOf x = some .cell) ∧ ∃ c o V, cx.env.cells.lookup x = some c ∧ (c, o) ∈ cx.cl ∧ o.data = .cell (some V) ∧ Rel G fz v V)

structure Sat (G : Gr) (cx : Cx) (ex : Objs) (ρ : AE) (σ : AH) (fz : Objs) (h : Heap) : Prop where
  ok : CxOk cx
  clx : ∀ p ∈ cx.cl, p ∈ ex
  base : ∀ b o, G.hb.get? b = some o → h.get? b = some o
  stk : ∀ p ∈ cx.stk, h.Ns p.1.locals p.2
  ownc : ∀ c ∈ cx.own, ∃ v, h.IsCell c v
  fzh : Has fz h
  exh : Has ex h
  live : ∀ p ∈ σ, ∃ o, h.get? p.1 = some o ∧ RelO G fz p.2 o
  loc : ∃ m, h.Ns cx.env.locals m ∧ ∀ x v, ρ x = some v → VarOk G cx fz m h x v
  nod : (cx.mut σ).Nodup
  new : ∀ a ∈ cx.mut σ, G.hb.get? a = none ∧ G.hb.objs.size ≤ a
  apf : ∀ a ∈ cx.mut σ, a ∉ keys fz
  apx : ∀ a ∈ cx.mut σ, a ∉ keys ex
  xf : ∀ a ∈ keys ex, a ∉ keys fz

theorem Sat.mut_there {G cx ex ρ σ fz h} (S : Sat G cx ex ρ σ fz h) {a : Addr} (ha : a ∈ cx.mut σ) : ∃ o, h.get? a = some o := by
  unfold Cx.mut at ha
  rcases List.mem_cons.mp ha with rfl | ha
  · obtain ⟨m, ⟨o, _, _, ho, _⟩, _⟩ := S.loc
    exact ⟨o, ho⟩
  · rcases List.mem_append.mp ha with ha | ha
    · rcases List.mem_append.mp ha with ha | ha
      · obtain ⟨p, hp, rfl⟩ := List.mem_map.mp ha
        obtain ⟨o, _, _, ho, _⟩ := S.stk p hp
        exact ⟨o, ho⟩
      · obtain ⟨v, o, ho, _⟩ := S.ownc a ha
        exact ⟨o, ho⟩
    · obtain ⟨p, hp, rfl⟩ := List.mem_map.mp ha
      obtain ⟨o, ho, _⟩ := S.live p hp
      exact ⟨o, ho⟩

/-- an address that no part of the state stands on -/
structure Off (G : Gr) (cx : Cx) (ex : Objs) (σ : AH) (fz : Objs) (a : Addr) : Prop where
  m : a ∉ cx.mut σ
  f : a ∉ keys fz
  x : a ∉ keys ex
  b : G.hb.get? a = none

theorem Sat.size_off {G cx ex ρ σ fz h} (S : Sat G cx ex ρ σ fz h) {a : Addr} (ha : h.objs.size ≤ a) : Off G cx ex σ fz a := by
  have key : ∀ o, h.get? a = some o → False := fun o e => absurd (Heap.lt_size e) (Nat.not_lt.mpr ha)
  refine ⟨fun hm => ?_, fun hm => ?_, fun hm => ?_, ?_⟩
  · obtain ⟨o, ho⟩ := S.mut_there hm; exact key o ho
  · obtain ⟨p, hp, rfl⟩ := List.mem_map.mp hm; exact key _ (S.fzh p hp)
  · obtain ⟨p, hp, rfl⟩ := List.mem_map.mp hm; exact key _ (S.exh p hp)
  · cases e : G.hb.get? a with
    | none => rfl
    | some o => exact (key o (S.base a o e)).elim

theorem VarOk.keep {G cx fz m h h' x v} (k : ∀ c ∈ cx.own, ∀ v, h.IsCell c v → h'.IsCell c v) (V : VarOk G cx fz m h x v) : VarOk G cx fz m h' x v := by
  rcases V with V | ⟨hk, c, V, hc, ho, hi, hr⟩ | V
  · exact .inl V
  · exact .inr (.inl ⟨hk, c, V, hc, ho, k c ho _ hi, hr⟩)
  · exact .inr (.inr V)
theorem VarOk.mono {G cx fz fz' m h x v} (k : ∀ p ∈ fz, p ∈ fz') (V : VarOk G cx fz m h x v) : VarOk G cx fz' m h x v := by
  rcases V with ⟨hk, V, hm, hr⟩ | ⟨hk, c, V, hc, ho, hi, hr⟩ | ⟨hk, c, o, V, hc, ho, hd, hr⟩
  · exact .inl ⟨hk, V, hm, hr.mono k⟩
  · exact .inr (.inl ⟨hk, c, V, hc, ho, hi, hr.mono k⟩)
  · exact .inr (.inr ⟨hk, c, o, V, hc, ho, hd, hr.mono k⟩)

/-- the state is kept by a step that changes only what is off it -/
theorem Sat.keep {G cx ex ρ σ fz h h'} (S : Sat G cx ex ρ σ fz h) (k : ∀ b o, ¬ Off G cx ex σ fz b → h.get? b = some o → h'.get? b = some o) : Sat G cx ex ρ σ fz h' := by
  have km : ∀ b o, b ∈ cx.mut σ → h.get? b = some o → h'.get? b = some o := fun b o hm e => k b o (fun q => q.m hm) e
  have kcell : ∀ c ∈ cx.own, ∀ v, h.IsCell c v → h'.IsCell c v := fun c hc v ⟨o, ho, hd⟩ => ⟨o, km c o (by unfold Cx.mut; simp [hc]) ho, hd⟩
  refine ⟨S.ok, S.clx, fun b o e => k b o (fun q => by rw [q.b] at e; cases e) (S.base b o e), fun p hp => ?_, fun c hc => ?_, fun p hp => ?_, fun p hp => ?_, fun p hp => ?_, ?_, S.nod, S.new, S.apf, S.apx, S.xf⟩
  · obtain ⟨o, es, ep, ho, r⟩ := S.stk p hp
    exact ⟨o, es, ep, km _ o (by unfold Cx.mut; simp only [List.mem_cons, List.mem_append, List.mem_map]; exact .inr (.inl (.inl ⟨p, hp, rfl⟩))) ho, r⟩
  · obtain ⟨v, hv⟩ := S.ownc c hc
    exact ⟨v, kcell c hc v hv⟩
  · exact k _ _ (fun q => q.f (List.mem_map_of_mem hp)) (S.fzh p hp)
  · exact k _ _ (fun q => q.x (List.mem_map_of_mem hp)) (S.exh p hp)
  · obtain ⟨o, ho, r⟩ := S.live p hp
    exact ⟨o, km _ o (by unfold Cx.mut; simp only [List.mem_cons, List.mem_append, List.mem_map]; exact .inr (.inr ⟨p, hp, rfl⟩)) ho, r⟩
  · obtain ⟨m, ⟨o, es, ep, ho, r⟩, hv⟩ := S.loc
    exact ⟨m, ⟨o, es, ep, km _ o (by unfold Cx.mut; simp) ho, r⟩, fun x v e => (hv x v e).keep kcell⟩

theorem Sat.ext {G cx ex ρ σ fz h h'} (S : Sat G cx ex ρ σ fz h) (k : ∀ b o, h.get? b = some o → h'.get? b = some o) : Sat G cx ex ρ σ fz h' := S.keep fun b o _ e => k b o e
theorem Sat.push {G cx ex ρ σ fz h} (S : Sat G cx ex ρ σ fz h) (o : Obj) : Sat G cx ex ρ σ fz (h.push o) := S.ext fun _ _ e => Heap.get?_push_of_some _ e
theorem Sat.but {G cx ex ρ σ fz h h'} {a : Addr} (S : Sat G cx ex ρ σ fz h) (k : Heap.ExtBut a h h') (ha : Off G cx ex σ fz a) : Sat G cx ex ρ σ fz h' :=
  S.keep fun b o nb e => k b o (fun q => nb (q ▸ ha)) e

/-- more that is frozen -/
theorem Sat.freeze {G cx ex ρ σ fz h} {a : Addr} {o : Obj} (S : Sat G cx ex ρ σ fz h) (ho : h.get? a = some o) (hm : a ∉ cx.mut σ) (hx : a ∉ keys ex) : Sat G cx ex ρ σ ((a, o) :: fz) h := by
  have k : ∀ p ∈ fz, p ∈ (a, o) :: fz := fun p hp => List.mem_cons_of_mem _ hp
  refine ⟨S.ok, S.clx, S.base, S.stk, S.ownc, fun p hp => ?_, S.exh, fun p hp => ?_, ?_, S.nod, S.new, fun b hb hf => ?_, S.apx, fun b hb hf => ?_⟩
  · rcases List.mem_cons.mp hp with rfl | hp
    · exact ho
    · exact S.fzh p hp
  · obtain ⟨o', ho', r⟩ := S.live p hp
    exact ⟨o', ho', r.mono k⟩
  · obtain ⟨m, hn, hv⟩ := S.loc
    exact ⟨m, hn, fun x v e => (hv x v e).mono k⟩
  · rcases List.mem_cons.mp hf with rfl | hf
    · exact hm hb
    · exact S.apf b hb hf
  · rcases List.mem_cons.mp hf with rfl | hf
    · exact hx hb
    · exact S.xf b hb hf

/-- a new object, frozen at once -/
theorem Sat.alloc {G cx ex ρ σ fz h} (S : Sat G cx ex ρ σ fz h) (o : Obj) (hf : o.isFreed = false := by rfl) : Sat G cx ex ρ σ ((h.objs.size, o) :: fz) (h.push o) :=
  (S.push o).freeze (Heap.get?_push_size _ hf) (S.size_off (Nat.le_refl _)).m (S.size_off (Nat.le_refl _)).x

/-- a new live object -/
theorem Sat.live_new {G cx ex ρ σ fz h} {a : Addr} {o : Obj} {ao : AO} (S : Sat G cx ex ρ σ fz h) (ho : h.get? a = some o) (ha : Off G cx ex σ fz a) (hs : G.hb.objs.size ≤ a) (r : RelO G fz ao o) : Sat G cx ex ρ ((a, ao) :: σ) fz h := by
  have mm : ∀ b, b ∈ cx.mut ((a, ao) :: σ) → b = a ∨ b ∈ cx.mut σ := fun b hb => by
    unfold Cx.mut at hb ⊢
    simp only [List.mem_cons, List.mem_append, List.map_cons] at hb ⊢
    rcases hb with h | (h | h) | h | h
    · exact .inr (.inl h)
    · exact .inr (.inr (.inl (.inl h)))
    · exact .inr (.inr (.inl (.inr h)))
    · exact .inl h
    · exact .inr (.inr (.inr h))
  refine ⟨S.ok, S.clx, S.base, S.stk, S.ownc, S.fzh, S.exh, fun p hp => ?_, S.loc, ?_, fun b hb => ?_, fun b hb => ?_, fun b hb => ?_, S.xf⟩
  · rcases List.mem_cons.mp hp with rfl | hp
    · exact ⟨o, ho, r⟩
    · exact S.live p hp
  · have nd := S.nod
    have na := ha.m
    have perm : (cx.mut ((a, ao) :: σ)).Perm (a :: cx.mut σ) := by
      unfold Cx.mut
      simp only [List.map_cons]
      refine List.Perm.trans (List.Perm.cons _ List.perm_middle) (List.Perm.swap _ _ _)
    exact perm.nodup_iff.mpr (List.nodup_cons.mpr ⟨na, nd⟩)
  · rcases mm b hb with rfl | h
    · exact ⟨ha.b, hs⟩
    · exact S.new b h
  · rcases mm b hb with rfl | h
    · exact ha.f
    · exact S.apf b h
  · rcases mm b hb with rfl | h
    · exact ha.x
    · exact S.apx b h

/-- fewer live objects, in any order -/
theorem Sat.sub {G cx ex ρ σ σ' fz h} (S : Sat G cx ex ρ σ fz h) (k : ∀ p ∈ σ', p ∈ σ) (nd : (σ'.map (·.1)).Nodup) : Sat G cx ex ρ σ' fz h := by
  have kk : ∀ a, a ∈ σ'.map (·.1) → a ∈ σ.map (·.1) := fun a ha => by
    obtain ⟨p, hp, rfl⟩ := List.mem_map.mp ha
    exact List.mem_map_of_mem (k p hp)
  have mm : ∀ b, b ∈ cx.mut σ' → b ∈ cx.mut σ := fun b hb => by
    unfold Cx.mut at hb ⊢
    simp only [List.mem_cons, List.mem_append] at hb ⊢
    rcases hb with h | h | h
    · exact .inl h
    · exact .inr (.inl h)
    · exact .inr (.inr (kk b h))
  refine ⟨S.ok, S.clx, S.base, S.stk, S.ownc, S.fzh, S.exh, fun p hp => S.live p (k p hp), S.loc, ?_, fun b hb => S.new b (mm b hb), fun b hb => S.apf b (mm b hb), fun b hb => S.apx b (mm b hb), S.xf⟩
  have n0 := S.nod
  unfold Cx.mut at n0 ⊢
  rw [List.nodup_cons] at n0 ⊢
  refine ⟨fun q => n0.1 ?_, ?_⟩
  · rcases List.mem_append.mp q with q | q
    · exact List.mem_append_left _ q
    · exact List.mem_append_right _ (kk _ q)
  · rw [List.nodup_append] at n0 ⊢
    exact ⟨n0.2.1, nd, fun a ha b hb => n0.2.2.2 a ha b (kk b hb)⟩

/-- a live object's change -/
theorem Sat.live_set {G cx ex ρ σ₁ σ₂ fz h h'} {a : Addr} {o : Obj} {ao ao' : AO} (S : Sat G cx ex ρ (σ₁ ++ (a, ao) :: σ₂) fz h) (k : Heap.ExtBut a h h') (ho : h'.get? a = some o) (r : RelO G fz ao' o) : Sat G cx ex ρ (σ₁ ++ (a, ao') :: σ₂) fz h' := by
  have em : cx.mut (σ₁ ++ (a, ao') :: σ₂) = cx.mut (σ₁ ++ (a, ao) :: σ₂) := by unfold Cx.mut; simp
  have ham : a ∈ cx.mut (σ₁ ++ (a, ao) :: σ₂) := by unfold Cx.mut; simp
  have nd := S.nod
  have na : ∀ b, b ∈ cx.env.locals :: (cx.stk.map (·.1.locals) ++ cx.own) → b ≠ a := fun b hb q => by
    subst q
    unfold Cx.mut at nd
    rw [← List.cons_append, List.nodup_append] at nd
    exact nd.2.2 b hb b (by simp) rfl
  have nσ : ∀ p ∈ σ₁ ++ σ₂, p.1 ≠ a := fun p hp q => by
    have n2 : ((σ₁ ++ (a, ao) :: σ₂).map (·.1)).Nodup := by
      unfold Cx.mut at nd
      rw [← List.cons_append, List.nodup_append] at nd
      exact nd.2.1
    rw [List.map_append, List.map_cons] at n2
    have pm : (σ₁.map (·.1) ++ a :: σ₂.map (·.1)).Perm (a :: (σ₁.map (·.1) ++ σ₂.map (·.1))) := List.perm_middle
    have n3 := (List.nodup_cons.mp (pm.nodup_iff.mp n2)).1
    refine n3 ?_
    rw [← List.map_append, ← q]
    exact List.mem_map_of_mem hp
  have hbn : ∀ b o', G.hb.get? b = some o' → b ≠ a := fun b o' e q => by
    have := (S.new a ham).1
    rw [← q, e] at this; cases this
  have kcell : ∀ c ∈ cx.own, ∀ v, h.IsCell c v → h'.IsCell c v := fun c hc v ⟨o', ho', hd⟩ => ⟨o', k c o' (na c (by simp [hc])) ho', hd⟩
  refine ⟨S.ok, S.clx, fun b o' e => k b o' (hbn b o' e) (S.base b o' e), fun p hp => ?_, fun c hc => ?_, fun p hp => k _ _ (fun q => S.apf a ham (q ▸ List.mem_map_of_mem hp)) (S.fzh p hp),
    fun p hp => k _ _ (fun q => S.apx a ham (q ▸ List.mem_map_of_mem hp)) (S.exh p hp), fun p hp => ?_, ?_, by rw [em]; exact S.nod, by rw [em]; exact S.new, by rw [em]; exact S.apf, by rw [em]; exact S.apx, S.xf⟩
  · obtain ⟨o', es, ep, ho', r'⟩ := S.stk p hp
    exact ⟨o', es, ep, k _ o' (na _ (by simp only [List.mem_cons, List.mem_append, List.mem_map]; exact .inr (.inl ⟨p, hp, rfl⟩))) ho', r'⟩
  · obtain ⟨v, hv⟩ := S.ownc c hc
    exact ⟨v, kcell c hc v hv⟩
  · rcases List.mem_append.mp hp with hp | hp
    · obtain ⟨o', ho', r'⟩ := S.live p (List.mem_append_left _ hp)
      exact ⟨o', k _ _ (nσ p (List.mem_append_left _ hp)) ho', r'⟩
    · rcases List.mem_cons.mp hp with rfl | hp
      · exact ⟨o, ho, r⟩
      · obtain ⟨o', ho', r'⟩ := S.live p (List.mem_append_right _ (List.mem_cons_of_mem _ hp))
        exact ⟨o', k _ _ (nσ p (List.mem_append_right _ hp)) ho', r'⟩
  · obtain ⟨m, ⟨o', es, ep, ho', r'⟩, hv⟩ := S.loc
    exact ⟨m, ⟨o', es, ep, k _ o' (na _ (by simp)) ho', r'⟩, fun x v e => (hv x v e).keep kcell⟩

/-- a live object frozen for good -/
theorem Sat.settle {G cx ex ρ σ₁ σ₂ fz h} {a : Addr} {ao : AO} (S : Sat G cx ex ρ (σ₁ ++ (a, ao) :: σ₂) fz h) : ∃ o, h.get? a = some o ∧ RelO G fz ao o ∧ Sat G cx ex ρ (σ₁ ++ σ₂) ((a, o) :: fz) h := by
  obtain ⟨o, ho, r⟩ := S.live (a, ao) (by simp)
  have nd := S.nod
  have pm : (cx.mut (σ₁ ++ (a, ao) :: σ₂)).Perm (a :: cx.mut (σ₁ ++ σ₂)) := by
    unfold Cx.mut
    rw [List.map_append, List.map_append, List.map_cons]
    refine List.Perm.trans (List.Perm.cons _ ?_) (List.Perm.swap _ _ _)
    rw [← List.append_assoc]
    refine List.Perm.trans List.perm_middle ?_
    rw [List.append_assoc]
  have n3 := List.nodup_cons.mp (pm.nodup_iff.mp nd)
  refine ⟨o, ho, r, ?_⟩
  refine (S.sub (σ' := σ₁ ++ σ₂) (fun p hp => ?_) ?_).freeze ho n3.1 (S.apx a (pm.mem_iff.mpr List.mem_cons_self))
  · rcases List.mem_append.mp hp with hp | hp
    · exact List.mem_append_left _ hp
    · exact List.mem_append_right _ (List.mem_cons_of_mem _ hp)
  · have := n3.2
    unfold Cx.mut at this
    rw [← List.cons_append, List.nodup_append] at this
    exact this.2.1

/-- an object set aside for a while, and taken back -/
theorem Sat.park {G cx ex ρ σ fz h} {a : Addr} {o : Obj} (S : Sat G cx ex ρ σ fz h) (ho : h.get? a = some o) (hm : a ∉ cx.mut σ) (hf : a ∉ keys fz) : Sat G cx ((a, o) :: ex) ρ σ fz h :=
  ⟨S.ok, fun p hp => List.mem_cons_of_mem _ (S.clx p hp), S.base, S.stk, S.ownc, S.fzh, fun p hp => by
    rcases List.mem_cons.mp hp with rfl | hp
    · exact ho
    · exact S.exh p hp, S.live, S.loc, S.nod, S.new, S.apf, fun b hb hx => by
    rcases List.mem_cons.mp hx with rfl | hx
    · exact hm hb
    · exact S.apx b hb hx, fun b hb => by
    rcases List.mem_cons.mp hb with rfl | hb
    · exact hf
    · exact S.xf b hb⟩
theorem Sat.unpark {G cx ex ρ σ fz h} {a : Addr} {o : Obj} (S : Sat G cx ((a, o) :: ex) ρ σ fz h) (hcl : ∀ p ∈ cx.cl, p ∈ ex) : Sat G cx ex ρ σ fz h ∧ h.get? a = some o ∧ a ∉ cx.mut σ ∧ a ∉ keys fz :=
  ⟨⟨S.ok, hcl, S.base, S.stk, S.ownc, S.fzh, fun p hp => S.exh p (List.mem_cons_of_mem _ hp), S.live, S.loc, S.nod, S.new, S.apf, fun b hb hx => S.apx b hb (List.mem_cons_of_mem _ hx), fun b hb => S.xf b (List.mem_cons_of_mem _ hb)⟩,
    S.exh _ List.mem_cons_self, fun q => S.apx a q List.mem_cons_self, S.xf a List.mem_cons_self⟩

end Mine
namespace Mine
open PySem PySem.W PyProof.Rows PyProof.Rows.LCg PySem.Calls PySem.Spec

structure AX where
  c : Addr
  at_ : List (Str × AV)

/-- an exception in flight -/
noncomputable def XIs (G : Gr) (cx : Cx) (ex : Objs) (σ : AH) (fz : Objs) (h : Heap) (e : Addr) (x : AX) : Prop :=
  Off G cx ex σ fz e ∧ ∃ (o : Obj) (d : Addr) (od : Obj) (vs : Array Value) (kvs : Str → Option Value), h.get? e = some o ∧ o.cls = .ref x.c ∧ o.dict = some d ∧ o.data = .fields vs ∧ 6 ≤ vs.size ∧ (d, od) ∈ fz ∧ NsObj od kvs ∧ AtR G fz x.at_ kvs ∧
    (vs[1]? = some .none ∨ ∃ tb ot ts, vs[1]? = some (.ref tb) ∧ h.get? tb = some ot ∧ ot.data = .fields ts ∧ (ts[3]? = some .none ∨ ts[3]? = some (rawInt cx.env.locals)) ∧ Off G cx ex σ fz tb ∧ tb ≠ e)

noncomputable def Ret {α β : Type} (R : Gr → Objs → β → α → Prop) (G : Gr) (cx : Cx) (ex fz : Objs) (s : Shared) (Q : β → AE → AH → Prop) (QQ : α → Shared → Prop) : Prop :=
  ∀ b a ρ' σ' fz' h' tk', (∀ p ∈ fz, p ∈ fz') → Sat G cx ex ρ' σ' fz' h' → R G fz' b a → Q b ρ' σ' → QQ a { s with heap := h', toks := tk' }
noncomputable def Exn (G : Gr) (cx : Cx) (ex fz : Objs) (s : Shared) (EQ : AX → AE → AH → Prop) (EE : Value → Shared → Prop) : Prop :=
  ∀ x e ρ' σ' fz' h' tk', (∀ p ∈ fz, p ∈ fz') → Sat G cx ex ρ' σ' fz' h' → XIs G cx ex σ' fz' h' e x → EQ x ρ' σ' → EE (.ref e) { s with heap := h', toks := tk' }

theorem Ret.on {α β : Type} {R : Gr → Objs → β → α → Prop} {G cx ex fz fz₁ s h₁ t₁ Q QQ} (r : Ret R G cx ex fz s Q QQ) (k : ∀ p ∈ fz, p ∈ fz₁) : Ret R G cx ex fz₁ { s with heap := h₁, toks := t₁ } Q QQ :=
  fun b a ρ' σ' fz' h' tk' k' S rr q => r b a ρ' σ' fz' h' tk' (fun p hp => k' p (k p hp)) S rr q
theorem Exn.on {G cx ex fz fz₁ s h₁ t₁ EQ EE} (r : Exn G cx ex fz s EQ EE) (k : ∀ p ∈ fz, p ∈ fz₁) : Exn G cx ex fz₁ { s with heap := h₁, toks := t₁ } EQ EE :=
  fun x e ρ' σ' fz' h' tk' k' S rr q => r x e ρ' σ' fz' h' tk' (fun p hp => k' p (k p hp)) S rr q

noncomputable def JV {α β : Type} (R : Gr → Objs → β → α → Prop) (G : Gr) (cx : Cx) (ρ : AE) (σ : AH) (args : List AV) (t : List Value → Sem α) (Q : β → AE → AH → Prop) (EQ : AX → AE → AH → Prop) : Prop :=
  ∀ ex fz (s : Shared) Vs, GOk G → Sat G cx ex ρ σ fz s.heap → RelL G fz args Vs → ∀ QQ EE, Ret R G cx ex fz s Q QQ → Exn G cx ex fz s EQ EE → wpAny (model G.prog G.w) cx.A (t Vs) QQ EE s

/-- of an expression -/
noncomputable abbrev Ev (G : Gr) (cx : Cx) (ρ : AE) (σ : AH) (e : Expr) (Q : AV → AE → AH → Prop) (EQ : AX → AE → AH → Prop) : Prop := JV Rel G cx ρ σ [] (fun _ => eval e cx.env) Q EQ
noncomputable def RB (_ : Gr) (_ : Objs) (b a : Bool) : Prop := a = b
/-- of a test -/
noncomputable abbrev Ts (G : Gr) (cx : Cx) (ρ : AE) (σ : AH) (e : Expr) (Q : Bool → AE → AH → Prop) (EQ : AX → AE → AH → Prop) : Prop := JV RB G cx ρ σ [] (fun _ => isTrue e cx.env (eval e cx.env)) Q EQ

inductive AF where
  | next
  | ret (v : AV)
inductive RF (G : Gr) (fz : Objs) : AF → Flow → Prop
  | next : RF G fz .next .next
  | ret {v V} : Rel G fz v V → RF G fz (.ret v) (.ret V)
/-- of a suite -/
noncomputable abbrev Xs (G : Gr) (cx : Cx) (ρ : AE) (σ : AH) (b : List Stmt) (Q : AF → AE → AH → Prop) (EQ : AX → AE → AH → Prop) : Prop := JV RF G cx ρ σ [] (fun _ => execs b cx.env) Q EQ
noncomputable abbrev X1 (G : Gr) (cx : Cx) (ρ : AE) (σ : AH) (b : Stmt) (Q : AF → AE → AH → Prop) (EQ : AX → AE → AH → Prop) : Prop := JV RF G cx ρ σ [] (fun _ => exec b cx.env) Q EQ
noncomputable def RU (_ : Gr) (_ : Objs) (_ : Unit) (_ : Unit) : Prop := True

noncomputable def two {α : Type} (f : Value → Value → Sem α) : List Value → Sem α
  | [a, b] => f a b
  | _ => .unsupported ""
section
variable {G : Gr} {cx : Cx} {ρ : AE} {σ : AH} {Q : AV → AE → AH → Prop} {EQ : AX → AE → AH → Prop}

theorem JV.run {α β : Type} {R : Gr → Objs → β → α → Prop} {args t} {Q : β → AE → AH → Prop} (h : JV R G cx ρ σ args t Q EQ) {ex fz} {s : Shared} {Vs} (g : GOk G) (S : Sat G cx ex ρ σ fz s.heap) (r : RelL G fz args Vs)
    {QQ EE} (hQ : Ret R G cx ex fz s Q QQ) (hE : Exn G cx ex fz s EQ EE) : wpAny (model G.prog G.w) cx.A (t Vs) QQ EE s := h ex fz s Vs g S r QQ EE hQ hE

theorem JV.mono {α β : Type} {R : Gr → Objs → β → α → Prop} {args t} {Q Q' : β → AE → AH → Prop} {EQ' : AX → AE → AH → Prop} (h : JV R G cx ρ σ args t Q EQ) (hq : ∀ b ρ σ, Q b ρ σ → Q' b ρ σ) (he : ∀ x ρ σ, EQ x ρ σ → EQ' x ρ σ) : JV R G cx ρ σ args t Q' EQ' :=
  fun _ _ _ _ g S r _ _ hQ hE => h.run g S r (fun b a ρ' σ' fz' h' tk' k S' rr q => hQ b a ρ' σ' fz' h' tk' k S' rr (hq _ _ _ q)) (fun x e ρ' σ' fz' h' tk' k S' rr q => hE x e ρ' σ' fz' h' tk' k S' rr (he _ _ _ q))

theorem RelL.nil_inv {fz Vs} (h : RelL G fz [] Vs) : Vs = [] := by cases h; rfl
theorem RelL.cons_inv {fz v l Vs} (h : RelL G fz (v :: l) Vs) : ∃ V vs, Vs = V :: vs ∧ Rel G fz v V ∧ RelL G fz l vs := by
  cases h with
  | cons h r => exact ⟨_, _, rfl, h, r⟩
theorem RelL.one_inv {fz v Vs} (h : RelL G fz [v] Vs) : ∃ V, Vs = [V] ∧ Rel G fz v V := by
  cases h with
  | cons h r => cases r; exact ⟨_, rfl, h⟩
theorem RelL.two_inv {fz v u Vs} (h : RelL G fz [v, u] Vs) : ∃ V U, Vs = [V, U] ∧ Rel G fz v V ∧ Rel G fz u U := by
  cases h with
  | cons h r =>
    obtain ⟨U, rfl, hu⟩ := r.one_inv
    exact ⟨_, _, rfl, h, hu⟩

/-- what a step gives back without touching the state -/
theorem give {α β : Type} {R : Gr → Objs → β → α → Prop} {ex fz} {s : Shared} {Q : β → AE → AH → Prop} {QQ} (hQ : Ret R G cx ex fz s Q QQ) (S : Sat G cx ex ρ σ fz s.heap) {b a} (r : R G fz b a) (q : Q b ρ σ) {tk : Nat} : QQ a { s with toks := tk } :=
  hQ b a ρ σ fz s.heap tk (fun _ h => h) S r q

/-! names and constants -/
theorem ev_int {i : Int} {k pos} (q : Q (.int i) ρ σ) : Ev G cx ρ σ (.Constant (.int i) k pos) Q EQ :=
  fun _ _ _ _ _ S _ _ _ hQ _ => wpAny_Constant_int (give hQ S (.int _ _) q)
theorem ev_str {x : Str} {k pos} (q : Q (.str x) ρ σ) : Ev G cx ρ σ (.Constant (.str x) k pos) Q EQ :=
  fun _ _ _ _ _ S _ _ _ hQ _ => Calls.Constant_str (give hQ S (.str _ _) q)
theorem loadVar {ex fz} {s : Shared} {x : Str} {v : AV} {QQ EE} (S : Sat G cx ex ρ σ fz s.heap) (hv : ρ x = some v) (hx : (x == ("__classdict__" : Str)) = false) (h : ∀ V, Rel G fz v V → QQ V s) : wpAny (model G.prog G.w) cx.A (loadName cx.env x) QQ EE s := by
  obtain ⟨m, hn, hm⟩ := S.loc
  rcases hm x v hv with ⟨hk, V, hV, r⟩ | ⟨hk, c, V, hc, _, hi, r⟩ | ⟨hk, c, o, V, hc, ho, hd, r⟩
  · exact wpAny_loadName_local S.ok.kf hk hn hV (h V r)
  · exact wpAny_loadName_cell S.ok.kf hk hc hi (h V r)
  · have hi : s.heap.IsCell c (some V) := ⟨o, S.exh _ (S.clx _ ho), hd⟩
    rcases hk with hk | hk
    · exact wpAny_loadName_free S.ok.kf hk hc hi (h V r) hx
    · exact wpAny_loadName_cell S.ok.kf hk hc hi (h V r)

theorem ev_name {x : Str} {pos} {v : AV} (hv : ρ x = some v) (q : Q v ρ σ) (hd : (x == ("__debug__" : Str)) = false := by decide) (hx : (x == ("__classdict__" : Str)) = false := by decide) : Ev G cx ρ σ (.Name x pos) Q EQ :=
  fun _ _ _ _ _ S _ _ _ hQ _ => wpAny_Name (loadVar S hv hx fun _ r => give hQ S r q) hd

theorem ev_global {x : Str} {pos} {V : Value} (hk : cx.env.kindOf x = some .globalImplicit) (e : nsIn G.K mainGlobals x = some (some V)) (q : Q (.val V) ρ σ) (hd : (x == ("__debug__" : Str)) = false := by decide) : Ev G cx ρ σ (.Name x pos) Q EQ :=
  fun _ _ _ _ g S _ _ _ hQ _ => Calls.Name_function_global S.ok.kf hk (Calls.loadGlobal_global (env := cx.env) (by rw [S.ok.gl.1]; exact g.TB.g.keeps S.base) (mg_of g.KB g.TB.g e) (give hQ S (.val _) q)) hd

theorem ev_builtin {x : Str} {pos} {V : Value} (hk : cx.env.kindOf x = some .globalImplicit) (e : nsIn G.K mainGlobals x = some none) (hv : bootBuiltins x = some V) (q : Q (.val V) ρ σ) (hn : x ≠ "__name__" := by decide) (hd : (x == ("__debug__" : Str)) = false := by decide) : Ev G cx ρ σ (.Name x pos) Q EQ :=
  fun _ _ _ _ g S _ _ _ hQ _ => Calls.Name_function_global S.ok.kf hk (Calls.loadGlobal_builtin (env := cx.env) (by rw [S.ok.gl.1]; exact g.TB.g.keeps S.base) (mg_none_of g.KB g.TB.g e) (by rw [S.ok.gl.2]; exact g.TB.b.keeps S.base) ((g.TB.builtins x hn).trans hv) (give hQ S (.val _) q)) hd

/-! two sub-expressions, then a step upon both -/
theorem ev_bin {l r : Expr} {op pos} (h : Ev G cx ρ σ l (fun v₁ ρ₁ σ₁ => Ev G cx ρ₁ σ₁ r (fun v₂ ρ₂ σ₂ => JV Rel G cx ρ₂ σ₂ [v₁, v₂] (two (binaryOp op)) Q EQ) EQ) EQ) : Ev G cx ρ σ (.BinOp l op r pos) Q EQ :=
  fun _ _ _ _ g S _ _ _ hQ hE => wpAny_BinOp (h.run g S .nil (fun _ _ _ _ _ _ _ k₁ S₁ r₁ q₁ => q₁.run g S₁ .nil (fun _ _ _ _ _ _ _ k₂ S₂ r₂ q₂ =>
    q₂.run g S₂ (.cons (r₁.mono k₂) (.cons r₂ .nil)) ((hQ.on k₁).on k₂) ((hE.on k₁).on k₂)) (hE.on k₁)) hE)
theorem ev_cmp {l r : Expr} {op pos} (h : Ev G cx ρ σ l (fun v₁ ρ₁ σ₁ => Ev G cx ρ₁ σ₁ r (fun v₂ ρ₂ σ₂ => JV Rel G cx ρ₂ σ₂ [v₁, v₂] (two (compareOp op)) Q EQ) EQ) EQ) (hb : behindInMarks op r = false := by rfl) : Ev G cx ρ σ (.Compare l [op] [r] pos) Q EQ :=
  fun _ _ _ _ g S _ _ _ hQ hE => wpAny_Compare1 (h.run g S .nil (fun _ _ _ _ _ _ _ k₁ S₁ r₁ q₁ => q₁.run g S₁ .nil (fun _ _ _ _ _ _ _ k₂ S₂ r₂ q₂ =>
    q₂.run g S₂ (.cons (r₁.mono k₂) (.cons r₂ .nil)) ((hQ.on k₁).on k₂) ((hE.on k₁).on k₂)) (hE.on k₁)) hE) hb
theorem ts_cmp {l r : Expr} {op pos} {Q : Bool → AE → AH → Prop} (h : Ev G cx ρ σ l (fun v₁ ρ₁ σ₁ => Ev G cx ρ₁ σ₁ r (fun v₂ ρ₂ σ₂ => JV Rel G cx ρ₂ σ₂ [v₁, v₂] (two (compareOp op)) (fun v ρ σ => ∃ b, v = .bool b ∧ Q b ρ σ) EQ) EQ) EQ) (hb : behindInMarks op r = false := by rfl) : Ts G cx ρ σ (.Compare l [op] [r] pos) Q EQ :=
  fun _ _ _ _ g S _ _ _ hQ hE => wpAny_isTrue_Compare1 (h.run g S .nil (fun _ _ _ _ _ _ _ k₁ S₁ r₁ q₁ => q₁.run g S₁ .nil (fun _ _ _ _ _ _ _ k₂ S₂ r₂ q₂ =>
    q₂.run g S₂ (.cons (r₁.mono k₂) (.cons r₂ .nil)) (fun v V ρ' σ' fz' h' tk' k' S' r' q' => by
      obtain ⟨b, rfl, q'⟩ := q'
      cases r'
      exact wpAny_truthy_bool (hQ b b ρ' σ' fz' h' tk' (fun p hp => k' p (k₂ p (k₁ p hp))) S' rfl q')) ((hE.on k₁).on k₂)) (hE.on k₁)) hE) hb

theorem sub_of {prog : Program} {w : World} {A : Around} {E : Value → Shared → Prop} {s : Shared} {value slice : Expr} {o i : Value} {T id : String} {Q : Value → Shared → Prop} (hT : s.TypeIs o T)
    (hl : typeLookup (.type T) "__getitem__" = pure (some (.builtin id))) (h : wpAny (model prog w) A (getItem o i) Q E s) (hs : subscripted slice false o i = operate [o, i] (getItem o i)) :
    wpAny (model prog w) A (subscriptTail value slice o i) Q E s := by
  unfold subscriptTail
  refine wpAny_bind ?_
  rw [getitemInPython_of_ne hT.not_modules]
  refine wpAny_bind (wpAny_specialOf hT hl ?_)
  have fin : wpAny (model prog w) A (subscripted slice false o i) (fun r s₃ => wpAny (model prog w) A (letTemporaryGo value o r >>= fun _ => pure r) Q E s₃) E s := by
    rw [hs]
    exact wpAny_operating (wpAny_mono h (fun r s₃ h₃ => wpAny_bind (wpAny_letTemporaryGo (wpAny_pure h₃))) fun _ _ x => x)
  first
    | exact wpAny_pure (wpAny_bind fin)
    | exact wpAny_bind (wpAny_pure (wpAny_bind fin))
    | exact wpAny_bind fin

theorem ev_sub {value slice : Expr} {pos} (h : Ev G cx ρ σ value (fun v₁ ρ₁ σ₁ => Ev G cx ρ₁ σ₁ slice (fun v₂ ρ₂ σ₂ => JV Rel G cx ρ₂ σ₂ [v₁, v₂] (two (subscriptTail value slice)) Q EQ) EQ) EQ) : Ev G cx ρ σ (.Subscript value slice pos) Q EQ :=
  fun _ _ _ _ g S _ _ _ hQ hE => Subscript_ (h.run g S .nil (fun _ _ _ _ _ _ _ k₁ S₁ r₁ q₁ => q₁.run g S₁ .nil (fun _ _ _ _ _ _ _ k₂ S₂ r₂ q₂ =>
    q₂.run g S₂ (.cons (r₁.mono k₂) (.cons r₂ .nil)) ((hQ.on k₁).on k₂) ((hE.on k₁).on k₂)) (hE.on k₁)) hE)

/-! arithmetic -/
theorem op_add {a b : Int} (q : Q (.int (a + b)) ρ σ) : JV Rel G cx ρ σ [.int a, .int b] (two (binaryOp .Add)) Q EQ := fun _ _ _ _ _ S r _ _ hQ _ => by
  obtain ⟨_, _, rfl, r1, r2⟩ := r.two_inv
  cases r1; cases r2
  exact add_int (give hQ S (.int _ _) q)
theorem op_sub {a b : Int} (q : Q (.int (a - b)) ρ σ) : JV Rel G cx ρ σ [.int a, .int b] (two (binaryOp .Sub)) Q EQ := fun _ _ _ _ _ S r _ _ hQ _ => by
  obtain ⟨_, _, rfl, r1, r2⟩ := r.two_inv
  cases r1; cases r2
  exact sub_int (give hQ S (.int _ _) q)
theorem op_or {a b : Int} (q : Q (.int (Builtin.bitOr a b)) ρ σ) : JV Rel G cx ρ σ [.int a, .int b] (two (binaryOp .BitOr)) Q EQ := fun _ _ _ _ _ S r _ _ hQ _ => by
  obtain ⟨_, _, rfl, r1, r2⟩ := r.two_inv
  cases r1; cases r2
  exact or_int (give hQ S (.int _ _) q)
theorem op_mod {a b : Int} (hb : b ≠ 0) (q : Q (.int (a.fmod b)) ρ σ) : JV Rel G cx ρ σ [.int a, .int b] (two (binaryOp .Mod)) Q EQ := fun _ _ _ _ _ S r _ _ hQ _ => by
  obtain ⟨_, _, rfl, r1, r2⟩ := r.two_inv
  cases r1; cases r2
  exact mod_int' hb (give hQ S (.int _ _) q)
theorem op_pow {a n : Int} (h0 : 0 ≤ n) (h1 : n ≤ 1000000) (ha : a.natAbs < 2 ^ 64) (q : Q (.int (a ^ n.toNat)) ρ σ) : JV Rel G cx ρ σ [.int a, .int n] (two (binaryOp .Pow)) Q EQ := fun _ _ _ _ _ S r _ _ hQ _ => by
  obtain ⟨_, _, rfl, r1, r2⟩ := r.two_inv
  cases r1; cases r2
  exact pow_int_small h0 h1 ha (give hQ S (.int _ _) q)
theorem op_cat {a b : Str} (hz : a.length + b.length ≤ sizeLine) (q : Q (.str (a ++ b)) ρ σ) : JV Rel G cx ρ σ [.str a, .str b] (two (binaryOp .Add)) Q EQ := fun _ _ _ _ _ S r _ _ hQ _ => by
  obtain ⟨_, _, rfl, r1, r2⟩ := r.two_inv
  cases r1; cases r2
  exact add_str (fun t tk => give hQ S (.str _ t) q) hz

/-! comparisons -/
theorem op_eq_int {a b : Int} (q : Q (.bool (a == b)) ρ σ) : JV Rel G cx ρ σ [.int a, .int b] (two (compareOp .Eq)) Q EQ := fun _ _ _ _ _ S r _ _ hQ _ => by
  obtain ⟨_, _, rfl, r1, r2⟩ := r.two_inv
  cases r1; cases r2
  exact eq_int (give hQ S (.bool _) q)
theorem op_lt_int {a b : Int} (q : Q (.bool (decide (a < b))) ρ σ) : JV Rel G cx ρ σ [.int a, .int b] (two (compareOp .Lt)) Q EQ := fun _ _ _ _ _ S r _ _ hQ _ => by
  obtain ⟨_, _, rfl, r1, r2⟩ := r.two_inv
  cases r1; cases r2
  exact lt_int (give hQ S (.bool _) q)
theorem op_gt_int {a b : Int} (q : Q (.bool (decide (b < a))) ρ σ) : JV Rel G cx ρ σ [.int a, .int b] (two (compareOp .Gt)) Q EQ := fun _ _ _ _ _ S r _ _ hQ _ => by
  obtain ⟨_, _, rfl, r1, r2⟩ := r.two_inv
  cases r1; cases r2
  exact gt_int (give hQ S (.bool _) q)
theorem op_eq_str {a b : Str} (q : Q (.bool (a == b)) ρ σ) : JV Rel G cx ρ σ [.str a, .str b] (two (compareOp .Eq)) Q EQ := fun _ _ _ _ _ S r _ _ hQ _ => by
  obtain ⟨_, _, rfl, r1, r2⟩ := r.two_inv
  cases r1; cases r2
  exact eq_str (give hQ S (.bool _) q)
theorem op_ne_str {a b : Str} (q : Q (.bool (a != b)) ρ σ) : JV Rel G cx ρ σ [.str a, .str b] (two (compareOp .NotEq)) Q EQ := fun _ _ _ _ _ S r _ _ hQ _ => by
  obtain ⟨_, _, rfl, r1, r2⟩ := r.two_inv
  cases r1; cases r2
  exact ne_str (give hQ S (.bool _) q)
theorem op_in_str {a b : Str} (q : Q (.bool !(Builtin.Str.occurrences b a 0 b.length 1).isEmpty) ρ σ) : JV Rel G cx ρ σ [.str a, .str b] (two (compareOp .In)) Q EQ := fun _ _ _ _ _ S r _ _ hQ _ => by
  obtain ⟨_, _, rfl, r1, r2⟩ := r.two_inv
  cases r1; cases r2
  exact in_str (give hQ S (.bool _) q)
theorem op_notin_str {a b : Str} (q : Q (.bool !!(Builtin.Str.occurrences b a 0 b.length 1).isEmpty) ρ σ) : JV Rel G cx ρ σ [.str a, .str b] (two (compareOp .NotIn)) Q EQ := fun _ _ _ _ _ S r _ _ hQ _ => by
  obtain ⟨_, _, rfl, r1, r2⟩ := r.two_inv
  cases r1; cases r2
  exact notIn_str (give hQ S (.bool _) q)
end
end Mine
namespace Mine
open PySem PySem.W PyProof.Rows PyProof.Rows.LCg PySem.Calls PySem.Spec

section
variable {G : Gr} {cx : Cx} {ρ : AE} {σ : AH} {ex fz : Objs} {h h' : Heap}

/-- frames may get their frame objects laid -/
theorem Sat.slots {S' : List Addr} (S : Sat G cx ex ρ σ fz h) (k : Heap.SlotsOnly S' h h') (hs : ∀ b ∈ S', b = cx.env.locals ∨ b ∈ cx.stk.map (·.1.locals)) : Sat G cx ex ρ σ fz h' := by
  have inm : ∀ b ∈ S', b ∈ cx.mut σ := fun b hb => by
    unfold Cx.mut
    rcases hs b hb with rfl | q
    · exact List.mem_cons_self
    · exact List.mem_cons_of_mem _ (List.mem_append_left _ (List.mem_append_left _ q))
  have keep : ∀ b o, b ∉ S' → h.get? b = some o → h'.get? b = some o := fun b o nb e => (k.2.1 b nb).trans e
  have nd := S.nod
  unfold Cx.mut at nd
  have ns : ∀ b, b ∈ cx.own ++ σ.map (·.1) → b ∉ S' := fun b hb q => by
    have n2 := nd
    rw [List.append_assoc, ← List.cons_append, List.nodup_append] at n2
    have : b ∈ cx.env.locals :: cx.stk.map (·.1.locals) := by
      rcases hs b q with rfl | q
      · exact List.mem_cons_self
      · exact List.mem_cons_of_mem _ q
    exact n2.2.2 b this b hb rfl
  have nsup : ∀ {a : Addr} {m : Str → Option Value}, h.Ns a m → h'.Ns a m := fun ⟨o, es, ep, ho, hd, r⟩ => by
    obtain ⟨sl, e⟩ := k.2.2 _ o ho
    exact ⟨_, es, ep, e, hd, r⟩
  have kcell : ∀ c ∈ cx.own, ∀ v, h.IsCell c v → h'.IsCell c v := fun c hc v ⟨o, ho, hd⟩ => ⟨o, keep c o (ns c (List.mem_append_left _ hc)) ho, hd⟩
  refine ⟨S.ok, S.clx, fun b o e => keep b o (fun q => ?_) (S.base b o e), fun p hp => nsup (S.stk p hp), fun c hc => ?_, fun p hp => keep _ _ (fun q => S.apf _ (inm _ q) (List.mem_map_of_mem hp)) (S.fzh p hp),
    fun p hp => keep _ _ (fun q => S.apx _ (inm _ q) (List.mem_map_of_mem hp)) (S.exh p hp), fun p hp => ?_, ?_, S.nod, S.new, S.apf, S.apx, S.xf⟩
  · have := (S.new b (inm b q)).1
    rw [e] at this; cases this
  · obtain ⟨v, hv⟩ := S.ownc c hc
    exact ⟨v, kcell c hc v hv⟩
  · obtain ⟨o, ho, r⟩ := S.live p hp
    exact ⟨o, keep _ o (ns _ (List.mem_append_right _ (List.mem_map_of_mem hp))) ho, r⟩
  · obtain ⟨m, hn, hv⟩ := S.loc
    exact ⟨m, nsup hn, fun x v e => (hv x v e).keep kcell⟩

theorem Off.not_frame {a : Addr} (O : Off G cx ex σ fz a) : ¬ (a = cx.env.locals ∨ a ∈ cx.stk.map (·.1.locals)) := fun q => O.m (by
  unfold Cx.mut
  rcases q with rfl | q
  · exact List.mem_cons_self
  · exact List.mem_cons_of_mem _ (List.mem_append_left _ (List.mem_append_left _ q)))

theorem frames_mem (ok : CxOk cx) (hc : cx.comp = false) : ∀ b ∈ cx.frames.filterMap (·.frame), b = cx.env.locals ∨ b ∈ cx.stk.map (·.1.locals) := fun b hb => by
  unfold Cx.frames at hb
  rw [hc] at hb
  obtain ⟨e, he, hf⟩ := List.mem_filterMap.mp hb
  rcases List.mem_cons.mp he with rfl | he
  · rw [ok.fr hc] at hf
    exact .inl (Option.some.inj hf).symm
  · obtain ⟨p, hp, rfl⟩ := List.mem_map.mp he
    rw [(ok.fs p hp).2] at hf
    exact .inr (List.mem_map.mpr ⟨p, hp, Option.some.inj hf⟩)

theorem Sat.funFrames (S : Sat G cx ex ρ σ fz h) (hc : cx.comp = false) : h.FunFrames G.hb (cx.env :: cx.stk.map (·.1)) := by
  have one : ∀ {e : Env} {m : Str → Option Value}, h.Ns e.locals m → e.scope.kind = .function → e.frame = some e.locals → G.hb.get? e.locals = none →
      e.scope.kind ≠ .module ∧ ∃ L o, e.frame = some L ∧ G.hb.get? L = none ∧ h.get? L = some o ∧ ∀ vs, o.data ≠ .fields vs := fun ⟨o, es, ep, ho, hd, _⟩ hk hf hn =>
    ⟨by rw [hk]; decide, _, o, hf, hn, ho, fun vs q => by rw [hd] at q; cases q⟩
  obtain ⟨m, hn, _⟩ := S.loc
  have h1 := one hn S.ok.kf (S.ok.fr hc) (S.new _ (by unfold Cx.mut; simp)).1
  refine ⟨h1.1, h1.2, ?_⟩
  have hs : ∀ p ∈ cx.stk, h.Ns p.1.locals p.2 ∧ p.1.scope.kind = .function ∧ p.1.frame = some p.1.locals ∧ G.hb.get? p.1.locals = none := fun p hp =>
    ⟨S.stk p hp, (S.ok.fs p hp).1, (S.ok.fs p hp).2, (S.new _ (by unfold Cx.mut; simp only [List.mem_cons, List.mem_append, List.mem_map]; exact .inr (.inl (.inl ⟨p, hp, rfl⟩)))).1⟩
  revert hs
  generalize cx.stk = l
  intro hs
  induction l with
  | nil => trivial
  | cons p l ih =>
    obtain ⟨a1, a2, a3, a4⟩ := hs p List.mem_cons_self
    have q := one a1 a2 a3 a4
    exact ⟨q.1, q.2, ih fun p hp => hs p (List.mem_cons_of_mem _ hp)⟩

/-- an exception that this frame has noted -/
noncomputable def XNo (G : Gr) (cx : Cx) (ex : Objs) (σ : AH) (fz : Objs) (h : Heap) (e : Addr) (x : AX) (fl : Value) : Prop :=
  Off G cx ex σ fz e ∧ ∃ (o : Obj) (d : Addr) (od : Obj) (vs : Array Value) (kvs : Str → Option Value), h.get? e = some o ∧ o.cls = .ref x.c ∧ o.dict = some d ∧ o.data = .fields vs ∧ 6 ≤ vs.size ∧ (d, od) ∈ fz ∧ NsObj od kvs ∧ AtR G fz x.at_ kvs ∧
    ∃ tb ot ts, vs[1]? = some (.ref tb) ∧ h.get? tb = some ot ∧ ot.data = .fields ts ∧ ts[3]? = some fl ∧ Off G cx ex σ fz tb ∧ tb ≠ e
theorem XNo.is {e : Addr} {x : AX} {fl : Value} (X : XNo G cx ex σ fz h e x fl) (hf : fl = .none ∨ fl = rawInt cx.env.locals) : XIs G cx ex σ fz h e x := by
  obtain ⟨O, o, d, od, vs, kvs, h1, h2, h3, h4, h5, h6, h7, h8, tb, ot, ts, t1, t2, t3, t4, t5, t6⟩ := X
  exact ⟨O, o, d, od, vs, kvs, h1, h2, h3, h4, h5, h6, h7, h8, .inr ⟨tb, ot, ts, t1, t2, t3, hf.imp (fun q => by rw [q] at t4; exact t4) (fun q => by rw [q] at t4; exact t4), t5, t6⟩⟩

theorem mapFields_dict (o : Obj) (f) : (o.mapFields f).dict = o.dict := by
  obtain ⟨c, d, dt, sl⟩ := o
  cases dt <;> rfl
theorem rawInt_ne (L : Addr) : ((Value.none : Value) == rawInt L) = false := by rfl
end

section
variable {G : Gr} {cx : Cx} {ρ : AE} {σ : AH} {ex fz : Objs} {s : Shared} {A : Around} {EE : Value → Shared → Prop} {e : Addr} {x : AX}

/-- the entry is made and hung on the exception -/
theorem entry_made {QQ : Unit → Shared → Prop} {o : Obj} {vs : Array Value} {head : Value} {hn : Bool} (hA : A.frames = some cx.frames) (hc : cx.comp = false) (S : Sat G cx ex ρ σ fz s.heap) (O : Off G cx ex σ fz e) (ho : s.heap.get? e = some o) (hd : o.data = .fields vs) (hz : 6 ≤ vs.size)
    (k : ∀ h' tb ot ts, Sat G cx ex ρ σ fz h' → h'.get? e = some (o.mapFields (·.setIfInBounds 1 (.ref tb))) → h'.get? tb = some ot → ot.data = .fields ts → ts[3]? = some (rawInt cx.env.locals) → Off G cx ex σ fz tb → tb ≠ e → QQ () { s with heap := h' }) :
    wpAny (model G.prog G.w) A (do let a ← frameOf cx.env; let pl ← entryPlaceOf cx.env.locals hn; let b ← EntryCells.newEntry head a .none (rawInt cx.env.locals) .none pl; setField (.ref e) 1 b) QQ EE s := by
  have hfr : A.frames = some (cx.env :: cx.stk.map (·.1)) := by rw [hA]; unfold Cx.frames; rw [hc]; rfl
  refine wpAny_bind (wpAny_frameOf_fun hfr (S.funFrames hc) (S.ok.fr hc) fun h₁ hs => ?_)
  have hfm := frames_mem S.ok hc
  have hfe : cx.frames = cx.env :: cx.stk.map (·.1) := by unfold Cx.frames; rw [hc]; rfl
  rw [hfe] at hfm
  have S₁ := S.slots hs hfm
  have he₁ : h₁.get? e = some o := (hs.2.1 e (fun q => O.not_frame (hfm e q))).trans ho
  refine wpAny_bind (wpAny_entryPlaceOf fun pl hpl => ?_)
  have hpz : pl.length = 0 ∨ pl.length = 6 := by
    rcases hpl with q | ⟨_, _, _, _, _, _, _, q⟩ <;> simp [q]
  unfold EntryCells.newEntry newFields
  refine wpAny_bind (wpAny_newObj_type ?_ (by
    show Array.size _ ≤ _
    have : sizeLine = 16777216 := rfl
    split <;> simp <;> omega))
  have S₂ := S₁.push { cls := .type "traceback", data := .fields ([head, .ref cx.env.locals, .none, rawInt cx.env.locals, .none] ++ if pl.isEmpty = true then List.replicate 6 Value.none else pl).toArray }
  have he₂ : (h₁.push { cls := .type "traceback", data := .fields ([head, .ref cx.env.locals, .none, rawInt cx.env.locals, .none] ++ if pl.isEmpty = true then List.replicate 6 Value.none else pl).toArray }).get? e = some o := Heap.get?_push_of_some _ he₁
  refine wpAny_setField he₂ hd (by omega) ?_
  have hte : h₁.objs.size ≠ e := Nat.ne_of_gt (Heap.lt_size he₁)
  refine k _ h₁.objs.size _ _ (S₂.but (Heap.SameBut.update ..).extBut O) (Heap.get?_update_self _ he₂ (Obj.isFreed_of_fields (Obj.data_mapFields hd _))) ((Heap.get?_update_ne _ _ _ _ hte).trans (Heap.get?_push_size _ rfl)) rfl (by simp) (S₁.size_off (Nat.le_refl _)) hte

theorem note_frame {QQ : Unit → Shared → Prop} (hA : A.frames = some cx.frames) (hc : cx.comp = false) (S : Sat G cx ex ρ σ fz s.heap) (X : XIs G cx ex σ fz s.heap e x)
    (k : ∀ h', Sat G cx ex ρ σ fz h' → XNo G cx ex σ fz h' e x (rawInt cx.env.locals) → QQ () { s with heap := h' }) : wpAny (model G.prog G.w) A (noteFrame (.ref e) cx.env) QQ EE s := by
  obtain ⟨O, o, d, od, vs, kvs, h1, h2, h3, h4, h5, h6, h7, h8, ht⟩ := X
  unfold noteFrame
  rw [S.ok.fr hc]
  have fin : ∀ h', Sat G cx ex ρ σ fz h' → h'.get? e = some o → ∀ head : Value, ∀ hn : Bool, wpAny (model G.prog G.w) A (do let a ← frameOf cx.env; let pl ← entryPlaceOf cx.env.locals hn; let b ← EntryCells.newEntry head a .none (rawInt cx.env.locals) .none pl; setField (.ref e) 1 b) QQ EE { s with heap := h' } := fun h' S' he head hn =>
    entry_made hA hc S' O he h4 h5 fun h'' tb ot ts S'' a1 a2 a3 a4 a5 a6 => k h'' S'' ⟨O, _, d, od, _, kvs, a1, (Obj.cls_mapFields ..).trans h2, (mapFields_dict ..).trans h3, Obj.data_mapFields h4 _, by rw [Array.size_setIfInBounds]; exact h5, h6, h7, h8, tb, ot, ts, by rw [Array.getElem?_setIfInBounds_self, if_pos (by omega)], a2, a3, a4, a5, a6⟩
  rcases ht with ht | ⟨tb, ot, ts, t1, t2, t3, t4, t5, t6⟩
  · refine wpAny_bind (wpAny_field h1 h4 ht ?_)
    rw [if_neg (by decide)]
    exact fin s.heap S h1 .none _
  · refine wpAny_bind (wpAny_field h1 h4 t1 ?_)
    rw [if_pos (by rfl)]
    rcases t4 with t4 | t4
    · refine wpAny_bind (wpAny_field t2 t3 t4 ?_)
      rw [if_neg (by rw [rawInt_ne]; decide)]
      have hz : 3 < ts.size := (Array.getElem?_eq_some_iff.mp t4).1
      refine wpAny_bind (wpAny_setField t2 t3 hz ?_)
      exact fin _ (S.but (Heap.SameBut.update ..).extBut t5) ((Heap.get?_update_ne _ _ _ _ t6.symm).trans h1) (.ref tb) _
    · refine wpAny_bind (wpAny_field t2 t3 t4 ?_)
      rw [if_pos (by simp)]
      exact wpAny_pure (k s.heap S ⟨O, o, d, od, vs, kvs, h1, h2, h3, h4, h5, h6, h7, h8, tb, ot, ts, t1, t2, t3, t4, t5, t6⟩)

theorem set_flight {QQ : Unit → Shared → Prop} {fl : Value} (f : Option Addr) (S : Sat G cx ex ρ σ fz s.heap) (X : XNo G cx ex σ fz s.heap e x fl)
    (k : ∀ h', Sat G cx ex ρ σ fz h' → XNo G cx ex σ fz h' e x (f.elim .none fun f => rawInt f) → QQ () { s with heap := h' }) : wpAny (model G.prog G.w) A (setFlight (.ref e) f) QQ EE s := by
  obtain ⟨O, o, d, od, vs, kvs, h1, h2, h3, h4, h5, h6, h7, h8, tb, ot, ts, t1, t2, t3, t4, t5, t6⟩ := X
  unfold setFlight
  refine wpAny_bind (wpAny_field h1 h4 t1 ?_)
  rw [if_pos (by rfl)]
  have hz : 3 < ts.size := (Array.getElem?_eq_some_iff.mp t4).1
  refine wpAny_setField t2 t3 hz (k _ (S.but (Heap.SameBut.update ..).extBut t5) ⟨O, o, d, od, vs, kvs, (Heap.get?_update_ne _ _ _ _ t6.symm).trans h1, h2, h3, h4, h5, h6, h7, h8, tb, _, _, t1, Heap.get?_update_self _ t2 (Obj.isFreed_of_fields (Obj.data_mapFields t3 _)), Obj.data_mapFields t3 _, by simp [hz], t5, t6⟩)

/-- an exception leaves the function -/
theorem leaves {QQ : Unit → Shared → Prop} (hA : A.frames = some cx.frames) (hc : cx.comp = false) (S : Sat G cx ex ρ σ fz s.heap) (X : XIs G cx ex σ fz s.heap e x)
    (k : ∀ h', Sat G cx ex ρ σ fz h' → XNo G cx ex σ fz h' e x .none → QQ () { s with heap := h' }) : wpAny (model G.prog G.w) A (leaving cx.env (.ref e)) QQ EE s := by
  unfold leaving
  exact wpAny_bind (note_frame hA hc S X fun h' S' X' => set_flight none S' X' fun h'' S'' X'' => k h'' S'' X'')

/-- an exception comes through a loop of this frame -/
theorem notes_back {QQ : Value → Shared → Prop} (hA : A.frames = some cx.frames) (hc : cx.comp = false) (S : Sat G cx ex ρ σ fz s.heap) (X : XIs G cx ex σ fz s.heap e x)
    (k : ∀ h', Sat G cx ex ρ σ fz h' → XIs G cx ex σ fz h' e x → QQ (.ref e) { s with heap := h' }) : notedBy (model G.prog G.w) A cx.env (cameBackBy (model G.prog G.w) A cx.env QQ) (.ref e) s := by
  unfold notedBy
  refine note_frame hA hc S X fun h' S' X' => ?_
  unfold cameBackBy
  obtain ⟨O, o, d, od, vs, kvs, h1, h2, h3, h4, h5, h6, h7, h8, tb, ot, ts, t1, t2, t3, t4, t5, t6⟩ := id X'
  refine wpAny_bind (wpAny_field h1 h4 t1 ?_)
  rw [if_neg (by intro q; cases q)]
  show wpAny _ _ (setFlight (.ref e) cx.env.frame) _ _ _
  refine set_flight _ S' X' fun h'' S'' X'' => k h'' S'' (X''.is ?_)
  rw [S.ok.fr hc]
  exact .inr rfl
end
end Mine
namespace Mine
open PySem PySem.W PyProof.Rows PyProof.Rows.LCg PySem.Calls PySem.Spec

theorem bindL_off {kind : Str → Option NameKind} {x : Str} : ∀ (l : List (Str × Value)) (m : Str → Option Value), x ∉ l.map (·.1) → bindL kind l m x = m x
  | [], _, _ => rfl
  | (n, v) :: r, m, h => by
    rw [bindL, bindL_off r _ (fun q => h (List.mem_cons_of_mem _ q))]
    split
    · exact if_neg (fun q => h (by rw [q]; exact List.mem_cons_self))
    · rfl
theorem bindC_off {kind : Str → Option NameKind} {x : Str} : ∀ (l : List (Str × Value)) (m : Str → Option Value), x ∉ l.map (·.1) → bindC kind l m x = m x
  | [], _, _ => rfl
  | (n, v) :: r, m, h => by
    rw [bindC, bindC_off r _ (fun q => h (List.mem_cons_of_mem _ q))]
    split
    · rfl
    · exact if_neg (fun q => h (by rw [q]; exact List.mem_cons_self))
theorem bind_at {G : Gr} {fz : Objs} {kind : Str → Option NameKind} {x : Str} {v : AV} : ∀ (names : List Str) (args : List AV) (Vs : List Value) (m : Str → Option Value), names.Nodup → RelL G fz args Vs → (names.zip args).lookup x = some v →
    ∃ V, Rel G fz v V ∧ (kind x = some .local → bindL kind (names.zip Vs) m x = some V) ∧ (kind x = some .cell → bindC kind (names.zip Vs) m x = some V) := by
  intro names
  induction names with
  | nil => exact fun _ _ _ _ _ e => nomatch e
  | cons n r ih =>
    intro args Vs0 m hn rr e
    cases args with
    | nil => exact nomatch e
    | cons a as =>
    obtain ⟨V, Vs, rfl, hr, rr⟩ := rr.cons_inv
    rw [List.zip_cons_cons, List.lookup_cons] at e
    have hn' := List.nodup_cons.mp hn
    cases hx : (x == n) with
    | true =>
      rw [hx] at e
      have hx' : x = n := by simpa using hx
      subst hx'
      cases e
      refine ⟨V, hr, fun hk => ?_, fun hk => ?_⟩
      · rw [List.zip_cons_cons, bindL, bindL_off, if_pos hk, if_pos rfl]
        exact fun q => hn'.1 (by
          obtain ⟨p, hp, rfl⟩ := List.mem_map.mp q
          exact (List.of_mem_zip hp).1)
      · rw [List.zip_cons_cons, bindC, bindC_off, if_neg (by rw [hk]; decide), if_pos rfl]
        exact fun q => hn'.1 (by
          obtain ⟨p, hp, rfl⟩ := List.mem_map.mp q
          exact (List.of_mem_zip hp).1)
    | false =>
      rw [hx] at e
      obtain ⟨V', h1, h2, h3⟩ := ih as Vs (if kind n = some .local then fun y => if y = n then some V else m y else m) hn'.2 rr e
      obtain ⟨V'', g1, g2, g3⟩ := ih as Vs (if kind n = some .local then m else fun y => if y = n then some V else m y) hn'.2 rr e
      by_cases hk : kind x = some .local
      · exact ⟨V', h1, fun _ => by rw [List.zip_cons_cons, bindL]; exact h2 hk, fun q => by rw [hk] at q; cases q⟩
      · exact ⟨V'', g1, fun q => absurd q hk, fun q => by rw [List.zip_cons_cons, bindC]; exact g3 q⟩

/-- the caller's own cells as objects -/
theorem own_objs {G : Gr} {cx : Cx} {ex : Objs} {ρ : AE} {σ : AH} {fz : Objs} {h : Heap} (S : Sat G cx ex ρ σ fz h) : ∃ l : Objs, keys l = cx.own ∧ Has l h := by
  have hs := S.ownc
  revert hs
  generalize cx.own = l
  intro hs
  induction l with
  | nil => exact ⟨[], rfl, fun _ hp => nomatch hp⟩
  | cons c r ih =>
    obtain ⟨v, o, ho, _⟩ := hs c List.mem_cons_self
    obtain ⟨l, hk, hh⟩ := ih fun c hc => hs c (List.mem_cons_of_mem _ hc)
    exact ⟨(c, o) :: l, by simp [keys] at hk ⊢; exact hk, fun p hp => by
      rcases List.mem_cons.mp hp with rfl | hp
      · exact ho
      · exact hh p hp⟩

/-- what a called frame keeps of its caller -/
structure Inner (G : Gr) (cx cx' : Cx) (ex ex' : Objs) (σ : AH) (h : Heap) (m : Str → Option Value) (ol : Objs) (oC : Obj) : Prop where
  stk : cx'.stk = if cx.comp then cx.stk else (cx.env, m) :: cx.stk
  ex : ex' = ol ++ ((if cx.comp then [(cx.env.locals, oC)] else []) ++ ex)
  olk : keys ol = cx.own
  ns : h.Ns cx.env.locals m
  oC : h.get? cx.env.locals = some oC
  has : Has ol h

section
variable {G : Gr} {cx cx' : Cx} {ex ex' : Objs} {ρ ρ' : AE} {σ σ' : AH} {fz fz' : Objs} {h h' : Heap} {m : Str → Option Value} {ol : Objs} {oC : Obj}

theorem Inner.off (I : Inner G cx cx' ex ex' σ h m ol oC) {a : Addr} (O : Off G cx' ex' σ' fz' a) : Off G cx ex σ' fz' a := by
  have hx : a ∉ keys ol ∧ a ∉ keys (if cx.comp then [(cx.env.locals, oC)] else []) ∧ a ∉ keys ex := by
    have := O.x
    rw [I.ex] at this
    unfold keys at this ⊢
    simp only [List.map_append, List.mem_append, not_or] at this
    exact this
  refine ⟨fun q => ?_, O.f, hx.2.2, O.b⟩
  unfold Cx.mut at q
  simp only [List.mem_cons, List.mem_append] at q
  have hm := O.m
  unfold Cx.mut at hm
  rw [I.stk] at hm
  simp only [List.mem_cons, List.mem_append, not_or] at hm
  rcases q with q | (q | q) | q
  · cases hc : cx.comp with
    | true =>
      have := hx.2.1
      rw [hc] at this
      exact this (by simp [keys, q])
    | false =>
      have := hm.2.1.1
      rw [hc] at this
      exact this (by simp [q])
  · have := hm.2.1.1
    cases hc : cx.comp with
    | true => rw [hc] at this; exact this (by simpa using q)
    | false => rw [hc] at this; exact this (by simp only [Bool.false_eq_true, if_false, List.map_cons]; exact List.mem_cons_of_mem _ q)
  · exact hx.1 (I.olk ▸ q)
  · exact hm.2.2 q

theorem Inner.back (I : Inner G cx cx' ex ex' σ h m ol oC) (S : Sat G cx ex ρ σ fz h) (S' : Sat G cx' ex' ρ' σ' fz' h') (k : ∀ p ∈ fz, p ∈ fz') (hv : ∀ x v, ρ x = some v → VarOk G cx fz m h x v) : Sat G cx ex ρ σ' fz' h' := by
  have hex : ∀ p, p ∈ ol ∨ p ∈ (if cx.comp then [(cx.env.locals, oC)] else []) ∨ p ∈ ex → p ∈ ex' := fun p hp => by
    rw [I.ex]; simp only [List.mem_append]; exact hp
  have hol : Has ol h' := fun p hp => S'.exh p (hex p (.inl hp))
  have kcell : ∀ c ∈ cx.own, ∀ v, h.IsCell c v → h'.IsCell c v := fun c hc v ⟨o, ho, hd⟩ => by
    rw [← I.olk] at hc
    obtain ⟨p, hp, rfl⟩ := List.mem_map.mp hc
    have := I.has p hp
    rw [ho] at this
    cases this
    exact ⟨_, hol p hp, hd⟩
  have nsL : h'.Ns cx.env.locals m := by
    cases hc : cx.comp with
    | true =>
      obtain ⟨o, es, ep, ho, r⟩ := I.ns
      rw [I.oC] at ho
      cases ho
      exact ⟨_, es, ep, S'.exh _ (hex (cx.env.locals, oC) (.inr (.inl (by rw [hc]; simp)))), r⟩
    | false =>
      exact S'.stk (cx.env, m) (by rw [I.stk, hc]; simp)
  have stkm : ∀ p ∈ cx.stk, p ∈ cx'.stk := fun p hp => by
    rw [I.stk]
    cases cx.comp with
    | true => exact hp
    | false => exact List.mem_cons_of_mem _ hp
  have m1 : ∀ a ∈ cx.stk.map (·.1.locals), a ∈ cx'.mut σ' := fun a ha => by
    obtain ⟨p, hp, rfl⟩ := List.mem_map.mp ha
    unfold Cx.mut
    simp only [List.mem_cons, List.mem_append, List.mem_map]
    exact .inr (.inl (.inl ⟨p, stkm p hp, rfl⟩))
  have m2 : ∀ a ∈ σ'.map (·.1), a ∈ cx'.mut σ' := fun a ha => by
    unfold Cx.mut
    simp only [List.mem_cons, List.mem_append]
    exact .inr (.inr ha)
  have x1 : ∀ a ∈ cx.own, a ∈ keys ex' := fun a ha => by
    rw [← I.olk] at ha
    obtain ⟨p, hp, rfl⟩ := List.mem_map.mp ha
    exact List.mem_map_of_mem (hex p (.inl hp))
  have L : cx.env.locals ∈ cx'.mut σ' ∧ cx.comp = false ∨ cx.env.locals ∈ keys ex' ∧ cx.comp = true := by
    cases hc : cx.comp with
    | true => exact .inr ⟨List.mem_map_of_mem (f := (·.1)) (hex (cx.env.locals, oC) (.inr (.inl (by rw [hc]; simp)))), rfl⟩
    | false =>
      refine .inl ⟨?_, rfl⟩
      unfold Cx.mut
      rw [I.stk, hc]
      simp
  have all : ∀ a ∈ cx.mut σ', a ∈ cx'.mut σ' ∨ a ∈ keys ex' := fun a ha => by
    unfold Cx.mut at ha
    simp only [List.mem_cons, List.mem_append] at ha
    rcases ha with rfl | (ha | ha) | ha
    · exact L.imp (·.1) (·.1)
    · exact .inl (m1 a ha)
    · exact .inr (x1 a ha)
    · exact .inl (m2 a ha)
  have nd := S.nod
  unfold Cx.mut at nd
  have nd' := S'.nod
  unfold Cx.mut at nd'
  rw [List.nodup_cons, List.nodup_append] at nd nd'
  refine ⟨S.ok, S.clx, S'.base, fun p hp => S'.stk p (stkm p hp), fun c hc => ?_, S'.fzh, fun p hp => S'.exh p (hex p (.inr (.inr hp))), S'.live, ⟨m, nsL, fun x v e => ((hv x v e).mono k).keep kcell⟩, ?_, fun a ha => ?_, fun a ha => ?_, fun a ha => ?_, fun a ha => S'.xf a ?_⟩
  · obtain ⟨v, hv⟩ := S.ownc c hc
    exact ⟨v, kcell c hc v hv⟩
  · unfold Cx.mut
    rw [List.nodup_cons, List.nodup_append]
    refine ⟨fun q => ?_, nd.2.1, nd'.2.2.1, fun a ha b hb q => ?_⟩
    · rcases List.mem_append.mp q with q | q
      · exact nd.1 (List.mem_append_left _ q)
      · rcases L with ⟨_, hc⟩ | ⟨L, _⟩
        · have : cx.env.locals ∈ cx'.stk.map (·.1.locals) := by rw [I.stk, hc]; simp
          exact nd'.2.2.2 _ (List.mem_append_left _ this) _ q rfl
        · exact S'.apx _ (m2 _ q) L
    · subst q
      rcases List.mem_append.mp ha with ha | ha
      · have : a ∈ cx'.stk.map (·.1.locals) := by
          obtain ⟨p, hp, rfl⟩ := List.mem_map.mp ha
          exact List.mem_map.mpr ⟨p, stkm p hp, rfl⟩
        exact nd'.2.2.2 _ (List.mem_append_left _ this) _ hb rfl
      · exact S'.apx _ (m2 _ hb) (x1 _ ha)
  · unfold Cx.mut at ha
    simp only [List.mem_cons, List.mem_append] at ha
    rcases ha with rfl | (ha | ha) | ha
    · exact S.new _ (by unfold Cx.mut; simp)
    · exact S'.new _ (m1 _ ha)
    · exact S.new _ (by unfold Cx.mut; simp [ha])
    · exact S'.new _ (m2 _ ha)
  · rcases all a ha with q | q
    · exact S'.apf a q
    · exact S'.xf a q
  · unfold Cx.mut at ha
    simp only [List.mem_cons, List.mem_append] at ha
    rcases ha with rfl | (ha | ha) | ha
    · exact S.apx _ (by unfold Cx.mut; simp)
    · exact S.apx _ (by unfold Cx.mut; simp only [List.mem_cons, List.mem_append]; exact .inr (.inl (.inl ha)))
    · exact S.apx _ (by unfold Cx.mut; simp [ha])
    · exact fun q => S'.apx _ (m2 _ ha) (by
        obtain ⟨p, hp, rfl⟩ := List.mem_map.mp q
        exact List.mem_map_of_mem (hex p (.inr (.inr hp))))
  · obtain ⟨p, hp, rfl⟩ := List.mem_map.mp ha
    exact List.mem_map_of_mem (hex p (.inr (.inr hp)))
end

theorem cells_above : ∀ (names : List (Str × NameKind)) (n : Nat) (acc : List (Str × Addr)) (x : Str) (c : Addr), (x, c) ∈ cellsFrom n names acc → (x, c) ∈ acc ∨ n ≤ c
  | [], _, _, _, _, h => .inl h
  | (y, k) :: r, n, acc, x, c, h => by
    unfold cellsFrom at h
    split at h
    · rcases cells_above r (n + 1) _ x c h with q | q
      · rcases List.mem_cons.mp q with q | q
        · injection q with _ q2
          exact .inr (Nat.le_of_eq q2.symm)
        · exact .inl q
      · exact .inr (Nat.le_of_succ_le q)
    · exact cells_above r n acc x c h

theorem lookup_mem {β : Type} {x : Str} {c : β} : ∀ {l : List (Str × β)}, l.lookup x = some c → (x, c) ∈ l
  | [], h => nomatch h
  | (y, d) :: r, h => by
    rw [List.lookup_cons] at h
    cases q : (x == y) with
    | true => rw [q] at h; cases h; rw [show x = y by simpa using q]; exact List.mem_cons_self
    | false => rw [q] at h; exact List.mem_cons_of_mem _ (lookup_mem h)

theorem pair_inj {l : List (Str × Addr)} (hp : l.Pairwise fun x y => x.2 ≠ y.2) {x y : Str} {c : Addr} (h1 : (x, c) ∈ l) (h2 : (y, c) ∈ l) : x = y := by
  induction l with
  | nil => cases h1
  | cons p r ih =>
    rw [List.pairwise_cons] at hp
    rcases List.mem_cons.mp h1 with q1 | q1 <;> rcases List.mem_cons.mp h2 with q2 | q2
    · rw [← q1] at q2; injection q2 with q2 _; exact q2.symm
    · exact absurd (by rw [← q1]) (hp.1 _ q2)
    · exact absurd (by rw [← q2]) (hp.1 _ q1)
    · exact ih hp.2 q1 q2

section
variable {G : Gr} {cx : Cx} {ρ : AE} {σ : AH} {Q : AV → AE → AH → Prop} {EQ : AX → AE → AH → Prop}

theorem kindOf_eq (env : Env) (x : Str) : env.kindOf x = env.scope.names.lookup x := rfl

/-- of a call, as code -/
noncomputable def JVC (G : Gr) (cx : Cx) (ρ : AE) (σ : AH) (args : List AV) (f : Addr) (Q : AV → AE → AH → Prop) (EQ : AX → AE → AH → Prop) : Prop :=
  ∀ ex fz (s : Shared) Vs, GOk G → Sat G cx ex ρ σ fz s.heap → RelL G fz args Vs → ∀ QQ EE, Ret Rel G cx ex fz s Q QQ → Exn G cx ex fz s EQ EE →
    codeAny (model G.prog G.w) cx.A (.call (.ref f) ⟨Vs, []⟩) (fun r s' => match r with | .ok (.ret v) => QQ v s' | .ok _ => False | .error e => EE e s') s
theorem JVC.jv {args : List AV} {f : Addr} (h : JVC G cx ρ σ args f Q EQ) : JV Rel G cx ρ σ args (fun Vs => call (.ref f) Vs) Q EQ := fun ex fz s Vs g S r QQ EE hQ hE => wpAny_call (h ex fz s Vs g S r QQ EE hQ hE)

end
end Mine
namespace Mine
open PySem PySem.W PyProof.Rows PyProof.Rows.LCg PySem.Calls PySem.Spec

section
variable {G : Gr} {cx : Cx} {ρ ρ' : AE} {σ : AH} {ex fz : Objs} {h h' : Heap}

theorem Sat.set_own (S : Sat G cx ex ρ σ fz h) {a : Addr} (ha : a ∈ cx.env.locals :: cx.own) (k : Heap.ExtBut a h h')
    (hn : ∃ m', h'.Ns cx.env.locals m' ∧ ∀ x v, ρ' x = some v → VarOk G cx fz m' h' x v) (hown : ∀ c ∈ cx.own, ∃ v, h'.IsCell c v) : Sat G cx ex ρ' σ fz h' := by
  have ham : a ∈ cx.mut σ := by
    unfold Cx.mut
    rcases List.mem_cons.mp ha with q | q
    · rw [q]; exact List.mem_cons_self
    · exact List.mem_cons_of_mem _ (List.mem_append_left _ (List.mem_append_right _ q))
  have nd := S.nod
  unfold Cx.mut at nd
  rw [List.nodup_cons, List.nodup_append, List.nodup_append] at nd
  have nstk : ∀ p ∈ cx.stk, p.1.locals ≠ a := fun p hp q => by
    have hm : p.1.locals ∈ cx.stk.map (·.1.locals) := List.mem_map.mpr ⟨p, hp, rfl⟩
    rcases List.mem_cons.mp ha with e | e
    · exact nd.1 (List.mem_append_left _ (List.mem_append_left _ (by rw [← e, ← q]; exact hm)))
    · exact nd.2.1.2.2 _ hm a e q
  have nσ : ∀ p ∈ σ, p.1 ≠ a := fun p hp q => by
    have hm : p.1 ∈ σ.map (·.1) := List.mem_map_of_mem hp
    rcases List.mem_cons.mp ha with e | e
    · exact nd.1 (List.mem_append_right _ (by rw [← e, ← q]; exact hm))
    · exact nd.2.2.2 a (List.mem_append_right _ e) _ hm q.symm
  refine ⟨S.ok, S.clx, fun b o e => k b o (fun q => by rw [q, (S.new a ham).1] at e; cases e) (S.base b o e), fun p hp => ?_, hown,
    fun p hp => k _ _ (fun q => S.apf a ham (q ▸ List.mem_map_of_mem hp)) (S.fzh p hp), fun p hp => k _ _ (fun q => S.apx a ham (q ▸ List.mem_map_of_mem hp)) (S.exh p hp),
    fun p hp => ?_, hn, S.nod, S.new, S.apf, S.apx, S.xf⟩
  · obtain ⟨o, es, ep, ho, r⟩ := S.stk p hp
    exact ⟨o, es, ep, k _ o (nstk p hp) ho, r⟩
  · obtain ⟨o, ho, r⟩ := S.live p hp
    exact ⟨o, k _ o (nσ p hp) ho, r⟩

/-- a name that this frame may store into -/
noncomputable def Own (cx : Cx) (x : Str) : Prop := cx.env.kindOf x = some .local ∨ (cx.env.kindOf x = some .cell ∧ ∀ c, cx.env.cells.lookup x = some c → c ∈ cx.own)

/-- the kinds of a frame's names -/
structure KN (cx : Cx) (names : List (Str × NameKind)) : Prop where
  kd : ∀ x k, names.lookup x = some k → k ≠ .free → cx.env.kindOf x = some k
  fr : ∀ x, names.lookup x = some .free → cx.env.kindOf x = some .free ∨ cx.env.kindOf x = some .cell
  own : ∀ x, names.lookup x = some .cell → ∀ c, cx.env.cells.lookup x = some c → c ∈ cx.own
theorem KN.mine {names} (K : KN cx names) {x : Str} (h : (names.lookup x == some .local || names.lookup x == some .cell) = true) : Own cx x := by
  rw [Bool.or_eq_true] at h
  rcases h with h | h
  · exact .inl (K.kd x _ (by simpa using h) (by decide))
  · have h' : names.lookup x = some .cell := by simpa using h
    exact .inr ⟨K.kd x _ h' (by decide), K.own x h'⟩
theorem KN.glob {names} (K : KN cx names) {x : Str} (h : names.lookup x = some .globalImplicit) : cx.env.kindOf x = some .globalImplicit := K.kd x _ h (by decide)

theorem Sat.own_ne (S : Sat G cx ex ρ σ fz h) {c : Addr} (hc : c ∈ cx.own) : c ≠ cx.env.locals := fun q => by
  have nd := S.nod
  unfold Cx.mut at nd
  exact (List.nodup_cons.mp nd).1 (List.mem_append_left _ (List.mem_append_right _ (q ▸ hc)))
end

section
variable {G : Gr} {cx : Cx} {ρ : AE} {σ : AH} {ex fz : Objs} {s : Shared} {A : Around} {E : Value → Shared → Prop}

theorem store_var {x : Str} {v : AV} {V : Value} {Q : Unit → Shared → Prop} (S : Sat G cx ex ρ σ fz s.heap) (r : Rel G fz v V) (hx : Own cx x)
    (h : ∀ h' tk', Sat G cx ex (upd ρ x v) σ fz h' → Q () { s with heap := h', toks := tk' }) : wpAny (model G.prog G.w) A (storeName cx.env x V) Q E s := by
  obtain ⟨m, hn, hv⟩ := S.loc
  rcases hx with hk | ⟨hk, hc⟩
  · refine wpAny_storeName_local hk hn (fun h' hn' hs' => h h' _ ?_) (by rw [S.ok.kf]; rfl)
    refine S.set_own (a := cx.env.locals) List.mem_cons_self hs'.extBut ⟨_, hn', fun y u e => ?_⟩ fun c hc => ?_
    · unfold upd at e
      by_cases hy : y = x
      · subst hy
        rw [if_pos rfl] at e
        cases e
        exact .inl ⟨hk, V, if_pos rfl, r⟩
      · rw [if_neg hy] at e
        rcases hv y u e with ⟨k1, V', hV, r'⟩ | ⟨k1, c, V', hc, ho, hi, r'⟩ | q
        · exact .inl ⟨k1, V', (if_neg hy).trans hV, r'⟩
        · obtain ⟨o, ho', hd⟩ := hi
          exact .inr (.inl ⟨k1, c, V', hc, ho, ⟨o, hs'.extBut _ _ (S.own_ne ho) ho', hd⟩, r'⟩)
        · exact .inr (.inr q)
    · obtain ⟨v, o, ho, hd⟩ := S.ownc c hc
      exact ⟨v, o, hs'.extBut _ _ (S.own_ne hc) ho, hd⟩
  · obtain ⟨c, hcl⟩ := S.ok.cs x (.inl hk)
    have hco := hc c hcl
    obtain ⟨v₀, hi₀⟩ := S.ownc c hco
    refine wpAny_storeName_cell S.ok.kf hk hcl hi₀ fun h' hi' hs' => h h' s.toks ?_
    refine S.set_own (a := c) (List.mem_cons_of_mem _ hco) hs'.extBut ⟨m, ?_, fun y u e => ?_⟩ fun c' hc' => ?_
    · obtain ⟨o, es, ep, ho, rr⟩ := hn
      exact ⟨o, es, ep, hs'.extBut _ _ (S.own_ne hco).symm ho, rr⟩
    · unfold upd at e
      by_cases hy : y = x
      · subst hy
        rw [if_pos rfl] at e
        cases e
        exact .inr (.inl ⟨hk, c, V, hcl, hco, hi', r⟩)
      · rw [if_neg hy] at e
        rcases hv y u e with q | ⟨k1, c', V', hc', ho, hi, r'⟩ | q
        · exact .inl q
        · obtain ⟨o, ho', hd⟩ := hi
          exact .inr (.inl ⟨k1, c', V', hc', ho, ⟨o, hs'.extBut _ _ (fun q => hy (S.ok.ci y x c hco (q ▸ hc') hcl)) ho', hd⟩, r'⟩)
        · exact .inr (.inr q)
    · by_cases q : c' = c
      · subst q; exact ⟨_, hi'⟩
      · obtain ⟨v, o, ho, hd⟩ := S.ownc c' hc'
        exact ⟨v, o, hs'.extBut _ _ q ho, hd⟩

/-! targets -/
inductive TB (cx : Cx) : Expr → AV → AE → AE → Prop
  | name {x pos v ρ} : Own cx x → TB cx (.Name x pos) v ρ (upd ρ x v)
  | two {x y px py k pos a b ρ} : Own cx x → Own cx y → TB cx (.Tuple [.Name x px, .Name y py] k pos) (.tup [a, b]) ρ (upd (upd ρ x a) y b)
  | three {x y z px py pz k pos a b c ρ} : Own cx x → Own cx y → Own cx z → TB cx (.Tuple [.Name x px, .Name y py, .Name z pz] k pos) (.tup [a, b, c]) ρ (upd (upd (upd ρ x a) y b) z c)
  | four {x y z u px py pz pu k pos a b c d ρ} : Own cx x → Own cx y → Own cx z → Own cx u → TB cx (.Tuple [.Name x px, .Name y py, .Name z pz, .Name u pu] k pos) (.tup [a, b, c, d]) ρ (upd (upd (upd (upd ρ x a) y b) z c) u d)

theorem RelL.three_inv {a b c Vs} (h : RelL G fz [a, b, c] Vs) : ∃ V U W, Vs = [V, U, W] ∧ Rel G fz a V ∧ Rel G fz b U ∧ Rel G fz c W := by
  cases h with
  | cons h r =>
    obtain ⟨U, W, rfl, hu, hw⟩ := r.two_inv
    exact ⟨_, _, _, rfl, h, hu, hw⟩
theorem RelL.four_inv {a b c d Vs} (h : RelL G fz [a, b, c, d] Vs) : ∃ V U W X, Vs = [V, U, W, X] ∧ Rel G fz a V ∧ Rel G fz b U ∧ Rel G fz c W ∧ Rel G fz d X := by
  cases h with
  | cons h r =>
    obtain ⟨U, W, X, rfl, hu, hw, hx⟩ := r.three_inv
    exact ⟨_, _, _, _, rfl, h, hu, hw, hx⟩

theorem Rel.tup_inv {l V} (r : Rel G fz (.tup l) V) : ∃ (a : Addr) (o : Obj) (vs : Array Value) (n : Nat), V = .ref a ∧ (a, o) ∈ fz ∧ o.cls = .type "tuple" ∧ o.data = .seq vs n ∧ RelL G fz l vs.toList := by
  cases r with
  | tup h1 h2 h3 h4 => exact ⟨_, _, _, _, rfl, h1, h2, h3, h4⟩
theorem Rel.lst_inv {l V} (r : Rel G fz (.lst l) V) : ∃ (a : Addr) (o : Obj) (vs : Array Value) (n : Nat), V = .ref a ∧ (a, o) ∈ fz ∧ o.cls = .type "list" ∧ o.data = .seq vs n ∧ RelL G fz l vs.toList := by
  cases r with
  | lst h1 h2 h3 h4 => exact ⟨_, _, _, _, rfl, h1, h2, h3, h4⟩
theorem Rel.dct_inv {l V} (r : Rel G fz (.dct l) V) : ∃ (a : Addr) (o : Obj) (kvs : List (Str × Value)), V = .ref a ∧ (a, o) ∈ fz ∧ (a == sysModules) = false ∧ o.IsDictOf (strKind G.prog G.w) kvs ∧ RelE G fz l kvs := by
  cases r with
  | dct h1 h2 h3 h4 => exact ⟨_, _, _, rfl, h1, h2, h3, h4⟩
theorem Rel.int_inv {i V} (r : Rel G fz (.int i) V) : ∃ t, V = .int i t := by cases r; exact ⟨_, rfl⟩
theorem Rel.str_inv {i V} (r : Rel G fz (.str i) V) : ∃ t, V = .str i t := by cases r; exact ⟨_, rfl⟩
theorem Rel.bool_inv {i V} (r : Rel G fz (.bool i) V) : V = .bool i := by cases r; rfl
theorem Rel.val_inv {i V} (r : Rel G fz (.val i) V) : V = i := by cases r; rfl
theorem Rel.ref_inv {i V} (r : Rel G fz (.ref i) V) : V = .ref i := by cases r; rfl
theorem Rel.none_inv {V} (r : Rel G fz .none V) : V = .none := by cases r; rfl
theorem Rel.rng_inv {lo hi V} (r : Rel G fz (.rng lo hi) V) : ∃ (a : Addr) (t u v : Tok), V = .ref a ∧ (a, ({ cls := .type "range", data := .fields #[.int lo t, .int hi u, .int 1 v] } : Obj)) ∈ fz := by
  cases r with
  | rng h1 => exact ⟨_, _, _, _, rfl, h1⟩

theorem assign_T {t : Expr} {v : AV} {V : Value} {ρ' : AE} {Q : Unit → Shared → Prop} (T : TB cx t v ρ ρ') (S : Sat G cx ex ρ σ fz s.heap) (hd : A.handled = none ∨ ∃ x p, t = .Name x p) (r : Rel G fz v V)
    (h : ∀ h' tk', Sat G cx ex ρ' σ fz h' → Q () { s with heap := h', toks := tk' }) : wpAny (model G.prog G.w) A (assign t cx.env V) Q E s := by
  cases T with
  | name hx => exact wpAny_assign_Name (store_var S r hx h)
  | two hx hy =>
    have hd' : A.handled = none := hd.resolve_right (fun ⟨_, _, q⟩ => nomatch q)
    obtain ⟨a, o, vs, n, rfl, hm, hc, hdt, hl⟩ := r.tup_inv
    obtain ⟨V1, V2, e, r1, r2⟩ := hl.two_inv
    have ev : vs = #[V1, V2] := by rw [← Array.toArray_toList (xs := vs), e]
    subst ev
    refine wpAny_assign_Tuple hd' ⟨o, S.fzh _ hm, hc, n, hdt⟩ rfl rfl fun h₁ k₁ => ?_
    have S₁ := S.but k₁ (S.size_off (Nat.le_refl _))
    refine wpAny_assignInOrder_more (wpAny_assign_Name (store_var S₁ r1 hx fun h₂ t₂ S₂ => ?_))
    refine wpAny_assignInOrder_more (wpAny_assign_Name (store_var S₂ r2 hy fun h₃ t₃ S₃ => ?_))
    exact wpAny_assignInOrder_none (h h₃ t₃ S₃)
  | three hx hy hz =>
    have hd' : A.handled = none := hd.resolve_right (fun ⟨_, _, q⟩ => nomatch q)
    obtain ⟨a, o, vs, n, rfl, hm, hc, hdt, hl⟩ := r.tup_inv
    obtain ⟨V1, V2, V3, e, r1, r2, r3⟩ := hl.three_inv
    have ev : vs = #[V1, V2, V3] := by rw [← Array.toArray_toList (xs := vs), e]
    subst ev
    refine wpAny_assign_Tuple hd' ⟨o, S.fzh _ hm, hc, n, hdt⟩ rfl rfl fun h₁ k₁ => ?_
    have S₁ := S.but k₁ (S.size_off (Nat.le_refl _))
    refine wpAny_assignInOrder_more (wpAny_assign_Name (store_var S₁ r1 hx fun h₂ t₂ S₂ => ?_))
    refine wpAny_assignInOrder_more (wpAny_assign_Name (store_var S₂ r2 hy fun h₃ t₃ S₃ => ?_))
    refine wpAny_assignInOrder_more (wpAny_assign_Name (store_var S₃ r3 hz fun h₄ t₄ S₄ => ?_))
    exact wpAny_assignInOrder_none (h h₄ t₄ S₄)
  | four hx hy hz hu =>
    have hd' : A.handled = none := hd.resolve_right (fun ⟨_, _, q⟩ => nomatch q)
    obtain ⟨a, o, vs, n, rfl, hm, hc, hdt, hl⟩ := r.tup_inv
    obtain ⟨V1, V2, V3, V4, e, r1, r2, r3, r4⟩ := hl.four_inv
    have ev : vs = #[V1, V2, V3, V4] := by rw [← Array.toArray_toList (xs := vs), e]
    subst ev
    refine wpAny_assign_Tuple hd' ⟨o, S.fzh _ hm, hc, n, hdt⟩ rfl rfl fun h₁ k₁ => ?_
    have S₁ := S.but k₁ (S.size_off (Nat.le_refl _))
    refine wpAny_assignInOrder_more (wpAny_assign_Name (store_var S₁ r1 hx fun h₂ t₂ S₂ => ?_))
    refine wpAny_assignInOrder_more (wpAny_assign_Name (store_var S₂ r2 hy fun h₃ t₃ S₃ => ?_))
    refine wpAny_assignInOrder_more (wpAny_assign_Name (store_var S₃ r3 hz fun h₄ t₄ S₄ => ?_))
    refine wpAny_assignInOrder_more (wpAny_assign_Name (store_var S₄ r4 hu fun h₅ t₅ S₅ => ?_))
    exact wpAny_assignInOrder_none (h h₅ t₅ S₅)
end

section
variable {G : Gr} {cx : Cx} {ρ : AE} {σ : AH} {EQ : AX → AE → AH → Prop}

/-! suites -/
theorem xs_nil {Q : AF → AE → AH → Prop} (q : Q .next ρ σ) : Xs G cx ρ σ [] Q EQ := fun _ _ _ _ _ S _ _ _ hQ _ => wpAny_execs_nil (give hQ S .next q)
theorem xs_cons {st : Stmt} {rest : List Stmt} {Q : AF → AE → AH → Prop} (h : X1 G cx ρ σ st (fun fl ρ' σ' => match fl with | .next => Xs G cx ρ' σ' rest Q EQ | .ret v => Q (.ret v) ρ' σ') EQ) : Xs G cx ρ σ (st :: rest) Q EQ :=
  fun _ _ _ _ g S _ _ _ hQ hE => wpAny_execs_cons (h.run g S .nil (fun _ _ _ _ _ _ _ k₁ S₁ r₁ q₁ => by
    cases r₁ with
    | next => exact q₁.run g S₁ .nil (hQ.on k₁) (hE.on k₁)
    | ret r => exact hQ (.ret _) _ _ _ _ _ _ k₁ S₁ (.ret r) q₁) hE)
theorem x_ret {e : Expr} {pos} {Q : AF → AE → AH → Prop} (h : Ev G cx ρ σ e (fun v ρ' σ' => Q (.ret v) ρ' σ') EQ) : X1 G cx ρ σ (.Return (some e) pos) Q EQ :=
  fun _ _ _ _ g S _ _ _ hQ hE => wpAny_Return_some (h.run g S .nil (fun _ _ _ _ _ _ _ k₁ S₁ r₁ q₁ => hQ _ _ _ _ _ _ _ k₁ S₁ (.ret r₁) q₁) hE)
theorem x_if {test : Expr} {body orelse pos} {Q : AF → AE → AH → Prop} (h : Ts G cx ρ σ test (fun b ρ' σ' => if b = true then Xs G cx ρ' σ' body Q EQ else Xs G cx ρ' σ' orelse Q EQ) EQ) : X1 G cx ρ σ (.If test body orelse pos) Q EQ :=
  fun _ _ _ _ g S _ _ _ hQ hE => wpAny_If (h.run g S .nil (fun b a _ _ _ _ _ k₁ S₁ r₁ q₁ => by
    cases r₁
    cases b with
    | true =>
      simp only [if_true] at q₁ ⊢
      exact JV.run q₁ g S₁ .nil (hQ.on k₁) (hE.on k₁)
    | false =>
      simp only [Bool.false_eq_true, if_false] at q₁ ⊢
      exact JV.run q₁ g S₁ .nil (hQ.on k₁) (hE.on k₁)) hE)
theorem x_assign {x : Str} {px pos : Pos} {e : Expr} {Q : AF → AE → AH → Prop} (h : Ev G cx ρ σ e (fun v ρ' σ' => Q .next (upd ρ' x v) σ') EQ) (hx : Own cx x) (hw : swapsWith e (some (.Name x px)) pos.line cx.env = pure false := by rfl) :
    X1 G cx ρ σ (.Assign [.Name x px] e pos) Q EQ :=
  fun _ _ _ _ g S _ _ _ hQ hE => wpAny_Assign_Name (h.run g S .nil (fun _ _ _ _ _ _ _ k₁ S₁ r₁ q₁ => store_var S₁ r₁ hx fun h' tk' S' => hQ .next .next _ _ _ _ _ k₁ S' .next q₁) hE) hw
theorem x_unpack {t : Expr} {pos : Pos} {e : Expr} {Q : AF → AE → AH → Prop} (hd : cx.hd = none) (h : Ev G cx ρ σ e (fun v ρ' σ' => ∃ ρ'', TB cx t v ρ' ρ'' ∧ Q .next ρ'' σ') EQ) (hw : swapsWithSole [t] e pos.line cx.env = pure false := by rfl) (hs : swappedStores [t] e cx.env = pure none := by rfl) :
    X1 G cx ρ σ (.Assign [t] e pos) Q EQ :=
  fun _ _ _ _ g S _ _ _ hQ hE => wpAny_Assign_stores (h.run g S .nil (fun _ _ _ _ _ _ _ k₁ S₁ r₁ q₁ => by
    obtain ⟨ρ'', T, q₁⟩ := q₁
    cases T with
    | name hx => exact assign_T (.name hx) S₁ (.inl (S₁.ok.hd.trans hd)) r₁ fun h' tk' S' => hQ .next .next _ _ _ _ _ k₁ S' .next q₁
    | two a b => exact assign_T (.two a b) S₁ (.inl (S₁.ok.hd.trans hd)) r₁ fun h' tk' S' => hQ .next .next _ _ _ _ _ k₁ S' .next q₁
    | three a b c => exact assign_T (.three a b c) S₁ (.inl (S₁.ok.hd.trans hd)) r₁ fun h' tk' S' => hQ .next .next _ _ _ _ _ k₁ S' .next q₁
    | four a b c d => exact assign_T (.four a b c d) S₁ (.inl (S₁.ok.hd.trans hd)) r₁ fun h' tk' S' => hQ .next .next _ _ _ _ _ k₁ S' .next q₁) hE) hw hs

/-- the store under a key -/
noncomputable def storeItem : List Value → Sem Unit
  | [v, o, i] => setItem o i v
  | _ => .unsupported ""
theorem x_setitem {o i : Expr} {pp pos : Pos} {e : Expr} {Q : AF → AE → AH → Prop}
    (h : Ev G cx ρ σ e (fun v ρ₁ σ₁ => Ev G cx ρ₁ σ₁ o (fun ov ρ₂ σ₂ => Ev G cx ρ₂ σ₂ i (fun iv ρ₃ σ₃ => JV RU G cx ρ₃ σ₃ [v, ov, iv] storeItem (fun _ ρ₄ σ₄ => Q .next ρ₄ σ₄) EQ) EQ) EQ) EQ)
    (hw : swapsWith e (some (.Subscript o i pp)) pos.line cx.env = pure false := by rfl) : X1 G cx ρ σ (.Assign [.Subscript o i pp] e pos) Q EQ :=
  fun _ _ _ _ g S _ _ _ hQ hE => wpAny_Assign_Subscript (h.run g S .nil (fun _ _ _ _ _ _ _ k₁ S₁ r₁ q₁ => q₁.run g S₁ .nil (fun _ _ _ _ _ _ _ k₂ S₂ r₂ q₂ => q₂.run g S₂ .nil (fun _ _ _ _ _ _ _ k₃ S₃ r₃ q₃ =>
    q₃.run g S₃ (.cons ((r₁.mono k₂).mono k₃) (.cons (r₂.mono k₃) (.cons r₃ .nil))) (fun _ _ _ _ _ _ _ k₄ S₄ _ q₄ => ((hQ.on k₁).on k₂).on k₃ .next .next _ _ _ _ _ k₄ S₄ .next q₄) (((hE.on k₁).on k₂).on k₃)) ((hE.on k₁).on k₂)) (hE.on k₁)) hE) hw
theorem x_expr {e : Expr} {pos : Pos} {Q : AF → AE → AH → Prop} (h : Ev G cx ρ σ e (fun v ρ' σ' => v = .none ∧ Q .next ρ' σ') EQ) (hi : ∀ env : Env, env.scope.kind = .function → interactive env = false := by intro env h; simp [interactive, h]) (hw : swapsWith e none pos.line cx.env = pure false := by rfl) : X1 G cx ρ σ (.Expr e pos) Q EQ :=
  fun _ _ _ _ g S _ _ _ hQ hE => wpAny_Expr (h.run g S .nil (fun _ _ _ _ _ _ _ k₁ S₁ r₁ q₁ => by
    obtain ⟨rfl, q⟩ := q₁
    cases r₁
    exact hQ .next .next _ _ _ _ _ k₁ S₁ .next q) hE) (hi _ S.ok.kf) hw
end
end Mine
namespace Mine
open PySem PySem.W PyProof.Rows PyProof.Rows.LCg PySem.Calls PySem.Spec

noncomputable def signs (s : Str) : List AV := s.cps.toList.map fun c => AV.str ⟨#[c]⟩
noncomputable def intsFrom (lo : Int) (n : Nat) : List AV := (List.range n).map fun (i : Nat) => AV.int (lo + (i : Int))
inductive Itr : AV → List AV → Prop
  | lst (l) : Itr (.lst l) l
  | tup (l) : Itr (.tup l) l
  | str (s) : Itr (.str s) (signs s)
  | dct (es) : Itr (.dct es) (es.map fun p => .str p.1)
  | rng (lo : Int) (n : Nat) : -(2 ^ 62) ≤ lo → lo + n < 2 ^ 62 → Itr (.rng lo (lo + n)) (intsFrom lo n)

noncomputable def owners : List String := ["enumerate", "zip", "dict_itemiterator", "dict_reverseitemiterator", "odict_iterator", "itertools.zip_longest", "itertools.pairwise"]
structure Iter (G : Gr) (A : Around) (fz : Objs) (xs : List AV) (I : Addr) (fp : List Addr) (P : Nat → Value → Prop) (St : Nat → Heap → Prop) : Prop where
  W : Walks G.prog G.w A I fp [I] xs.length P St
  fpk : ∀ b ∈ fp, b = I ∨ b ∈ keys fz
  val : ∀ i v, P i v → ∃ x, xs[i]? = some x ∧ Rel G fz x v
  obj : ∀ i h, St i h → ∃ o n, h.get? I = some o ∧ o.cls = .type n ∧ owners.contains n = false

section
variable {G : Gr} {cx : Cx} {ρ : AE} {σ : AH} {ex fz : Objs} {s : Shared} {A : Around} {E : Value → Shared → Prop}

theorem wpAny_ite_false {M : Model} {α : Type} {c : Prop} [Decidable c] {a b : Sem α} {Q : α → Shared → Prop} (hc : ¬ c) (h : wpAny M A b Q E s) : wpAny M A (if c then a else b) Q E s := by rw [if_neg hc]; exact h
theorem owned_none {t : Expr} {I : Addr} {v : Value} {o : Obj} {n : String} {Q : Unit → Shared → Prop} (ho : s.heap.get? I = some o) (hc : o.cls = .type n) (hn : owners.contains n = false) (h : Q () s) :
    wpAny (model G.prog G.w) A (letOwnedTupleGo t (.ref I) v) Q E s := by
  have key : ∀ a : Addr, wpAny (model G.prog G.w) A (do
      let o ← load I
      match o.cls, o.data with
      | .type n, .fields vs =>
        if (["enumerate", "zip", "dict_itemiterator", "dict_reverseitemiterator", "odict_iterator", "itertools.zip_longest", "itertools.pairwise"].contains n && vs[0]? == some (rawInt a)) = true then do
          rule "for.unpacks-the-owned-tuple"
          updateField I 0 .none
        else pure ()
      | _, _ => pure () : Sem Unit) Q E s := fun a => by
    refine wpAny_bind (wpAny_load ho ?_)
    rw [hc]
    cases o.data with
    | fields vs =>
      refine wpAny_ite_false (fun q => ?_) (wpAny_pure h)
      have hn' : (["enumerate", "zip", "dict_itemiterator", "dict_reverseitemiterator", "odict_iterator", "itertools.zip_longest", "itertools.pairwise"].contains n) = false := hn
      rw [hn', Bool.false_and] at q
      cases q
    | _ => exact wpAny_pure h
  cases t with
  | Tuple => cases v with
    | ref a => exact key a
    | _ => exact wpAny_pure h
  | List => cases v with
    | ref a => exact key a
    | _ => exact wpAny_pure h
  | _ => exact wpAny_pure h

theorem RelL.at_ {l : List AV} {vs : Array Value} (r : RelL G fz l vs.toList) {i : Nat} {v : Value} (e : vs[i]? = some v) : ∃ x, l[i]? = some x ∧ Rel G fz x v :=
  r.get' (by rw [Array.getElem?_toList]; exact e)

theorem RelE.keyAt {es : List (Str × AV)} {kvs : List (Str × Value)} (r : RelE G fz es kvs) {i : Nat} {k : Str} {x : Value} (e : kvs[i]? = some (k, x)) : (es.map fun p => AV.str p.1)[i]? = some (.str k) := by
  have hk := r.keys
  have : (kvs.map (·.1))[i]? = some k := by rw [List.getElem?_map, e]; rfl
  rw [hk, List.getElem?_map] at this
  rw [List.getElem?_map]
  cases q : es[i]? with
  | none => rw [q] at this; cases this
  | some p => rw [q] at this; simp at this; simp [this]

theorem iter_start {v : AV} {xs : List AV} {V : Value} {Q : Value → Shared → Prop} (S : Sat G cx ex ρ σ fz s.heap) (hd : A.handled = none) (I : Itr v xs) (r : Rel G fz v V)
    (h : ∀ o fp P St, Iter G A fz xs s.heap.objs.size fp P St → St 0 (s.heap.push o) → Q (.ref s.heap.objs.size) { s with heap := s.heap.push o }) :
    wpAny (model G.prog G.w) A (pyIter V) Q E s := by
  have ne : ∀ {a : Addr} {o : Obj}, (a, o) ∈ fz → a ≠ s.heap.objs.size := fun hm => Nat.ne_of_lt (Heap.lt_size (S.fzh _ hm))
  cases I with
  | lst l =>
    obtain ⟨a, o, vs, n, rfl, hm, hc, hdt, hl⟩ := r.lst_inv
    have hL : s.heap.IsList a vs := ⟨o, S.fzh _ hm, hc, n, hdt⟩
    have hlen : xs.length = vs.size := by rw [← hl.length, Array.length_toList]
    refine wpAny_pyIter_list hL (h _ [s.heap.objs.size, a] (fun i v => vs[i]? = some v) (fun i h => h.IsListIter s.heap.objs.size a i ∧ h.IsList a vs) ⟨?_, fun b hb => ?_, fun i v e => hl.at_ e, fun i h st => ?_⟩ ⟨⟨_, Heap.get?_push_size _ rfl, rfl, rfl⟩, hL.push _⟩)
    · rw [hlen]; exact Walks.list hd _ _ (ne hm) vs
    · simp at hb
      rcases hb with rfl | rfl
      · exact .inl rfl
      · exact .inr (List.mem_map_of_mem hm)
    · obtain ⟨o', ho', hc', _⟩ := st.1
      exact ⟨o', _, ho', hc', by decide⟩
  | tup l =>
    obtain ⟨a, o, vs, n, rfl, hm, hc, hdt, hl⟩ := r.tup_inv
    have hL : s.heap.IsTuple a vs := ⟨o, S.fzh _ hm, hc, n, hdt⟩
    have hlen : xs.length = vs.size := by rw [← hl.length, Array.length_toList]
    refine wpAny_pyIter_tuple hL (h _ [s.heap.objs.size, a] (fun i v => vs[i]? = some v) (fun i h => h.IsTupleIter s.heap.objs.size a i ∧ h.IsTuple a vs) ⟨?_, fun b hb => ?_, fun i v e => hl.at_ e, fun i h st => ?_⟩ ⟨⟨_, Heap.get?_push_size _ rfl, rfl, rfl⟩, hL.push _⟩)
    · rw [hlen]; exact Walks.tuple hd _ _ (ne hm) vs
    · simp at hb
      rcases hb with rfl | rfl
      · exact .inl rfl
      · exact .inr (List.mem_map_of_mem hm)
    · obtain ⟨o', ho', hc', _⟩ := st.1
      exact ⟨o', _, ho', hc', by decide⟩
  | dct es =>
    obtain ⟨a, o, kvs, rfl, hm, hsys, hdo, hl⟩ := r.dct_inv
    obtain ⟨des, ep, d1, d2, d3, d4, d5⟩ := hdo
    have hD : s.heap.DictAt (strKind G.prog G.w) a kvs ep := ⟨o, des, S.fzh _ hm, d1, d2, d3, d4, d5⟩
    refine wpAny_pyIter_dict hsys hD (h _ [s.heap.objs.size, a] (fun i v => ∃ k x, kvs[i]? = some (k, x) ∧ (strKind G.prog G.w).is k v = true) (fun i h => h.IsKeyIter s.heap.objs.size a i kvs.length ep ∧ h.DictAt (strKind G.prog G.w) a kvs ep) ⟨?_, fun b hb => ?_, fun i v e => ?_, fun i h st => ?_⟩ ⟨⟨_, Heap.get?_push_size _ rfl, rfl, rfl⟩, hD.at' fun o e => Heap.get?_push_of_some _ e⟩)
    · rw [List.length_map, ← hl.length]; exact Walks.dictKeys hd _ _ (ne hm) kvs ep
    · simp at hb
      rcases hb with rfl | rfl
      · exact .inl rfl
      · exact .inr (List.mem_map_of_mem hm)
    · obtain ⟨k, x, e1, e2⟩ := e
      obtain ⟨t, rfl⟩ := Value.isStrOf_shape e2
      exact ⟨_, hl.keyAt e1, .str k t⟩
    · obtain ⟨o', ho', hc', _⟩ := st.1
      exact ⟨o', _, ho', hc', by decide⟩
  | str x =>
    obtain ⟨t, rfl⟩ := r.str_inv
    have hlen : (signs x).length = x.cps.size := by unfold signs; rw [List.length_map, Array.length_toList]
    have hval : ∀ i v, SignAt x i v → ∃ y, (signs x)[i]? = some y ∧ Rel G fz y v := fun i v ⟨c, u, e, hv⟩ => ⟨.str ⟨#[c]⟩, by unfold signs; rw [List.getElem?_map, Array.getElem?_toList, e]; rfl, by rw [hv]; exact .str _ _⟩
    cases ha : x.cps.all (· < 128)
    · refine wpAny_pyIter_wide ha (h _ [s.heap.objs.size] (SignAt x) (fun i h => h.IsStrIter s.heap.objs.size "str_iterator" x t i) ⟨by rw [hlen]; exact Walks.strWide hd _ x t, fun b hb => .inl (by simpa using hb), hval, fun i h st => ?_⟩ ⟨_, Heap.get?_push_size _ rfl, rfl, rfl⟩)
      obtain ⟨o', ho', hc', _⟩ := st
      exact ⟨o', _, ho', hc', by decide⟩
    · refine wpAny_pyIter_ascii ha (h _ [s.heap.objs.size] (SignAt x) (fun i h => h.IsStrIter s.heap.objs.size "str_ascii_iterator" x t i) ⟨by rw [hlen]; exact Walks.strAscii hd _ x t, fun b hb => .inl (by simpa using hb), hval, fun i h st => ?_⟩ ⟨_, Heap.get?_push_size _ rfl, rfl, rfl⟩)
      obtain ⟨o', ho', hc', _⟩ := st
      exact ⟨o', _, ho', hc', by decide⟩
  | rng lo n h1 h2 =>
    obtain ⟨a, t, u, w, rfl, hm⟩ := r.rng_inv
    have hlen : (intsFrom lo n).length = n := by unfold intsFrom; rw [List.length_map, List.length_range]
    have hr : IsRange s.heap a lo (lo + n) 1 t u w := S.fzh _ hm
    refine wpAny_pyIter_range hr (small_one (by omega) (by omega) (by omega) (by omega)) ?_
    have hsz : Builtin.Range.rangeSize lo (lo + n) 1 = ((n : Nat) : Int) := by rw [rangeSize_nat]; omega
    refine h _ [s.heap.objs.size] (fun i v => i < n ∧ ∃ t, v = .int (lo + i * 1) t) (fun i h => IsRangeIter h s.heap.objs.size (lo + (i : Nat) * 1) ((n : Int) - (i : Nat)) 1) ⟨by rw [hlen]; exact (Walks.range hd _ lo 1 n).bound, fun b hb => .inl (by simpa using hb), fun i v ⟨hi, t, e⟩ => ⟨.int (lo + i), ?_, ?_⟩, fun i h st => ?_⟩ ?_
    · unfold intsFrom; rw [List.getElem?_map, List.getElem?_range hi]; rfl
    · rw [e, Int.mul_one]; exact .int _ _
    · exact ⟨_, _, st, rfl, by decide⟩
    · rw [hsz]
      show Heap.get? _ _ = _
      rw [Heap.get?_push_size _ rfl]
      simp

theorem Off.sub {I : Addr} {oI : Obj} {a : Addr} (O : Off G cx ((I, oI) :: ex) σ fz a) : Off G cx ex σ fz a := ⟨O.m, O.f, fun q => O.x (List.mem_cons_of_mem _ q), O.b⟩
theorem XIs.sub {I : Addr} {oI : Obj} {h : Heap} {e : Addr} {x : AX} (X : XIs G cx ((I, oI) :: ex) σ fz h e x) : XIs G cx ex σ fz h e x := by
  obtain ⟨O, o, d, od, vs, kvs, h1, h2, h3, h4, h5, h6, h7, h8, ht⟩ := X
  refine ⟨O.sub, o, d, od, vs, kvs, h1, h2, h3, h4, h5, h6, h7, h8, ht.imp id ?_⟩
  rintro ⟨tb, ot, ts, t1, t2, t3, t4, t5, t6⟩
  exact ⟨tb, ot, ts, t1, t2, t3, t4, t5.sub, t6⟩
end

section
variable {G : Gr} {cx : Cx} {EQ : AX → AE → AH → Prop}

/-- what a loop over these has to show -/
noncomputable def ForP (G : Gr) (cx : Cx) (t : Expr) (body : List Stmt) (Q : AF → AE → AH → Prop) (EQ : AX → AE → AH → Prop) : List AV → AE → AH → Prop
  | [], ρ, σ => Q .next ρ σ
  | x :: rest, ρ, σ => ∃ ρ', TB cx t x ρ ρ' ∧ Xs G cx ρ' σ body (fun fl ρ'' σ'' => match fl with | .next => ForP G cx t body Q EQ rest ρ'' σ'' | .ret v => Q (.ret v) ρ'' σ'') EQ

theorem drop_at {α : Type} {xs : List α} {i : Nat} {x : α} (e : xs[i]? = some x) : xs.drop i = x :: xs.drop (i + 1) := by
  obtain ⟨hi, he⟩ := List.getElem?_eq_some_iff.mp e
  rw [← he]
  exact List.drop_eq_getElem_cons hi

/-! the parts of a loop's turn -/
noncomputable def LErr (prog : Program) (w : World) (A : Around) (env : Env) (R : Result → Shared → Prop) : Value → Shared → Prop := notedBy (model prog w) A env fun e s' => R (.error e) s'
noncomputable def LFlow (R : Result → Shared → Prop) (I : Nat → Shared → Prop) (n : Nat) (f : Flow) (s : Shared) : Prop := match f with
  | .next | .cont => ∃ m, m < n ∧ I m s
  | .brk => R (.ok .next) s
  | .ret v => R (.ok (.ret v)) s
noncomputable def LItem (prog : Program) (w : World) (A : Around) (env : Env) (R : Result → Shared → Prop) (target : Expr) (body : List Stmt) (I : Nat → Shared → Prop) (n : Nat) (v : Value) (s : Shared) : Prop :=
  wpAny (model prog w) A (assign target env v) (fun _ s₂ => wpAny (model prog w) A (execs body env) (LFlow R I n) (LErr prog w A env R) s₂) (LErr prog w A env R) s
noncomputable def LTurn (prog : Program) (w : World) (A : Around) (env : Env) (R : Result → Shared → Prop) (target : Expr) (it : Value) (body : List Stmt) (I : Nat → Shared → Prop) (n : Nat) (r : Option Value) (s : Shared) : Prop := match r with
  | none => wpAny (model prog w) A (execs [] env) (fun f s₃ => R (.ok f) s₃) (LErr prog w A env R) s
  | some v => wpAny (model prog w) A (letOwnedTupleGo target it v) (fun _ s' => LItem prog w A env R target body I n v s') (LErr prog w A env R) s
theorem forLoop_any {prog : Program} {w : World} {A : Around} {s : Shared} {R : Result → Shared → Prop} {target : Expr} {it : Value} {body : List Stmt} {env : Env} (I : Nat → Shared → Prop)
    (turn : ∀ n s, I n s → wpAny (model prog w) A (pyNext it) (LTurn prog w A env R target it body I n) (LErr prog w A env R) s) (n : Nat) (h : I n s) : codeAny (model prog w) A (.forLoop target it body [] env) R s := by
  refine codeAny_forLoop_any I (fun n s hI => wpAny_mono (turn n s hI) (fun r s₁ q => ?_) fun _ _ q => q) n h
  cases r with
  | none => exact q
  | some v => exact wpAny_mono q (fun _ s' q => wpAny_mono q (fun _ s₂ q => wpAny_mono q (fun f s₃ q => by cases f <;> exact q) fun _ _ q => q) fun _ _ q => q) fun _ _ q => q
noncomputable def FInv (G : Gr) (cx : Cx) (t : Expr) (body : List Stmt) (Q : AF → AE → AH → Prop) (EQ : AX → AE → AH → Prop) (ex fz₁ : Objs) (s₁ : Shared) (xs : List AV) (St : Nat → Heap → Prop) (I : Addr) (n : Nat) (s' : Shared) : Prop :=
  ∃ i ρ σ fz' h' tk', s' = { s₁ with heap := h', toks := tk' } ∧ n = xs.length - i ∧ i ≤ xs.length ∧ Sat G cx ex ρ σ fz' h' ∧ St i h' ∧ Off G cx ex σ fz' I ∧ (∀ p ∈ fz₁, p ∈ fz') ∧ ForP G cx t body Q EQ (xs.drop i) ρ σ
theorem x_for {ρ : AE} {σ : AH} {t iter : Expr} {body : List Stmt} {pos : Pos} {Q : AF → AE → AH → Prop} (hd : cx.hd = none) (hc : cx.comp = false)
    (h : Ev G cx ρ σ iter (fun v ρ₁ σ₁ => ∃ xs, Itr v xs ∧ ForP G cx t body Q EQ xs ρ₁ σ₁) EQ) (hf : ∀ x, foldedSetIterable iter cx.env x = pure x := by intro _; rfl) :
    X1 G cx ρ σ (.For t iter body [] pos) Q EQ := fun ex fz s _ g S _ QQ EE hQ hE => by
  refine wpAny_For (h.run g S .nil (fun v V ρ₁ σ₁ fz₁ h₁ t₁ k₁ S₁ r₁ q₁ => ?_) hE) hf
  obtain ⟨xs, hI, hP⟩ := q₁
  have hA : cx.A.handled = none := S.ok.hd.trans hd
  have hQ₁ := hQ.on (h₁ := h₁) (t₁ := t₁) k₁
  have hE₁ := hE.on (h₁ := h₁) (t₁ := t₁) k₁
  clear hQ hE
  generalize hs₁ : ({ s with heap := h₁, toks := t₁ } : Shared) = s₁ at hQ₁ hE₁ ⊢
  have hh₁ : s₁.heap = h₁ := by rw [← hs₁]
  rw [← hh₁] at S₁
  clear hs₁ hh₁
  refine iter_start S₁ hA hI r₁ fun oI fp P St It st => ?_
  have off := S₁.size_off (Nat.le_refl s₁.heap.objs.size)
  generalize s₁.heap.objs.size = I at It st off ⊢
  refine forLoop_any (FInv G cx t body Q EQ ex fz₁ s₁ xs St I) ?_ xs.length
    ⟨0, ρ₁, σ₁, fz₁, _, _, rfl, rfl, Nat.zero_le _, S₁.push oI, st, off, fun _ h => h, hP⟩
  rintro n s' ⟨i, ρ, σ, fz', h', tk', rfl, rfl, hi, S', st', off', kk, hP'⟩
  have hQ' := hQ₁.on (h₁ := h') (t₁ := tk') kk
  have hE' := hE₁.on (h₁ := h') (t₁ := tk') kk
  rcases Nat.lt_or_ge i xs.length with hlt | hge
  · refine It.W.item i _ _ _ hlt st' fun v h₂ tk₂ hv st₂ k₂ => ?_
    have S₂ : Sat G cx ex ρ σ fz' h₂ := S'.keep fun b o nb e => k₂ b o (fun q => nb (by rw [List.mem_singleton.mp q]; exact off')) e
    obtain ⟨x, hx, rx⟩ := It.val i v hv
    rw [drop_at hx] at hP'
    obtain ⟨ρ', T, body'⟩ := hP'
    obtain ⟨oI₂, nI, hoI, hcI, hnI⟩ := It.obj _ _ st₂
    have S₃ := S₂.park hoI off'.m off'.f
    refine owned_none hoI hcI hnI ?_
    refine assign_T T S₃ (.inl hA) (rx.mono kk) fun h₃ tk₃ S₄ => ?_
    have back : ∀ {ρ'' σ'' fz'' h''}, (∀ p ∈ fz', p ∈ fz'') → Sat G cx ((I, oI₂) :: ex) ρ'' σ'' fz'' h'' → Sat G cx ex ρ'' σ'' fz'' h'' ∧ St (i + 1) h'' ∧ Off G cx ex σ'' fz'' I := fun k S'' => by
      obtain ⟨u1, u2, u3, u4⟩ := S''.unpark S₂.clx
      refine ⟨u1, It.W.frame _ _ _ st₂ fun b hb o e => ?_, u3, u4, off'.x, off'.b⟩
      rcases It.fpk b hb with rfl | hb
      · rw [hoI] at e; cases e; exact u2
      · obtain ⟨p, hp, rfl⟩ := List.mem_map.mp hb
        have := S₂.fzh p (kk p hp)
        rw [e] at this; cases this
        exact u1.fzh p (k p (kk p hp))
    refine body'.run g S₄ .nil (fun fl FL ρ'' σ'' fz'' h'' tk'' k S'' r'' q'' => ?_) (fun y e ρ'' σ'' fz'' h'' tk'' k S'' X'' q'' => ?_)
    · obtain ⟨b1, b2, b3⟩ := back k S''
      cases r'' with
      | next => exact ⟨xs.length - (i + 1), by omega, i + 1, ρ'', σ'', fz'', h'', tk'', rfl, rfl, hlt, b1, b2, b3, fun p hp => k p (kk p hp), q''⟩
      | ret rv => exact hQ' (.ret _) _ ρ'' σ'' fz'' h'' tk'' k b1 (.ret rv) q''
    · obtain ⟨b1, b2, b3⟩ := back k S''
      exact notes_back b1.ok.frames hc b1 X''.sub fun h₅ S₅ X₅ => hE' y e ρ'' σ'' fz'' h₅ tk'' k S₅ X₅ q''
  · have hi' : i = xs.length := Nat.le_antisymm hi hge
    subst hi'
    refine It.W.done _ _ _ st' fun h₂ tk₂ k₂ => ?_
    have S₂ : Sat G cx ex ρ σ fz' h₂ := S'.keep fun b o nb e => k₂ b o (fun q => nb (by rw [List.mem_singleton.mp q]; exact off')) e
    rw [List.drop_length] at hP'
    exact wpAny_execs_nil (hQ' .next .next ρ σ fz' h₂ tk₂ (fun _ h => h) S₂ .next hP')

noncomputable def WhP (G : Gr) (cx : Cx) (test : Expr) (body : List Stmt) (Q : AF → AE → AH → Prop) (EQ : AX → AE → AH → Prop) : Nat → AE → AH → Prop
  | 0, _, _ => False
  | n + 1, ρ, σ => Ts G cx ρ σ test (fun b ρ' σ' => if b = true then Xs G cx ρ' σ' body (fun fl ρ'' σ'' => match fl with | .next => WhP G cx test body Q EQ n ρ'' σ'' | .ret v => Q (.ret v) ρ'' σ'') EQ else Q .next ρ' σ') EQ

theorem x_while {ρ : AE} {σ : AH} {test : Expr} {body : List Stmt} {pos : Pos} {Q : AF → AE → AH → Prop} (hc : cx.comp = false) (n : Nat) (h : WhP G cx test body Q EQ n ρ σ) :
    X1 G cx ρ σ (.While test body [] pos) Q EQ := fun ex fz s _ g S _ QQ EE hQ hE => by
  refine wpAny_While ?_
  refine codeAny_whileLoop (fun n s' => ∃ ρ σ fz' h' tk', s' = { s with heap := h', toks := tk' } ∧ Sat G cx ex ρ σ fz' h' ∧ (∀ p ∈ fz, p ∈ fz') ∧ WhP G cx test body Q EQ n ρ σ) ?_ n ⟨ρ, σ, fz, _, _, rfl, S, fun _ h => h, h⟩
  rintro n s' ⟨ρ, σ, fz', h', tk', rfl, S', kk, hP⟩
  cases n with
  | zero => exact hP.elim
  | succ n =>
    have thr : ∀ {fz₀ : Objs} {h₀ t₀}, (∀ p ∈ fz, p ∈ fz₀) → Exn G cx ex fz₀ { s with heap := h₀, toks := t₀ } EQ (notedBy (model G.prog G.w) cx.A cx.env fun e s' => cameBackBy (model G.prog G.w) cx.A cx.env EE e s') := fun k y e ρ'' σ'' fz'' h'' tk'' k' S'' X'' q'' =>
      notes_back S''.ok.frames hc S'' X'' fun h₅ S₅ X₅ => hE y e ρ'' σ'' fz'' h₅ tk'' (fun p hp => k' p (k p hp)) S₅ X₅ q''
    refine JV.run hP g S' .nil (fun b a ρ₂ σ₂ fz₂ h₂ t₂ k₂ S₂ r₂ q₂ => ?_) (thr kk)
    cases r₂
    cases b with
    | true =>
      simp only [if_true] at q₂ ⊢
      refine JV.run q₂ g S₂ .nil (fun fl FL ρ₃ σ₃ fz₃ h₃ t₃ k₃ S₃ r₃ q₃ => ?_) (thr fun p hp => k₂ p (kk p hp))
      cases r₃ with
      | next => exact ⟨n, Nat.lt_succ_self _, ρ₃, σ₃, fz₃, h₃, t₃, rfl, S₃, fun p hp => k₃ p (k₂ p (kk p hp)), q₃⟩
      | ret rv => exact hQ (.ret _) _ ρ₃ σ₃ fz₃ h₃ t₃ (fun p hp => k₃ p (k₂ p (kk p hp))) S₃ (.ret rv) q₃
    | false =>
      simp only [Bool.false_eq_true, if_false] at q₂ ⊢
      exact wpAny_execs_nil (hQ .next .next ρ₂ σ₂ fz₂ h₂ t₂ (fun p hp => k₂ p (kk p hp)) S₂ .next q₂)
end
end Mine
namespace Mine
open PySem PySem.W PyProof.Rows PyProof.Rows.LCg PySem.Calls PySem.Spec

theorem KN.of_scope {cx : Cx} {scope : Scope} (h : cx.env.scope = scope) (ho : ∀ x c, cx.env.cells.lookup x = some c → c ∈ cx.own) : KN cx scope.names where
  kd := fun x k e _ => by rw [kindOf_eq, h]; exact e
  fr := fun x e => .inl (by rw [kindOf_eq, h]; exact e)
  own := fun x _ c e => ho x c e

section
variable {G : Gr} {cx cx' : Cx} {ρ ρ' : AE} {σ : AH} {ex ex' fz : Objs} {h h₁ : Heap} {m : Str → Option Value} {ol : Objs} {oC : Obj}

/-- a new frame upon this one -/
theorem Sat.enter (S : Sat G cx ex ρ σ fz h) (hke : ∀ b o, h.get? b = some o → h₁.get? b = some o) (I : Inner G cx cx' ex ex' σ h m ol oC) (ok' : CxOk cx')
    (hL : h.objs.size ≤ cx'.env.locals) (hown : ∀ c ∈ cx'.own, h.objs.size ≤ c) (hLo : cx'.env.locals ∉ cx'.own) (hnd : cx'.own.Nodup) (hcell : ∀ c ∈ cx'.own, ∃ v, h₁.IsCell c v) (hclx : ∀ p ∈ cx'.cl, p ∈ ex')
    (hloc : ∃ m', h₁.Ns cx'.env.locals m' ∧ ∀ x v, ρ' x = some v → VarOk G cx' fz m' h₁ x v) : Sat G cx' ex' ρ' σ fz h₁ := by
  have olk := I.olk
  have stkin : ∀ p ∈ cx'.stk, h.Ns p.1.locals p.2 ∧ p.1.locals ∈ cx.mut σ := fun p hp => by
    rw [I.stk] at hp
    have old : p ∈ cx.stk → h.Ns p.1.locals p.2 ∧ p.1.locals ∈ cx.mut σ := fun q => ⟨S.stk p q, by
      unfold Cx.mut; simp only [List.mem_cons, List.mem_append, List.mem_map]; exact .inr (.inl (.inl ⟨p, q, rfl⟩))⟩
    cases hc : cx.comp with
    | true => rw [hc] at hp; exact old hp
    | false =>
      rw [hc] at hp
      rcases List.mem_cons.mp hp with rfl | hp
      · exact ⟨I.ns, by unfold Cx.mut; simp⟩
      · exact old hp
  have mlt : ∀ a ∈ cx.mut σ, a < h.objs.size := fun a ha => by obtain ⟨o, ho⟩ := S.mut_there ha; exact Heap.lt_size ho
  have exin : ∀ p ∈ ex', p ∈ ol ∨ (cx.comp = true ∧ p = (cx.env.locals, oC)) ∨ p ∈ ex := fun p hp => by
    rw [I.ex] at hp
    rcases List.mem_append.mp hp with hp | hp
    · exact .inl hp
    · rcases List.mem_append.mp hp with hp | hp
      · cases hc : cx.comp with
        | true => rw [hc] at hp; exact .inr (.inl ⟨rfl, by simpa using hp⟩)
        | false => rw [hc] at hp; simp at hp
      · exact .inr (.inr hp)
  have exh : ∀ p ∈ ex', h.get? p.1 = some p.2 := fun p hp => by
    rcases exin p hp with hp | ⟨_, rfl⟩ | hp
    · exact I.has p hp
    · exact I.oC
    · exact S.exh p hp
  have xlt : ∀ a ∈ keys ex', a < h.objs.size := fun a ha => by
    obtain ⟨p, hp, rfl⟩ := List.mem_map.mp ha
    exact Heap.lt_size (exh p hp)
  have mut' : ∀ a ∈ cx'.mut σ, (a = cx'.env.locals ∨ a ∈ cx'.own) ∨ (a ∈ cx'.stk.map (·.1.locals) ∨ a ∈ σ.map (·.1)) := fun a ha => by
    unfold Cx.mut at ha
    simp only [List.mem_cons, List.mem_append] at ha
    rcases ha with h | (h | h) | h
    · exact .inl (.inl h)
    · exact .inr (.inl h)
    · exact .inl (.inr h)
    · exact .inr (.inr h)
  have oldin : ∀ a, a ∈ cx'.stk.map (·.1.locals) ∨ a ∈ σ.map (·.1) → a ∈ cx.mut σ := fun a ha => by
    rcases ha with h | h
    · obtain ⟨p, hp, rfl⟩ := List.mem_map.mp h
      exact (stkin p hp).2
    · unfold Cx.mut; simp only [List.mem_cons, List.mem_append]; exact .inr (.inr h)
  have newge : ∀ a, a = cx'.env.locals ∨ a ∈ cx'.own → h.objs.size ≤ a := fun a ha => by
    rcases ha with rfl | h
    · exact hL
    · exact hown a h
  have newoff : ∀ a, a = cx'.env.locals ∨ a ∈ cx'.own → ∀ b, b < h.objs.size → a ≠ b := fun a ha b hb q => Nat.lt_irrefl _ (Nat.lt_of_lt_of_le (q ▸ hb) (newge a ha))
  have nd := S.nod
  unfold Cx.mut at nd
  rw [List.nodup_cons, List.nodup_append, List.nodup_append] at nd
  have hbs : G.hb.objs.size ≤ h.objs.size := Nat.le_trans (S.new _ (by unfold Cx.mut; exact List.mem_cons_self)).2 (Nat.le_of_lt (Heap.lt_size I.oC))
  refine ⟨ok', hclx, fun b o e => hke b o (S.base b o e), fun p hp => (stkin p hp).1.keeps hke, hcell, fun p hp => hke _ _ (S.fzh p hp), fun p hp => hke _ _ (exh p hp), fun p hp => ?_, hloc, ?_, fun a ha => ?_, fun a ha hf => ?_, fun a ha hx => ?_, fun a ha => ?_⟩
  · obtain ⟨o, ho, rr⟩ := S.live p hp
    exact ⟨o, hke _ _ ho, rr⟩
  · unfold Cx.mut
    rw [List.nodup_cons, List.nodup_append, List.nodup_append]
    refine ⟨fun q => ?_, ⟨?_, hnd, fun a ha b hb q => ?_⟩, nd.2.2.1, fun a ha b hb q => ?_⟩
    · have q' : cx'.env.locals ∈ cx'.own ∨ (cx'.env.locals ∈ cx'.stk.map (·.1.locals) ∨ cx'.env.locals ∈ σ.map (·.1)) := by
        simp only [List.mem_append] at q
        rcases q with (q | q) | q
        · exact .inr (.inl q)
        · exact .inl q
        · exact .inr (.inr q)
      rcases q' with q' | q'
      · exact hLo q'
      · exact newoff _ (.inl rfl) _ (mlt _ (oldin _ q')) rfl
    · rw [I.stk]
      cases hc : cx.comp with
      | true => exact nd.2.1.1
      | false =>
        simp only [Bool.false_eq_true, if_false, List.map_cons, List.nodup_cons]
        exact ⟨fun q => nd.1 (List.mem_append_left _ (List.mem_append_left _ q)), nd.2.1.1⟩
    · subst q
      exact newoff _ (.inr hb) _ (mlt _ (oldin _ (.inl ha))) rfl
    · subst q
      rcases List.mem_append.mp ha with ha | ha
      · rw [I.stk] at ha
        cases hc : cx.comp with
        | true =>
          rw [hc] at ha
          exact nd.2.2.2 a (List.mem_append_left _ ha) a hb rfl
        | false =>
          rw [hc] at ha
          simp only [Bool.false_eq_true, if_false, List.map_cons, List.mem_cons] at ha
          rcases ha with rfl | ha
          · exact nd.1 (List.mem_append_right _ hb)
          · exact nd.2.2.2 a (List.mem_append_left _ ha) a hb rfl
      · exact newoff _ (.inr ha) _ (mlt _ (oldin _ (.inr hb))) rfl
  · rcases mut' a ha with q | q
    · exact ⟨Heap.get?_none_of_le (Nat.le_trans hbs (newge a q)), Nat.le_trans hbs (newge a q)⟩
    · exact S.new a (oldin a q)
  · have flt : a < h.objs.size := by
      obtain ⟨p, hp, rfl⟩ := List.mem_map.mp hf
      exact Heap.lt_size (S.fzh p hp)
    rcases mut' a ha with q | q
    · exact newoff a q a flt rfl
    · exact S.apf a (oldin a q) hf
  · rcases mut' a ha with q | q
    · exact newoff a q a (xlt a hx) rfl
    · obtain ⟨p, hp, rfl⟩ := List.mem_map.mp hx
      have om := oldin _ q
      rcases exin p hp with hp | ⟨hc, rfl⟩ | hp
      · have ho : p.1 ∈ cx.own := olk ▸ List.mem_map_of_mem hp
        rcases q with q | q
        · rw [I.stk] at q
          cases hc : cx.comp with
          | true =>
            rw [hc] at q
            exact nd.2.1.2.2 _ q _ ho rfl
          | false =>
            rw [hc] at q
            simp only [Bool.false_eq_true, if_false, List.map_cons, List.mem_cons] at q
            rcases q with q | q
            · exact nd.1 (List.mem_append_left _ (List.mem_append_right _ (q ▸ ho)))
            · exact nd.2.1.2.2 _ q _ ho rfl
        · exact nd.2.2.2 _ (List.mem_append_right _ ho) _ q rfl
      · rcases q with q | q
        · rw [I.stk, hc] at q
          exact nd.1 (List.mem_append_left _ (List.mem_append_left _ q))
        · exact nd.1 (List.mem_append_right _ q)
      · exact S.apx _ om (List.mem_map_of_mem hp)
  · obtain ⟨p, hp, rfl⟩ := List.mem_map.mp ha
    rcases exin p hp with hp | ⟨hc, rfl⟩ | hp
    · exact S.apf _ (by unfold Cx.mut; have : p.1 ∈ cx.own := olk ▸ List.mem_map_of_mem hp; simp [this])
    · exact S.apf _ (by unfold Cx.mut; simp)
    · exact S.xf _ (List.mem_map_of_mem hp)
end

section
variable {G : Gr} {cx : Cx} {ρ : AE} {σ : AH} {Q : AV → AE → AH → Prop} {EQ : AX → AE → AH → Prop}
/-- a call of a def of the text -/
theorem call_fn {f : Addr} {oc : Value} {od : Option Addr} {osl : Array (Option Value)} {name qual : Str} {params : Arguments} {body : List Stmt} {scope : Scope} {dV kV doc pm cdv ct : Value} {an : Option Addr} {args : List AV} {names : List Str}
    (hK : G.K.lookup f = some ⟨oc, od, .func (fnOf name qual params body scope dV kV doc pm an cdv ct), osl⟩) (hcd : codeIn G.K cdv qual = true)
    (hbind : ∀ (Vs : List Value) (h : Heap), Vs.length = args.length → G.K.In h → Looks (model G.prog G.w) h (bindArgs (fnOf name qual params body scope dV kV doc pm an cdv ct) ⟨Vs, []⟩) (names.zip Vs))
    (hn : names.Nodup) (hl : args.length = names.length) (hkn : ∀ n ∈ names, scope.names.lookup n = some .local ∨ scope.names.lookup n = some .cell)
    (hkk : scope.names.all (fun p => p.2 != .free) = true) (hcn : ((cellsFrom 0 scope.names []).map (·.1)).Nodup) (hd : 1 ≤ cx.d)
    (hb : ∀ cx' : Cx, cx'.d + 1 = cx.d → cx'.hd = cx.hd → cx'.comp = false → cx'.env.scope = scope → (∀ x c, cx'.env.cells.lookup x = some c → c ∈ cx'.own) →
      Xs G cx' (fun x => (names.zip args).lookup x) σ body (fun fl _ σ' => Q (match fl with | .ret v => v | .next => .none) ρ σ') (fun x _ σ' => EQ x ρ σ'))
    (hco : scope.isCoroutine = false := by rfl) (hgen : scope.isGenerator = false := by rfl) (hk : scope.kind = .function := by rfl) :
    JVC G cx ρ σ args f Q EQ := by
  intro ex fz s Vs g S r QQ EE hQ hE
  obtain ⟨m, hns, hv⟩ := S.loc
  obtain ⟨oC, esC, epC, hoC, hCr⟩ := id hns
  obtain ⟨ol, hol, hOl⟩ := own_objs S
  have hVs := r.length
  refine codeAny_call_function (by have := S.ok.depth; show cx.A.depth < 1000; omega) (S.base _ _ (g.KB _ _ hK)) rfl hco hgen rfl (codeRec_of (fun a o e => S.base _ _ (g.KB a o e)) hcd) ?_
  refine (hbind Vs s.heap hVs (fun a o e => S.base _ _ (g.KB a o e))).here ?_
  have hkind : ∀ x ∈ names.zip Vs, scope.names.lookup x.1 = some .local ∨ (scope.names.lookup x.1 = some .cell ∧ ((cellsFrom (s.heap.objs.size + 1) scope.names []).lookup x.1).isSome = true) := fun x hx => by
    rcases hkn x.1 (List.of_mem_zip hx).1 with q | q
    · exact .inl q
    · exact .inr ⟨q, cellsFrom_some _ _ _ (.inl q)⟩
  refine wpAny_newFunctionEnv_cells hk hkind fun env' he s' X => ?_
  refine ⟨(g.TB.nolimit.keeps S.base).keeps X.toInCall.keep, codeAny_func ?_⟩
  obtain ⟨h₁, tk, rfl⟩ := X.toInCall.same
  have hke := X.toInCall.keep
  have hL : env'.locals = s.heap.objs.size := by rw [he]; rfl
  have hcells : env'.cells = cellsFrom (s.heap.objs.size + 1) scope.names [] := by rw [he]; rfl
  have hscope : env'.scope = scope := by rw [he]; rfl
  have cabove : ∀ x c, (x, c) ∈ env'.cells → s.heap.objs.size < c := fun x c hm => by
    rw [hcells] at hm
    rcases cells_above _ _ _ x c hm with q | q
    · cases q
    · exact q
  -- the frame
  let cx' : Cx := { A := cx.A.deeper env', d := cx.d - 1, hd := cx.hd, env := env', stk := if cx.comp then cx.stk else (cx.env, m) :: cx.stk, own := env'.cells.map (·.2), cl := [], comp := false }
  let ex' : Objs := ol ++ ((if cx.comp then [(cx.env.locals, oC)] else []) ++ ex)
  have I : Inner G cx cx' ex ex' σ s.heap m ol oC := ⟨rfl, rfl, hol, hns, hoC, hOl⟩
  have frs : cx.frames = (if cx.comp then cx.stk else (cx.env, m) :: cx.stk).map (·.1) := by
    unfold Cx.frames
    cases cx.comp <;> rfl
  have ok' : CxOk cx' := by
    refine ⟨?_, ?_, ?_, S.ok.hd, by show env'.scope.kind = _; rw [hscope]; exact hk, fun _ => by show env'.frame = some env'.locals; rw [hL, he]; rfl, fun p hp => ?_, ⟨by show env'.globals = _; rw [he]; rfl, by show env'.builtins = _; rw [he]; rfl⟩, fun x hx => ?_, fun x c h => .inl (List.mem_map_of_mem (f := (·.2)) (lookup_mem h)), fun x y c _ h1 h2 => ?_⟩
    · show cx.A.frames.map (env' :: ·) = some (env' :: _)
      rw [S.ok.frames, frs]; rfl
    · have := S.ok.depth; show cx.A.depth + 1 + (cx.d - 1) ≤ 900; omega
    · have := S.ok.units; show cx.A.units + 3 + 20 * (cx.d - 1) ≤ 9000; omega
    · have hp' : p ∈ (if cx.comp then cx.stk else (cx.env, m) :: cx.stk) := hp
      cases hc : cx.comp with
      | true => rw [hc] at hp'; exact S.ok.fs p hp'
      | false =>
        rw [hc] at hp'
        rcases List.mem_cons.mp hp' with rfl | hp'
        · exact ⟨S.ok.kf, S.ok.fr hc⟩
        · exact S.ok.fs p hp'
    · have hx' : scope.names.lookup x = some .cell ∨ scope.names.lookup x = some .free := by
        have : env'.scope.names.lookup x = some .cell ∨ env'.scope.names.lookup x = some .free := hx
        rwa [hscope] at this
      rcases hx' with q | q
      · have := cellsFrom_some (x := x) scope.names (s.heap.objs.size + 1) [] (.inl q)
        obtain ⟨c, hc⟩ := Option.isSome_iff_exists.mp this
        exact ⟨c, by show env'.cells.lookup x = _; rw [hcells]; exact hc⟩
      · have := List.all_eq_true.mp hkk _ (lookup_mem q)
        simp at this
    · exact pair_inj X.apart (lookup_mem h1) (lookup_mem h2)
  have Scal : Sat G cx' ex' (fun x => (names.zip args).lookup x) σ fz h₁ := by
    refine S.enter hke I ok' (by show _ ≤ env'.locals; rw [hL]; exact Nat.le_refl _) (fun c hc => ?_) (fun q => ?_) (List.pairwise_map.mpr X.apart) (fun c hc => ?_) (fun p hp => (nomatch hp)) ⟨_, X.toInCall.ns, fun x v hx => ?_⟩
    · obtain ⟨p, hp, rfl⟩ := List.mem_map.mp hc
      exact Nat.le_of_lt (cabove p.1 p.2 hp)
    · obtain ⟨p, hp, hq⟩ := List.mem_map.mp q
      have := X.above p.1 p.2 hp
      have hq' : p.2 = env'.locals := hq
      rw [hq'] at this
      exact Nat.lt_irrefl _ this
    · obtain ⟨p, hp, rfl⟩ := List.mem_map.mp hc
      have : env'.cells.lookup p.1 = some p.2 := by
        have hp' : (p.1, p.2) ∈ env'.cells := hp
        rw [hcells] at hp' ⊢
        exact lookup_of_mem_nodup (cellsFrom_names scope.names 0 (s.heap.objs.size + 1) [] [] rfl ▸ hcn) hp'
      exact ⟨_, X.cell p.1 p.2 this⟩
    · obtain ⟨V, rV, bl, bc⟩ := bind_at (kind := env'.kindOf) names args Vs (fun _ => none) hn r hx
      have hkx : env'.kindOf x = some .local ∨ env'.kindOf x = some .cell := by
        have : env'.kindOf x = scope.names.lookup x := by rw [kindOf_eq, hscope]
        rw [this]; exact hkn x (List.of_mem_zip (lookup_mem hx)).1
      rcases hkx with q | q
      · exact .inl ⟨q, V, bl q, rV⟩
      · obtain ⟨c, hc⟩ := ok'.cs x (.inl q)
        refine .inr (.inl ⟨q, c, V, hc, List.mem_map_of_mem (f := (·.2)) (lookup_mem hc), ?_, rV⟩)
        have := X.cell x c hc
        rw [bc q] at this
        exact this
  have hd' : cx'.d + 1 = cx.d := by show cx.d - 1 + 1 = cx.d; omega
  refine (hb cx' hd' rfl rfl hscope (fun x c h => List.mem_map_of_mem (f := (·.2)) (lookup_mem h))).run (s := { s with heap := h₁, toks := tk }) g Scal .nil (fun fl FL ρ' σ' fz' h' tk' k S' rf q => ?_) (fun x e ρ' σ' fz' h' tk' k S' X' q => ?_)
  · have Sb := I.back S S' k hv
    cases rf with
    | next => exact hQ .none .none ρ σ' fz' h' tk' k Sb .none q
    | ret rv => exact hQ _ _ ρ σ' fz' h' tk' k Sb rv q
  · refine leaves (cx := cx') (ok'.frames) rfl S' X' fun h'' S'' X'' => ?_
    have Sb := I.back S S'' k hv
    refine hE x e ρ σ' fz' h'' tk' k Sb ?_ q
    obtain ⟨O, o, d, od, vs, kvs, h1, h2, h3, h4, h5, h6, h7, h8, tb, ot, ts, t1, t2, t3, t4, t5, t6⟩ := X''
    exact ⟨I.off O, o, d, od, vs, kvs, h1, h2, h3, h4, h5, h6, h7, h8, .inr ⟨tb, ot, ts, t1, t2, t3, .inl t4, I.off t5, t6⟩⟩
end

/-! the scope of a comprehension -/
noncomputable def clOf (env : Env) : List (Str × NameKind) → List (Str × Addr) → List (Str × Addr)
  | [], acc => acc
  | (n, k) :: r, acc => if k == .free then clOf env r ((n, (env.cells.lookup n).getD 0) :: acc) else clOf env r acc

theorem closure_loop {env : Env} (f : Str × NameKind → List (Str × Addr) → Sem (ForInStep (List (Str × Addr))))
    (hf : ∀ n k cs, f (n, k) cs = if k == .free then (do let a ← cellOf env n; pure (.yield ((n, a) :: cs))) else pure (.yield cs)) :
    ∀ (names : List (Str × NameKind)) (acc : List (Str × Addr)), (∀ x, (x, NameKind.free) ∈ names → ∃ c, env.cells.lookup x = some c) → forIn names acc f = pure (clOf env names acc)
  | [], _, _ => rfl
  | (n, k) :: r, acc, h => by
    rw [List.forIn_cons, hf]
    unfold clOf
    cases hk : (k == NameKind.free) with
    | true =>
      obtain ⟨c, hc⟩ := h n (by rw [show k = NameKind.free by simpa using hk]; exact List.mem_cons_self)
      unfold cellOf
      simp only [hc, if_true, pure_bind, Option.getD_some]
      exact closure_loop f hf r _ fun x hx => h x (List.mem_cons_of_mem _ hx)
    | false =>
      simp only [Bool.false_eq_true, if_false, pure_bind]
      exact closure_loop f hf r _ fun x hx => h x (List.mem_cons_of_mem _ hx)
theorem closureFor_eq {scope : Scope} {env : Env} (h : ∀ x, (x, NameKind.free) ∈ scope.names → ∃ c, env.cells.lookup x = some c) : closureFor scope env = pure (clOf env scope.names []) := by
  refine (congrArg (fun y => y >>= fun s => pure s) (closure_loop (env := env) (fun x cs => match x with
    | (n, k) => if (k == NameKind.free) = true then do let a ← cellOf env n; pure (.yield ((n, a) :: cs)) else pure (.yield cs)) (fun _ _ _ => rfl) scope.names [] h)).trans ?_
  rw [pure_bind]

theorem clOf_some {env : Env} : ∀ (names : List (Str × NameKind)) (acc : List (Str × Addr)) (x : Str), (x, NameKind.free) ∈ names ∨ (acc.lookup x).isSome = true → ((clOf env names acc).lookup x).isSome = true
  | [], _, _, h => h.elim (fun q => by cases q) id
  | (n, k) :: r, acc, x, h => by
    unfold clOf
    split
    · refine clOf_some r _ x ?_
      rcases h with h | h
      · rcases List.mem_cons.mp h with e | h
        · injection e with e1 e2
          subst e1
          exact .inr (by simp [List.lookup_cons])
        · exact .inl h
      · refine .inr ?_
        rw [List.lookup_cons]
        cases hx : (x == n) with
        | true => rfl
        | false => exact h
    · rename_i hk
      refine clOf_some r _ x ?_
      rcases h with h | h
      · rcases List.mem_cons.mp h with e | h
        · injection e with e1 e2
          rw [← e2] at hk
          exact absurd rfl hk
        · exact .inl h
      · exact .inr h

theorem cellsFrom_split : ∀ (names : List (Str × NameKind)) (n : Nat) (acc : List (Str × Addr)), cellsFrom n names acc = cellsFrom n names [] ++ acc
  | [], _, _ => rfl
  | (name, k) :: r, n, acc => by
    unfold cellsFrom
    split
    · rw [cellsFrom_split r (n + 1) ((name, n) :: acc), cellsFrom_split r (n + 1) [(name, n)], List.append_assoc]; rfl
    · exact cellsFrom_split r n acc
theorem cellsFrom_kind : ∀ (names : List (Str × NameKind)) (n : Nat) (acc : List (Str × Addr)) (x : Str) (c : Addr), (x, c) ∈ cellsFrom n names acc → (x, c) ∈ acc ∨ (x, NameKind.cell) ∈ names
  | [], _, _, _, _, h => .inl h
  | (name, k) :: r, n, acc, x, c, h => by
    unfold cellsFrom at h
    split at h
    · rename_i hk
      rcases cellsFrom_kind r (n + 1) _ x c h with q | q
      · rcases List.mem_cons.mp q with q | q
        · injection q with q1 q2
          exact .inr (by rw [q1, show k = NameKind.cell by simpa using hk]; exact List.mem_cons_self)
        · exact .inl q
      · exact .inr (List.mem_cons_of_mem _ q)
    · rcases cellsFrom_kind r n _ x c h with q | q
      · exact .inl q
      · exact .inr (List.mem_cons_of_mem _ q)

theorem relabel_kind {env : Env} : ∀ {names : List (Str × NameKind)} {x : Str} {k : NameKind}, names.lookup x = some k →
    (names.map fun (n, k) => if (k == NameKind.free && env.scope.kind == .function && env.kindOf n == some .cell) then (n, NameKind.cell) else (n, k)).lookup x = some (if (k == NameKind.free && env.scope.kind == .function && env.kindOf x == some .cell) then .cell else k)
  | [], _, _, h => by cases h
  | (n, k') :: r, x, k, h => by
    have ih := @relabel_kind env r x k
    rw [List.lookup_cons] at h
    simp only [List.map_cons]
    cases hx : (x == n) with
    | true =>
      rw [hx] at h
      cases h
      have : x = n := by simpa using hx
      subst this
      split <;> simp [List.lookup_cons, *]
    | false =>
      rw [hx] at h
      split
      · rw [List.lookup_cons, hx]; exact ih h
      · rw [List.lookup_cons, hx]; exact ih h
theorem relabel_none {env : Env} : ∀ {names : List (Str × NameKind)} {x : Str}, names.lookup x = none →
    (names.map fun (n, k) => if (k == NameKind.free && env.scope.kind == .function && env.kindOf n == some .cell) then (n, NameKind.cell) else (n, k)).lookup x = none
  | [], _, _ => rfl
  | (n, k') :: r, x, h => by
    have ih := @relabel_none env r x
    rw [List.lookup_cons] at h
    simp only [List.map_cons]
    cases hx : (x == n) with
    | true => rw [hx] at h; cases h
    | false =>
      rw [hx] at h
      split
      · rw [List.lookup_cons, hx]; exact ih h
      · rw [List.lookup_cons, hx]; exact ih h
end Mine
namespace Mine
open PySem PySem.W PyProof.Rows PyProof.Rows.LCg PySem.Calls PySem.Spec

noncomputable def compEnv (scope : Scope) (env : Env) (C : Addr) : Env :=
  { scope := relabel scope env, locals := C, globals := env.globals, cells := cellsFrom (C + 1) scope.names (clOf env scope.names []), qual := env.qual, func := none, code := env.code, frame := env.frame, builtins := env.builtins }

theorem new_comp_env {M : Model} {A : Around} {E : Value → Shared → Prop} {s : Shared} {scope : Scope} {env : Env} {cl : List (Str × Addr)} {Q : Env → Shared → Prop}
    (h : ∀ h₁, (∀ b o, s.heap.get? b = some o → h₁.get? b = some o) → h₁.Ns s.heap.objs.size (fun _ => none) → (∀ x c, (x, c) ∈ cellsFrom (s.heap.objs.size + 1) scope.names [] → h₁.IsCell c none ∧ s.heap.objs.size + 1 ≤ c) →
      ((cellsFrom (s.heap.objs.size + 1) scope.names []).Pairwise fun x y => x.2 ≠ y.2) →
      Q (newEnv scope s.heap.objs.size env.globals (cellsFrom (s.heap.objs.size + 1) scope.names cl) env.qual none .none (some env) builtinsNs) { s with heap := h₁ }) :
    wpAny M A (newFunctionEnv scope env.globals cl [] env.qual none .none (some env)) Q E s := by
  simp only [newFunctionEnv, Option.isSome_some, if_true]
  refine wpAny_bind (wpAny_alloc ?_)
  refine wpAny_bind (wpAny_layCells _ (fun name kind cells => by cases hkc : kind == NameKind.cell <;> simp [hkc]) _ _ _ _ ?_)
  have ok := cellsFrom_ok scope.names (s.heap.push { cls := .type "dict", data := .dict #[] }) (s.heap.objs.size + 1) [] ⟨fun _ _ hm => (nomatch hm), List.Pairwise.nil⟩ (by rw [Heap.size_push]; exact Nat.le_refl _)
  rw [Heap.size_push] at ok
  rw [show ({ s with heap := s.heap.push { cls := .type "dict", data := .dict #[] } } : Shared).heap.objs.size = s.heap.objs.size + 1 from Heap.size_push ..]
  simp only [List.forIn_nil, pure_bind]
  exact wpAny_pure (h _ (fun b o e => pushCells_keeps _ _ b o (Heap.get?_push_of_some _ e)) ((Heap.Ns.new s.heap (.type "dict")).keeps (pushCells_keeps _ _)) ok.empty ok.apart)

theorem clOf_mem {env : Env} : ∀ (names : List (Str × NameKind)) (acc : List (Str × Addr)) (x : Str) (c : Addr), (x, c) ∈ clOf env names acc → ((x, NameKind.free) ∈ names ∧ c = (env.cells.lookup x).getD 0) ∨ (x, c) ∈ acc
  | [], _, _, _, h => .inr h
  | (n, k) :: r, acc, x, c, h => by
    unfold clOf at h
    split at h
    · rename_i hk
      rcases clOf_mem r _ x c h with ⟨q, e⟩ | q
      · exact .inl ⟨List.mem_cons_of_mem _ q, e⟩
      · rcases List.mem_cons.mp q with q | q
        · injection q with q1 q2
          subst q1
          exact .inl ⟨by rw [show k = NameKind.free by simpa using hk]; exact List.mem_cons_self, q2⟩
        · exact .inr q
    · rcases clOf_mem r _ x c h with ⟨q, e⟩ | q
      · exact .inl ⟨List.mem_cons_of_mem _ q, e⟩
      · exact .inr q

structure CIn (cx cxc : Cx) (scope : Scope) : Prop where
  d : cxc.d = cx.d
  hd : cxc.hd = cx.hd
  comp : cxc.comp = true
  A : cxc.A = cx.A
  kn : KN cxc scope.names
noncomputable def inρ (scope : Scope) (ρ : AE) : AE := fun x => if scope.names.lookup x = some .free then ρ x else none

theorem lookup_nodup {β : Type} : ∀ {l : List (Str × β)}, (l.map (·.1)).Nodup → ∀ {x : Str} {c d : β}, (x, c) ∈ l → (x, d) ∈ l → c = d
  | [], _, _, _, _, h, _ => nomatch h
  | p :: r, hn, x, c, d, h1, h2 => by
    rw [List.map_cons, List.nodup_cons] at hn
    rcases List.mem_cons.mp h1 with q1 | q1 <;> rcases List.mem_cons.mp h2 with q2 | q2
    · rw [← q1] at q2; injection q2 with _ q2; exact q2.symm
    · exact absurd (by rw [← q1]; exact List.mem_map.mpr ⟨(x, d), q2, rfl⟩) hn.1
    · exact absurd (by rw [← q2]; exact List.mem_map.mpr ⟨(x, c), q1, rfl⟩) hn.1
    · exact lookup_nodup hn.2 q1 q2
theorem lookup_of_mem' {β : Type} : ∀ {l : List (Str × β)}, (l.map (·.1)).Nodup → ∀ {x : Str} {c : β}, (x, c) ∈ l → l.lookup x = some c
  | [], _, _, _, h => nomatch h
  | p :: r, hn, x, c, h1 => by
    rw [List.map_cons, List.nodup_cons] at hn
    obtain ⟨y, d⟩ := p
    rw [List.lookup_cons]
    cases hx : (x == y) with
    | true =>
      have : x = y := by simpa using hx
      subst this
      rcases List.mem_cons.mp h1 with q | q
      · injection q with _ q; rw [q]
      · exact absurd (List.mem_map_of_mem q) hn.1
    | false =>
      rcases List.mem_cons.mp h1 with q | q
      · injection q with q _; rw [q] at hx; simp at hx
      · exact lookup_of_mem' hn.2 q

section
variable {G : Gr} {cx : Cx} {ρ : AE} {σ : AH} {ex fz : Objs} {s : Shared} {A : Around} {E : Value → Shared → Prop}

theorem comp_enter {scope : Scope} {Q : Env → Shared → Prop} (S : Sat G cx ex ρ σ fz s.heap) (hkind : scope.kind = .function) (hnd : (scope.names.map (·.1)).Nodup)
    (hfree : ∀ x, (x, NameKind.free) ∈ scope.names → cx.env.kindOf x = some .free ∨ cx.env.kindOf x = some .cell)
    (h : ∀ cxc exc m ol oC h₁, CIn cx cxc scope → cxc.env = compEnv scope cx.env s.heap.objs.size → Inner G cx cxc ex exc σ s.heap m ol oC → Sat G cxc exc (inρ scope ρ) σ fz h₁ → (∀ x v, ρ x = some v → VarOk G cx fz m s.heap x v) →
      (∀ b o, s.heap.get? b = some o → h₁.get? b = some o) → (∀ c ∈ cxc.own, s.heap.objs.size < c) →
      Q (newEnv scope s.heap.objs.size cx.env.globals (cellsFrom (s.heap.objs.size + 1) scope.names (clOf cx.env scope.names [])) cx.env.qual none .none (some cx.env) builtinsNs) { s with heap := h₁ }) :
    wpAny (model G.prog G.w) A (newFunctionEnv scope cx.env.globals (clOf cx.env scope.names []) [] cx.env.qual none .none (some cx.env)) Q E s := by
  refine new_comp_env fun h₁ hke hns hcell hap => ?_
  obtain ⟨m, hnsm, hv⟩ := S.loc
  obtain ⟨oC, esC, epC, hoC, hCr⟩ := id hnsm
  obtain ⟨ol, hol, hOl⟩ := own_objs S
  generalize hCs : s.heap.objs.size = C at hns hcell hap ⊢
  let own := (cellsFrom (C + 1) scope.names []).map (·.2)
  let cxc : Cx := { A := cx.A, d := cx.d, hd := cx.hd, env := compEnv scope cx.env C, stk := if cx.comp then cx.stk else (cx.env, m) :: cx.stk, own := own, cl := ol ++ cx.cl, comp := true }
  let exc : Objs := ol ++ ((if cx.comp then [(cx.env.locals, oC)] else []) ++ ex)
  have I : Inner G cx cxc ex exc σ s.heap m ol oC := ⟨rfl, rfl, hol, hnsm, hoC, hOl⟩
  have freeNo : ∀ x, (x, NameKind.free) ∈ scope.names → (x, NameKind.cell) ∉ scope.names := fun x a b => by have := lookup_nodup hnd a b; cases this
  have freeCell : ∀ x, (x, NameKind.free) ∈ scope.names → ∃ c, cx.env.cells.lookup x = some c := fun x hx => S.ok.cs x (hfree x hx).symm
  have hlt : ∀ x c, cx.env.cells.lookup x = some c → c < C := fun x c hc => by
    rcases S.ok.ca x c hc with q | q
    · obtain ⟨v, o, ho, _⟩ := S.ownc c q
      exact hCs ▸ Heap.lt_size ho
    · obtain ⟨p, hp, rfl⟩ := List.mem_map.mp q
      exact hCs ▸ Heap.lt_size (S.exh p (S.clx p hp))
  have cl_old : ∀ x c, (x, c) ∈ clOf cx.env scope.names [] → (x, NameKind.free) ∈ scope.names ∧ cx.env.cells.lookup x = some c ∧ c < C := fun x c hm => by
    rcases clOf_mem _ _ x c hm with ⟨q, e⟩ | q
    · obtain ⟨c', hc'⟩ := freeCell x q
      rw [hc'] at e
      have e' : c = c' := e
      subst e'
      refine ⟨q, hc', ?_⟩
      exact hlt x _ hc'
    · cases q
  have hmemc : ∀ x c, (x, c) ∈ (compEnv scope cx.env C).cells → (x, c) ∈ cellsFrom (C + 1) scope.names [] ∨ (x, c) ∈ clOf cx.env scope.names [] := fun x c hm => by
    have hm' : (x, c) ∈ cellsFrom (C + 1) scope.names (clOf cx.env scope.names []) := hm
    rw [cellsFrom_split] at hm'
    exact List.mem_append.mp hm'
  have hnew : ∀ x c, (x, c) ∈ cellsFrom (C + 1) scope.names [] → (x, NameKind.cell) ∈ scope.names := fun x c hm => (cellsFrom_kind _ _ _ x c hm).resolve_left (fun q => nomatch q)
  have hkindOf : ∀ x, (compEnv scope cx.env C).kindOf x = (relabel scope cx.env).names.lookup x := fun _ => rfl
  have kn : KN cxc scope.names := by
    refine ⟨fun x k e hk => ?_, fun x e => ?_, fun x e c hc => ?_⟩
    · show (relabel scope cx.env).names.lookup x = _
      refine (relabel_kind e).trans ?_
      rw [if_neg]
      intro q
      simp only [Bool.and_eq_true, beq_iff_eq] at q
      exact hk q.1.1
    · show (relabel scope cx.env).names.lookup x = _ ∨ (relabel scope cx.env).names.lookup x = _
      rw [show (relabel scope cx.env).names.lookup x = _ from relabel_kind e]
      split
      · exact .inr rfl
      · exact .inl rfl
    · rcases hmemc x c (lookup_mem hc) with q | q
      · exact List.mem_map_of_mem (f := (·.2)) q
      · exact absurd (lookup_mem e) (freeNo x (cl_old x c q).1)
  have ok' : CxOk cxc := by
    refine ⟨?_, S.ok.depth, S.ok.units, S.ok.hd, hkind, (fun q => nomatch q), fun p hp => ?_, S.ok.gl, fun x hx => ?_, fun x c hc => ?_, fun x y c ho h1 h2 => ?_⟩
    · show cx.A.frames = some ((if cx.comp then cx.stk else (cx.env, m) :: cx.stk).map (·.1))
      rw [S.ok.frames]
      unfold Cx.frames
      cases cx.comp <;> rfl
    · have hp' : p ∈ (if cx.comp then cx.stk else (cx.env, m) :: cx.stk) := hp
      cases hc : cx.comp with
      | true => rw [hc] at hp'; exact S.ok.fs p hp'
      | false =>
        rw [hc] at hp'
        rcases List.mem_cons.mp hp' with rfl | hp'
        · exact ⟨S.ok.kf, S.ok.fr hc⟩
        · exact S.ok.fs p hp'
    · have hx' : (relabel scope cx.env).names.lookup x = some .cell ∨ (relabel scope cx.env).names.lookup x = some .free := hx
      refine Option.isSome_iff_exists.mp ?_
      show ((cellsFrom (C + 1) scope.names (clOf cx.env scope.names [])).lookup x).isSome = true
      cases e : scope.names.lookup x with
      | none =>
        rw [show (relabel scope cx.env).names.lookup x = _ from relabel_none e] at hx'
        rcases hx' with q | q <;> cases q
      | some k =>
        rw [show (relabel scope cx.env).names.lookup x = _ from relabel_kind e] at hx'
        by_cases hk : k = .free
        · subst hk
          exact cellsFrom_some _ _ _ (.inr (clOf_some _ _ _ (.inl (lookup_mem e))))
        · rw [if_neg (by
            intro q
            simp only [Bool.and_eq_true, beq_iff_eq] at q
            exact hk q.1.1)] at hx'
          rcases hx' with q | q
          · exact cellsFrom_some _ _ _ (.inl (e.trans q))
          · cases q; exact absurd rfl hk
    · rcases hmemc x c (lookup_mem hc) with q | q
      · exact .inl (List.mem_map_of_mem (f := (·.2)) q)
      · refine .inr ?_
        show c ∈ (ol ++ cx.cl).map (·.1)
        rw [List.map_append, List.mem_append]
        rcases S.ok.ca x c (cl_old x c q).2.1 with r | r
        · rw [← hol] at r; exact .inl r
        · exact .inr r
    · obtain ⟨p, hp, rfl⟩ := List.mem_map.mp ho
      have big := (hcell p.1 p.2 hp).2
      rcases hmemc x _ (lookup_mem h1) with q1 | q1
      · rcases hmemc y _ (lookup_mem h2) with q2 | q2
        · exact pair_inj hap q1 q2
        · exact (Nat.lt_asymm (cl_old _ _ q2).2.2 big).elim
      · exact (Nat.lt_asymm (cl_old _ _ q1).2.2 big).elim
  have hgt : ∀ c ∈ cxc.own, C < c := fun c hc => by
    obtain ⟨p, hp, rfl⟩ := List.mem_map.mp hc
    exact (hcell p.1 p.2 hp).2
  subst hCs
  refine h cxc exc m ol oC h₁ ⟨rfl, rfl, rfl, rfl, kn⟩ rfl I ?_ hv hke hgt
  refine S.enter hke I ok' (Nat.le_refl _) (fun c hc => Nat.le_of_lt (hgt c hc)) (fun q => Nat.lt_irrefl _ (hgt _ q)) (List.pairwise_map.mpr hap) (fun c hc => ?_) (fun p hp => ?_) ⟨fun _ => none, hns, fun x v e => ?_⟩
  · obtain ⟨p, hp, rfl⟩ := List.mem_map.mp hc
    exact ⟨_, (hcell p.1 p.2 hp).1⟩
  · rcases List.mem_append.mp hp with hp | hp
    · exact List.mem_append_left _ hp
    · exact List.mem_append_right _ (List.mem_append_right _ (S.clx p hp))
  · unfold inρ at e
    split at e
    · rename_i hxf
      have hxm := lookup_mem hxf
      obtain ⟨c, hc⟩ := Option.isSome_iff_exists.mp (cellsFrom_some (x := x) scope.names (s.heap.objs.size + 1) (clOf cx.env scope.names []) (.inr (clOf_some _ _ _ (.inl hxm))))
      have hcc : cx.env.cells.lookup x = some c := by
        rcases hmemc x c (lookup_mem hc) with q | q
        · exact absurd (hnew x c q) (freeNo x hxm)
        · exact (cl_old x c q).2.1
      refine .inr (.inr ⟨kn.fr x hxf, c, ?_⟩)
      rcases hv x v e with ⟨k1, _⟩ | ⟨k1, c', V', hc', ho, ⟨o, hio, hid⟩, r'⟩ | ⟨k1, c', o, V', hc', ho, hd, r'⟩
      · rcases hfree x hxm with q | q <;> rw [k1] at q <;> cases q
      · rw [hcc] at hc'
        cases hc'
        rw [← hol] at ho
        obtain ⟨p, hp, hpe⟩ := List.mem_map.mp ho
        have := hOl p hp
        rw [hpe, hio] at this
        cases this
        exact ⟨p.2, V', hc, by rw [← hpe]; exact List.mem_append_left _ hp, hid, r'⟩
      · rw [hcc] at hc'
        cases hc'
        exact ⟨o, V', hc, List.mem_append_right _ ho, hd, r'⟩
    · cases e

/-- what is off the caller's state is off the comprehension's -/
theorem Inner.off_in {cxc : Cx} {exc : Objs} {h : Heap} {m : Str → Option Value} {ol : Objs} {oC : Obj} (I : Inner G cx cxc ex exc σ h m ol oC) {a : Addr} (O : Off G cx ex σ fz a) (hL : a ≠ cxc.env.locals) (ho : a ∉ cxc.own) : Off G cxc exc σ fz a := by
  have hm := O.m
  unfold Cx.mut at hm
  simp only [List.mem_cons, List.mem_append, not_or] at hm
  refine ⟨fun q => ?_, O.f, fun q => ?_, O.b⟩
  · unfold Cx.mut at q
    simp only [List.mem_cons, List.mem_append] at q
    rcases q with q | (q | q) | q
    · exact hL q
    · rw [I.stk] at q
      cases hc : cx.comp with
      | true => rw [hc] at q; exact hm.2.1.1 q
      | false =>
        rw [hc] at q
        simp only [Bool.false_eq_true, if_false, List.map_cons, List.mem_cons] at q
        rcases q with q | q
        · exact hm.1 q
        · exact hm.2.1.1 q
    · exact ho q
    · exact hm.2.2 q
  · rw [I.ex] at q
    unfold keys at q
    rw [List.map_append, List.map_append, List.mem_append, List.mem_append] at q
    rcases q with q | q | q
    · exact hm.2.1.2 (I.olk ▸ q)
    · cases hc : cx.comp with
      | true => rw [hc] at q; exact hm.1 (by simpa using q)
      | false => rw [hc] at q; simp at q
    · exact O.x q

/-- the comprehension's own names are off the caller's state -/
theorem Inner.locals_off {cxc : Cx} {exc fz' : Objs} {σ' : AH} {h h' : Heap} {ρ' : AE} {m : Str → Option Value} {ol : Objs} {oC : Obj} (I : Inner G cx cxc ex exc σ h m ol oC) (S : Sat G cx ex ρ σ fz h) (S' : Sat G cxc exc ρ' σ' fz' h') (hL : h.objs.size ≤ cxc.env.locals) : Off G cx ex σ' fz' cxc.env.locals := by
  have nd := S'.nod
  unfold Cx.mut at nd
  rw [List.nodup_cons] at nd
  have hm : cxc.env.locals ∈ cxc.mut σ' := by unfold Cx.mut; exact List.mem_cons_self
  have old : ∀ a ∈ cx.mut σ, a ≠ cxc.env.locals := fun a ha q => by
    obtain ⟨o, ho⟩ := S.mut_there ha
    exact Nat.lt_irrefl _ (Nat.lt_of_lt_of_le (q ▸ Heap.lt_size ho) hL)
  refine ⟨fun q => ?_, S'.apf _ hm, fun q => ?_, (S'.new _ hm).1⟩
  · unfold Cx.mut at q
    simp only [List.mem_cons, List.mem_append] at q
    rcases q with q | q | q
    · exact old _ (by unfold Cx.mut; exact List.mem_cons_self) q.symm
    · exact old _ (by unfold Cx.mut; simp only [List.mem_cons, List.mem_append]; exact .inr (.inl q)) rfl
    · exact nd.1 (List.mem_append_right _ q)
  · obtain ⟨p, hp, e⟩ := List.mem_map.mp q
    exact Nat.lt_irrefl _ (Nat.lt_of_lt_of_le (e ▸ Heap.lt_size (S.exh p hp)) hL)
end
end Mine
namespace Mine
open PySem PySem.W PyProof.Rows PyProof.Rows.LCg PySem.Calls PySem.Spec

theorem isStr_refl (x : Str) (t : Tok) : Value.isStrOf x (.str x t) = true := by simp [Value.isStrOf]

noncomputable def nameOf : Expr → List Str
  | .Name x _ => [x]
  | _ => []
noncomputable def tNames : Expr → List Str
  | .Tuple es _ _ => es.flatMap nameOf
  | e => nameOf e
theorem upd_keep {ρ ρ₀ : AE} {x : Str} {v : AV} (h : ρ₀ x = none) (k : ∀ y u, ρ₀ y = some u → ρ y = some u) : ∀ y u, ρ₀ y = some u → upd ρ x v y = some u := fun y u e => by
  unfold upd
  by_cases hy : y = x
  · subst hy; rw [h] at e; cases e
  · rw [if_neg hy]; exact k y u e
theorem TB.keep {cx : Cx} {t v ρ ρ'} (T : TB cx t v ρ ρ') (h : ∀ y ∈ tNames t, ρ y = none) : ∀ x u, ρ x = some u → ρ' x = some u := by
  cases T with
  | name a => exact upd_keep (h _ List.mem_cons_self) fun _ _ e => e
  | two a b => exact upd_keep (h _ (.tail _ (.head _))) (upd_keep (h _ (.head _)) fun _ _ e => e)
  | three a b c => exact upd_keep (h _ (.tail _ (.tail _ (.head _)))) (upd_keep (h _ (.tail _ (.head _))) (upd_keep (h _ (.head _)) fun _ _ e => e))
  | four a b c d => exact upd_keep (h _ (.tail _ (.tail _ (.tail _ (.head _))))) (upd_keep (h _ (.tail _ (.tail _ (.head _)))) (upd_keep (h _ (.tail _ (.head _))) (upd_keep (h _ (.head _)) fun _ _ e => e)))
theorem Sat.forget {G cx ex σ fz h} {ρ ρ' : AE} (S : Sat G cx ex ρ' σ fz h) (k : ∀ x v, ρ x = some v → ρ' x = some v) : Sat G cx ex ρ σ fz h := by
  obtain ⟨m, hn, hv⟩ := S.loc
  exact ⟨S.ok, S.clx, S.base, S.stk, S.ownc, S.fzh, S.exh, S.live, ⟨m, hn, fun x v e => hv x v (k x v e)⟩, S.nod, S.new, S.apf, S.apx, S.xf⟩

section
variable {prog : Program} {w : World} {A : Around} {E : Value → Shared → Prop} {R : Result → Shared → Prop} {s : Shared}
/-! the parts of a comprehension's turn -/
noncomputable def CErr (prog : Program) (w : World) (A : Around) (env : Env) (R : Result → Shared → Prop) : Value → Shared → Prop := notedBy (model prog w) A env fun e s' => R (.error e) s'
noncomputable def CNext (I : Nat → Shared → Prop) (n : Nat) (s : Shared) : Prop := ∃ m, m < n ∧ I m s
noncomputable def CElt (prog : Program) (w : World) (A : Around) (env : Env) (R : Result → Shared → Prop) (elt : Expr) (acc : Value) (I : Nat → Shared → Prop) (n : Nat) (s₃ : Shared) : Prop :=
  wpAny (model prog w) A (eval elt env) (fun x s₄ => wpAny (model prog w) A (call (.builtin "list.append") [acc, x]) (fun _ s₅ => CNext I n s₅) (CErr prog w A env R) s₄) (CErr prog w A env R) s₃
noncomputable def CTest (prog : Program) (w : World) (A : Around) (env : Env) (R : Result → Shared → Prop) (elt : Expr) (ifs : List Expr) (acc : Value) (I : Nat → Shared → Prop) (n : Nat) (s₂ : Shared) : Prop :=
  wpAny (model prog w) A (forIn ifs true fun c r => if r = true then do let ok ← isTrue c env (eval c env); pure (ForInStep.yield ok) else pure (ForInStep.yield r)) (fun ok s₃ => if ok = true then CElt prog w A env R elt acc I n s₃ else CNext I n s₃) (CErr prog w A env R) s₂
noncomputable def CItem (prog : Program) (w : World) (A : Around) (env : Env) (R : Result → Shared → Prop) (elt target : Expr) (ifs : List Expr) (acc : Value) (I : Nat → Shared → Prop) (n : Nat) (v : Value) (s₁ : Shared) : Prop :=
  wpAny (model prog w) A (assign target env v) (fun _ s₂ => CTest prog w A env R elt ifs acc I n s₂) (CErr prog w A env R) s₁
noncomputable def CTurn (prog : Program) (w : World) (A : Around) (env : Env) (R : Result → Shared → Prop) (elt target : Expr) (ifs : List Expr) (it acc : Value) (I : Nat → Shared → Prop) (n : Nat) (r : Option Value) (s₁ : Shared) : Prop :=
  match r with
  | none => R (.ok .next) s₁
  | some v => wpAny (model prog w) A (letOwnedTupleGo target it v) (fun _ s₁' => CItem prog w A env R elt target ifs acc I n v s₁') (CErr prog w A env R) s₁
theorem compLoop_any {elt target iter : Expr} {ifs : List Expr} {scope : Scope} {pos : Pos} {it acc : Value} {env : Env} (I : Nat → Shared → Prop)
    (turn : ∀ n s, I n s → wpAny (model prog w) A (pyNext it) (CTurn prog w A env R elt target ifs it acc I n) (CErr prog w A env R) s)
    (n : Nat) (h : I n s) :
    codeAny (model prog w) A (.compLoop (.ListComp elt [⟨target, iter, ifs, 0⟩] scope pos) 0 it acc env) R s := by
  refine codeAny_loop rfl I (fun n s hI => ?_) n h
  show wpAny _ A ((compTurn (.ListComp elt [⟨target, iter, ifs, 0⟩] scope pos) 0 it acc env).onRaise (fun x => do noteFrame x env; theTreesLotGoes x)) _ _ s
  refine wpAny_noted ?_
  rw [compTurn_list]
  refine wpAny_bind (wpAny_standAt (wpAny_bind (wpAny_mono (turn n s hI) (fun r s₁ h₁ => ?_) fun _ _ h' => h')))
  cases r with
  | none => exact wpAny_pure h₁
  | some v =>
    refine wpAny_bind (wpAny_mono h₁ (fun _ s₁' h₁' => ?_) fun _ _ h' => h')
    refine wpAny_bind (wpAny_mono h₁' (fun _ s₂ h₂ => wpAny_bind (wpAny_mono h₂ (fun ok s₃ h₃ => ?_) fun _ _ h' => h')) fun _ _ h' => h')
    cases ok with
    | false => exact wpAny_pure ⟨rfl, h₃⟩
    | true =>
      exact wpAny_bind (wpAny_bind (wpAny_mono h₃ (fun x s₄ h₄ => wpAny_bind (wpAny_mono h₄ (fun _ s₅ h₅ => wpAny_pure (wpAny_pure ⟨rfl, h₅⟩)) fun _ _ h' => h')) fun _ _ h' => h'))
end

noncomputable def ElT (G : Gr) (cx : Cx) (σ : AH) (elt : Expr) (ρ : AE) (y : AV) : Prop := Ev G cx ρ σ elt (fun v ρ' σ' => v = y ∧ ρ' = ρ ∧ σ' = σ) (fun _ _ _ => False)
noncomputable def PrT (G : Gr) (cx : Cx) (σ : AH) (kx vx : Expr) (ρ : AE) (y : Str × AV) : Prop :=
  Ev G cx ρ σ kx (fun v ρ' σ' => v = .str y.1 ∧ ρ' = ρ ∧ σ' = σ) (fun _ _ _ => False) ∧ Ev G cx ρ σ vx (fun v ρ' σ' => v = y.2 ∧ ρ' = ρ ∧ σ' = σ) (fun _ _ _ => False)
noncomputable def CoT {β : Type} (G : Gr) (cx : Cx) (ρ₀ : AE) (σ : AH) (t : Expr) (ifs : List Expr) (K : AE → β → Prop) (x : AV) (r : Option β) : Prop :=
  ∃ ρ', TB cx t x ρ₀ ρ' ∧ match ifs with
    | [] => ∃ y, r = some y ∧ K ρ' y
    | [c] => ∃ b, Ts G cx ρ' σ c (fun b' ρ'' σ'' => b' = b ∧ ρ'' = ρ' ∧ σ'' = σ) (fun _ _ _ => False) ∧ (if b = true then ∃ y, r = some y ∧ K ρ' y else r = none)
    | _ => False
theorem coT0 {β : Type} {G cx ρ₀ ρ' σ t} {K : AE → β → Prop} {x : AV} {y : β} (T : TB cx t x ρ₀ ρ') (k : K ρ' y) : CoT G cx ρ₀ σ t [] K x (some y) := ⟨ρ', T, y, rfl, k⟩
theorem coT1 {β : Type} {G cx ρ₀ ρ' σ t c b} {K : AE → β → Prop} {x : AV} {y : β} (T : TB cx t x ρ₀ ρ') (h : Ts G cx ρ' σ c (fun b' ρ'' σ'' => b' = b ∧ ρ'' = ρ' ∧ σ'' = σ) (fun _ _ _ => False)) (k : b = true → K ρ' y) :
    CoT G cx ρ₀ σ t [c] K x (if b = true then some y else none) := ⟨ρ', T, b, h, by
  cases b with
  | true => exact ⟨y, rfl, k rfl⟩
  | false => rfl⟩

section
variable {G : Gr} {cx : Cx} {ρ : AE} {σ : AH} {ex fz : Objs} {s : Shared} {A : Around} {E : Value → Shared → Prop} {R : Result → Shared → Prop}

/-- the test of a turn -/
theorem turn_tests {β : Type} {ifs : List Expr} {K : AE → β → Prop} {r : Option β} {ρ' : AE} {Q : Bool → Shared → Prop} {EE : Value → Shared → Prop} (g : GOk G) (S : Sat G cx ex ρ' σ fz s.heap)
    (h : match ifs with
      | [] => ∃ y, r = some y ∧ K ρ' y
      | [c] => ∃ b, Ts G cx ρ' σ c (fun b' ρ'' σ'' => b' = b ∧ ρ'' = ρ' ∧ σ'' = σ) (fun _ _ _ => False) ∧ (if b = true then ∃ y, r = some y ∧ K ρ' y else r = none)
      | _ => False)
    (k : ∀ b fz' h' tk', (∀ p ∈ fz, p ∈ fz') → Sat G cx ex ρ' σ fz' h' → (if b = true then ∃ y, r = some y ∧ K ρ' y else r = none) → Q b { s with heap := h', toks := tk' }) :
    wpAny (model G.prog G.w) cx.A (forIn ifs true fun c r => if r = true then do let ok ← isTrue c cx.env (eval c cx.env); pure (ForInStep.yield ok) else pure (ForInStep.yield r)) Q EE s := by
  match ifs, h with
  | [], h => exact wpAny_tests_nil (k true fz s.heap s.toks (fun _ h => h) S h)
  | [c], ⟨b, hT, hb⟩ =>
    refine wpAny_tests_one (hT.run g S .nil (fun b' a ρ'' σ'' fz' h' tk' k' S' r' q' => ?_) (fun _ _ _ _ _ _ _ _ _ _ q => q.elim))
    obtain ⟨rfl, rfl, rfl⟩ := q'
    cases r'
    exact k _ _ _ _ k' S' hb

noncomputable def CInv {α : Type} (G : Gr) (cx : Cx) (ex : Objs) (ρ : AE) (σ : AH) (fz : Objs) (s : Shared) (l : List α) (hx : α → Option AV) (St : Nat → Heap → Prop) (I D : Addr) (n : Nat) (s' : Shared) : Prop :=
  ∃ i fz' h' tk' vs n', s' = { s with heap := h', toks := tk' } ∧ n = l.length - i ∧ i ≤ l.length ∧ Sat G cx ex ρ σ fz' h' ∧ St i h' ∧ Off G cx ex σ fz' I ∧ Off G cx ex σ fz' D ∧ (∀ p ∈ fz, p ∈ fz') ∧
      h'.get? D = some { cls := .type "list", data := .seq vs n' } ∧ RelL G fz' ((l.take i).filterMap hx) vs.toList
theorem comp_list_loop {α : Type} {elt t iter : Expr} {ifs : List Expr} {scope : Scope} {pos : Pos} {I D : Addr} {fp : List Addr} {P : Nat → Value → Prop} {St : Nat → Heap → Prop} (l : List α) (gx : α → AV) (hx : α → Option AV) {n₀ : Nat}
    (g : GOk G) (turns : ∀ a ∈ l, CoT G cx ρ σ t ifs (ElT G cx σ elt) (gx a) (hx a)) (hρ : ∀ y ∈ tNames t, ρ y = none) (hd : cx.A.handled = none) (hlen : l.length ≤ 16000000)
    (It : Iter G cx.A fz (l.map gx) I fp P St) (S : Sat G cx ex ρ σ fz s.heap) (st : St 0 s.heap) (oI : Off G cx ex σ fz I) (oD : Off G cx ex σ fz D) (hne : D ≠ I) (hD : s.heap.get? D = some { cls := .type "list", data := .seq #[] n₀ })
    (fin : ∀ h' tk' fz' vs n, (∀ p ∈ fz, p ∈ fz') → Sat G cx ex ρ σ fz' h' → Off G cx ex σ fz' D → h'.get? D = some { cls := .type "list", data := .seq vs n } → RelL G fz' (l.filterMap hx) vs.toList → R (.ok .next) { s with heap := h', toks := tk' }) :
    codeAny (model G.prog G.w) cx.A (.compLoop (.ListComp elt [⟨t, iter, ifs, 0⟩] scope pos) 0 (.ref I) (.ref D) cx.env) R s := by
  refine compLoop_any (CInv G cx ex ρ σ fz s l hx St I D) ?_ l.length
    ⟨0, fz, s.heap, s.toks, #[], n₀, rfl, rfl, Nat.zero_le _, S, st, oI, oD, fun _ h => h, hD, .nil⟩
  rintro n s' ⟨i, fz', h', tk', vs, n', rfl, rfl, hi, S', st', oI', oD', kk, hD', rl⟩
  have lenx : (l.map gx).length = l.length := List.length_map ..
  rcases Nat.lt_or_ge i l.length with hlt | hge
  · refine It.W.item i _ _ _ (by rw [lenx]; exact hlt) st' fun v h₂ tk₂ hv st₂ k₂ => ?_
    have S₂ : Sat G cx ex ρ σ fz' h₂ := S'.keep fun b o nb e => k₂ b o (fun q => nb (by rw [List.mem_singleton.mp q]; exact oI')) e
    obtain ⟨x, hxe, rx⟩ := It.val i v hv
    have ha : l[i]? = some l[i] := List.getElem?_eq_getElem hlt
    have hxx : x = gx l[i] := by rw [List.getElem?_map, ha] at hxe; cases hxe; rfl
    subst hxx
    obtain ⟨ρ', T, hT⟩ := turns l[i] (List.getElem_mem hlt)
    obtain ⟨oI₂, nI, hoI, hcI, hnI⟩ := It.obj _ _ st₂
    have hD₂ : h₂.get? D = some { cls := .type "list", data := .seq vs n' } := k₂ D _ (fun q => hne (List.mem_singleton.mp q)) hD'
    have S₃ := (S₂.park hoI oI'.m oI'.f).park hD₂ oD'.m oD'.f
    refine owned_none hoI hcI hnI ?_
    refine assign_T T S₃ (.inl hd) (rx.mono kk) fun h₃ tk₃ S₄ => ?_
    have back : ∀ {fz'' h''}, (∀ p ∈ fz', p ∈ fz'') → Sat G cx ((D, { cls := .type "list", data := .seq vs n' }) :: (I, oI₂) :: ex) ρ' σ fz'' h'' →
        Sat G cx ex ρ σ fz'' h'' ∧ St (i + 1) h'' ∧ Off G cx ex σ fz'' I ∧ Off G cx ex σ fz'' D ∧ h''.get? D = some { cls := .type "list", data := .seq vs n' } := fun k S'' => by
      obtain ⟨v1, v2, v3, v4⟩ := S''.unpark (fun p hp => List.mem_cons_of_mem _ (S₂.clx p hp))
      obtain ⟨u1, u2, u3, u4⟩ := v1.unpark S₂.clx
      refine ⟨u1.forget (T.keep hρ), It.W.frame _ _ _ st₂ fun b hb o e => ?_, ⟨u3, u4, oI'.x, oI'.b⟩, ⟨v3, v4, oD'.x, oD'.b⟩, v2⟩
      rcases It.fpk b hb with rfl | hb
      · rw [hoI] at e; cases e; exact u2
      · obtain ⟨p, hp, rfl⟩ := List.mem_map.mp hb
        have := S₂.fzh p (kk p hp)
        rw [e] at this; cases this
        exact u1.fzh p (k p (kk p hp))
    have take : (l.take (i + 1)).filterMap hx = (l.take i).filterMap hx ++ (hx l[i]).toList := by
      rw [List.take_add_one, ha, List.filterMap_append]
      cases e : hx l[i] <;> simp [e]
    have hvs : vs.size ≤ 16000000 := by
      have e1 := rl.length
      have e2 := List.length_filterMap_le hx (l.take i)
      rw [Array.length_toList] at e1
      rw [List.length_take] at e2
      omega
    refine turn_tests g S₄ hT fun b fz₅ h₅ tk₅ k₅ S₅ hb => ?_
    cases b with
    | true =>
      simp only [if_true] at hb ⊢
      obtain ⟨y, hy, hel⟩ := hb
      refine hel.run g S₅ .nil (fun v' V' ρ₆ σ₆ fz₆ h₆ tk₆ k₆ S₆ r₆ q₆ => ?_) (fun _ _ _ _ _ _ _ _ _ _ q => q.elim)
      obtain ⟨rfl, rfl, rfl⟩ := q₆
      obtain ⟨b1, b2, b3, b4, b5⟩ := back (fun p hp => k₆ p (k₅ p hp)) S₆
      refine append_at b5 (fun h₇ hs₇ hD₇ => ?_) (by have : sizeLine = 16777216 := rfl; omega)
      refine ⟨l.length - (i + 1), by omega, i + 1, fz₆, h₇, tk₆, vs.push V', n' + 1, rfl, rfl, hlt, b1.but hs₇.extBut b4, It.W.frame _ _ _ b2 fun b hb o e => hs₇.extBut b o (fun q => ?_) e, b3, b4, fun p hp => k₆ p (k₅ p (kk p hp)), hD₇, ?_⟩
      · subst q
        rcases It.fpk b hb with q | q
        · exact hne q
        · obtain ⟨p, hp, e⟩ := List.mem_map.mp q
          exact b4.f (List.mem_map.mpr ⟨p, k₆ p (k₅ p (kk p hp)), e⟩)
      · rw [take, hy, Array.toList_push]
        exact (rl.mono fun p hp => k₆ p (k₅ p hp)).append (.one r₆)
    | false =>
      simp only [Bool.false_eq_true, if_false] at hb ⊢
      obtain ⟨b1, b2, b3, b4, b5⟩ := back k₅ S₅
      refine ⟨l.length - (i + 1), by omega, i + 1, fz₅, h₅, tk₅, vs, n', rfl, rfl, hlt, b1, b2, b3, b4, fun p hp => k₅ p (kk p hp), b5, ?_⟩
      rw [take, hb]
      simpa using rl.mono k₅
  · have hi' : i = l.length := Nat.le_antisymm hi hge
    subst hi'
    rw [← lenx] at st'
    refine It.W.done _ _ _ st' fun h₂ tk₂ k₂ => ?_
    have S₂ : Sat G cx ex ρ σ fz' h₂ := S'.keep fun b o nb e => k₂ b o (fun q => nb (by rw [List.mem_singleton.mp q]; exact oI')) e
    refine fin h₂ tk₂ fz' vs n' kk S₂ oD' (k₂ D _ (fun q => hne (List.mem_singleton.mp q)) hD') ?_
    rwa [List.take_length] at rl

/-! the same for a table -/
noncomputable def put (es : List (Str × AV)) (k : Str) (v : AV) : List (Str × AV) := if es.any (fun e => e.1 = k) then es.map (fun e => if e.1 = k then (e.1, v) else e) else es ++ [(k, v)]
noncomputable def puts (es : List (Str × AV)) (l : List (Str × AV)) : List (Str × AV) := l.foldl (fun es p => put es p.1 p.2) es
theorem RelE.any {fz es kvs} (r : RelE G fz es kvs) (p : Str → Bool) : kvs.any (fun e => p e.1) = es.any (fun e => p e.1) :=
  RelE.ind (P := fun (es : List (Str × AV)) (kvs : List (Str × Value)) => kvs.any (fun e => p e.1) = es.any (fun e => p e.1)) rfl (fun {k} _ _ _ _ _ _ ih => congrArg (p k || ·) ih) r
theorem RelE.map_put {fz es kvs} {k : Str} {v : AV} {V : Value} (hv : Rel G fz v V) (r : RelE G fz es kvs) : RelE G fz (es.map fun e => if e.1 = k then (e.1, v) else e) (kvs.map fun e => if e.1 = k then (e.1, V) else e) :=
  RelE.ind (P := fun (es : List (Str × AV)) (kvs : List (Str × Value)) => RelE G fz (es.map fun e => if e.1 = k then (e.1, v) else e) (kvs.map fun e => if e.1 = k then (e.1, V) else e)) .nil (fun {k'} _ _ _ _ h _ ih => by
    rw [List.map_cons, List.map_cons]
    by_cases hk : k' = k
    · rw [if_pos hk, if_pos hk]; exact .cons hv ih
    · rw [if_neg hk, if_neg hk]; exact .cons h ih) r
theorem RelE.append {fz es kvs es' kvs'} (r : RelE G fz es kvs) (r' : RelE G fz es' kvs') : RelE G fz (es ++ es') (kvs ++ kvs') := RelE.ind (P := fun es kvs => RelE G fz (es ++ es') (kvs ++ kvs')) r' (fun h _ ih => .cons h ih) r
theorem RelE.put {fz es kvs} {k : Str} {v : AV} {V : Value} (r : RelE G fz es kvs) (hv : Rel G fz v V) : RelE G fz (put es k v) (stored kvs k V) := by
  unfold Mine.put stored
  have e := r.any fun x => decide (x = k)
  rw [e]
  split
  · exact RelE.map_put hv r
  · exact r.append (.cons hv .nil)
theorem put_length (es : List (Str × AV)) (k : Str) (v : AV) : (put es k v).length ≤ es.length + 1 := by
  unfold put
  split
  · rw [List.length_map]; omega
  · rw [List.length_append]; exact Nat.le_refl _
theorem puts_length : ∀ (l es : List (Str × AV)), (puts es l).length ≤ es.length + l.length
  | [], es => Nat.le_refl _
  | p :: l, es => by
    have h1 := puts_length l (put es p.1 p.2)
    have h2 := put_length es p.1 p.2
    have e : puts es (p :: l) = puts (put es p.1 p.2) l := rfl
    rw [e, List.length_cons]
    omega
theorem puts_append (es a b : List (Str × AV)) : puts es (a ++ b) = puts (puts es a) b := List.foldl_append

/-- what a turn does: a table's comprehension, at its last clause -/
noncomputable def TurnD (kx vx target : Expr) (ifs : List Expr) (gens : List Comprehension) (scope : Scope) (pos ip : Pos) (depth : Nat) (it : Value) (D : Addr) (env : Env) : Prop :=
  compTurn (.DictComp kx vx gens scope pos) depth it (.ref D) env = (do
      standAt ip
      match ← pyNext it with
      | none => pure (.done .next)
      | some v =>
        letOwnedTupleGo target it v
        assign target env v
        let mut ok := true
        for c in ifs do
          if ok then ok ← isTrue c env (eval c env)
        if ok then
          (do
            let kv ← eval kx env
            let vv ← holding [kv] (eval vx env)
            standAt { kx.pos with endLine := vx.pos.endLine, endCol := vx.pos.endCol }
            holding [kv, vv] (dictSet D kv vv))
        again (.compLoop (.DictComp kx vx gens scope pos) depth it (.ref D) env))
theorem compLoop_anyD {kx vx target : Expr} {ifs : List Expr} {gens : List Comprehension} {scope : Scope} {pos ip : Pos} {depth : Nat} {it : Value} {D : Addr} {prog : Program} {w : World} {env : Env} (ht : TurnD kx vx target ifs gens scope pos ip depth it D env) (I : Nat → Shared → Prop)
    (turn : ∀ n s, I n s → wpAny (model prog w) A (pyNext it) (fun r s₁ => match r with
      | none => R (.ok .next) s₁
      | some v => wpAny (model prog w) A (letOwnedTupleGo target it v) (fun _ s₁' => wpAny (model prog w) A (assign target env v) (fun _ s₂ =>
          wpAny (model prog w) A (forIn ifs true fun c r => if r = true then do let ok ← isTrue c env (eval c env); pure (ForInStep.yield ok) else pure (ForInStep.yield r)) (fun ok s₃ =>
            if ok = true then wpAny (model prog w) A (eval kx env) (fun kv s₄ => wpAny (model prog w) A (eval vx env) (fun vv s₅ =>
              wpAny (model prog w) A (dictSet D kv vv) (fun _ s₆ => ∃ m, m < n ∧ I m s₆) (notedBy (model prog w) A env fun e s' => R (.error e) s') s₅) (notedBy (model prog w) A env fun e s' => R (.error e) s') s₄) (notedBy (model prog w) A env fun e s' => R (.error e) s') s₃
            else ∃ m, m < n ∧ I m s₃) (notedBy (model prog w) A env fun e s' => R (.error e) s') s₂) (notedBy (model prog w) A env fun e s' => R (.error e) s') s₁') (notedBy (model prog w) A env fun e s' => R (.error e) s') s₁) (notedBy (model prog w) A env fun e s' => R (.error e) s') s)
    (n : Nat) (h : I n s) :
    codeAny (model prog w) A (.compLoop (.DictComp kx vx gens scope pos) depth it (.ref D) env) R s := by
  refine codeAny_loop rfl I (fun n s hI => ?_) n h
  show wpAny _ A ((compTurn (.DictComp kx vx gens scope pos) depth it (.ref D) env).onRaise (fun x => do noteFrame x env; theTreesLotGoes x)) _ _ s
  refine wpAny_noted ?_
  rw [show compTurn (.DictComp kx vx gens scope pos) depth it (.ref D) env = _ from ht]
  refine wpAny_bind (wpAny_standAt (wpAny_bind (wpAny_mono (turn n s hI) (fun r s₁ h₁ => ?_) fun _ _ h' => h')))
  cases r with
  | none => exact wpAny_pure h₁
  | some v =>
    refine wpAny_bind (wpAny_mono h₁ (fun _ s₁' h₁' => ?_) fun _ _ h' => h')
    refine wpAny_bind (wpAny_mono h₁' (fun _ s₂ h₂ => wpAny_bind (wpAny_mono h₂ (fun ok s₃ h₃ => ?_) fun _ _ h' => h')) fun _ _ h' => h')
    cases ok with
    | false => exact wpAny_pure ⟨rfl, h₃⟩
    | true =>
      exact wpAny_bind (wpAny_bind (wpAny_mono h₃ (fun kv s₄ h₄ => wpAny_bind (wpAny_holding (wpAny_mono h₄ (fun vv s₅ h₅ => wpAny_bind (wpAny_standAt (wpAny_holding (wpAny_mono h₅ (fun _ s₆ h₆ => wpAny_pure ⟨rfl, h₆⟩) fun _ _ h' => h')))) fun _ _ h' => h'))) fun _ _ h' => h'))

theorem comp_dict_loop {α : Type} {kx vx t : Expr} {ifs : List Expr} {gens : List Comprehension} {scope : Scope} {pos ip : Pos} {depth : Nat} {I D : Addr} {fp : List Addr} {P : Nat → Value → Prop} {St : Nat → Heap → Prop} (l : List α) (gx : α → AV) (hx : α → Option (Str × AV)) {o₀ : Obj} {es₀ : List (Str × AV)} {kvs₀ : List (Str × Value)}
    (ht : TurnD kx vx t ifs gens scope pos ip depth (.ref I) D cx.env) (g : GOk G) (turns : ∀ a ∈ l, CoT G cx ρ σ t ifs (PrT G cx σ kx vx) (gx a) (hx a)) (hρ : ∀ y ∈ tNames t, ρ y = none) (hd : cx.A.handled = none) (hlen : l.length + es₀.length ≤ 16000000)
    (It : Iter G cx.A fz (l.map gx) I fp P St) (S : Sat G cx ex ρ σ fz s.heap) (st : St 0 s.heap) (oI : Off G cx ex σ fz I) (oD : Off G cx ex σ fz D) (hne : D ≠ I) (hD : s.heap.get? D = some o₀) (hD₀ : o₀.IsDictOf (strKind G.prog G.w) kvs₀) (r₀ : RelE G fz es₀ kvs₀)
    (fin : ∀ h' tk' fz' o kvs, (∀ p ∈ fz, p ∈ fz') → Sat G cx ex ρ σ fz' h' → Off G cx ex σ fz' D → h'.get? D = some o → o.IsDictOf (strKind G.prog G.w) kvs → RelE G fz' (puts es₀ (l.filterMap hx)) kvs → R (.ok .next) { s with heap := h', toks := tk' }) :
    codeAny (model G.prog G.w) cx.A (.compLoop (.DictComp kx vx gens scope pos) depth (.ref I) (.ref D) cx.env) R s := by
  refine compLoop_anyD ht (fun n s' => ∃ i fz' h' tk' o kvs, s' = { s with heap := h', toks := tk' } ∧ n = l.length - i ∧ i ≤ l.length ∧ Sat G cx ex ρ σ fz' h' ∧ St i h' ∧ Off G cx ex σ fz' I ∧ Off G cx ex σ fz' D ∧ (∀ p ∈ fz, p ∈ fz') ∧
      h'.get? D = some o ∧ o.IsDictOf (strKind G.prog G.w) kvs ∧ RelE G fz' (puts es₀ ((l.take i).filterMap hx)) kvs) ?_ l.length
    ⟨0, fz, s.heap, s.toks, o₀, kvs₀, rfl, rfl, Nat.zero_le _, S, st, oI, oD, fun _ h => h, hD, hD₀, r₀⟩
  rintro n s' ⟨i, fz', h', tk', o, kvs, rfl, rfl, hi, S', st', oI', oD', kk, hD', ho, rl⟩
  have lenx : (l.map gx).length = l.length := List.length_map ..
  rcases Nat.lt_or_ge i l.length with hlt | hge
  · refine It.W.item i _ _ _ (by rw [lenx]; exact hlt) st' fun v h₂ tk₂ hv st₂ k₂ => ?_
    have S₂ : Sat G cx ex ρ σ fz' h₂ := S'.keep fun b o nb e => k₂ b o (fun q => nb (by rw [List.mem_singleton.mp q]; exact oI')) e
    obtain ⟨x, hxe, rx⟩ := It.val i v hv
    have ha : l[i]? = some l[i] := List.getElem?_eq_getElem hlt
    have hxx : x = gx l[i] := by rw [List.getElem?_map, ha] at hxe; cases hxe; rfl
    subst hxx
    obtain ⟨ρ', T, hT⟩ := turns l[i] (List.getElem_mem hlt)
    obtain ⟨oI₂, nI, hoI, hcI, hnI⟩ := It.obj _ _ st₂
    have hD₂ : h₂.get? D = some o := k₂ D _ (fun q => hne (List.mem_singleton.mp q)) hD'
    have S₃ := (S₂.park hoI oI'.m oI'.f).park hD₂ oD'.m oD'.f
    refine owned_none hoI hcI hnI ?_
    refine assign_T T S₃ (.inl hd) (rx.mono kk) fun h₃ tk₃ S₄ => ?_
    have back : ∀ {fz'' h''}, (∀ p ∈ fz', p ∈ fz'') → Sat G cx ((D, o) :: (I, oI₂) :: ex) ρ' σ fz'' h'' →
        Sat G cx ex ρ σ fz'' h'' ∧ St (i + 1) h'' ∧ Off G cx ex σ fz'' I ∧ Off G cx ex σ fz'' D ∧ h''.get? D = some o := fun k S'' => by
      obtain ⟨v1, v2, v3, v4⟩ := S''.unpark (fun p hp => List.mem_cons_of_mem _ (S₂.clx p hp))
      obtain ⟨u1, u2, u3, u4⟩ := v1.unpark S₂.clx
      refine ⟨u1.forget (T.keep hρ), It.W.frame _ _ _ st₂ fun b hb o e => ?_, ⟨u3, u4, oI'.x, oI'.b⟩, ⟨v3, v4, oD'.x, oD'.b⟩, v2⟩
      rcases It.fpk b hb with rfl | hb
      · rw [hoI] at e; cases e; exact u2
      · obtain ⟨p, hp, rfl⟩ := List.mem_map.mp hb
        have := S₂.fzh p (kk p hp)
        rw [e] at this; cases this
        exact u1.fzh p (k p (kk p hp))
    have take : (l.take (i + 1)).filterMap hx = (l.take i).filterMap hx ++ (hx l[i]).toList := by
      rw [List.take_add_one, ha, List.filterMap_append]
      cases e : hx l[i] <;> simp [e]
    have hvs : kvs.length ≤ 16000000 := by
      have e1 := rl.length
      have e2 := List.length_filterMap_le hx (l.take i)
      have e3 := puts_length ((l.take i).filterMap hx) es₀
      rw [List.length_take] at e2
      omega
    refine turn_tests g S₄ hT fun b fz₅ h₅ tk₅ k₅ S₅ hb => ?_
    cases b with
    | true =>
      simp only [if_true] at hb ⊢
      obtain ⟨y, hy, hkx, hvx⟩ := hb
      refine hkx.run g S₅ .nil (fun v' V' ρ₆ σ₆ fz₆ h₆ tk₆ k₆ S₆ r₆ q₆ => ?_) (fun _ _ _ _ _ _ _ _ _ _ q => q.elim)
      obtain ⟨rfl, rfl, rfl⟩ := q₆
      obtain ⟨tk, rfl⟩ := r₆.str_inv
      refine hvx.run g S₆ .nil (fun v'' V'' ρ₈ σ₈ fz₈ h₈ tk₈ k₈ S₈ r₈ q₈ => ?_) (fun _ _ _ _ _ _ _ _ _ _ q => q.elim)
      obtain ⟨rfl, rfl, rfl⟩ := q₈
      obtain ⟨b1, b2, b3, b4, b5⟩ := back (fun p hp => k₈ p (k₆ p (k₅ p hp))) S₈
      refine wpAny_dictSet_pairs (knd := strKind G.prog G.w) (k := y.1) (isStr_refl y.1 tk) (Heap.dictOf_iff.mpr ⟨o, b5, ho⟩) (fun h₇ hd₇ hs₇ => ?_) (by have : sizeLine = 16777216 := rfl; omega)
      obtain ⟨o₇, ho₇, hdo₇⟩ := Heap.dictOf_iff.mp hd₇
      refine ⟨l.length - (i + 1), by omega, i + 1, fz₈, h₇, _, o₇, _, rfl, rfl, hlt, b1.but hs₇.extBut b4, It.W.frame _ _ _ b2 fun b hb o e => hs₇.extBut b o (fun q => ?_) e, b3, b4, fun p hp => k₈ p (k₆ p (k₅ p (kk p hp))), ho₇, hdo₇, ?_⟩
      · subst q
        rcases It.fpk b hb with q | q
        · exact hne q
        · obtain ⟨p, hp, e⟩ := List.mem_map.mp q
          exact b4.f (List.mem_map.mpr ⟨p, k₈ p (k₆ p (k₅ p (kk p hp))), e⟩)
      · rw [take, hy, puts_append]
        exact (rl.mono fun p hp => k₈ p (k₆ p (k₅ p hp))).put r₈
    | false =>
      simp only [Bool.false_eq_true, if_false] at hb ⊢
      obtain ⟨b1, b2, b3, b4, b5⟩ := back k₅ S₅
      refine ⟨l.length - (i + 1), by omega, i + 1, fz₅, h₅, tk₅, o, kvs, rfl, rfl, hlt, b1, b2, b3, b4, fun p hp => k₅ p (kk p hp), b5, ho, ?_⟩
      rw [take, hb]
      simpa using rl.mono k₅
  · have hi' : i = l.length := Nat.le_antisymm hi hge
    subst hi'
    rw [← lenx] at st'
    refine It.W.done _ _ _ st' fun h₂ tk₂ k₂ => ?_
    have S₂ : Sat G cx ex ρ σ fz' h₂ := S'.keep fun b o nb e => k₂ b o (fun q => nb (by rw [List.mem_singleton.mp q]; exact oI')) e
    refine fin h₂ tk₂ fz' o kvs kk S₂ oD' (k₂ D _ (fun q => hne (List.mem_singleton.mp q)) hD') ho ?_
    rwa [List.take_length] at rl

theorem froze {h' : Heap} {fz' : Objs} {D C : Addr} {vs : Array Value} {n : Nat} {l : List AV} (S' : Sat G cx ex ρ σ fz' h') (oD : Off G cx ex σ fz' D) (hD : h'.get? D = some { cls := .type "list", data := .seq vs n }) (rl : RelL G fz' l vs.toList) (oC : Off G cx ex σ fz' C) (hCD : C ≠ D) :
    Sat G cx ex ρ σ ((D, { cls := .type "list", data := .seq vs n }) :: fz') h' ∧ Rel G ((D, { cls := .type "list", data := .seq vs n }) :: fz') (.lst l) (.ref D) ∧ Off G cx ex σ ((D, { cls := .type "list", data := .seq vs n }) :: fz') C :=
  ⟨S'.freeze hD oD.m oD.x, .lst List.mem_cons_self rfl rfl (rl.mono fun p hp => List.mem_cons_of_mem _ hp), ⟨oC.m, fun q => by
    rcases List.mem_cons.mp q with q | q
    · exact hCD q
    · exact oC.f q, oC.x, oC.b⟩⟩

/-- a comprehension that makes a list -/
theorem comp_list {use : Option (Value → Sem Unit)} {α : Type} {elt t iter : Expr} {ifs : List Expr} {scope : Scope} {pos fpos : Pos} {EQ : AX → AE → AH → Prop} {QQ : Value → Shared → Prop} {EE : Value → Shared → Prop} (l : List α) (gx : α → AV) (hx : α → Option AV)
    {names : List (Str × NameKind)} (K : KN cx names) (hd : cx.hd = none) (hkind : (scope.kind == .function && decide (scope.names.map (·.1)).Nodup) = true)
    (hfree : (scope.names.all fun p => p.2 != .free || (names.lookup p.1 == some .free || names.lookup p.1 == some .cell)) = true) (htn : ((tNames t).all fun y => !(scope.names.lookup y == some .free)) = true)
    (hlen : l.length ≤ 16000000) (hs : ∀ x, foldedSetIterable iter cx.env x = pure x)
    (g : GOk G) (S : Sat G cx ex ρ σ fz s.heap)
    (h : Ev G cx ρ σ iter (fun v ρ₁ σ₁ => Itr v (l.map gx) ∧ ρ₁ = ρ ∧ σ₁ = σ ∧ ∀ cxc, CIn cx cxc scope → ∀ a ∈ l, CoT G cxc (inρ scope ρ) σ t ifs (ElT G cxc σ elt) (gx a) (hx a)) EQ)
    (hE : Exn G cx ex fz s EQ EE)
    (fin : ∀ h' tk' fz' D C oC m vs n, (∀ p ∈ fz, p ∈ fz') → Sat G cx ex ρ σ fz' h' → Off G cx ex σ fz' D → G.hb.objs.size ≤ D → h'.get? D = some { cls := .type "list", data := .seq vs n } → RelL G fz' (l.filterMap hx) vs.toList → h'.get? C = some oC → h'.Ns C m → Off G cx ex σ fz' C → C ≠ D →
      compPost (model G.prog G.w) cx.A EE use QQ (.ref D) C (.ok .next) { s with heap := h', toks := tk' }) :
    wpAny (model G.prog G.w) cx.A (comprehension (.ListComp elt [⟨t, iter, ifs, 0⟩] scope pos) scope cx.env fpos (newList []) false (eval iter cx.env) use) QQ EE s := by
  rw [Bool.and_eq_true, decide_eq_true_iff] at hkind
  obtain ⟨hk1, hk2⟩ := hkind
  have hk1 : scope.kind = .function := by simpa using hk1
  have hA : cx.A.handled = none := S.ok.hd.trans hd
  have hfree' : ∀ x, (x, NameKind.free) ∈ scope.names → cx.env.kindOf x = some .free ∨ cx.env.kindOf x = some .cell := fun x hx => by
    have := List.all_eq_true.mp hfree _ hx
    simp only [bne_self_eq_false, Bool.false_or, Bool.or_eq_true, beq_iff_eq] at this
    rcases this with q | q
    · exact K.fr x q
    · exact .inr (K.kd x _ q (by decide))
  have hclos : closureFor scope cx.env = pure (clOf cx.env scope.names []) := closureFor_eq fun x hx => S.ok.cs x (hfree' x hx).symm
  refine wpAny_comprehension_free (use := use) rfl hs hclos hk1 (fun x hx he => lookup_of_mem' hk2 (he ▸ hx)) ?_
  refine h.run g S .nil (fun v V ρ₁ σ₁ fz₁ h₁ t₁ k₁ S₁ r₁ q₁ => ?_) hE
  obtain ⟨hI, rfl, rfl, turns⟩ := q₁
  generalize hs₁ : ({ s with heap := h₁, toks := t₁ } : Shared) = s₁
  have hh₁ : s₁.heap = h₁ := by rw [← hs₁]
  rw [← hh₁] at S₁
  refine iter_start S₁ hA hI r₁ fun oI fp P St It st => ?_
  have offI := S₁.size_off (Nat.le_refl s₁.heap.objs.size)
  have S₂ := S₁.push oI
  have hIlt : s₁.heap.objs.size < (s₁.heap.push oI).objs.size := by rw [Heap.size_push]; exact Nat.lt_succ_self _
  generalize s₁.heap.objs.size = I at It st offI hIlt ⊢
  generalize s₁.heap.push oI = H₂ at st S₂ hIlt ⊢
  refine wpAny_newObj_type ?_
  have offD := S₂.size_off (Nat.le_refl H₂.objs.size)
  have S₃ := S₂.push { cls := .type "list", data := .seq ([] : List Value).toArray }
  have hD : (H₂.push { cls := .type "list", data := .seq ([] : List Value).toArray }).get? H₂.objs.size = some { cls := .type "list", data := .seq ([] : List Value).toArray } := Heap.get?_push_size _ rfl
  have hDlt : H₂.objs.size < (H₂.push { cls := .type "list", data := .seq ([] : List Value).toArray }).objs.size := by rw [Heap.size_push]; exact Nat.lt_succ_self _
  have st₃ : St 0 (H₂.push { cls := .type "list", data := .seq ([] : List Value).toArray }) := It.W.frame _ _ _ st fun b _ o e => Heap.get?_push_of_some _ e
  generalize H₂.push { cls := .type "list", data := .seq ([] : List Value).toArray } = H₃ at S₃ hD hDlt st₃ ⊢
  have hDI : H₂.objs.size ≠ I := (Nat.ne_of_gt hIlt)
  have hIlt₃ : I < H₃.objs.size := Nat.lt_trans hIlt hDlt
  have hDbig : G.hb.objs.size ≤ H₂.objs.size := by
    obtain ⟨o, ho⟩ := S₂.mut_there (a := cx.env.locals) (by unfold Cx.mut; exact List.mem_cons_self)
    exact Nat.le_trans (S₂.new _ (by unfold Cx.mut; exact List.mem_cons_self)).2 (Nat.le_of_lt (Heap.lt_size ho))
  generalize H₂.objs.size = D at offD hD hDlt hDI hDbig ⊢
  refine comp_enter (s := { s₁ with heap := H₃ }) S₃ hk1 hk2 hfree' fun cxc exc m ol oC h₄ ci he In S₄ hv hke hgt => ?_
  have hL : cxc.env.locals = H₃.objs.size := by rw [he]; rfl
  have inI := In.off_in offI (by rw [hL]; exact Nat.ne_of_lt hIlt₃) (fun q => Nat.lt_asymm (hgt _ q) hIlt₃)
  have inD := In.off_in offD (by rw [hL]; exact Nat.ne_of_lt hDlt) (fun q => Nat.lt_asymm (hgt _ q) hDlt)
  have hAc : cxc.A.handled = none := by rw [ci.A]; exact hA
  have It' : Iter G cxc.A fz₁ (l.map gx) I fp P St := by rw [ci.A]; exact It
  have st₄ : St 0 h₄ := It.W.frame _ _ _ st₃ fun b _ o e => hke b o e
  have henv : ({ (newEnv scope H₃.objs.size cx.env.globals (cellsFrom (H₃.objs.size + 1) scope.names (clOf cx.env scope.names [])) cx.env.qual none .none (some cx.env) builtinsNs) with scope := relabel scope cx.env } : Env) = cxc.env := by rw [he]; rfl
  have hloc : (newEnv scope H₃.objs.size cx.env.globals (cellsFrom (H₃.objs.size + 1) scope.names (clOf cx.env scope.names [])) cx.env.qual none .none (some cx.env) builtinsNs).locals = cxc.env.locals := by rw [hL]; rfl
  show codeAny (model G.prog G.w) cx.A (.compStart _ 0 (.ref I) (.ref D) ({ (newEnv scope H₃.objs.size cx.env.globals (cellsFrom (H₃.objs.size + 1) scope.names (clOf cx.env scope.names [])) cx.env.qual none .none (some cx.env) builtinsNs) with scope := relabel scope cx.env } : Env)) (compPost _ _ _ _ _ _ (newEnv scope H₃.objs.size cx.env.globals (cellsFrom (H₃.objs.size + 1) scope.names (clOf cx.env scope.names [])) cx.env.qual none .none (some cx.env) builtinsNs).locals) _
  rw [henv, hloc]
  have loop : codeAny (model G.prog G.w) cxc.A (.compLoop (.ListComp elt [⟨t, iter, ifs, 0⟩] scope pos) 0 (.ref I) (.ref D) cxc.env) (compPost (model G.prog G.w) cx.A EE use QQ (.ref D) cxc.env.locals) { s₁ with heap := h₄ } := by
    refine comp_list_loop (s := { s₁ with heap := h₄ }) l gx hx g (turns cxc ci) (fun y hy => ?_) hAc hlen It' S₄ st₄ inI inD hDI (hke _ _ hD) fun h₅ tk₅ fz₅ vs n k₅ S₅ oD₅ hD₅ rl₅ => ?_
    · have := List.all_eq_true.mp htn y hy
      unfold inρ
      rw [if_neg (by simpa using this)]
    · have Sb := In.back S₃ S₅ k₅ hv
      have oDc := In.off oD₅
      have oCc := In.locals_off S₃ S₅ (by rw [hL]; exact Nat.le_refl _)
      obtain ⟨m₅, ⟨oC₅, es₅, ep₅, hoC₅, r₅⟩, _⟩ := S₅.loc
      have hCD : cxc.env.locals ≠ D := by rw [hL]; exact Nat.ne_of_gt hDlt
      have := fin h₅ tk₅ fz₅ D cxc.env.locals oC₅ m₅ vs n (fun p hp => k₅ p (k₁ p hp)) Sb oDc hDbig hD₅ rl₅ hoC₅ ⟨oC₅, es₅, ep₅, hoC₅, r₅⟩ oCc hCD
      rw [← hs₁]
      exact this
  rw [ci.A] at loop
  exact codeAny_compStart_list loop (It.W.self 0 _ _ _ st₄ loop)

variable {EQ : AX → AE → AH → Prop}
theorem ev_listcomp {α : Type} {elt t iter : Expr} {ifs : List Expr} {scope : Scope} {pos : Pos} {Q : AV → AE → AH → Prop} (l : List α) (gx : α → AV) (hx : α → Option AV)
    {names : List (Str × NameKind)} (K : KN cx names) (hd : cx.hd = none) (hlen : l.length ≤ 16000000)
    (h : Ev G cx ρ σ iter (fun v ρ₁ σ₁ => Itr v (l.map gx) ∧ ρ₁ = ρ ∧ σ₁ = σ ∧ ∀ cxc, CIn cx cxc scope → ∀ a ∈ l, CoT G cxc (inρ scope ρ) σ t ifs (ElT G cxc σ elt) (gx a) (hx a)) EQ)
    (q : Q (.lst (l.filterMap hx)) ρ σ)
    (hkind : (scope.kind == .function && decide (scope.names.map (·.1)).Nodup) = true := by rfl)
    (hfree : (scope.names.all fun p => p.2 != .free || (names.lookup p.1 == some .free || names.lookup p.1 == some .cell)) = true := by rfl) (htn : ((tNames t).all fun y => !(scope.names.lookup y == some .free)) = true := by rfl)
    (hs : ∀ x, foldedSetIterable iter cx.env x = pure x := by intro _; rfl) :
    Ev G cx ρ σ (.ListComp elt [⟨t, iter, ifs, 0⟩] scope pos) Q EQ := fun ex fz s _ g S _ QQ EE hQ hE => by
  show wpAny _ _ (eval _ _) _ _ _
  rw [eval_ListComp]
  refine comp_list (use := none) l gx hx K hd hkind hfree htn hlen hs g S h hE fun h' tk' fz' D C oC m vs n k S' oD hDb hD rl hC hn oC' hCD => ?_
  obtain ⟨Sf, r, oCf⟩ := froze S' oD hD rl oC' hCD
  exact ⟨m, hn, fun h'' hs'' => hQ _ _ ρ σ _ h'' tk' (fun p hp => List.mem_cons_of_mem _ (k p hp)) (Sf.but hs''.extBut oCf) r q⟩

/-- the same, of a list that is to change later -/
theorem ev_listcomp_live {α : Type} {elt t iter : Expr} {ifs : List Expr} {scope : Scope} {pos : Pos} {Q : AV → AE → AH → Prop} (l : List α) (gx : α → AV) (hx : α → Option AV)
    {names : List (Str × NameKind)} (K : KN cx names) (hd : cx.hd = none) (hlen : l.length ≤ 16000000)
    (h : Ev G cx ρ σ iter (fun v ρ₁ σ₁ => Itr v (l.map gx) ∧ ρ₁ = ρ ∧ σ₁ = σ ∧ ∀ cxc, CIn cx cxc scope → ∀ a ∈ l, CoT G cxc (inρ scope ρ) σ t ifs (ElT G cxc σ elt) (gx a) (hx a)) EQ)
    (q : ∀ a, Q (.ref a) ρ ((a, .lst (l.filterMap hx)) :: σ))
    (hkind : (scope.kind == .function && decide (scope.names.map (·.1)).Nodup) = true := by rfl)
    (hfree : (scope.names.all fun p => p.2 != .free || (names.lookup p.1 == some .free || names.lookup p.1 == some .cell)) = true := by rfl) (htn : ((tNames t).all fun y => !(scope.names.lookup y == some .free)) = true := by rfl)
    (hs : ∀ x, foldedSetIterable iter cx.env x = pure x := by intro _; rfl) :
    Ev G cx ρ σ (.ListComp elt [⟨t, iter, ifs, 0⟩] scope pos) Q EQ := fun ex fz s _ g S _ QQ EE hQ hE => by
  show wpAny _ _ (eval _ _) _ _ _
  rw [eval_ListComp]
  refine comp_list (use := none) l gx hx K hd hkind hfree htn hlen hs g S h hE fun h' tk' fz' D C oC m vs n k S' oD hDb hD rl hC hn oC' hCD => ?_
  refine ⟨m, hn, fun h'' hs'' => ?_⟩
  have S₂ := S'.but hs''.extBut oC'
  exact hQ _ _ ρ _ fz' h'' tk' k (S₂.live_new (ao := .lst (l.filterMap hx)) (hs''.extBut _ _ (Ne.symm hCD) hD) oD hDb ⟨_, _, rfl, rl⟩) (.ref _) (q D)

/-- a list comprehension at once stored in a name -/
theorem x_listcomp {α : Type} {elt t iter : Expr} {ifs : List Expr} {scope : Scope} {pos spos py : Pos} {y : Str} {Q : AF → AE → AH → Prop} (l : List α) (gx : α → AV) (hx : α → Option AV)
    {names : List (Str × NameKind)} (K : KN cx names) (hd : cx.hd = none) (hlen : l.length ≤ 16000000)
    (h : Ev G cx ρ σ iter (fun v ρ₁ σ₁ => Itr v (l.map gx) ∧ ρ₁ = ρ ∧ σ₁ = σ ∧ ∀ cxc, CIn cx cxc scope → ∀ a ∈ l, CoT G cxc (inρ scope ρ) σ t ifs (ElT G cxc σ elt) (gx a) (hx a)) EQ)
    (q : Q .next (upd ρ y (.lst (l.filterMap hx))) σ)
    (hy : (names.lookup y == some .local || names.lookup y == some .cell) = true := by rfl)
    (hkind : (scope.kind == .function && decide (scope.names.map (·.1)).Nodup) = true := by rfl)
    (hfree : (scope.names.all fun p => p.2 != .free || (names.lookup p.1 == some .free || names.lookup p.1 == some .cell)) = true := by rfl) (htn : ((tNames t).all fun y => !(scope.names.lookup y == some .free)) = true := by rfl)
    (hs : ∀ x, foldedSetIterable iter cx.env x = pure x := by intro _; rfl) :
    X1 G cx ρ σ (.Assign [.Name y py] (.ListComp elt [⟨t, iter, ifs, 0⟩] scope pos) spos) Q EQ := fun ex fz s _ g S _ QQ EE hQ hE => by
  have hsw : swapsWith (.ListComp elt [⟨t, iter, ifs, 0⟩] scope pos) (some (.Name y py)) spos.line cx.env = pure true ∨ swapsWith (.ListComp elt [⟨t, iter, ifs, 0⟩] scope pos) (some (.Name y py)) spos.line cx.env = pure false := by
    unfold swapsWith
    simp only [pure_bind]
    generalize (cx.env.blockKind == .function && cx.env.kindOf y == some .local && py.line == (Expr.ListComp elt [⟨t, iter, ifs, 0⟩] scope pos).pos.line && !(scope.names.any fun (n, k) => n == y && (k == .local || k == .cell))) = b
    cases b
    · exact .inr rfl
    · exact .inl rfl
  rcases hsw with hsw | hsw
  · show wpAny _ _ (exec _ _) _ _ _
    rw [exec_Assign_Name_used _ _ _ _ hsw]
    refine wpAny_bind (wpAny_standAt (wpAny_bind ?_))
    show wpAny _ cx.A (do let _ ← comprehension (.ListComp elt [⟨t, iter, ifs, 0⟩] scope pos) scope cx.env _ (newList []) false (eval iter cx.env) (some (assign (.Name y py) cx.env))) _ _ s
    refine wpAny_bind (wpAny_mono (comp_list (QQ := fun _ s' => QQ .next s') (use := some (assign (.Name y py) cx.env)) l gx hx K hd hkind hfree htn hlen hs g S h hE fun h' tk' fz' D C oC m vs n k S₀ oD hDb hD rl hC hn oC₀ hCD => ?_) (fun _ s' hq => wpAny_pure (wpAny_pure hq)) fun _ _ e => e)
    show wpAny _ _ (assign _ _ _) _ _ _
    obtain ⟨S', r, oC'⟩ := froze S₀ oD hD rl oC₀ hCD
    have Sp := S'.park hC oC'.m oC'.f
    refine wpAny_assign_Name (store_var (s := { s with heap := h', toks := tk' }) Sp r (K.mine hy) fun h₂ tk₂ S₂ => ?_)
    obtain ⟨u1, u2, u3, u4⟩ := S₂.unpark S'.clx
    refine ⟨m, ?_, fun h₃ hs₃ => hQ .next .next _ σ _ h₃ tk₂ (fun p hp => List.mem_cons_of_mem _ (k p hp)) (u1.but hs₃.extBut ⟨u3, u4, oC'.x, oC'.b⟩) .next q⟩
    obtain ⟨o, es, ep, ho, rr⟩ := hn
    rw [hC] at ho
    cases ho
    exact ⟨oC, es, ep, u2, rr⟩
  · exact (x_assign (ev_listcomp (Q := fun v ρ' σ' => Q .next (upd ρ' y v) σ') l gx hx K hd hlen h q hkind hfree htn hs) (K.mine hy) hsw).run g S .nil hQ hE
end
end Mine
namespace Mine
open PySem PySem.W PyProof.Rows PyProof.Rows.LCg PySem.Calls PySem.Spec

theorem dict_new {prog : Program} {w : World} : ({ cls := .type "dict", data := .dict #[] } : Obj).IsDictOf (PySem.strKind prog w) [] := by
  obtain ⟨o, ho, r⟩ := Heap.dictOf_iff.mp (Heap.DictOf.new (knd := PySem.strKind prog w) ({ objs := #[] } : Heap))
  rw [Heap.get?_push_size _ rfl] at ho
  cases ho
  exact r

section
variable {G : Gr} {cx : Cx} {ρ : AE} {σ : AH} {ex fz : Objs} {s : Shared} {A : Around} {E : Value → Shared → Prop} {R : Result → Shared → Prop}
variable {EQ : AX → AE → AH → Prop}
/-- what the loop of a table's comprehension has to show -/
noncomputable def DLoop (G : Gr) (cxc : Cx) (ρc : AE) (σ : AH) (e : Expr) (xs : List AV) (out : List (Str × AV)) : Prop :=
  ∀ (ex fz : Objs) (s : Shared) (I D : Addr) (fp : List Addr) (P : Nat → Value → Prop) (St : Nat → Heap → Prop) (o₀ : Obj) (R : Result → Shared → Prop), GOk G → cxc.A.handled = none → Iter G cxc.A fz xs I fp P St → Sat G cxc ex ρc σ fz s.heap → St 0 s.heap → Off G cxc ex σ fz I → Off G cxc ex σ fz D → D ≠ I →
    s.heap.get? D = some o₀ → o₀.IsDictOf (strKind G.prog G.w) [] →
    (∀ h' tk' fz' o kvs, (∀ p ∈ fz, p ∈ fz') → Sat G cxc ex ρc σ fz' h' → Off G cxc ex σ fz' D → h'.get? D = some o → o.IsDictOf (strKind G.prog G.w) kvs → RelE G fz' out kvs → R (.ok .next) { s with heap := h', toks := tk' }) →
    codeAny (model G.prog G.w) cxc.A (.compLoop e 0 (.ref I) (.ref D) cxc.env) R s
/-- a comprehension that makes a table -/
theorem comp_dict {use : Option (Value → Sem Unit)} {kx vx t iter : Expr} {ifs : List Expr} {rest : List Comprehension} {scope : Scope} {pos fpos : Pos} {EQ : AX → AE → AH → Prop} {QQ : Value → Shared → Prop} {EE : Value → Shared → Prop} {xs : List AV} {out : List (Str × AV)}
    {names : List (Str × NameKind)} (K : KN cx names) (hd : cx.hd = none) (hkind : (scope.kind == .function && decide (scope.names.map (·.1)).Nodup) = true)
    (hfree : (scope.names.all fun p => p.2 != .free || (names.lookup p.1 == some .free || names.lookup p.1 == some .cell)) = true)
    (hs : ∀ x, foldedSetIterable iter cx.env x = pure x)
    (g : GOk G) (S : Sat G cx ex ρ σ fz s.heap)
    (h : Ev G cx ρ σ iter (fun v ρ₁ σ₁ => Itr v xs ∧ ρ₁ = ρ ∧ σ₁ = σ ∧ ∀ cxc, CIn cx cxc scope → DLoop G cxc (inρ scope ρ) σ (.DictComp kx vx (⟨t, iter, ifs, 0⟩ :: rest) scope pos) xs out) EQ)
    (hE : Exn G cx ex fz s EQ EE)
    (fin : ∀ h' tk' fz' D C oC m oD kvs, (∀ p ∈ fz, p ∈ fz') → Sat G cx ex ρ σ fz' h' → Off G cx ex σ fz' D → G.hb.objs.size ≤ D → h'.get? D = some oD → oD.IsDictOf (strKind G.prog G.w) kvs → RelE G fz' out kvs → h'.get? C = some oC → h'.Ns C m → Off G cx ex σ fz' C → C ≠ D →
      compPost (model G.prog G.w) cx.A EE use QQ (.ref D) C (.ok .next) { s with heap := h', toks := tk' }) :
    wpAny (model G.prog G.w) cx.A (comprehension (.DictComp kx vx (⟨t, iter, ifs, 0⟩ :: rest) scope pos) scope cx.env fpos newDict false (eval iter cx.env) use) QQ EE s := by
  rw [Bool.and_eq_true, decide_eq_true_iff] at hkind
  obtain ⟨hk1, hk2⟩ := hkind
  have hk1 : scope.kind = .function := by simpa using hk1
  have hA : cx.A.handled = none := S.ok.hd.trans hd
  have hfree' : ∀ x, (x, NameKind.free) ∈ scope.names → cx.env.kindOf x = some .free ∨ cx.env.kindOf x = some .cell := fun x hx => by
    have := List.all_eq_true.mp hfree _ hx
    simp only [bne_self_eq_false, Bool.false_or, Bool.or_eq_true, beq_iff_eq] at this
    rcases this with q | q
    · exact K.fr x q
    · exact .inr (K.kd x _ q (by decide))
  have hclos : closureFor scope cx.env = pure (clOf cx.env scope.names []) := closureFor_eq fun x hx => S.ok.cs x (hfree' x hx).symm
  refine wpAny_comprehension_free (use := use) rfl hs hclos hk1 (fun x hx he => lookup_of_mem' hk2 (he ▸ hx)) ?_
  refine h.run g S .nil (fun v V ρ₁ σ₁ fz₁ h₁ t₁ k₁ S₁ r₁ q₁ => ?_) hE
  obtain ⟨hI, rfl, rfl, turns⟩ := q₁
  generalize hs₁ : ({ s with heap := h₁, toks := t₁ } : Shared) = s₁
  have hh₁ : s₁.heap = h₁ := by rw [← hs₁]
  rw [← hh₁] at S₁
  refine iter_start S₁ hA hI r₁ fun oI fp P St It st => ?_
  have offI := S₁.size_off (Nat.le_refl s₁.heap.objs.size)
  have S₂ := S₁.push oI
  have hIlt : s₁.heap.objs.size < (s₁.heap.push oI).objs.size := by rw [Heap.size_push]; exact Nat.lt_succ_self _
  generalize s₁.heap.objs.size = I at It st offI hIlt ⊢
  generalize s₁.heap.push oI = H₂ at st S₂ hIlt ⊢
  refine wpAny_newObj_type ?_
  have offD := S₂.size_off (Nat.le_refl H₂.objs.size)
  have S₃ := S₂.push { cls := .type "dict", data := .dict #[] }
  have hD : (H₂.push { cls := .type "dict", data := .dict #[] }).get? H₂.objs.size = some { cls := .type "dict", data := .dict #[] } := Heap.get?_push_size _ rfl
  have hDlt : H₂.objs.size < (H₂.push { cls := .type "dict", data := .dict #[] }).objs.size := by rw [Heap.size_push]; exact Nat.lt_succ_self _
  have st₃ : St 0 (H₂.push { cls := .type "dict", data := .dict #[] }) := It.W.frame _ _ _ st fun b _ o e => Heap.get?_push_of_some _ e
  generalize H₂.push { cls := .type "dict", data := .dict #[] } = H₃ at S₃ hD hDlt st₃ ⊢
  have hDI : H₂.objs.size ≠ I := (Nat.ne_of_gt hIlt)
  have hIlt₃ : I < H₃.objs.size := Nat.lt_trans hIlt hDlt
  have hDbig : G.hb.objs.size ≤ H₂.objs.size := by
    obtain ⟨o, ho⟩ := S₂.mut_there (a := cx.env.locals) (by unfold Cx.mut; exact List.mem_cons_self)
    exact Nat.le_trans (S₂.new _ (by unfold Cx.mut; exact List.mem_cons_self)).2 (Nat.le_of_lt (Heap.lt_size ho))
  generalize H₂.objs.size = D at offD hD hDlt hDI hDbig ⊢
  refine comp_enter (s := { s₁ with heap := H₃ }) S₃ hk1 hk2 hfree' fun cxc exc m ol oC h₄ ci he In S₄ hv hke hgt => ?_
  have hL : cxc.env.locals = H₃.objs.size := by rw [he]; rfl
  have inI := In.off_in offI (by rw [hL]; exact Nat.ne_of_lt hIlt₃) (fun q => Nat.lt_asymm (hgt _ q) hIlt₃)
  have inD := In.off_in offD (by rw [hL]; exact Nat.ne_of_lt hDlt) (fun q => Nat.lt_asymm (hgt _ q) hDlt)
  have hAc : cxc.A.handled = none := by rw [ci.A]; exact hA
  have It' : Iter G cxc.A fz₁ xs I fp P St := by rw [ci.A]; exact It
  have st₄ : St 0 h₄ := It.W.frame _ _ _ st₃ fun b _ o e => hke b o e
  have henv : ({ (newEnv scope H₃.objs.size cx.env.globals (cellsFrom (H₃.objs.size + 1) scope.names (clOf cx.env scope.names [])) cx.env.qual none .none (some cx.env) builtinsNs) with scope := relabel scope cx.env } : Env) = cxc.env := by rw [he]; rfl
  have hloc : (newEnv scope H₃.objs.size cx.env.globals (cellsFrom (H₃.objs.size + 1) scope.names (clOf cx.env scope.names [])) cx.env.qual none .none (some cx.env) builtinsNs).locals = cxc.env.locals := by rw [hL]; rfl
  show codeAny (model G.prog G.w) cx.A (.compStart _ 0 (.ref I) (.ref D) ({ (newEnv scope H₃.objs.size cx.env.globals (cellsFrom (H₃.objs.size + 1) scope.names (clOf cx.env scope.names [])) cx.env.qual none .none (some cx.env) builtinsNs) with scope := relabel scope cx.env } : Env)) (compPost _ _ _ _ _ _ (newEnv scope H₃.objs.size cx.env.globals (cellsFrom (H₃.objs.size + 1) scope.names (clOf cx.env scope.names [])) cx.env.qual none .none (some cx.env) builtinsNs).locals) _
  rw [henv, hloc]
  have loop : codeAny (model G.prog G.w) cxc.A (.compLoop (.DictComp kx vx (⟨t, iter, ifs, 0⟩ :: rest) scope pos) 0 (.ref I) (.ref D) cxc.env) (compPost (model G.prog G.w) cx.A EE use QQ (.ref D) cxc.env.locals) { s₁ with heap := h₄ } := by
    refine turns cxc ci exc fz₁ { s₁ with heap := h₄ } I D fp P St _ _ g hAc It' S₄ st₄ inI inD hDI (hke _ _ hD) dict_new fun h₅ tk₅ fz₅ oD' kvs k₅ S₅ oD₅ hD₅ hdo₅ rl₅ => ?_
    · have Sb := In.back S₃ S₅ k₅ hv
      have oDc := In.off oD₅
      have oCc := In.locals_off S₃ S₅ (by rw [hL]; exact Nat.le_refl _)
      obtain ⟨m₅, ⟨oC₅, es₅, ep₅, hoC₅, r₅⟩, _⟩ := S₅.loc
      have hCD : cxc.env.locals ≠ D := by rw [hL]; exact Nat.ne_of_gt hDlt
      have := fin h₅ tk₅ fz₅ D cxc.env.locals oC₅ m₅ oD' kvs (fun p hp => k₅ p (k₁ p hp)) Sb oDc hDbig hD₅ hdo₅ rl₅ hoC₅ ⟨oC₅, es₅, ep₅, hoC₅, r₅⟩ oCc hCD
      rw [← hs₁]
      exact this
  rw [ci.A] at loop
  exact codeAny_compStart_dict loop (It.W.self 0 _ _ _ st₄ loop)

theorem dloop_one {α : Type} {cxc : Cx} {kx vx t iter : Expr} {ifs : List Expr} {scope : Scope} {pos : Pos} (l : List α) (gx : α → AV) (hx : α → Option (Str × AV)) (hlen : l.length ≤ 16000000) (htn : ((tNames t).all fun y => !(scope.names.lookup y == some .free)) = true)
    (turns : ∀ a ∈ l, CoT G cxc (inρ scope ρ) σ t ifs (PrT G cxc σ kx vx) (gx a) (hx a)) : DLoop G cxc (inρ scope ρ) σ (.DictComp kx vx [⟨t, iter, ifs, 0⟩] scope pos) (l.map gx) (puts [] (l.filterMap hx)) :=
  fun ex fz s I D fp P St o₀ R g hA It S st oI oD hne hD hD₀ fin => comp_dict_loop (es₀ := []) l gx hx (compTurn_dict kx vx t iter ifs scope pos (.ref I) D cxc.env) g turns (fun y hy => by
    have := List.all_eq_true.mp htn y hy
    unfold inρ
    rw [if_neg (by simpa using this)]) hA (by simpa using hlen) It S st oI oD hne hD hD₀ .nil fin
theorem frozeD {h' : Heap} {fz' : Objs} {D C : Addr} {oD : Obj} {kvs : List (Str × Value)} {es : List (Str × AV)} (g : GOk G) (S' : Sat G cx ex ρ σ fz' h') (oD' : Off G cx ex σ fz' D) (hb : G.hb.objs.size ≤ D) (hD : h'.get? D = some oD) (hdo : oD.IsDictOf (strKind G.prog G.w) kvs) (rl : RelE G fz' es kvs) (oC : Off G cx ex σ fz' C) (hCD : C ≠ D) :
    Sat G cx ex ρ σ ((D, oD) :: fz') h' ∧ Rel G ((D, oD) :: fz') (.dct es) (.ref D) ∧ Off G cx ex σ ((D, oD) :: fz') C :=
  ⟨S'.freeze hD oD'.m oD'.x, .dct List.mem_cons_self (beq_eq_false_iff_ne.mpr (Nat.ne_of_gt (Nat.lt_of_lt_of_le g.big hb))) hdo (rl.mono fun p hp => List.mem_cons_of_mem _ hp), ⟨oC.m, fun q => by
    rcases List.mem_cons.mp q with q | q
    · exact hCD q
    · exact oC.f q, oC.x, oC.b⟩⟩
theorem ev_dictcomp {α : Type} {kx vx t iter : Expr} {ifs : List Expr} {scope : Scope} {pos : Pos} {Q : AV → AE → AH → Prop} (l : List α) (gx : α → AV) (hx : α → Option (Str × AV))
    {names : List (Str × NameKind)} (K : KN cx names) (hd : cx.hd = none) (hlen : l.length ≤ 16000000)
    (h : Ev G cx ρ σ iter (fun v ρ₁ σ₁ => Itr v (l.map gx) ∧ ρ₁ = ρ ∧ σ₁ = σ ∧ ∀ cxc, CIn cx cxc scope → ∀ a ∈ l, CoT G cxc (inρ scope ρ) σ t ifs (PrT G cxc σ kx vx) (gx a) (hx a)) EQ)
    (q : Q (.dct (puts [] (l.filterMap hx))) ρ σ)
    (hkind : (scope.kind == .function && decide (scope.names.map (·.1)).Nodup) = true := by rfl)
    (hfree : (scope.names.all fun p => p.2 != .free || (names.lookup p.1 == some .free || names.lookup p.1 == some .cell)) = true := by rfl) (htn : ((tNames t).all fun y => !(scope.names.lookup y == some .free)) = true := by rfl)
    (hs : ∀ x, foldedSetIterable iter cx.env x = pure x := by intro _; rfl) :
    Ev G cx ρ σ (.DictComp kx vx [⟨t, iter, ifs, 0⟩] scope pos) Q EQ := fun ex fz s _ g S _ QQ EE hQ hE => by
  show wpAny _ _ (eval _ _) _ _ _
  show wpAny _ _ (comprehension _ _ _ _ newDict false (eval iter cx.env) none) _ _ _
  refine comp_dict (use := none) K hd hkind hfree hs g S (h.mono (fun v ρ₁ σ₁ q => ⟨q.1, q.2.1, q.2.2.1, fun cxc ci => dloop_one l gx hx hlen htn (q.2.2.2 cxc ci)⟩) fun _ _ _ q => q) hE fun h' tk' fz' D C oC m oD kvs k S₀ oD' hb hD hdo rl hC hn oC₀ hCD => ?_
  obtain ⟨S', r, oC'⟩ := frozeD g S₀ oD' hb hD hdo rl oC₀ hCD
  exact ⟨m, hn, fun h'' hs'' => hQ _ _ ρ σ _ h'' tk' (fun p hp => List.mem_cons_of_mem _ (k p hp)) (S'.but hs''.extBut oC') r q⟩

/-- a table's comprehension at once stored in a name -/
theorem x_dictcomp {α : Type} {kx vx t iter : Expr} {ifs : List Expr} {scope : Scope} {pos spos py : Pos} {y : Str} {Q : AF → AE → AH → Prop} (l : List α) (gx : α → AV) (hx : α → Option (Str × AV))
    {names : List (Str × NameKind)} (K : KN cx names) (hd : cx.hd = none) (hlen : l.length ≤ 16000000)
    (h : Ev G cx ρ σ iter (fun v ρ₁ σ₁ => Itr v (l.map gx) ∧ ρ₁ = ρ ∧ σ₁ = σ ∧ ∀ cxc, CIn cx cxc scope → ∀ a ∈ l, CoT G cxc (inρ scope ρ) σ t ifs (PrT G cxc σ kx vx) (gx a) (hx a)) EQ)
    (q : Q .next (upd ρ y (.dct (puts [] (l.filterMap hx)))) σ)
    (hy : (names.lookup y == some .local || names.lookup y == some .cell) = true := by rfl)
    (hkind : (scope.kind == .function && decide (scope.names.map (·.1)).Nodup) = true := by rfl)
    (hfree : (scope.names.all fun p => p.2 != .free || (names.lookup p.1 == some .free || names.lookup p.1 == some .cell)) = true := by rfl) (htn : ((tNames t).all fun y => !(scope.names.lookup y == some .free)) = true := by rfl)
    (hs : ∀ x, foldedSetIterable iter cx.env x = pure x := by intro _; rfl) :
    X1 G cx ρ σ (.Assign [.Name y py] (.DictComp kx vx [⟨t, iter, ifs, 0⟩] scope pos) spos) Q EQ := fun ex fz s _ g S _ QQ EE hQ hE => by
  have hsw : swapsWith (.DictComp kx vx [⟨t, iter, ifs, 0⟩] scope pos) (some (.Name y py)) spos.line cx.env = pure true ∨ swapsWith (.DictComp kx vx [⟨t, iter, ifs, 0⟩] scope pos) (some (.Name y py)) spos.line cx.env = pure false := by
    unfold swapsWith
    simp only [pure_bind]
    generalize (cx.env.blockKind == .function && cx.env.kindOf y == some .local && py.line == (Expr.DictComp kx vx [⟨t, iter, ifs, 0⟩] scope pos).pos.line && !(scope.names.any fun (n, k) => n == y && (k == .local || k == .cell))) = b
    cases b
    · exact .inr rfl
    · exact .inl rfl
  rcases hsw with hsw | hsw
  · show wpAny _ _ (exec _ _) _ _ _
    rw [exec_Assign_Name_used _ _ _ _ hsw]
    refine wpAny_bind (wpAny_standAt (wpAny_bind ?_))
    show wpAny _ cx.A (do let _ ← comprehension (.DictComp kx vx [⟨t, iter, ifs, 0⟩] scope pos) scope cx.env _ newDict false (eval iter cx.env) (some (assign (.Name y py) cx.env))) _ _ s
    refine wpAny_bind (wpAny_mono (comp_dict (QQ := fun _ s' => QQ .next s') (use := some (assign (.Name y py) cx.env)) K hd hkind hfree hs g S (h.mono (fun v ρ₁ σ₁ q => ⟨q.1, q.2.1, q.2.2.1, fun cxc ci => dloop_one l gx hx hlen htn (q.2.2.2 cxc ci)⟩) fun _ _ _ q => q) hE fun h' tk' fz' D C oC m oD kvs k S₀ oD' hb hD hdo rl hC hn oC₀ hCD => ?_) (fun _ s' hq => wpAny_pure (wpAny_pure hq)) fun _ _ e => e)
    show wpAny _ _ (assign _ _ _) _ _ _
    obtain ⟨S', r, oC'⟩ := frozeD g S₀ oD' hb hD hdo rl oC₀ hCD
    have Sp := S'.park hC oC'.m oC'.f
    refine wpAny_assign_Name (store_var (s := { s with heap := h', toks := tk' }) Sp r (K.mine hy) fun h₂ tk₂ S₂ => ?_)
    obtain ⟨u1, u2, u3, u4⟩ := S₂.unpark S'.clx
    refine ⟨m, ?_, fun h₃ hs₃ => hQ .next .next _ σ _ h₃ tk₂ (fun p hp => List.mem_cons_of_mem _ (k p hp)) (u1.but hs₃.extBut ⟨u3, u4, oC'.x, oC'.b⟩) .next q⟩
    obtain ⟨o, es, ep, ho, rr⟩ := hn
    rw [hC] at ho
    cases ho
    exact ⟨oC, es, ep, u2, rr⟩
  · exact (x_assign (ev_dictcomp (Q := fun v ρ' σ' => Q .next (upd ρ' y v) σ') l gx hx K hd hlen h q hkind hfree htn hs) (K.mine hy) hsw).run g S .nil hQ hE
/-- what is made live while another object is set aside -/
theorem Sat.live_beside {h' : Heap} {fz' : Objs} {D C : Addr} {oD oC : Obj} {ao : AO} (S' : Sat G cx ex ρ σ fz' h') (oD' : Off G cx ex σ fz' D) (hb : G.hb.objs.size ≤ D) (hD : h'.get? D = some oD) (r : RelO G fz' ao oD) (hC : h'.get? C = some oC) (oC' : Off G cx ex σ fz' C) (hCD : C ≠ D) :
    Sat G cx ((C, oC) :: ex) ρ ((D, ao) :: σ) fz' h' :=
  (S'.park hC oC'.m oC'.f).live_new hD ⟨oD'.m, oD'.f, fun q => by
    rcases List.mem_cons.mp q with q | q
    · exact hCD q.symm
    · exact oD'.x q, oD'.b⟩ hb r
theorem ev_dictcomp_live {α : Type} {kx vx t iter : Expr} {ifs : List Expr} {scope : Scope} {pos : Pos} {Q : AV → AE → AH → Prop} (l : List α) (gx : α → AV) (hx : α → Option (Str × AV))
    {names : List (Str × NameKind)} (K : KN cx names) (hd : cx.hd = none) (hlen : l.length ≤ 16000000)
    (h : Ev G cx ρ σ iter (fun v ρ₁ σ₁ => Itr v (l.map gx) ∧ ρ₁ = ρ ∧ σ₁ = σ ∧ ∀ cxc, CIn cx cxc scope → ∀ a ∈ l, CoT G cxc (inρ scope ρ) σ t ifs (PrT G cxc σ kx vx) (gx a) (hx a)) EQ)
    (q : ∀ a, Q (.ref a) ρ ((a, .dct (puts [] (l.filterMap hx))) :: σ))
    (hkind : (scope.kind == .function && decide (scope.names.map (·.1)).Nodup) = true := by rfl)
    (hfree : (scope.names.all fun p => p.2 != .free || (names.lookup p.1 == some .free || names.lookup p.1 == some .cell)) = true := by rfl) (htn : ((tNames t).all fun y => !(scope.names.lookup y == some .free)) = true := by rfl)
    (hs : ∀ x, foldedSetIterable iter cx.env x = pure x := by intro _; rfl) :
    Ev G cx ρ σ (.DictComp kx vx [⟨t, iter, ifs, 0⟩] scope pos) Q EQ := fun ex fz s _ g S _ QQ EE hQ hE => by
  show wpAny _ _ (eval _ _) _ _ _
  show wpAny _ _ (comprehension _ _ _ _ newDict false (eval iter cx.env) none) _ _ _
  refine comp_dict (use := none) K hd hkind hfree hs g S (h.mono (fun v ρ₁ σ₁ q => ⟨q.1, q.2.1, q.2.2.1, fun cxc ci => dloop_one l gx hx hlen htn (q.2.2.2 cxc ci)⟩) fun _ _ _ q => q) hE fun h' tk' fz' D C oC m oD kvs k S' oD' hb hD hdo rl hC hn oC' hCD => ?_
  refine ⟨m, hn, fun h'' hs'' => ?_⟩
  have S₂ := S'.but hs''.extBut oC'
  exact hQ _ _ ρ _ fz' h'' tk' k (S₂.live_new (ao := .dct (puts [] (l.filterMap hx))) (hs''.extBut _ _ (Ne.symm hCD) hD) oD' hb ⟨_, hdo, rl⟩) (.ref _) (q D)
theorem x_dictcomp_live {α : Type} {kx vx t iter : Expr} {ifs : List Expr} {scope : Scope} {pos spos py : Pos} {y : Str} {Q : AF → AE → AH → Prop} (l : List α) (gx : α → AV) (hx : α → Option (Str × AV))
    {names : List (Str × NameKind)} (K : KN cx names) (hd : cx.hd = none) (hlen : l.length ≤ 16000000)
    (h : Ev G cx ρ σ iter (fun v ρ₁ σ₁ => Itr v (l.map gx) ∧ ρ₁ = ρ ∧ σ₁ = σ ∧ ∀ cxc, CIn cx cxc scope → ∀ a ∈ l, CoT G cxc (inρ scope ρ) σ t ifs (PrT G cxc σ kx vx) (gx a) (hx a)) EQ)
    (q : ∀ a, Q .next (upd ρ y (.ref a)) ((a, .dct (puts [] (l.filterMap hx))) :: σ))
    (hy : (names.lookup y == some .local || names.lookup y == some .cell) = true := by rfl)
    (hkind : (scope.kind == .function && decide (scope.names.map (·.1)).Nodup) = true := by rfl)
    (hfree : (scope.names.all fun p => p.2 != .free || (names.lookup p.1 == some .free || names.lookup p.1 == some .cell)) = true := by rfl) (htn : ((tNames t).all fun y => !(scope.names.lookup y == some .free)) = true := by rfl)
    (hs : ∀ x, foldedSetIterable iter cx.env x = pure x := by intro _; rfl) :
    X1 G cx ρ σ (.Assign [.Name y py] (.DictComp kx vx [⟨t, iter, ifs, 0⟩] scope pos) spos) Q EQ := fun ex fz s _ g S _ QQ EE hQ hE => by
  have hsw : swapsWith (.DictComp kx vx [⟨t, iter, ifs, 0⟩] scope pos) (some (.Name y py)) spos.line cx.env = pure true ∨ swapsWith (.DictComp kx vx [⟨t, iter, ifs, 0⟩] scope pos) (some (.Name y py)) spos.line cx.env = pure false := by
    unfold swapsWith
    simp only [pure_bind]
    generalize (cx.env.blockKind == .function && cx.env.kindOf y == some .local && py.line == (Expr.DictComp kx vx [⟨t, iter, ifs, 0⟩] scope pos).pos.line && !(scope.names.any fun (n, k) => n == y && (k == .local || k == .cell))) = b
    cases b
    · exact .inr rfl
    · exact .inl rfl
  rcases hsw with hsw | hsw
  · show wpAny _ _ (exec _ _) _ _ _
    rw [exec_Assign_Name_used _ _ _ _ hsw]
    refine wpAny_bind (wpAny_standAt (wpAny_bind ?_))
    show wpAny _ cx.A (do let _ ← comprehension (.DictComp kx vx [⟨t, iter, ifs, 0⟩] scope pos) scope cx.env _ newDict false (eval iter cx.env) (some (assign (.Name y py) cx.env))) _ _ s
    refine wpAny_bind (wpAny_mono (comp_dict (QQ := fun _ s' => QQ .next s') (use := some (assign (.Name y py) cx.env)) K hd hkind hfree hs g S (h.mono (fun v ρ₁ σ₁ q => ⟨q.1, q.2.1, q.2.2.1, fun cxc ci => dloop_one l gx hx hlen htn (q.2.2.2 cxc ci)⟩) fun _ _ _ q => q) hE fun h' tk' fz' D C oC m oD kvs k S₀ oD' hb hD hdo rl hC hn oC' hCD => ?_) (fun _ s' hq => wpAny_pure (wpAny_pure hq)) fun _ _ e => e)
    show wpAny _ _ (assign _ _ _) _ _ _
    have Sp := S₀.live_beside (ao := .dct (puts [] (l.filterMap hx))) oD' hb hD ⟨_, hdo, rl⟩ hC oC' hCD
    refine wpAny_assign_Name (store_var (s := { s with heap := h', toks := tk' }) Sp (.ref D) (K.mine hy) fun h₂ tk₂ S₂ => ?_)
    obtain ⟨u1, u2, u3, u4⟩ := S₂.unpark S₀.clx
    refine ⟨m, ?_, fun h₃ hs₃ => hQ .next .next _ _ fz' h₃ tk₂ k (u1.but hs₃.extBut ⟨u3, u4, oC'.x, oC'.b⟩) .next (q D)⟩
    obtain ⟨o, es, ep, ho, rr⟩ := hn
    rw [hC] at ho
    cases ho
    exact ⟨oC, es, ep, u2, rr⟩
  · exact (x_assign (ev_dictcomp_live (Q := fun v ρ' σ' => Q .next (upd ρ' y v) σ') l gx hx K hd hlen h q hkind hfree htn hs) (K.mine hy) hsw).run g S .nil hQ hE
/-- a list comprehension that is to change later, at once stored in a name -/
theorem x_listcomp_live {α : Type} {elt t iter : Expr} {ifs : List Expr} {scope : Scope} {pos spos py : Pos} {y : Str} {Q : AF → AE → AH → Prop} (l : List α) (gx : α → AV) (hx : α → Option AV)
    {names : List (Str × NameKind)} (K : KN cx names) (hd : cx.hd = none) (hlen : l.length ≤ 16000000)
    (h : Ev G cx ρ σ iter (fun v ρ₁ σ₁ => Itr v (l.map gx) ∧ ρ₁ = ρ ∧ σ₁ = σ ∧ ∀ cxc, CIn cx cxc scope → ∀ a ∈ l, CoT G cxc (inρ scope ρ) σ t ifs (ElT G cxc σ elt) (gx a) (hx a)) EQ)
    (q : ∀ a, Q .next (upd ρ y (.ref a)) ((a, .lst (l.filterMap hx)) :: σ))
    (hy : (names.lookup y == some .local || names.lookup y == some .cell) = true := by rfl)
    (hkind : (scope.kind == .function && decide (scope.names.map (·.1)).Nodup) = true := by rfl)
    (hfree : (scope.names.all fun p => p.2 != .free || (names.lookup p.1 == some .free || names.lookup p.1 == some .cell)) = true := by rfl) (htn : ((tNames t).all fun y => !(scope.names.lookup y == some .free)) = true := by rfl)
    (hs : ∀ x, foldedSetIterable iter cx.env x = pure x := by intro _; rfl) :
    X1 G cx ρ σ (.Assign [.Name y py] (.ListComp elt [⟨t, iter, ifs, 0⟩] scope pos) spos) Q EQ := fun ex fz s _ g S _ QQ EE hQ hE => by
  have hsw : swapsWith (.ListComp elt [⟨t, iter, ifs, 0⟩] scope pos) (some (.Name y py)) spos.line cx.env = pure true ∨ swapsWith (.ListComp elt [⟨t, iter, ifs, 0⟩] scope pos) (some (.Name y py)) spos.line cx.env = pure false := by
    unfold swapsWith
    simp only [pure_bind]
    generalize (cx.env.blockKind == .function && cx.env.kindOf y == some .local && py.line == (Expr.ListComp elt [⟨t, iter, ifs, 0⟩] scope pos).pos.line && !(scope.names.any fun (n, k) => n == y && (k == .local || k == .cell))) = b
    cases b
    · exact .inr rfl
    · exact .inl rfl
  rcases hsw with hsw | hsw
  · show wpAny _ _ (exec _ _) _ _ _
    rw [exec_Assign_Name_used _ _ _ _ hsw]
    refine wpAny_bind (wpAny_standAt (wpAny_bind ?_))
    show wpAny _ cx.A (do let _ ← comprehension (.ListComp elt [⟨t, iter, ifs, 0⟩] scope pos) scope cx.env _ (newList []) false (eval iter cx.env) (some (assign (.Name y py) cx.env))) _ _ s
    refine wpAny_bind (wpAny_mono (comp_list (QQ := fun _ s' => QQ .next s') (use := some (assign (.Name y py) cx.env)) l gx hx K hd hkind hfree htn hlen hs g S h hE fun h' tk' fz' D C oC m vs n k S₀ oD hDb hD rl hC hn oC₀ hCD => ?_) (fun _ s' hq => wpAny_pure (wpAny_pure hq)) fun _ _ e => e)
    show wpAny _ _ (assign _ _ _) _ _ _
    have Sp := S₀.live_beside (ao := .lst (l.filterMap hx)) oD hDb hD ⟨_, _, rfl, rl⟩ hC oC₀ hCD
    refine wpAny_assign_Name (store_var (s := { s with heap := h', toks := tk' }) Sp (.ref D) (K.mine hy) fun h₂ tk₂ S₂ => ?_)
    obtain ⟨u1, u2, u3, u4⟩ := S₂.unpark S₀.clx
    refine ⟨m, ?_, fun h₃ hs₃ => hQ .next .next _ _ fz' h₃ tk₂ k (u1.but hs₃.extBut ⟨u3, u4, oC₀.x, oC₀.b⟩) .next (q D)⟩
    obtain ⟨o, es, ep, ho, rr⟩ := hn
    rw [hC] at ho
    cases ho
    exact ⟨oC, es, ep, u2, rr⟩
  · exact (x_assign (ev_listcomp_live (Q := fun v ρ' σ' => Q .next (upd ρ' y v) σ') l gx hx K hd hlen h q hkind hfree htn hs) (K.mine hy) hsw).run g S .nil hQ hE
end
end Mine
namespace Mine
open PySem PySem.W PyProof.Rows PyProof.Rows.LCg PySem.Calls PySem.Spec
open Builtin Builtin.ObjectAttr

theorem nsSet_b {M : Model} {A : Around} {E : Value → Shared → Prop} {s : Shared} {a : Addr} {o : Obj} {m : Str → Option Value} {n : Nat} {name : Str} {v : Value} {Q : Unit → Shared → Prop} (ho : s.heap.get? a = some o) (hb : NsB o m n)
    (h : ∀ h' o', h'.get? a = some o' → NsB o' (fun x => if x = name then some v else m x) (n + 1) → o'.cls = o.cls → Heap.SameBut a s.heap h' → Q () { s with heap := h', toks := s.toks + 1 }) : wpAny M A (nsSet a name v) Q E s := by
  obtain ⟨es, ep, hd, hk, hm, hz⟩ := hb
  unfold nsSet
  refine wpAny_bind (wpAny_bind (wpAny_askSetting (wpAny_pure (wpAny_bind (wpAny_mkText (wpAny_bind (wpAny_loadPart ho ?_)))))))
  have hany : es.any (·.refKey) = false := by
    rw [Array.any_eq_false']; intro e he; obtain ⟨n, t, h⟩ := hk e he; simp [DictEntry.refKey, h]
  rw [hd]
  dsimp only
  rw [aRefKeyMayBeTheName_eq]
  unfold aRefKeyMayBeTheNameByArray
  rw [hany, Bool.and_false]
  refine wpAny_updatePart ho ?_
  obtain ⟨c, d, dt, sl⟩ := o
  subst hd
  cases hi : es.findIdx? (·.key.isStr name) with
  | some i =>
    refine h _ _ (Heap.get?_update_self _ ho (by simp only [Obj.putName_eq, Obj.putNameByArray, hi]; rfl)) ⟨_, ep, by simp only [Obj.putName_eq, Obj.putNameByArray, hi]; rfl, hk.modify _ _, fun x => ?_, ?_⟩ (by simp only [Obj.putName_eq, Obj.putNameByArray, hi]) (Heap.SameBut.update ..)
    · show _ = if x = name then some v else m x
      rw [← hm]; exact findBy_modify (fun n v => v.isStr n) Value.isStr_inj es name x v i hi
    · rw [Array.size_modify]; exact Nat.le_succ_of_le hz
  | none =>
    refine h _ _ (Heap.get?_update_self _ ho (by simp only [Obj.putName_eq, Obj.putNameByArray, hi]; rfl)) ⟨_, ep + 1, by simp only [Obj.putName_eq, Obj.putNameByArray, hi]; rfl, hk.push _ _ _ _, fun x => ?_, ?_⟩ (by simp only [Obj.putName_eq, Obj.putNameByArray, hi]) (Heap.SameBut.update ..)
    · show _ = if x = name then some v else m x
      rw [← hm]
      exact findBy_push (fun n v => v.isStr n) es name x _ _ v (fun y => by
        show (name == y) = decide (y = name)
        by_cases hy : y = name
        · subst hy; simp
        · simp [hy]; exact fun q => hy q.symm) hi
    · rw [Array.size_push]; exact Nat.succ_le_succ hz

/-- an exception class of the text, under OSError, with an __init__ of its own -/
structure ECls (K : Frag) (C fI : Addr) : Prop where
  obj : ∃ od cd sl, K.lookup C = some ⟨.type "type", od, .cls cd, sl⟩ ∧ cd.abstract = false ∧ cd.hasDel = false ∧ cd.hasDict = true ∧ cd.mro.isEmpty = false ∧ cd.mro.contains (.ref C) = true ∧ cd.mro.contains (.type "OSError") = true ∧
    cd.mro.contains (.type "BaseException") = true ∧ cd.mro.contains (.type "object") = true ∧ (sl.toList[4]?).join = some (.builtin "OSError.__new__") ∧ (∀ self, refuseLoop self "__setattr__" cd.mro = pure ())
  call : specialIn K (.ref C) "__call__" = some (some (.builtin "type.__call__"))
  typ : instIn K (.ref C) (.type "type") = some true
  init : findIn K (.ref C) "__init__" = some (some (.ref fI))
  fn : typeIn K (.ref fI) = some (.type "function")
  sa : findIn K (.ref C) "__setattr__" = some (some (.builtin "object.__setattr__"))
  ga : findIn K (.ref C) "__getattribute__" = some (some (.builtin "BaseException.__getattribute__"))
  gh : findIn K (.ref C) "__getattr__" = some none
  args : takerIn K C "args" = some (some (.builtin "BaseException.args"))
end Mine
namespace Mine
open PySem PySem.W PyProof.Rows PyProof.Rows.LCg PySem.Calls PySem.Spec
open Builtin Builtin.ObjectAttr Builtin.OSError

theorem osn_kind : builtinKind "OSError.__new__" = some .builtinFn := by decide +kernel
theorem osn_split : splitId "OSError.__new__" = some ("OSError", "__new__") := by decide +kernel
theorem osn_entry : entryFor table "OSError.__new__" = some Builtin.«OSError.__new__» := entryFor_of_tree (by kernel_rfl)
theorem osn_row : Manifest.signature? "OSError.__new__" = some ⟨.constructor, "*", "OSError", .cls, [⟨"args", .varPos, false⟩]⟩ := by kernel_rfl
structure EFacts (M : Model) (K : Frag) (h : Heap) (C fI : Addr) : Prop where
  obj : ∃ od cd sl, h.get? C = some ⟨.type "type", od, .cls cd, sl⟩ ∧ cd.abstract = false ∧ cd.hasDel = false ∧ cd.hasDict = true ∧ cd.mro.isEmpty = false ∧ Looks M h (mroOf (.ref C)) cd.mro ∧ (∀ self, refuseLoop self "__setattr__" cd.mro = pure ()) ∧ clsIn K C = some cd
  made : Looks M h (Bind.madeBy (.ref C)) (some "OSError.__new__")
  base : Looks M h (Bind.staticBase (.ref C)) (.ref C)
  self : Looks M h (isSubtype (.ref C) (.ref C)) true
  os : Looks M h (isSubtype (.ref C) (.type "OSError")) true
  bexc : Looks M h (isSubtype (.ref C) (.type "BaseException")) true
  top : Looks M h (isSubtype (.ref C) (.type "object")) true
  call : Looks M h (specialOf (.ref C) "__call__") (some (.builtin "type.__call__"))
  typ : Looks M h (isInstance (.ref C) (.type "type")) true
  init : Looks M h (typeLookup (.ref C) "__init__") (some (.ref fI))
  bind : ∀ self, Looks M h (bindSpecial (.ref fI) self) (.ref fI, [self])
theorem efacts {M : Model} {K : Frag} {h : Heap} {C fI : Addr} (X : K.In h) (EC : ECls K C fI) : EFacts M K h C fI := by
  obtain ⟨od, cd, sl, ho, e1, e2, e3, e4, e5, e6, e7, e8, e9, e10⟩ := EC.obj
  have hc : clsIn K C = some cd := by unfold clsIn; rw [ho]
  have hm : Looks M h (mroOf (.ref C)) cd.mro := (looks_clsIn X hc).andThen .now
  have hsub : ∀ base, cd.mro.contains base = true → Looks M h (isSubtype (.ref C) base) true := fun base hb => looks_mroIn X (by unfold mroIn; rw [hc, Option.bind_some, if_neg (by rw [e4]; decide), hb])
  obtain ⟨c, l, hl⟩ : ∃ c l, cd.mro = c :: l := by cases q : cd.mro with | nil => rw [q] at e4; cases e4 | cons c l => exact ⟨c, l, rfl⟩
  have made : Looks M h (Bind.madeBy (.ref C)) (some "OSError.__new__") := by
    intro A Q E s k q
    unfold Bind.madeBy
    refine wpAny_bind (hm A _ E s k ?_)
    rw [hl, List.forIn_cons]
    refine wpAny_bind (wpAny_bind (wpAny_bind (wpAny_bind (wpAny_loadPart (k _ _ (X _ _ ho)) (wpAny_pure ?_)))))
    dsimp only
    rw [← Array.getElem?_toList, e9]
    exact wpAny_pure (wpAny_pure (wpAny_pure q))
  refine ⟨⟨od, cd, sl, X _ _ ho, e1, e2, e3, e4, hm, e10, hc⟩, made, ?_, hsub _ e5, hsub _ e6, hsub _ e7, hsub _ e8, looks_specialIn X EC.call, looks_instIn X EC.typ, looks_findIn X EC.init, fun self => bind_fn X self EC.fn⟩
  intro A Q E s k q
  unfold Bind.staticBase
  refine wpAny_bind (hm A _ E s k ?_)
  rw [hl, List.forIn_cons]
  exact wpAny_bind (wpAny_bind (wpAny_bind (made A _ E s k (wpAny_pure (wpAny_pure (wpAny_pure q))))))

noncomputable abbrev excObj (C t : Addr) : Obj := { cls := .ref C, data := .fields #[.ref t, .none, .none, .none, .bool false, .none, osUnset, osUnset, osUnset, osUnset, rawInt (-1)] }
noncomputable abbrev tup0 : Obj := { cls := .type "tuple", data := .seq #[] }

section
variable {prog : Program} {w : World} {A : Around} {K : Frag} {C fI : Addr} {R : Result → Shared → Prop} {h : Heap} {g : Array GenState} {d : Drawn} {t : Nat} {os : OsState}
theorem os_reads {M : Model} (Y : EFacts M K h C fI) : Looks M h (osReadsInInit (.ref C)) true := by
  obtain ⟨_, made, base, self, hos, bexc, top, call, typ, init, bind⟩ := Y
  unfold osReadsInInit
  refine init.andThen ?_
  dsimp only
  refine made.andThen ?_
  refine Looks.of_pure ?_
  kernel_rfl

theorem osn_check {rest : List Value} {Q : Unit → Shared → Prop} {E : Value → Shared → Prop} {s : Shared} (made : Looks (model prog w) s.heap (Bind.madeBy (.ref C)) (some "OSError.__new__")) (base : Looks (model prog w) s.heap (Bind.staticBase (.ref C)) (.ref C)) (self : Looks (model prog w) s.heap (isSubtype (.ref C) (.ref C)) true) (os : Looks (model prog w) s.heap (isSubtype (.ref C) (.type "OSError")) true)
    (hC : ∃ od cd sl, s.heap.get? C = some ⟨.type "type", od, .cls cd, sl⟩) (hq : Q () s) : wpAny (model prog w) A (checkBuiltinCall "OSError.__new__" ⟨.ref C :: rest, []⟩) Q E s := by
  obtain ⟨od, cd, sl, hC⟩ := hC
  unfold checkBuiltinCall
  rw [osn_kind, osn_split, osn_row]
  dsimp only
  repeat (first | lk | rw [if_neg (by decide)])
  rw [if_neg (by intro q; rw [Bool.and_eq_true] at q; exact absurd q.2 (by decide))]
  exact wpAny_pure hq
theorem osn_body {rest : List Value} {Q : Fin → Shared → Prop} {E : Value → Shared → Prop} (Y : EFacts (model prog w) K h C fI)
    (hq : Q (.done (.ret (.ref (h.objs.size + 1)))) ⟨(h.push tup0).push (excObj C h.objs.size), g, d, t, os⟩) : wpAny (model prog w) A (Builtin.«OSError.__new__» ⟨.ref C :: rest, []⟩) Q E ⟨h, g, d, t, os⟩ := by
  have reads := os_reads Y
  obtain ⟨_, _, _, hC, _, e2, _, _, _, _, _⟩ := Y.obj
  have made := Y.made
  have base := Y.base
  have self := Y.self
  have hos := Y.os
  have bexc := Y.bexc
  have top := Y.top
  have typ := Y.typ
  have init := Y.init
  unfold Builtin.«OSError.__new__»
  repeat (first | lk | rw [if_neg (by decide)])
  refine nd_load (Heap.get?_push_of_some _ (Heap.get?_push_of_some _ hC)) (nd_pure ?_)
  dsimp only
  refine wpAny_pure ?_
  rw [e2]
  refine wpAny_pure (wpAny_pure ?_)
  show Q _ _
  rw [Heap.size_push]
  exact hq
theorem os_new {rest : List Value} (Y : EFacts (model prog w) K h C fI)
    (hq : R (.ok (.ret (.ref (h.objs.size + 1)))) ⟨(h.push tup0).push (excObj C h.objs.size), g, d, t, os⟩) :
    codeAny (model prog w) A (.call (.builtin "OSError.__new__") ⟨.ref C :: rest, []⟩) R ⟨h, g, d, t, os⟩ := by
  obtain ⟨_, _, _, hC, _⟩ := Y.obj
  exact codeAny_call_builtin_code (Code.quiet_builtin _ (by decide +kernel)) (osn_check Y.made Y.base Y.self Y.os ⟨_, _, _, hC⟩ (codeAny_builtin osn_entry (osn_body Y hq)))

theorem exc_make {rest : List Value} (Y : EFacts (model prog w) K h C fI)
    (hq : codeAny (model prog w) (A.under (.builtin "type.__call__" ⟨.ref C :: rest, []⟩)) (.call (.ref fI) ⟨.ref (h.objs.size + 1) :: rest, []⟩) (InitBack (h.objs.size + 1) R) ⟨(h.push tup0).push (excObj C h.objs.size), g, d, t, os⟩) :
    codeAny (model prog w) A (.call (.ref C) ⟨rest, []⟩) R ⟨h, g, d, t, os⟩ := by
  have Y' := Y
  obtain ⟨_, _, _, hC, _, _, _, e4, _, _, _⟩ := Y.obj
  have made := Y.made
  have base := Y.base
  have self := Y.self
  have hos := Y.os
  have bexc := Y.bexc
  have top := Y.top
  have typ := Y.typ
  have init := Y.init
  refine codeAny_of_tree ?_
  show wpAny _ _ (callAny (.ref C) _) _ _ _
  refine nd_load hC ?_
  show wpAny _ _ (callAny.viaDunder (.ref C) _) _ _ _
  unfold callAny.viaDunder
  refine wpAny_bind (Y.call.at ?_)
  dsimp only
  rw [tc_bind]
  refine wpAny_bind (wpAny_pure (wpAny_bind (wpAny_pure ?_)))
  refine wpAny_pure (a := Fin.again (.call (.builtin "type.__call__") ⟨.ref C :: rest, []⟩)) (And.intro rfl ?_)
  refine codeAny_call_builtin_at (Code.quiet_builtin _ (by decide +kernel)) entry_typeCall (check_slot tc_kind tc_split Y.typ (tc_args _ _ _) ?_)
  unfold Builtin.«type.__call__»
  repeat (first | with_reducible refine wpAny_call ?_ | lk | rw [e4, if_neg (by decide)])
  refine os_new Y' ?_
  have k : ∀ b o, h.get? b = some o → ((h.push tup0).push (excObj C h.objs.size)).get? b = some o := fun b o e => Heap.get?_push_of_some _ (Heap.get?_push_of_some _ e)
  have hx : ((h.push tup0).push (excObj C h.objs.size)).get? (h.objs.size + 1) = some (excObj C h.objs.size) := by heap_get
  have t1 : Looks (model prog w) ((h.push tup0).push (excObj C h.objs.size)) (typeOf (.ref (h.objs.size + 1))) (.ref C) := (Looks.ld hx).andThen .now
  have s1 := Y.self.keeps k
  have i1 := Y.init.keeps k
  have b1 := (Y.bind (.ref (h.objs.size + 1))).keeps k
  unfold isInstance callSpecial? specialOf
  repeat (first | with_reducible refine wpAny_call ?_ | lk)
  refine codeAny_mono hq fun r s' z => ?_
  rcases r with e | (v | _ | _ | _) <;> first | exact z | exact z.elim | skip
  obtain ⟨rfl, z⟩ := z
  exact wpAny_pure (wpAny_pure z)
end
end Mine
namespace Mine
open PySem PySem.W PyProof.Rows PyProof.Rows.LCg PySem.Calls PySem.Spec
open Builtin Builtin.ObjectAttr Builtin.OSError Builtin.Getset_descriptor Builtin.BaseException

section
variable {prog : Program} {w : World} {A : Around} {E : Value → Shared → Prop} {K : Frag} {C fI x : Addr} {ox : Obj} {od : Option Obj} {R : Result → Shared → Prop} {s : Shared}

theorem es_open {name : Str} {tk : Tok} {v : Value} {r : Option Value} (X : K.In s.heap) (EC : ECls K C fI) (I : InstAt s.heap x ox C od) (ht : takerIn K C name = some r)
    (h : ∀ b, wpAny (model prog w) A.in1 (match r with | some a => setByDescriptor a (.ref x) v | none => storeInOwnDict (.ref x) (.ref C) (.str name tk) name v b)
      (fun fin s' => match fin with | .done f => R (.ok f) s' | .again c' => c'.quiet = true ∧ codeAny (model prog w) A c' R s') (fun e s' => R (.error e) s') s) :
    codeAny (model prog w) A (.call (.builtin "object.__setattr__") ⟨[.ref x, .str name tk, v], []⟩) R s := by
  have SF := PySem.F.store_object
  have Y := efacts (M := model prog w) X EC
  obtain ⟨_, _, _, _, _, _, _, _, hm, hrf, _⟩ := Y.obj
  have sub : Looks (model prog w) s.heap (isInstance (.ref x) (.type "object")) true := I.type.andThen Y.top
  refine codeAny_call_builtin SF.slot.plain SF.entry (@check_slot (model prog w) _ _ s "object.__setattr__" "object" "__setattr__" (.ref x) [.str name tk, v] [] _ SF.kind SF.split sub (SF.args (.ref x) (.str name tk) v) ?_)
  obtain ⟨attr, ha, hr⟩ := Option.bind_eq_some_iff.mp ht
  have L3 : Looks (model prog w) s.heap (storeTaker? attr) r := by
    cases attr with
    | none => cases hr; exact .now
    | some a =>
      obtain ⟨b, hb, rfl⟩ := Option.map_eq_some_iff.mp hr
      refine (looks_takesIn X hb).andThen ?_
      cases b <;> exact .now
  rw [osa_eq, refuse_eq]
  refine wpAny_bind (wpAny_bind (I.type.here (wpAny_bind (hm.here ?_))))
  rw [hrf]
  refine wpAny_pure (wpAny_bind (I.type.here (wpAny_bind ((looks_findIn X ha).here (wpAny_bind (L3.here ?_))))))
  exact h _

theorem es_first {name : Str} {tk : Tok} {v : Value} {b : Bool} {Q : Fin → Shared → Prop} (X : K.In s.heap) (EC : ECls K C fI) (ho : s.heap.get? x = some ox) (hcl : ox.cls = .ref C) (hd : ox.dict = none) {vs : Array Value} (hdt : ox.data = .fields vs)
    (h : ∀ h' oD, h'.get? s.heap.objs.size = some oD → NsB oD (fun y => if y = name then some v else none) 1 → h'.get? x = some { ox with dict := some s.heap.objs.size } →
      (∀ c o, c ≠ x → s.heap.get? c = some o → h'.get? c = some o) → Q (.done (.ret .none)) { s with heap := h', toks := s.toks + 1 }) :
    wpAny (model prog w) A (storeInOwnDict (.ref x) (.ref C) (.str name tk) name v b) Q E s := by
  have Y := efacts (M := model prog w) X EC
  obtain ⟨_, _, _, _, _, _, e3, _, _, _, hc⟩ := Y.obj
  obtain ⟨oc, odi, oda, osl⟩ := ox
  dsimp only at hcl hd hdt
  subst hcl hd hdt
  unfold storeInOwnDict
  refine wpAny_bind (wpAny_pure (wpAny_bind ?_))
  show wpAny _ _ (instanceDict x true) _ _ _
  unfold instanceDict
  refine wpAny_bind (wpAny_loadPart ho ?_)
  dsimp only
  refine wpAny_bind ((looks_clsIn X hc).here ?_)
  rw [e3]
  refine wpAny_bind (wpAny_alloc ?_)
  have hx₁ : (s.heap.push { cls := .type "dict", data := .dict #[] }).get? x = some _ := Heap.get?_push_of_some _ ho
  have hxs : x ≠ s.heap.objs.size := Nat.ne_of_lt (Heap.lt_size ho)
  refine wpAny_bind (wpAny_update hx₁ ?_)
  refine wpAny_pure ?_
  dsimp only
  unfold storeInDict newKeyGuard
  have hgd : ((s.heap.push { cls := .type "dict", data := .dict #[] }).update x fun o => { o with dict := some s.heap.objs.size }).get? s.heap.objs.size = some { cls := .type "dict", data := .dict #[] } :=
    (Heap.get?_update_ne _ _ _ _ hxs.symm).trans (Heap.get?_push_at rfl rfl)
  refine wpAny_bind (wpAny_pure (wpAny_bind (nsSet_b hgd (m := fun _ => none) (n := 0) ⟨#[], 0, rfl, fun e he => absurd he (by simp), fun _ => rfl, Nat.le_refl _⟩ fun h' oD hoD hbD _ hs => ?_)))
  obtain ⟨es', ep', d1, d2, d3, d4⟩ := id hbD
  refine wpAny_bind (wpAny_lookBehind hoD (by rw [d1]; exact pastItsLine_dict (by rw [sizeLine_eq]; omega)) ?_)
  refine wpAny_pure (h h' oD hoD hbD ?_ fun c o hc' e => ?_)
  · exact (hs.2 x hxs).trans (Heap.get?_update_self _ hx₁ rfl)
  · exact (hs.2 c (Nat.ne_of_lt (Heap.lt_size e))).trans ((Heap.get?_update_ne _ _ _ _ hc').trans (Heap.get?_push_of_some _ e))

theorem es_next {name : Str} {tk : Tok} {v : Value} {b : Bool} {D : Addr} {oD : Obj} {m : Str → Option Value} {n : Nat} {Q : Fin → Shared → Prop} (X : K.In s.heap) (EC : ECls K C fI) (ho : s.heap.get? x = some ox) (hcl : ox.cls = .ref C) (hd : ox.dict = some D) {vs : Array Value} (hdt : ox.data = .fields vs)
    (hoD : s.heap.get? D = some oD) (hb : NsB oD m n) (hn : n ≤ 1000)
    (h : ∀ h' oD', h'.get? D = some oD' → NsB oD' (fun y => if y = name then some v else m y) (n + 1) → Heap.SameBut D s.heap h' → Q (.done (.ret .none)) { s with heap := h', toks := s.toks + 1 }) :
    wpAny (model prog w) A (storeInOwnDict (.ref x) (.ref C) (.str name tk) name v b) Q E s := by
  have Y := efacts (M := model prog w) X EC
  obtain ⟨_, _, _, _, _, _, e3, _, _, _, hc⟩ := Y.obj
  obtain ⟨oc, odi, oda, osl⟩ := ox
  dsimp only at hcl hd hdt
  subst hcl hd hdt
  unfold storeInOwnDict
  refine wpAny_bind (wpAny_pure (wpAny_bind ?_))
  show wpAny _ _ (instanceDict x true) _ _ _
  unfold instanceDict
  refine wpAny_bind (wpAny_loadPart ho ?_)
  dsimp only
  refine wpAny_bind ((looks_clsIn X hc).here ?_)
  rw [e3]
  refine wpAny_pure ?_
  dsimp only
  unfold storeInDict newKeyGuard
  refine wpAny_bind (wpAny_pure (wpAny_bind (nsSet_b hoD hb fun h' oD' hoD' hbD' _ hs => ?_)))
  obtain ⟨es', ep', d1, d2, d3, d4⟩ := id hbD'
  refine wpAny_bind (wpAny_lookBehind hoD' (by rw [d1]; exact pastItsLine_dict (by rw [sizeLine_eq]; omega)) ?_)
  exact wpAny_pure (h h' oD' hoD' hbD' hs)

theorem gs_set_entry : entryFor table "getset_descriptor.__set__" = some Builtin.«getset_descriptor.__set__» := entryFor_of_tree (by kernel_rfl)
theorem gs_set_args (a b c : Value) : argsOk "getset_descriptor.__set__" ⟨[a, b, c], []⟩ := by unfold argsOk; kernel_rfl
theorem be_args_set_entry : entryFor table "BaseException.args#set" = some Builtin.«BaseException.args#set» := entryFor_of_tree (by kernel_rfl)
theorem owner_bexc_args' : descrOwnerAndName "BaseException.args" = ("BaseException", "args") := by kernel_rfl

theorem es_args {v : Addr} {ov : Obj} {items : Array Value} {nv : Nat} {t0 : Addr} {vs : Array Value} {Q : Fin → Shared → Prop} (X : K.In s.heap) (EC : ECls K C fI) (ho : s.heap.get? x = some ox) (hcl : ox.cls = .ref C) (hdt : ox.data = .fields vs) (h0 : vs[0]? = some (.ref t0))
    (hv : s.heap.get? v = some ov) (hvc : ov.cls = .type "tuple") (hvd : ov.data = .seq items nv)
    (h : Q (.done (.ret .none)) { s with heap := s.heap.update x (Obj.mapFields (·.setIfInBounds 0 (.ref v))) }) :
    wpAny (model prog w) A (setByDescriptor (.builtin "BaseException.args") (.ref x) (.ref v)) Q E s := by
  have Y := efacts (M := model prog w) X EC
  obtain ⟨hh, g, d, tk, os⟩ := s
  have hT5 : (⟨hh, g, d, tk, os⟩ : Shared).TypeIs (.builtin "BaseException.args") "getset_descriptor" := F.typeOf_bexc_args
  have tx : Looks (model prog w) hh (typeOf (.ref x)) (.ref C) := hcl ▸ (Looks.ld ho).andThen .now
  unfold setByDescriptor
  refine wpAny_bind (wpAny_rule (wpAny_bind (wpAny_holding (wpAny_bind (wpAny_bind ((Looks.of_pure F.typeOf_bexc_args).at ((Looks.of_pure F.slot_gs_set.lookup).at (wpAny_holding ?_))))))))
  rw [F.slot_gs_set.bind]
  refine wpAny_bind (wpAny_pure (wpAny_bind (wpAny_call ?_)))
  refine codeAny_call_builtin F.slot_gs_set.plain gs_set_entry (F.slot_gs_set.check _ _ _ _ _ _ _ _ hT5 (gs_set_args _ _ _) ?_)
  have ib : Looks (model prog w) hh (isInstance (.ref x) (.type "BaseException")) true := tx.andThen Y.bexc
  show wpAny _ _ (descrStoreThrough "getset" (.builtin "BaseException.args") (.ref x) (some (.ref v))) _ _ _
  unfold descrStoreThrough descrCheckInstance descrNameAndClass
  dsimp only
  rw [owner_bexc_args']
  dsimp only
  repeat lk
  have es : "BaseException.args" ++ "#set" = "BaseException.args#set" := by decide +kernel
  rw [es]
  have hz : 0 < vs.size := (Array.getElem?_eq_some_iff.mp h0).1
  refine ⟨Code.quiet_builtin _ (by decide +kernel), codeAny_builtin be_args_set_entry ?_⟩
  show wpAny _ _ ((PySem.call (.type "tuple") [.ref v] >>= fun r => bexcPut (.ref x) 0 r >>= fun _ => ret .none : Sem PySem.Fin)) _ _ _
  refine wpAny_bind (call_tuple_same ⟨ov, hv, hvc, nv, hvd⟩ (wpAny_bind ?_))
  unfold bexcPut
  refine wpAny_bind (wpAny_field ho hdt h0 (wpAny_bind (wpAny_setField ho hdt hz ?_)))
  refine wpAny_letGo (wpAny_pure ?_)
  exact wpAny_pure (wpAny_pure h)

theorem set_exc {name : Str} {v : Value} {Q : Unit → Shared → Prop} (X : K.In s.heap) (EC : ECls K C fI) (I : InstAt s.heap x ox C od) {r : Option Value} (ht : takerIn K C name = some r)
    (h : ∀ tk b, wpAny (model prog w) A.in1 (match r with | some a => setByDescriptor a (.ref x) v | none => storeInOwnDict (.ref x) (.ref C) (.str name tk) name v b)
      (fun fin s' => match fin with | .done (.ret _) => Q () s' | _ => False) E { s with toks := s.toks + 1 }) :
    wpAny (model prog w) A (setAttr (.ref x) name v) Q E s :=
  set_plain X I EC.sa (es_open (s := { s with toks := s.toks + 1 }) X EC I ht fun b => wpAny_mono (h _ b) (fun fin s' z => by
    rcases fin with (_ | _ | _ | _) | _ <;> first | exact z | exact z.elim) fun _ _ z => z)
end

section
variable {G : Gr} {cx : Cx} {ρ : AE} {σ : AH} {C fI x : Addr} {EQ : AX → AE → AH → Prop}

theorem GOk.at (g : GOk G) {ex fz h} (S : Sat G cx ex ρ σ fz h) : G.K.In h := fun a o e => S.base _ _ (g.KB a o e)

/-- the store of an attribute: what is stored, into whom -/
theorem x_attr {e : Expr} {self : Str} {ps pp pos : Pos} {name : Str} {Q : AF → AE → AH → Prop} (EC : ECls G.K C fI) (ht : takerIn G.K C name = some none)
    (h : Ev G cx ρ σ e (fun v ρ₁ σ₁ => ρ₁ self = some (.ref x) ∧ ((∃ σ₂, σ₁ = (x, .ins C none) :: σ₂ ∧ ∀ D, Q .next ρ₁ ((D, .ns [(name, v)]) :: (x, .ins C (some D)) :: σ₂)) ∨
      (∃ D es σ₂, σ₁ = (D, .ns es) :: (x, .ins C (some D)) :: σ₂ ∧ es.length ≤ 100 ∧ Q .next ρ₁ ((D, .ns ((name, v) :: es)) :: (x, .ins C (some D)) :: σ₂)))) EQ)
    (hd : (self == ("__debug__" : Str)) = false := by decide) (hc : (self == ("__classdict__" : Str)) = false := by decide) (hw : swapsWith e (some (.Attribute (.Name self ps) name pp)) pos.line cx.env = pure false := by rfl) :
    X1 G cx ρ σ (.Assign [.Attribute (.Name self ps) name pp] e pos) Q EQ := fun ex fz s _ g S _ QQ EE hQ hE => by
  refine plainObj_wpAny_Assign_Attribute (h.run g S .nil (fun v V ρ₁ σ₁ fz₁ h₁ t₁ k₁ S₁ r₁ q₁ => ?_) hE) hw
  obtain ⟨hs, q₁⟩ := q₁
  refine wpAny_Name (loadVar (s := { s with heap := h₁, toks := t₁ }) S₁ hs hc fun V' r' => ?_) hd
  rw [r'.ref_inv]
  have hQ₁ := hQ.on (h₁ := h₁) (t₁ := t₁) k₁
  rcases q₁ with ⟨σ₂, rfl, q₁⟩ | ⟨D, es, σ₂, rfl, hes, q₁⟩
  · obtain ⟨ox, hox, hcl, hdi, vs, hdt, hz, h0, h1⟩ := S₁.live (x, .ins C none) List.mem_cons_self
    have I : InstAt h₁ x ox C none := ⟨hox, hcl, by unfold notCls; rw [hdt], by rw [hdi]; trivial⟩
    refine set_exc (s := { s with heap := h₁, toks := t₁ }) (od := none) (g.at S₁) EC I ht fun tk b => es_first (s := { s with heap := h₁, toks := t₁ + 1 }) (g.at S₁) EC hox hcl hdi hdt fun h₂ oD hoD hbD hx₂ hk => ?_
    have hxm : x ∈ cx.mut ((x, AO.ins C none) :: σ₂) := by unfold Cx.mut; simp
    have hDoff := S₁.size_off (Nat.le_refl h₁.objs.size)
    have hDx : h₁.objs.size ≠ x := Nat.ne_of_gt (Heap.lt_size hox)
    have S₂ : Sat G cx ex ρ₁ ((x, .ins C (some h₁.objs.size)) :: σ₂) fz₁ h₂ := S₁.live_set (σ₁ := []) (fun b o hb e => hk b o hb e) hx₂ ⟨hcl, rfl, vs, hdt, hz, h0, h1⟩
    have hDoff' : Off G cx ex ((x, .ins C (some h₁.objs.size)) :: σ₂) fz₁ h₁.objs.size := ⟨fun q => hDoff.m (by unfold Cx.mut at q ⊢; simpa using q), hDoff.f, hDoff.x, hDoff.b⟩
    have hbs : G.hb.objs.size ≤ h₁.objs.size := Nat.le_trans (S₁.new x hxm).2 (Nat.le_of_lt (Heap.lt_size hox))
    have S₃ := S₂.live_new (ao := .ns [(name, v)]) hoD hDoff' hbs ⟨_, hbD, fun y u e => ?_⟩
    · exact hQ₁ .next .next ρ₁ _ fz₁ h₂ _ (fun _ h => h) S₃ .next (q₁ _)
    · rw [List.lookup_cons] at e
      cases hy : (y == name) with
      | true => rw [hy] at e; cases e; exact ⟨V, if_pos (by simpa using hy), r₁⟩
      | false => rw [hy] at e; cases e
  · obtain ⟨ox, hox, hcl, hdi, vs, hdt, hz, h0, h1⟩ := S₁.live (x, .ins C (some D)) (by simp)
    obtain ⟨oD, hoD, m, hbD, hat⟩ := S₁.live (D, .ns es) List.mem_cons_self
    have I : InstAt h₁ x ox C (some oD) := ⟨hox, hcl, by unfold notCls; rw [hdt], by rw [hdi]; exact hoD⟩
    refine set_exc (s := { s with heap := h₁, toks := t₁ }) (od := some oD) (g.at S₁) EC I ht fun tk b => es_next (s := { s with heap := h₁, toks := t₁ + 1 }) (g.at S₁) EC hox hcl hdi hdt hoD hbD (by omega) fun h₂ oD' hoD' hbD' hk => ?_
    have S₂ : Sat G cx ex ρ₁ ((D, .ns ((name, v) :: es)) :: (x, .ins C (some D)) :: σ₂) fz₁ h₂ := S₁.live_set (σ₁ := []) hk.extBut hoD' ⟨_, hbD', fun y u e => ?_⟩
    · exact hQ₁ .next .next ρ₁ _ fz₁ h₂ _ (fun _ h => h) S₂ .next q₁
    · rw [List.lookup_cons] at e
      cases hy : (y == name) with
      | true => rw [hy] at e; cases e; exact ⟨V, if_pos (by simpa using hy), r₁⟩
      | false =>
        rw [hy] at e
        obtain ⟨W, hW, rW⟩ := hat y u e
        exact ⟨W, (if_neg (by simpa using hy)).trans hW, rW⟩

/-- self.args = (..) -/
theorem x_args {e : Expr} {self : Str} {ps pp pos : Pos} {Q : AF → AE → AH → Prop} {d : Option Addr} (EC : ECls G.K C fI)
    (h : Ev G cx ρ σ e (fun v ρ₁ σ₁ => ρ₁ self = some (.ref x) ∧ (∃ l, v = .tup l) ∧ (∃ d σ₀ σ₂, σ₁ = σ₀ ++ (x, .ins C d) :: σ₂ ∧ (∀ D, d = some D → ∃ es, (D, AO.ns es) ∈ σ₁)) ∧ Q .next ρ₁ σ₁) EQ)
    (hd : (self == ("__debug__" : Str)) = false := by decide) (hc : (self == ("__classdict__" : Str)) = false := by decide) (hw : swapsWith e (some (.Attribute (.Name self ps) "args" pp)) pos.line cx.env = pure false := by rfl) :
    X1 G cx ρ σ (.Assign [.Attribute (.Name self ps) "args" pp] e pos) Q EQ := fun ex fz s _ g S _ QQ EE hQ hE => by
  refine plainObj_wpAny_Assign_Attribute (h.run g S .nil (fun v V ρ₁ σ₁ fz₁ h₁ t₁ k₁ S₁ r₁ q₁ => ?_) hE) hw
  obtain ⟨hs, ⟨l, rfl⟩, ⟨d, σ₀, σ₂, rfl, hD⟩, q₁⟩ := q₁
  refine wpAny_Name (loadVar (s := { s with heap := h₁, toks := t₁ }) S₁ hs hc fun V' r' => ?_) hd
  rw [r'.ref_inv]
  obtain ⟨va, vo, vvs, vn, rfl, vm, vc, vd, vl⟩ := r₁.tup_inv
  obtain ⟨ox, hox, hcl, hdi, vs, hdt, hz, ⟨t0, h0⟩, h1⟩ := S₁.live (x, .ins C d) (by simp)
  obtain ⟨od, I⟩ : ∃ od, InstAt h₁ x ox C od := by
    cases d with
    | none => exact ⟨none, hox, hcl, by unfold notCls; rw [hdt], by rw [hdi]; trivial⟩
    | some D =>
      obtain ⟨es, he⟩ := hD D rfl
      obtain ⟨oD, hoD, _⟩ := S₁.live _ he
      exact ⟨some oD, hox, hcl, by unfold notCls; rw [hdt], by rw [hdi]; exact hoD⟩
  have hQ₁ := hQ.on (h₁ := h₁) (t₁ := t₁) k₁
  refine set_exc (s := { s with heap := h₁, toks := t₁ }) (g.at S₁) EC I EC.args fun tk b => es_args (s := { s with heap := h₁, toks := t₁ + 1 }) (g.at S₁) EC hox hcl hdt h0 (S₁.fzh _ vm) vc vd ?_
  have S₂ : Sat G cx ex ρ₁ (σ₀ ++ (x, .ins C d) :: σ₂) fz₁ _ := S₁.live_set (Heap.SameBut.update h₁ x (Obj.mapFields (·.setIfInBounds 0 (.ref va)))).extBut (Heap.get?_update_self _ hox (Obj.isFreed_of_fields (Obj.data_mapFields hdt _)))
    ⟨(Obj.cls_mapFields ..).trans hcl, (mapFields_dict ..).trans hdi, _, Obj.data_mapFields hdt _, by simp [hz], ⟨va, by simp [hz]⟩, by simp [h1]⟩
  exact hQ₁ .next .next ρ₁ _ fz₁ _ _ (fun _ h => h) S₂ .next q₁
end
end Mine
namespace Mine
open PySem PySem.W PyProof.Rows PyProof.Rows.LCg PySem.Calls PySem.Spec
open Builtin Builtin.ObjectAttr Builtin.OSError Builtin.Getset_descriptor Builtin.BaseException

/-- the same frame, elsewhere on the stack -/
noncomputable def Cx.on (cx : Cx) (A : Around) (d : Nat) (hd : Option Value) : Cx := { cx with A := A, d := d, hd := hd }
section
variable {G : Gr} {cx : Cx} {ρ : AE} {σ : AH} {ex fz : Objs} {h : Heap} {A : Around} {d : Nat} {hd : Option Value}
theorem Sat.on (S : Sat G cx ex ρ σ fz h) (hf : A.frames = cx.A.frames) (h1 : A.depth + d ≤ 900) (h2 : A.units + 20 * d ≤ 9000) (h3 : A.handled = hd) : Sat G (cx.on A d hd) ex ρ σ fz h :=
  ⟨⟨hf.trans S.ok.frames, h1, h2, h3, S.ok.kf, S.ok.fr, S.ok.fs, S.ok.gl, S.ok.cs, S.ok.ca, S.ok.ci⟩, S.clx, S.base, S.stk, S.ownc, S.fzh, S.exh, S.live, S.loc, S.nod, S.new, S.apf, S.apx, S.xf⟩
theorem Sat.off_on (S : Sat G (cx.on A d hd) ex ρ σ fz h) (ok : CxOk cx) : Sat G cx ex ρ σ fz h :=
  ⟨ok, S.clx, S.base, S.stk, S.ownc, S.fzh, S.exh, S.live, S.loc, S.nod, S.new, S.apf, S.apx, S.xf⟩
theorem Off.off_on {a : Addr} (O : Off G (cx.on A d hd) ex σ fz a) : Off G cx ex σ fz a := ⟨O.m, O.f, O.x, O.b⟩
theorem XIs.off_on {e : Addr} {x : AX} (X : XIs G (cx.on A d hd) ex σ fz h e x) : XIs G cx ex σ fz h e x := by
  obtain ⟨O, o, d, od, vs, kvs, h1, h2, h3, h4, h5, h6, h7, h8, ht⟩ := X
  refine ⟨O.off_on, o, d, od, vs, kvs, h1, h2, h3, h4, h5, h6, h7, h8, ht.imp id ?_⟩
  rintro ⟨tb, ot, ts, t1, t2, t3, t4, t5, t6⟩
  exact ⟨tb, ot, ts, t1, t2, t3, t4, t5.off_on, t6⟩
theorem Sat.drop {a : Addr} {ao : AO} (S : Sat G cx ex ρ ((a, ao) :: σ) fz h) : Sat G cx ex ρ σ fz h ∧ Off G cx ex σ fz a := by
  have hm : a ∈ cx.mut ((a, ao) :: σ) := by unfold Cx.mut; simp
  have nd := S.nod
  unfold Cx.mut at nd
  rw [List.map_cons, List.nodup_cons, List.nodup_append, List.nodup_cons] at nd
  refine ⟨S.sub (fun p hp => List.mem_cons_of_mem _ hp) nd.2.2.1.2, fun q => ?_, S.apf a hm, S.apx a hm, (S.new a hm).1⟩
  unfold Cx.mut at q
  rcases List.mem_cons.mp q with q | q
  · exact nd.1 (List.mem_append_right _ (by rw [← q]; exact List.mem_cons_self))
  · rcases List.mem_append.mp q with q | q
    · exact nd.2.2.2 a q a List.mem_cons_self rfl
    · exact nd.2.2.1.1 q
theorem KN.on {names} (K : KN cx names) : KN (cx.on A d hd) names := ⟨K.kd, K.fr, K.own⟩
end

section
variable {G : Gr} {cx : Cx} {ρ : AE} {σ : AH} {C fI : Addr} {EQ : AX → AE → AH → Prop}

/-- a call of an exception class of the text -/
theorem call_exc {args : List AV} {Q : AV → AE → AH → Prop} (EC : ECls G.K C fI) (hd : 1 ≤ cx.d)
    (hi : ∀ x cx', cx'.d + 1 = cx.d → cx'.hd = cx.hd → JVC G cx' ρ ((x, .ins C none) :: σ) (.ref x :: args) fI (fun v ρ' σ' => v = .none ∧ Q (.ref x) ρ' σ') EQ) :
    JV Rel G cx ρ σ args (fun Vs => call (.ref C) Vs) Q EQ := fun ex fz s Vs g S r QQ EE hQ hE => by
  refine wpAny_call ?_
  obtain ⟨hh, gg, dd, tk, os⟩ := s
  have X : G.K.In hh := fun a o e => S.base _ _ (g.KB a o e)
  refine exc_make (efacts X EC) ?_
  have hbs : G.hb.objs.size ≤ hh.objs.size := Nat.le_trans (S.new _ (by unfold Cx.mut; exact List.mem_cons_self)).2 (by
    obtain ⟨o, ho⟩ := S.mut_there (a := cx.env.locals) (by unfold Cx.mut; exact List.mem_cons_self)
    exact Nat.le_of_lt (Heap.lt_size ho))
  have S₁ := S.push tup0
  have hx : ((hh.push tup0).push (excObj C hh.objs.size)).get? (hh.objs.size + 1) = some (excObj C hh.objs.size) := by heap_get
  have ho := S₁.size_off (Nat.le_refl (hh.push tup0).objs.size)
  rw [Heap.size_push] at ho
  have S₂ := (S₁.push (excObj C hh.objs.size)).live_new (ao := .ins C none) hx ho (Nat.le_succ_of_le hbs) ⟨rfl, rfl, _, rfl, rfl, ⟨_, rfl⟩, rfl⟩
  have S₃ := S₂.on (A := cx.A.under (.builtin "type.__call__" ⟨.ref C :: Vs, []⟩)) (d := cx.d - 1) (hd := cx.hd) rfl
    (by have := S.ok.depth; show cx.A.depth + 1 + (cx.d - 1) ≤ 900; omega) (by have := S.ok.units; show cx.A.units + 1 + 20 * (cx.d - 1) ≤ 9000; omega) S.ok.hd
  refine codeAny_mono (hi (hh.objs.size + 1) (cx.on (cx.A.under (.builtin "type.__call__" ⟨.ref C :: Vs, []⟩)) (cx.d - 1) cx.hd) (by show cx.d - 1 + 1 = cx.d; omega) rfl ex fz _ (.ref (hh.objs.size + 1) :: Vs) g S₃ (.cons (.ref _) r)
    (fun v s' => v = .none ∧ QQ (.ref (hh.objs.size + 1)) s') EE (fun v V ρ' σ' fz' h' tk' k S' r' q' => ?_) (fun y e ρ' σ' fz' h' tk' k S' X' q' => ?_)) fun r s' z => ?_
  · obtain ⟨rfl, q'⟩ := q'
    exact ⟨r'.none_inv, hQ _ _ ρ' σ' fz' h' tk' k (S'.off_on S.ok) (.ref _) q'⟩
  · exact hE y e ρ' σ' fz' h' tk' k (S'.off_on S.ok) X'.off_on q'
  · rcases r with e | (v | _ | _ | _) <;> exact z

/-- raising an exception of the text's own -/
theorem x_raise {e : Expr} {pos : Pos} {Q : AF → AE → AH → Prop} (EC : ECls G.K C fI) (hd : cx.hd = none)
    (h : Ev G cx ρ σ e (fun v ρ₁ σ₁ => ∃ x D es σ₂, v = .ref x ∧ σ₁ = (D, .ns es) :: (x, .ins C (some D)) :: σ₂ ∧ EQ ⟨C, es⟩ ρ₁ σ₂) EQ) : X1 G cx ρ σ (.Raise (some e) none pos) Q EQ := fun ex fz s _ g S _ QQ EE hQ hE => by
  have hA : cx.A.handled = none := S.ok.hd.trans hd
  show wpAny _ _ (exec _ _) _ _ _
  rw [arm_exec_Raise]
  refine wpAny_bind (wpAny_standAt ?_)
  show wpAny _ _ (raiseStmt cx.env (some (do let v ← eval e cx.env; standAt pos; pure v)) none) _ _ _
  unfold raiseStmt
  dsimp only
  refine wpAny_bind (wpAny_bind (h.run g S .nil (fun v V ρ₁ σ₁ fz₁ h₁ t₁ k₁ S₁ r₁ q₁ => ?_) hE))
  obtain ⟨x, D, es, σ₂, rfl, rfl, q₁⟩ := q₁
  obtain rfl := r₁.ref_inv
  refine wpAny_bind (wpAny_standAt (wpAny_pure (wpAny_bind (wpAny_pure ?_))))
  obtain ⟨ox, hox, hcl, hdi, vs, hdt, hz, ⟨t0, h0⟩, h1⟩ := S₁.live (x, .ins C (some D)) (by simp)
  have Y := efacts (M := model G.prog G.w) (g.at S₁) EC
  obtain ⟨_, _, _, hC, _, _, _, _, _, _, _⟩ := Y.obj
  have tx : Looks (model G.prog G.w) h₁ (typeOf (.ref x)) (.ref C) := hcl ▸ (Looks.ld hox).andThen .now
  have tC : Looks (model G.prog G.w) h₁ (typeOf (.ref C)) (.type "type") := (Looks.ld hC).andThen .now
  have ib : Looks (model G.prog G.w) h₁ (isInstance (.ref x) (.type "BaseException")) true := tx.andThen Y.bexc
  have nt : Looks (model G.prog G.w) h₁ (isType (.ref x)) false := by
    refine (Looks.ld hox).andThen ?_
    rw [hdt]
    exact .now
  have ne : Looks (model G.prog G.w) h₁ (isExcClass (.ref x)) false := nt.andThen .now
  refine wpAny_bind ?_
  unfold excFromValue
  refine wpAny_holding (wpAny_bind (ne.at ?_))
  rw [if_neg (by decide)]
  refine wpAny_bind (ib.at ?_)
  rw [if_pos rfl]
  refine wpAny_pure ?_
  dsimp only
  refine wpAny_bind (nt.at ?_)
  rw [if_neg (by decide)]
  unfold raisedInstance
  refine wpAny_bind (wpAny_bind (tx.at (wpAny_bind (tC.at ?_))))
  rw [if_pos (by rfl)]
  refine wpAny_pure ?_
  unfold setFlight
  refine wpAny_bind (wpAny_bind (wpAny_field hox hdt h1 ?_))
  rw [if_neg (by decide)]
  refine wpAny_pure ?_
  refine wpAny_raiseNew_none hA ?_
  obtain ⟨oD, hoD, ⟨m, hbD, hat⟩, S₂⟩ := S₁.settle (σ₁ := [])
  obtain ⟨S₃, O₃⟩ := Sat.drop S₂
  exact hE ⟨C, es⟩ x ρ₁ σ₂ ((D, oD) :: fz₁) h₁ t₁ (fun p hp => List.mem_cons_of_mem _ (k₁ p hp)) S₃ ⟨O₃, ox, D, oD, vs, m, hox, hcl, hdi, hdt, by omega, List.mem_cons_self, hbD.obj, hat.mono fun p hp => List.mem_cons_of_mem _ hp, .inl h1⟩ q₁

noncomputable def plainAV : AV → Bool
  | .val _ => false
  | _ => true
theorem handed_plain {fz : Objs} {v : AV} {V : Value} (r : Rel G fz v V) (h : plainAV v = true) : handedIn V = true := by
  cases r <;> first | rfl | (cases h)

theorem bga_kind : builtinKind "BaseException.__getattribute__" = some .slot := by decide +kernel
theorem bga_split : splitId "BaseException.__getattribute__" = some ("BaseException", "__getattribute__") := by decide +kernel
theorem ga_open {M : Model} {A : Around} {x : Addr} {name : Str} {E : Value → Shared → Prop} {s : Shared} {K : Frag} {ox : Obj} {od : Option Obj} {V : Value} {Q : Value → Shared → Prop} {prog : Program} {w : World} (hM : M = model prog w) (X : K.In s.heap) (EC : ECls K C fI) (I : InstAt s.heap x ox C od)
    (hf : findObj K C od name = some (.value V)) (hh : handedIn V = true) (h : Q V { s with toks := s.toks + 1 }) : wpAny M A (getAttr (.ref x) name true) Q E s := by
  subst hM
  obtain ⟨hp, g, d, t, os⟩ := s
  have Y := efacts (M := model prog w) X EC
  have L0 := I.type (M := model prog w)
  have L1 := looks_findIn (M := model prog w) X EC.ga
  have L2 := looks_find (M := model prog w) X I hf
  have L3 := looks_findIn (M := model prog w) X EC.gh
  have ib : Looks (model prog w) hp (isInstance (.ref x) (.type "BaseException")) true := L0.andThen Y.bexc
  unfold getAttr getAttrBy
  refine wpAny_bind (wpAny_mkText (wpAny_holding (wpAny_bind (L0.at (wpAny_bind (L1.at ?_))))))
  show wpAny _ _ (getAttrByItsOwn _ _ _ _ _ _) _ _ _
  unfold getAttrByItsOwn
  have FX := PySem.F.excAttr_ValueError
  refine wpAny_bind (m := hookBefore _) (L3.at (wpAny_bind (wpAny_attempt (wpAny_holding ?_))))
  show wpAny _ _ (boundAndCalled (.builtin "BaseException.__getattribute__") (.ref x) (.str name t)) _ _ _
  unfold boundAndCalled
  rw [FX.ga.bind]
  refine wpAny_bind (wpAny_pure ?_)
  dsimp only
  refine wpAny_call (codeAny_call_builtin FX.ga.plain PySem.F.entry_bexc_ga (@check_slot (model prog w) _ _ ⟨hp, g, d, t + 1, os⟩ "BaseException.__getattribute__" "BaseException" "__getattribute__" (.ref x) [.str name t] [] _ bga_kind bga_split ib (PySem.F.args_bexc_ga (.ref x) (.str name t)) ?_))
  unfold Builtin.«object.__getattribute__»
  repeat lk
  show wpAny _ _ (handedOut V) _ _ _
  rw [handedOut_of hh]
  exact wpAny_pure h

theorem Rel.exc_inv {fz : Objs} {es V} (r : Rel G fz (.exc C es) V) : ∃ (a d : Addr) (o od : Obj) (vs : Array Value) (m : Str → Option Value), V = .ref a ∧ (a, o) ∈ fz ∧ o.cls = .ref C ∧ o.dict = some d ∧ o.data = .fields vs ∧ (d, od) ∈ fz ∧ NsObj od m ∧ AtR G fz es m := by
  cases r with
  | exc h1 h2 h3 h4 h5 h6 h7 h8 => exact ⟨_, _, _, _, _, _, rfl, h1, h2, h3, h4, h5, h6, fun x v e => ⟨_, h7 x v e, h8 x v e⟩⟩

theorem lookIn_of {od : Obj} {m : Str → Option Value} {name : Str} {V : Value} (h : NsObj od m) (e : m name = some V) : lookIn name od = some (some V) := by
  obtain ⟨es, ep, hd, hk, hm⟩ := h
  unfold lookIn
  rw [hd]
  dsimp only
  have := hm name
  rw [e] at this
  unfold nsFind findBy at this
  rw [← Array.find?_toList] at this
  obtain ⟨en, he, hv⟩ := Option.map_eq_some_iff.mp this
  rw [he, ← hv]

/-- reading an attribute of a caught exception -/
theorem ev_attr {n attr : Str} {np pos : Pos} {es : List (Str × AV)} {v : AV} {Q : AV → AE → AH → Prop} (EC : ECls G.K C fI) (hρ : ρ n = some (.exc C es)) (ha : es.lookup attr = some v) (hf : findIn G.K (.ref C) attr = some none) (hp : plainAV v = true) (q : Q v ρ σ)
    (hd : (n == ("__debug__" : Str)) = false := by decide) (hc : (n == ("__classdict__" : Str)) = false := by decide) : Ev G cx ρ σ (.Attribute (.Name n np) attr pos) Q EQ := fun ex fz s _ g S _ QQ EE hQ hE => by
  refine Attribute_name (wpAny_Name (loadVar S hρ hc fun V r => ?_) hd)
  obtain ⟨a, d, o, od, vs, m, rfl, hm, hcl, hdi, hdt, hmd, hns, hat⟩ := r.exc_inv
  obtain ⟨W, hW, rW⟩ := hat attr v ha
  have I : InstAt s.heap a o C (some od) := ⟨S.fzh _ hm, hcl, by unfold notCls; rw [hdt], by rw [hdi]; exact S.fzh _ hmd⟩
  refine ga_open rfl (g.at S) EC I ?_ (handed_plain rW hp) (give hQ S rW q)
  obtain ⟨od', cd, sl, ho, e1, e2, e3, _⟩ := EC.obj
  have hc : clsIn G.K C = some cd := by unfold clsIn; rw [ho]
  unfold findObj
  rw [hc, Option.bind_some, hf, Option.bind_some]
  show (PySem.W.ownOf cd (some od) attr).bind _ = _
  unfold PySem.W.ownOf
  rw [e3, if_pos rfl]
  dsimp only
  rw [lookIn_of hns hW]
  rfl
end
end Mine
namespace Mine
open PySem PySem.W PyProof.Rows PyProof.Rows.LCg PySem.Calls PySem.Spec

noncomputable def del (ρ : AE) (x : Str) : AE := fun y => if y = x then none else ρ y
section
variable {G : Gr} {cx : Cx} {ρ : AE} {σ : AH} {ex fz : Objs} {h : Heap} {s : Shared}

theorem XNo.frozen {e : Addr} {x : AX} {fl : Value} (S : Sat G cx ex ρ σ fz h) (X : XNo G cx ex σ fz h e x fl) : ∃ o, Sat G cx ex ρ σ ((e, o) :: fz) h ∧ Rel G ((e, o) :: fz) (.exc x.c x.at_) (.ref e) := by
  obtain ⟨O, o, d, od, vs, m, h1, h2, h3, h4, h5, h6, h7, h8, _⟩ := X
  have W : ∀ y, ∃ V, ∀ v, x.at_.lookup y = some v → m y = some V ∧ Rel G fz v V := fun y => by
    cases e : x.at_.lookup y with
    | none => exact ⟨.none, fun v q => by cases q⟩
    | some v =>
      obtain ⟨V, a, b⟩ := h8 y v e
      exact ⟨V, fun v' q => by cases q; exact ⟨a, b⟩⟩
  refine ⟨o, S.freeze h1 O.m O.x, .exc (W := fun y => (W y).choose) List.mem_cons_self h2 h3 h4 (List.mem_cons_of_mem _ h6) h7 (fun y v q => ((W y).choose_spec v q).1) fun y v q => ((W y).choose_spec v q).2.mono fun p hp => List.mem_cons_of_mem _ hp⟩

theorem name_goes {A : Around} {E : Value → Shared → Prop} {n : Str} {pos : Pos} {Q : Unit → Shared → Prop} (S : Sat G cx ex ρ σ fz s.heap) (hk : cx.env.kindOf n = some .local)
    (k : ∀ h' tk', Sat G cx ex (del ρ n) σ fz h' → Q () { s with heap := h', toks := tk' }) : wpAny (model G.prog G.w) A (do bindName cx.env n .none; unbindBehindTheSuite cx.env n pos) Q E s := by
  obtain ⟨m, hn, hv⟩ := S.loc
  refine wpAny_nameGoes_keeps hk hn (by rw [S.ok.kf]; rfl) fun h' v hn' hs' => k h' _ ?_
  refine S.set_own (a := cx.env.locals) List.mem_cons_self hs'.extBut ⟨_, hn', fun y u e => ?_⟩ fun c hc => ?_
  · unfold del at e
    by_cases hy : y = n
    · rw [if_pos hy] at e; cases e
    · rw [if_neg hy] at e
      rcases hv y u e with ⟨k1, V', hV, r'⟩ | ⟨k1, c, V', hc, ho, hi, r'⟩ | q
      · exact .inl ⟨k1, V', (if_neg hy).trans hV, r'⟩
      · obtain ⟨o, ho', hd⟩ := hi
        exact .inr (.inl ⟨k1, c, V', hc, ho, ⟨o, hs'.extBut _ _ (S.own_ne ho) ho', hd⟩, r'⟩)
      · exact .inr (.inr q)
  · obtain ⟨v, o, ho, hd⟩ := S.ownc c hc
    exact ⟨v, o, hs'.extBut _ _ (S.own_ne hc) ho, hd⟩
end

section
variable {G : Gr} {cx : Cx} {ρ : AE} {σ : AH} {EQ : AX → AE → AH → Prop}

/-- how a frame stands in a handler -/
noncomputable def Cx.mk' (cx : Cx) (e : Addr) : Cx := cx.on (cx.A.mark (some (.ref e))) cx.d (some (.ref e))

theorem x_try_as {body hbody : List Stmt} {b₀ : Stmt} {n t : Str} {tp hp pos : Pos} {C : Addr} {Q : AF → AE → AH → Prop} {names : List (Str × NameKind)} (K : KN cx names) (hc : cx.comp = false) (hdn : cx.hd = none)
    (ht : names.lookup t = some .globalImplicit) (hg : nsIn G.K mainGlobals t = some (some (.ref C))) (hn : names.lookup n = some .local)
    (h : Xs G cx ρ σ body Q (fun x ρ' σ' => exmOne G.K (.ref x.c) (.ref C) = some true ∧ ∀ e, Xs G (cx.mk' e) (upd ρ' n (.exc x.c x.at_)) σ' (b₀ :: hbody) (fun fl ρ'' σ'' => Q fl (del ρ'' n) σ'') (fun _ _ _ => False)))
    (hd : (t == ("__debug__" : Str)) = false := by decide) :
    X1 G cx ρ σ (.Try body [.ExceptHandler (some (.Name t tp)) (some n) (b₀ :: hbody) hp] [] [] pos) Q EQ := fun ex fz s _ g S _ QQ EE hQ hE => by
  refine wpAny_Try_except (h.run g S .nil (fun fl FL ρ' σ' fz' h' tk' k S' r' q' => ?_) (fun x e ρ' σ' fz' h' tk' k S' X' q' => ?_))
  · cases r' with
    | next => exact wpAny_execs_nil (hQ .next .next ρ' σ' fz' h' tk' k S' .next q')
    | ret rv => exact hQ (.ret _) _ ρ' σ' fz' h' tk' k S' (.ret rv) q'
  obtain ⟨hm, hb⟩ := q'
  have hQ' := hQ.on (h₁ := h') (t₁ := tk') k
  refine note_frame (s := { s with heap := h', toks := tk' }) S'.ok.frames hc S' X' fun h₁ S₁ X₁ => ?_
  refine set_flight (s := { s with heap := h₁, toks := tk' }) none S₁ X₁ fun h₂ S₂ X₂ => ?_
  refine wpAny_handleBy_cons (codeAny_handlers_test ?_) (by intro q; cases q)
  refine Calls.Name_function_global S₂.ok.kf (K.glob ht) (Calls.loadGlobal_global (s := { s with heap := h₂, toks := tk' }) (env := cx.env) (by rw [S₂.ok.gl.1]; exact g.TB.g.keeps S₂.base) (mg_of g.KB g.TB.g hg) ?_) hd
  obtain ⟨O₂, o₂, d₂, od₂, vs₂, m₂, e1, e2, _⟩ := id X₂
  refine (exm_one (g.at S₂) (show Looks (model G.prog G.w) h₂ (typeOf (.ref e)) (.ref x.c) from e2 ▸ (Looks.ld e1).andThen .now) hm).here ?_
  dsimp only
  rw [if_pos rfl]
  refine codeAny_handlers_suite_as ?_
  refine set_flight (s := { s with heap := h₂, toks := tk' }) none S₂ X₂ fun h₃ S₃ X₃ => ?_
  obtain ⟨o₃, S₄, rE⟩ := X₃.frozen S₃
  refine store_var (s := { s with heap := h₃, toks := tk' }) S₄ rE (.inl (K.kd n _ hn (by decide))) fun h₅ tk₅ S₅ => ?_
  have S₆ : Sat G (cx.mk' e) ex (upd ρ' n (.exc x.c x.at_)) σ' ((e, o₃) :: fz') h₅ := S₅.on rfl S₅.ok.depth S₅.ok.units (by
    show (some (Value.ref e)).or cx.A.handled = _
    rw [S₅.ok.hd, hdn]; rfl)
  refine (hb e).run (s := { s with heap := h₅, toks := tk₅ }) g S₆ .nil (fun fl FL ρ₇ σ₇ fz₇ h₇ tk₇ k₇ S₇ r₇ q₇ => ?_) (fun _ _ _ _ _ _ _ _ _ _ q => q.elim)
  have S₈ := S₇.off_on S.ok
  refine name_goes (s := { s with heap := h₇, toks := tk₇ }) S₈ (K.kd n _ hn (by decide)) fun h₉ tk₉ S₉ => ?_
  exact hQ' fl FL _ σ₇ fz₇ h₉ tk₉ (fun p hp => k₇ p (List.mem_cons_of_mem _ hp)) S₉ r₇ q₇

/-- a clause for all -/
theorem x_try_bare {body hbody : List Stmt} {b₀ : Stmt} {hp pos : Pos} {Q : AF → AE → AH → Prop} (hc : cx.comp = false) (hdn : cx.hd = none)
    (h : Xs G cx ρ σ body Q (fun x ρ' σ' => ∀ e, Xs G (cx.mk' e) ρ' σ' (b₀ :: hbody) Q (fun _ _ _ => False))) :
    X1 G cx ρ σ (.Try body [.ExceptHandler none none (b₀ :: hbody) hp] [] [] pos) Q EQ := fun ex fz s _ g S _ QQ EE hQ hE => by
  refine wpAny_Try_except (h.run g S .nil (fun fl FL ρ' σ' fz' h' tk' k S' r' q' => ?_) (fun x e ρ' σ' fz' h' tk' k S' X' hb => ?_))
  · cases r' with
    | next => exact wpAny_execs_nil (hQ .next .next ρ' σ' fz' h' tk' k S' .next q')
    | ret rv => exact hQ (.ret _) _ ρ' σ' fz' h' tk' k S' (.ret rv) q'
  have hQ' := hQ.on (h₁ := h') (t₁ := tk') k
  refine note_frame (s := { s with heap := h', toks := tk' }) S'.ok.frames hc S' X' fun h₁ S₁ X₁ => ?_
  refine set_flight (s := { s with heap := h₁, toks := tk' }) none S₁ X₁ fun h₂ S₂ X₂ => ?_
  refine handleBy_bare (by intro q; cases q) ?_
  refine set_flight (s := { s with heap := h₂, toks := tk' }) none S₂ X₂ fun h₃ S₃ X₃ => ?_
  have S₆ : Sat G (cx.mk' e) ex ρ' σ' fz' h₃ := S₃.on rfl S₃.ok.depth S₃.ok.units (by
    show (some (Value.ref e)).or cx.A.handled = _
    rw [S₃.ok.hd, hdn]; rfl)
  refine (hb e).run (s := { s with heap := h₃, toks := tk' }) g S₆ .nil (fun fl FL ρ₇ σ₇ fz₇ h₇ tk₇ k₇ S₇ r₇ q₇ => ?_) (fun _ _ _ _ _ _ _ _ _ _ q => q.elim)
  exact hQ' fl FL _ σ₇ fz₇ h₇ tk₇ k₇ (S₇.off_on S.ok) r₇ q₇
end
end Mine
namespace Mine
open PySem PySem.W PyProof.Rows PyProof.Rows.LCg PySem.Calls PySem.Spec

section
variable {G : Gr} {cx : Cx} {ρ : AE} {σ : AH} {EQ : AX → AE → AH → Prop}

/-! arguments -/
noncomputable abbrev Args (G : Gr) (cx : Cx) (ρ : AE) (σ : AH) (pos : Pos) (elts : List Expr) (Q : List AV → AE → AH → Prop) (EQ : AX → AE → AH → Prop) : Prop := JV (fun G fz => RelL G fz) G cx ρ σ [] (fun _ => spliced (backTo pos (starEach elts cx.env))) Q EQ
theorem as_nil {pos : Pos} {Q : List AV → AE → AH → Prop} (q : Q [] ρ σ) : Args G cx ρ σ pos [] Q EQ := fun _ _ _ _ _ S _ _ _ hQ _ => Calls.spliced_nil (give hQ S .nil q)
theorem as_cons {pos : Pos} {e : Expr} {rest : List Expr} {Q : List AV → AE → AH → Prop} (h : Ev G cx ρ σ e (fun v ρ₁ σ₁ => Args G cx ρ₁ σ₁ pos rest (fun vs ρ₂ σ₂ => Q (v :: vs) ρ₂ σ₂) EQ) EQ) (he : starEach (e :: rest) cx.env = (false, eval e cx.env) :: starEach rest cx.env := by rfl) : Args G cx ρ σ pos (e :: rest) Q EQ :=
  fun _ _ _ _ g S _ _ _ hQ hE => spliced_more (h.run g S .nil (fun _ _ _ _ _ _ _ k₁ S₁ r₁ q₁ => q₁.run g S₁ .nil (fun vs Vs _ _ _ _ _ k₂ S₂ r₂ q₂ => (hQ.on k₁) _ _ _ _ _ _ _ k₂ S₂ (.cons (r₁.mono k₂) r₂) q₂) (hE.on k₁)) hE) he
theorem as_one {pos : Pos} {e : Expr} {Q : List AV → AE → AH → Prop} (h : Ev G cx ρ σ e (fun v ρ₁ σ₁ => Q [v] ρ₁ σ₁) EQ) (he : starEach [e] cx.env = (false, eval e cx.env) :: starEach [] cx.env := by rfl) : Args G cx ρ σ pos [e] Q EQ :=
  as_cons (h.mono (fun _ _ _ q => as_nil q) fun _ _ _ q => q) he

/-! displays -/
theorem big_le {h : Heap} {ex fz : Objs} (S : Sat G cx ex ρ σ fz h) : G.hb.objs.size ≤ h.objs.size := by
  obtain ⟨o, ho⟩ := S.mut_there (a := cx.env.locals) (by unfold Cx.mut; exact List.mem_cons_self)
  exact Nat.le_trans (S.new _ (by unfold Cx.mut; exact List.mem_cons_self)).2 (Nat.le_of_lt (Heap.lt_size ho))
theorem ev_tuple {elts : List Expr} {k : Nat} {pos : Pos} {Q : AV → AE → AH → Prop} (h : Args G cx ρ σ pos elts (fun vs ρ' σ' => vs.length ≤ 1000 ∧ Q (.tup vs) ρ' σ') EQ) : Ev G cx ρ σ (.Tuple elts k pos) Q EQ :=
  fun ex fz s _ g S _ QQ EE hQ hE => Tuple_ (h.run g S .nil (fun vs Vs ρ₁ σ₁ fz₁ h₁ t₁ k₁ S₁ r₁ q₁ => wpAny_newTuple (hQ _ _ ρ₁ σ₁ _ _ t₁ (fun p hp => List.mem_cons_of_mem _ (k₁ p hp)) (S₁.alloc { cls := .type "tuple", data := .seq Vs.toArray })
    (.tup List.mem_cons_self rfl rfl (r₁.mono fun p hp => List.mem_cons_of_mem _ hp)) q₁.2) (by rw [RelL.length r₁, sizeLine_eq]; have := q₁.1; omega)) hE)
theorem ev_list {elts : List Expr} {pos : Pos} {Q : AV → AE → AH → Prop} (h : Args G cx ρ σ pos elts (fun vs ρ' σ' => vs.length ≤ 1000 ∧ Q (.lst vs) ρ' σ') EQ) : Ev G cx ρ σ (.List elts pos) Q EQ :=
  fun ex fz s _ g S _ QQ EE hQ hE => List_ (h.run g S .nil (fun vs Vs ρ₁ σ₁ fz₁ h₁ t₁ k₁ S₁ r₁ q₁ => wpAny_newList (hQ _ _ ρ₁ σ₁ _ _ t₁ (fun p hp => List.mem_cons_of_mem _ (k₁ p hp)) (S₁.alloc { cls := .type "list", data := .seq Vs.toArray })
    (.lst List.mem_cons_self rfl rfl (r₁.mono fun p hp => List.mem_cons_of_mem _ hp)) q₁.2) (by rw [RelL.length r₁, sizeLine_eq]; have := q₁.1; omega)) hE)
theorem ev_list_live {elts : List Expr} {pos : Pos} {Q : AV → AE → AH → Prop} (h : Args G cx ρ σ pos elts (fun vs ρ' σ' => vs.length ≤ 1000 ∧ ∀ a, Q (.ref a) ρ' ((a, .lst vs) :: σ')) EQ) : Ev G cx ρ σ (.List elts pos) Q EQ :=
  fun ex fz s _ g S _ QQ EE hQ hE => List_ (h.run g S .nil (fun vs Vs ρ₁ σ₁ fz₁ h₁ t₁ k₁ S₁ r₁ q₁ => wpAny_newList (hQ (.ref _) _ ρ₁ _ fz₁ _ t₁ k₁
    ((S₁.push { cls := .type "list", data := .seq Vs.toArray }).live_new (ao := .lst vs) (Heap.get?_push_size _ rfl) (S₁.size_off (Nat.le_refl _)) (big_le S₁) ⟨_, _, rfl, r₁⟩)
    (.ref _) (q₁.2 _)) (by rw [RelL.length r₁, sizeLine_eq]; have := q₁.1; omega)) hE)
theorem ev_dict0 {pos : Pos} {Q : AV → AE → AH → Prop} (q : ∀ a, Q (.ref a) ρ ((a, .dct []) :: σ)) : Ev G cx ρ σ (.Dict [] [] pos) Q EQ :=
  fun ex fz s _ g S _ QQ EE hQ hE => wpAny_Dict_empty (hQ (.ref _) _ ρ _ fz _ s.toks (fun _ h => h)
    ((S.push { cls := .type "dict", data := .dict #[] }).live_new (ao := .dct []) (Heap.get?_push_size _ rfl) (S.size_off (Nat.le_refl _)) (big_le S) ⟨[], dict_new, .nil⟩) (.ref _) (q _))

/-! calls -/
theorem ev_call {x : Str} {p pos : Pos} {e : Expr} {rest : List Expr} {Q : AV → AE → AH → Prop} {f : Addr} {oc : Value} {od : Option Addr} {osl : Array (Option Value)} {fd : FuncData}
    (hf : Ev G cx ρ σ (.Name x p) (fun v ρ₁ σ₁ => v = .val (.ref f) ∧ Args G cx ρ₁ σ₁ pos (e :: rest) (fun vs ρ₂ σ₂ => JV Rel G cx ρ₂ σ₂ vs (fun Vs => call (.ref f) Vs) Q EQ) EQ) EQ)
    (hK : G.K.lookup f = some ⟨oc, od, .func fd, osl⟩) (he : starEach (e :: rest) cx.env = (false, eval e cx.env) :: starEach rest cx.env := by rfl) : Ev G cx ρ σ (.Call (.Name x p) (e :: rest) [] pos) Q EQ :=
  fun ex fz s _ g S _ QQ EE hQ hE => Call_Name rfl (hf.run g S .nil (fun v V ρ₁ σ₁ fz₁ h₁ t₁ k₁ S₁ r₁ q₁ => by
    obtain ⟨rfl, q₁⟩ := q₁
    obtain rfl := r₁.val_inv
    refine callWith_meth (h₀ := G.hb) rfl (g.KB _ _ hK) (q₁.run g S₁ .nil (fun vs Vs ρ₂ σ₂ fz₂ h₂ t₂ k₂ S₂ r₂ q₂ => ⟨S₂.base, q₂.run g S₂ r₂ ((hQ.on k₁).on k₂) ((hE.on k₁).on k₂)⟩) (hE.on k₁)) he) hE)

theorem callWith_ecls {K : Frag} {C fI : Addr} {prog : Program} {w : World} {A : Around} {E : Value → Shared → Prop} {s : Shared} {env : Env} {pos : Pos} {e : Expr} {rest : List Expr} {Q : Value → Shared → Prop} (EC : ECls K C fI)
    (h : wpAny (model prog w) A (spliced (backTo pos (starEach (e :: rest) env))) (fun vs s₁ => K.In s₁.heap ∧ wpAny (model prog w) A (call (.ref C) vs) Q E s₁) E s)
    (he : starEach (e :: rest) env = (false, eval e env) :: starEach rest env := by rfl)
    (hplain : (backTo pos (starEach rest env)).any (·.1) = false := by rfl) :
    wpAny (model prog w) A (callWith pos (.ref C) [] (backTo pos (starEach (e :: rest) env)) []) Q E s := by
  rw [he] at h ⊢
  have hst : ((backTo pos ((false, eval e env) :: starEach rest env)).any (fun x => x.fst) || ([] : List (Option Str × Sem Value)).any fun x => x.fst.isNone) = false := by
    show ((false || (backTo pos (starEach rest env)).any (·.1)) || false) = false
    rw [hplain]; rfl
  unfold callWith
  refine wpAny_bind (wpAny_holding (Calls.evalArgs_plain (wpAny_mono h (fun vs s₁ h₁ => ?_) fun _ _ x => x)))
  obtain ⟨⟨od, cd, sl, hC, _⟩, _, _, _, _, _, _, call, _⟩ := efacts (M := model prog w) h₁.1 EC
  refine wpAny_bind (wpAny_standAt ?_)
  show wpAny _ _ (keeperOf (.ref C) >>= _) _ _ _
  unfold keeperOf
  refine wpAny_bind (wpAny_bind (wpAny_load hC ?_))
  dsimp only
  refine wpAny_bind (call.here ?_)
  rw [if_pos (by rfl)]
  refine wpAny_pure ?_
  rw [hst]
  exact wpAny_bind (wpAny_mono h₁.2 (fun r s' hr => wpAny_bind (wpAny_holding (wpAny_point (wpAny_pure hr)))) fun _ _ x => x)

theorem ev_callexc {x : Str} {p pos : Pos} {e : Expr} {rest : List Expr} {Q : AV → AE → AH → Prop} {C fI : Addr} (EC : ECls G.K C fI)
    (hf : Ev G cx ρ σ (.Name x p) (fun v ρ₁ σ₁ => v = .val (.ref C) ∧ Args G cx ρ₁ σ₁ pos (e :: rest) (fun vs ρ₂ σ₂ => JV Rel G cx ρ₂ σ₂ vs (fun Vs => call (.ref C) Vs) Q EQ) EQ) EQ)
    (he : starEach (e :: rest) cx.env = (false, eval e cx.env) :: starEach rest cx.env := by rfl) (hplain : (backTo pos (starEach rest cx.env)).any (·.1) = false := by rfl) : Ev G cx ρ σ (.Call (.Name x p) (e :: rest) [] pos) Q EQ :=
  fun ex fz s _ g S _ QQ EE hQ hE => Call_Name rfl (hf.run g S .nil (fun v V ρ₁ σ₁ fz₁ h₁ t₁ k₁ S₁ r₁ q₁ => by
    obtain ⟨rfl, q₁⟩ := q₁
    obtain rfl := r₁.val_inv
    refine callWith_ecls EC (q₁.run g S₁ .nil (fun vs Vs ρ₂ σ₂ fz₂ h₂ t₂ k₂ S₂ r₂ q₂ => ⟨g.at S₂, q₂.run g S₂ r₂ ((hQ.on k₁).on k₂) ((hE.on k₁).on k₂)⟩) (hE.on k₁)) he hplain) hE)

/-- of a builtin function or type, with one argument or more -/
theorem ev_callb {x : Str} {p pos : Pos} {e : Expr} {rest : List Expr} {Q : AV → AE → AH → Prop} {id : String}
    (hf : Ev G cx ρ σ (.Name x p) (fun v ρ₁ σ₁ => v = .val (.builtin id) ∧ Args G cx ρ₁ σ₁ pos (e :: rest) (fun vs ρ₂ σ₂ => JV Rel G cx ρ₂ σ₂ vs (fun Vs => call (.builtin id) Vs) Q EQ) EQ) EQ)
    (he : starEach (e :: rest) cx.env = (false, eval e cx.env) :: starEach rest cx.env := by rfl) (hplain : (backTo pos (starEach rest cx.env)).any (·.1) = false := by rfl) : Ev G cx ρ σ (.Call (.Name x p) (e :: rest) [] pos) Q EQ :=
  fun ex fz s _ g S _ QQ EE hQ hE => Call_Name rfl (hf.run g S .nil (fun v V ρ₁ σ₁ fz₁ h₁ t₁ k₁ S₁ r₁ q₁ => by
    obtain ⟨rfl, q₁⟩ := q₁
    obtain rfl := r₁.val_inv
    have := q₁.run (s := { s with heap := h₁, toks := t₁ }) g S₁ .nil (QQ := fun Vs s' => wpAny (model G.prog G.w) cx.A (call (.builtin id) Vs) QQ EE s') (fun vs Vs ρ₂ σ₂ fz₂ h₂ t₂ k₂ S₂ r₂ q₂ => q₂.run g S₂ r₂ ((hQ.on k₁).on k₂) ((hE.on k₁).on k₂)) (hE.on k₁)
    exact callWith_method1 (first := []) this he hplain) hE)
theorem ev_callt {x : Str} {p pos : Pos} {e : Expr} {rest : List Expr} {Q : AV → AE → AH → Prop} {T : String}
    (hf : Ev G cx ρ σ (.Name x p) (fun v ρ₁ σ₁ => v = .val (.type T) ∧ Args G cx ρ₁ σ₁ pos (e :: rest) (fun vs ρ₂ σ₂ => JV Rel G cx ρ₂ σ₂ vs (fun Vs => call (.type T) Vs) Q EQ) EQ) EQ)
    (he : starEach (e :: rest) cx.env = (false, eval e cx.env) :: starEach rest cx.env := by rfl) (hplain : (backTo pos (starEach rest cx.env)).any (·.1) = false := by rfl) : Ev G cx ρ σ (.Call (.Name x p) (e :: rest) [] pos) Q EQ :=
  fun ex fz s _ g S _ QQ EE hQ hE => Call_Name rfl (hf.run g S .nil (fun v V ρ₁ σ₁ fz₁ h₁ t₁ k₁ S₁ r₁ q₁ => by
    obtain ⟨rfl, q₁⟩ := q₁
    obtain rfl := r₁.val_inv
    exact PyProof.Rows.callWith_type1 (q₁.run g S₁ .nil (fun vs Vs ρ₂ σ₂ fz₂ h₂ t₂ k₂ S₂ r₂ q₂ => q₂.run g S₂ r₂ ((hQ.on k₁).on k₂) ((hE.on k₁).on k₂)) (hE.on k₁)) he hplain) hE)

/-! items -/
theorem RelE.value {fz : Objs} {es : List (Str × AV)} {kvs : List (Str × Value)} {k : Str} (r : RelE G fz es kvs) : (∀ v, es.lookup k = some v → ∃ V, valueAt kvs k = some V ∧ Rel G fz v V) ∧ (es.lookup k = none → valueAt kvs k = none) := by
  match r with
  | .nil => exact ⟨(fun v e => nomatch e), fun _ => rfl⟩
  | .cons (k := k') h r =>
    have ih := RelE.value (k := k) r
    unfold valueAt at ih ⊢
    simp only [List.lookup_cons, List.find?_cons]
    by_cases hk : k' = k
    · subst hk
      simp only [beq_self_eq_true, decide_true]
      exact ⟨(fun v e => by cases e; exact ⟨_, rfl, h⟩), (fun e => by cases e)⟩
    · have h1 : (k == k') = false := by simpa using fun q : k = k' => hk q.symm
      simp only [h1, hk, decide_false]
      exact ih

variable {Q : AV → AE → AH → Prop} {value slice : Expr}
theorem it_lst {l : List AV} {i : Int} {v : AV} (h0 : 0 ≤ i) (h1 : l[i.toNat]? = some v) (hb : i < 2 ^ 62) (q : Q v ρ σ) (hs : ∀ o i, subscripted slice false o i = operate [o, i] (getItem o i) := by intro _ _; rfl) : JV Rel G cx ρ σ [.lst l, .int i] (two (subscriptTail value slice)) Q EQ := fun ex fz s _ g S r QQ EE hQ hE => by
  obtain ⟨_, _, rfl, r1, r2⟩ := r.two_inv
  obtain ⟨a, o, vs, n, rfl, hm, hc, hdt, hl⟩ := r1.lst_inv
  obtain ⟨t, rfl⟩ := r2.int_inv
  obtain ⟨V, hV, rV⟩ := hl.get h1
  have hL : s.heap.IsList a vs := ⟨o, S.fzh _ hm, hc, n, hdt⟩
  exact sub_of hL.typeIs slot_list_getitem.lookup (wpAny_getItem_list hL h0 (by omega) (by rw [← Array.getElem?_toList]; exact hV) (give hQ S rV q (tk := s.toks))) (hs _ _)
theorem it_tup {l : List AV} {i : Nat} {v : AV} (h1 : l[i]? = some v) (hb : (i : Int) < 2 ^ 62) (q : Q v ρ σ) (hs : ∀ o i, subscripted slice false o i = operate [o, i] (getItem o i) := by intro _ _; rfl) : JV Rel G cx ρ σ [.tup l, .int i] (two (subscriptTail value slice)) Q EQ := fun ex fz s _ g S r QQ EE hQ hE => by
  obtain ⟨_, _, rfl, r1, r2⟩ := r.two_inv
  obtain ⟨a, o, vs, n, rfl, hm, hc, hdt, hl⟩ := r1.tup_inv
  obtain ⟨t, rfl⟩ := r2.int_inv
  obtain ⟨V, hV, rV⟩ := hl.get h1
  have hL : IsTup s.heap a vs := ⟨o, S.fzh _ hm, hc, n, hdt⟩
  rw [Array.getElem?_toList] at hV
  have hlt : i < vs.size := (Array.getElem?_eq_some_iff.mp hV).1
  have hj : seqIndex? (i : Int) vs.size = some i := by
    unfold seqIndex?
    simp only [show ¬ ((i : Int) < 0) by omega, if_false]
    rw [if_pos (by simp; omega)]
    rfl
  exact sub_of hL.typeIs slot_tuple_getitem.lookup (getItem_tuple hL (by omega) (by omega) hj hV (give hQ S rV q (tk := s.toks))) (hs _ _)
theorem it_str {x : Str} {i : Nat} {c : Nat} (h1 : x.cps[i]? = some c) (hb : (i : Int) < 2 ^ 62) (q : Q (.str ⟨#[c]⟩) ρ σ) (hs : ∀ o i, subscripted slice false o i = operate [o, i] (getItem o i) := by intro _ _; rfl) : JV Rel G cx ρ σ [.str x, .int i] (two (subscriptTail value slice)) Q EQ := fun ex fz s _ g S r QQ EE hQ hE => by
  obtain ⟨_, _, rfl, r1, r2⟩ := r.two_inv
  obtain ⟨u, rfl⟩ := r1.str_inv
  obtain ⟨t, rfl⟩ := r2.int_inv
  have hlt : i < x.cps.size := (Array.getElem?_eq_some_iff.mp h1).1
  have hj : seqIndex? (i : Int) x.length = some i := by
    unfold seqIndex?
    simp only [show ¬ ((i : Int) < 0) by omega, if_false]
    rw [if_pos (by simp; exact hlt)]
    rfl
  exact sub_of (typeIs_str _ _ _) PySem.F.slot_str_getitem.lookup (P.getItem_str (by simp; omega) (by rw [hj]; exact h1) (give hQ S (.str _ _) q)) (hs _ _)
theorem it_dct {es : List (Str × AV)} {k : Str} {v : AV} (h1 : es.lookup k = some v) (q : Q v ρ σ) (hs : ∀ o i, subscripted slice false o i = operate [o, i] (getItem o i) := by intro _ _; rfl) : JV Rel G cx ρ σ [.dct es, .str k] (two (subscriptTail value slice)) Q EQ := fun ex fz s _ g S r QQ EE hQ hE => by
  obtain ⟨_, _, rfl, r1, r2⟩ := r.two_inv
  obtain ⟨a, o, kvs, rfl, hm, hsys, hd, hl⟩ := r1.dct_inv
  obtain ⟨t, rfl⟩ := r2.str_inv
  obtain ⟨V, hV, rV⟩ := hl.value.1 v h1
  have hD : s.heap.DictOf (PySem.strKind G.prog G.w) a kvs := Heap.dictOf_iff.mpr ⟨o, S.fzh _ hm, hd⟩
  have hT : s.TypeIs (.ref a) "dict" := ⟨o, S.fzh _ hm, by obtain ⟨_, _, h, _⟩ := hd; exact h.1⟩
  exact sub_of hT F.slot_dict_getitem.lookup (wpAny_getItem_of (isStr_refl k t) hD.mapOf hV (give hQ S rV q)) (hs _ _)
theorem it_ldct {a : Addr} {σ₁ σ₂ : AH} {es : List (Str × AV)} {k : Str} {v : AV} (hσ : σ = σ₁ ++ (a, .dct es) :: σ₂) (h1 : es.lookup k = some v) (q : Q v ρ σ) (hs : ∀ o i, subscripted slice false o i = operate [o, i] (getItem o i) := by intro _ _; rfl) : JV Rel G cx ρ σ [.ref a, .str k] (two (subscriptTail value slice)) Q EQ := fun ex fz s _ g S r QQ EE hQ hE => by
  obtain ⟨_, _, rfl, r1, r2⟩ := r.two_inv
  obtain rfl := r1.ref_inv
  obtain ⟨t, rfl⟩ := r2.str_inv
  obtain ⟨o, ho, kvs, hd, hl⟩ := S.live (a, .dct es) (by rw [hσ]; simp)
  obtain ⟨V, hV, rV⟩ := hl.value.1 v h1
  have hD : s.heap.DictOf (PySem.strKind G.prog G.w) a kvs := Heap.dictOf_iff.mpr ⟨o, ho, hd⟩
  have hT : s.TypeIs (.ref a) "dict" := ⟨o, ho, by obtain ⟨_, _, h, _⟩ := hd; exact h.1⟩
  exact sub_of hT F.slot_dict_getitem.lookup (wpAny_getItem_of (isStr_refl k t) hD.mapOf hV (give hQ S rV q)) (hs _ _)
theorem it_llst {a : Addr} {σ₁ σ₂ : AH} {l : List AV} {i : Int} {v : AV} (hσ : σ = σ₁ ++ (a, .lst l) :: σ₂) (h0 : 0 ≤ i) (h1 : l[i.toNat]? = some v) (hb : i < 2 ^ 62) (q : Q v ρ σ) (hs : ∀ o i, subscripted slice false o i = operate [o, i] (getItem o i) := by intro _ _; rfl) : JV Rel G cx ρ σ [.ref a, .int i] (two (subscriptTail value slice)) Q EQ := fun ex fz s _ g S r QQ EE hQ hE => by
  obtain ⟨_, _, rfl, r1, r2⟩ := r.two_inv
  obtain rfl := r1.ref_inv
  obtain ⟨t, rfl⟩ := r2.int_inv
  obtain ⟨o, ho, vs, n, rfl, hl⟩ := S.live (a, .lst l) (by rw [hσ]; simp)
  obtain ⟨V, hV, rV⟩ := hl.get h1
  have hL : s.heap.IsList a vs := ⟨_, ho, rfl, n, rfl⟩
  exact sub_of hL.typeIs slot_list_getitem.lookup (wpAny_getItem_list hL h0 (by omega) (by rw [← Array.getElem?_toList]; exact hV) (give hQ S rV q (tk := s.toks))) (hs _ _)

/-! membership -/
theorem op_in_dct {es : List (Str × AV)} {k : Str} (q : Q (.bool (es.lookup k).isSome) ρ σ) : JV Rel G cx ρ σ [.str k, .dct es] (two (compareOp .In)) Q EQ := fun ex fz s _ g S r QQ EE hQ hE => by
  obtain ⟨_, _, rfl, r1, r2⟩ := r.two_inv
  obtain ⟨t, rfl⟩ := r1.str_inv
  obtain ⟨a, o, kvs, rfl, hm, hsys, hd, hl⟩ := r2.dct_inv
  have hD : s.heap.DictOf (PySem.strKind G.prog G.w) a kvs := Heap.dictOf_iff.mpr ⟨o, S.fzh _ hm, hd⟩
  refine wpAny_in_of (isStr_refl k t) hsys hD.mapOf (give hQ S ?_ q)
  have h2 := hl.value (k := k)
  cases e : es.lookup k with
  | none => rw [h2.2 e]; exact .bool _
  | some v => obtain ⟨V, hV, _⟩ := h2.1 v e; rw [hV]; exact .bool _
end
end Mine
namespace Mine
open PySem PySem.W PyProof.Rows PyProof.Rows.LCg PySem.Calls PySem.Spec

section
variable {G : Gr} {cx : Cx} {ρ : AE} {σ : AH} {ex fz : Objs} {h : Heap}

/-- the state in the kit's own words -/
theorem Sat.news (S : Sat G cx ex ρ σ fz h) : ∃ m news, Fr G.hb cx.env.locals h m ∧ News G.hb cx.env.locals h news ∧ (∀ p ∈ fz, p.1 ∉ (cx.env.locals :: []) → G.hb.get? p.1 = none → p ∈ news) ∧ ((∀ q ∈ news, q.1 < h.objs.size) ∧ ∀ D, (∀ q ∈ news, q.1 < D) → D ≠ cx.env.locals → G.hb.get? D = none → Off G cx ex σ fz D) ∧
    ∀ h', Fr G.hb cx.env.locals h' m → News G.hb cx.env.locals h' news → Sat G cx ex ρ σ fz h' := by
  obtain ⟨m, hn, hv⟩ := S.loc
  have hL : cx.env.locals ∈ cx.mut σ := by unfold Cx.mut; exact List.mem_cons_self
  let as : List Addr := (cx.stk.map (·.1.locals) ++ cx.own ++ σ.map (·.1)) ++ (keys fz ++ keys ex)
  let news : Objs := as.filterMap fun a => if G.hb.get? a = none ∧ a ≠ cx.env.locals then (h.get? a).map fun o => (a, o) else none
  have nin : ∀ a o, a ∈ as → G.hb.get? a = none → a ≠ cx.env.locals → h.get? a = some o → (a, o) ∈ news := fun a o ha hb hne ho =>
    List.mem_filterMap.mpr ⟨a, ha, by rw [if_pos ⟨hb, hne⟩, ho]; rfl⟩
  have nout : ∀ p ∈ news, G.hb.get? p.1 = none ∧ p.1 ≠ cx.env.locals ∧ h.get? p.1 = some p.2 := fun p hp => by
    obtain ⟨a, ha, he⟩ := List.mem_filterMap.mp hp
    split at he
    · rename_i hc
      obtain ⟨o, ho, rfl⟩ := Option.map_eq_some_iff.mp he
      exact ⟨hc.1, hc.2, ho⟩
    · cases he
  have fzne : ∀ p ∈ fz, p.1 ≠ cx.env.locals := fun p hp q => S.apf _ hL (q ▸ List.mem_map_of_mem hp)
  have exne : ∀ p ∈ ex, p.1 ≠ cx.env.locals := fun p hp q => S.apx _ hL (q ▸ List.mem_map_of_mem hp)
  refine ⟨m, news, ⟨hn, S.base, (S.new _ hL).2⟩, fun p hp => ⟨(nout p hp).2.2, (nout p hp).2.1, (nout p hp).1⟩, fun p hp _ hb => nin p.1 p.2 (by show p.1 ∈ as; simp only [as, List.mem_append]; exact .inr (.inl (List.mem_map_of_mem hp))) hb (fzne p hp) (S.fzh p hp), ⟨fun q hq => Heap.lt_size (nout q hq).2.2, fun D hD hne hb => ?_⟩, fun h' F' N' => ?_⟩
  · have key : ∀ o, D ∈ as → h.get? D = some o → False := fun o ha ho => absurd (hD _ (nin D o ha hb hne ho)) (Nat.lt_irrefl _)
    refine ⟨fun q => ?_, fun q => ?_, fun q => ?_, hb⟩
    · obtain ⟨o, ho⟩ := S.mut_there q
      refine key o ?_ ho
      unfold Cx.mut at q
      rcases List.mem_cons.mp q with q | q
      · exact absurd q hne
      · simp only [as, List.mem_append] at q ⊢; exact .inl q
    · obtain ⟨p, hp, rfl⟩ := List.mem_map.mp q
      exact key _ (by simp only [as, List.mem_append]; exact .inr (.inl q)) (S.fzh p hp)
    · obtain ⟨p, hp, rfl⟩ := List.mem_map.mp q
      exact key _ (by simp only [as, List.mem_append]; exact .inr (.inr q)) (S.exh p hp)
  have kp : ∀ a o, a ∈ as → a ≠ cx.env.locals → h.get? a = some o → h'.get? a = some o := fun a o ha hne ho => by
    cases hb : G.hb.get? a with
    | none => exact (N' (a, o) (nin a o ha hb hne ho)).1
    | some o' =>
      have := S.base a o' hb
      rw [ho] at this; cases this
      exact F'.keep a o hb
  have nd := S.nod
  unfold Cx.mut at nd
  rw [List.nodup_cons] at nd
  have mne : ∀ a ∈ cx.stk.map (·.1.locals) ++ cx.own ++ σ.map (·.1), a ∈ as ∧ a ≠ cx.env.locals := fun a ha => ⟨by simp only [as, List.mem_append] at ha ⊢; exact .inl ha, fun q => nd.1 (q ▸ ha)⟩
  have kcell : ∀ c ∈ cx.own, ∀ v, h.IsCell c v → h'.IsCell c v := fun c hc v ⟨o, ho, hd⟩ => by
    have := mne c (by simp [hc])
    exact ⟨o, kp c o this.1 this.2 ho, hd⟩
  refine ⟨S.ok, S.clx, F'.keep, fun p hp => ?_, fun c hc => ?_, fun p hp => kp _ _ (by simp only [as, List.mem_append]; exact .inr (.inl (List.mem_map_of_mem hp))) (fzne p hp) (S.fzh p hp),
    fun p hp => kp _ _ (by simp only [as, List.mem_append]; exact .inr (.inr (List.mem_map_of_mem hp))) (exne p hp) (S.exh p hp), fun p hp => ?_, ⟨m, F'.ns, fun x v e => (hv x v e).keep kcell⟩, S.nod, S.new, S.apf, S.apx, S.xf⟩
  · obtain ⟨o, es, ep, ho, r⟩ := S.stk p hp
    have := mne p.1.locals (by simp only [List.mem_append, List.mem_map]; exact .inl (.inl ⟨p, hp, rfl⟩))
    exact ⟨o, es, ep, kp _ o this.1 this.2 ho, r⟩
  · obtain ⟨v, hv⟩ := S.ownc c hc
    exact ⟨v, kcell c hc v hv⟩
  · obtain ⟨o, ho, r⟩ := S.live p hp
    have := mne p.1 (by simp only [List.mem_append, List.mem_map]; exact .inr ⟨p, hp, rfl⟩)
    exact ⟨o, kp _ o this.1 this.2 ho, r⟩
end

section
variable {G : Gr} {cx : Cx} {ρ : AE} {σ : AH} {EQ : AX → AE → AH → Prop}

/-! tests -/
theorem ts_and {x y : Expr} {pos : Pos} {Q : Bool → AE → AH → Prop} (h : Ts G cx ρ σ x (fun b ρ' σ' => if b = true then Ts G cx ρ' σ' y Q EQ else Q false ρ' σ') EQ) : Ts G cx ρ σ (.BoolOp .And [x, y] pos) Q EQ :=
  fun ex fz s _ g S _ QQ EE hQ hE => isTrue_and (h.run g S .nil (fun b a ρ₁ σ₁ fz₁ h₁ t₁ k₁ S₁ r₁ q₁ => by
    cases r₁
    cases b with
    | true =>
      simp only [if_true] at q₁ ⊢
      refine isTrue_and (JV.run q₁ g S₁ .nil (fun b' a' ρ₂ σ₂ fz₂ h₂ t₂ k₂ S₂ r₂ q₂ => ?_) (hE.on k₁))
      cases r₂
      cases b' with
      | true => simp only [if_true]; exact isTrue_and_nil ((hQ.on k₁) true true ρ₂ σ₂ fz₂ h₂ t₂ k₂ S₂ rfl q₂)
      | false => simp only [Bool.false_eq_true, if_false]; exact (hQ.on k₁) false false ρ₂ σ₂ fz₂ h₂ t₂ k₂ S₂ rfl q₂
    | false =>
      simp only [Bool.false_eq_true, if_false] at q₁ ⊢
      exact hQ false false ρ₁ σ₁ fz₁ h₁ t₁ k₁ S₁ rfl q₁) hE)
end
end Mine
namespace Mine
open PySem PySem.W PyProof.Rows PyProof.Rows.LCg PySem.Calls PySem.Spec

section
variable {G : Gr} {cx : Cx} {ρ : AE} {σ : AH} {ex fz : Objs} {EQ : AX → AE → AH → Prop}

theorem Sat.made {h h' : Heap} {a : Addr} {o : Obj} (S : Sat G cx ex ρ σ fz h) (S' : Sat G cx ex ρ σ fz h') (ha : h.objs.size ≤ a) (ho : h'.get? a = some o) : Sat G cx ex ρ σ ((a, o) :: fz) h' :=
  S'.freeze ho (S.size_off ha).m (S.size_off ha).x
theorem RelL.ints {ns : List Int} {vs : List Value} (r : RelL G fz (ns.map .int) vs) : IntsAre vs ns := by
  induction ns generalizing vs with
  | nil => cases r; exact .nil
  | cons n ns ih =>
    cases r with
    | cons h r => obtain ⟨t, rfl⟩ := h.int_inv; exact .cons n t (ih r)
theorem RelL.of_ints {ns : List Int} {vs : List Value} (h : IntsAre vs ns) : RelL G fz (ns.map .int) vs := by
  induction h with
  | nil => exact .nil
  | cons n t _ ih => exact .cons (.int _ _) ih
theorem RelL.strs {ns : List Str} {vs : List Value} (r : RelL G fz (ns.map .str) vs) : StrsAre vs ns := by
  induction ns generalizing vs with
  | nil => cases r; exact .nil
  | cons n ns ih =>
    cases r with
    | cons h r => obtain ⟨t, rfl⟩ := h.str_inv; exact .cons n t (ih r)
theorem RelL.of_strs {ns : List Str} {vs : List Value} (h : StrsAre vs ns) : RelL G fz (ns.map .str) vs := by
  induction h with
  | nil => exact .nil
  | cons n t _ ih => exact .cons (.str _ _) ih

/-! and, or, if in an expression -/
theorem ev_if {x y t : Expr} {pos : Pos} {Q : AV → AE → AH → Prop} (h : Ts G cx ρ σ t (fun b ρ' σ' => if b = true then Ev G cx ρ' σ' x Q EQ else Ev G cx ρ' σ' y Q EQ) EQ) : Ev G cx ρ σ (.IfExp t x y pos) Q EQ :=
  fun ex fz s _ g S _ QQ EE hQ hE => IfExp_ (h.run g S .nil (fun b a ρ₁ σ₁ fz₁ h₁ t₁ k₁ S₁ r₁ q₁ => by
    cases r₁
    cases b with
    | true => simp only [if_true] at q₁ ⊢; exact JV.run q₁ g S₁ .nil (hQ.on k₁) (hE.on k₁)
    | false => simp only [Bool.false_eq_true, if_false] at q₁ ⊢; exact JV.run q₁ g S₁ .nil (hQ.on k₁) (hE.on k₁)) hE)

variable {Q : AV → AE → AH → Prop}
/-! len, sum, min, max, range, dict -/
theorem op_len_lst {l : List AV} (hl : l.length < 2 ^ 62) (q : Q (.int l.length) ρ σ) : JV Rel G cx ρ σ [.lst l] (fun Vs => call (.builtin "len") Vs) Q EQ := fun ex fz s _ g S r QQ EE hQ hE => by
  obtain ⟨_, rfl, r1⟩ := r.one_inv
  obtain ⟨a, o, vs, n, rfl, hm, hc, hdt, rl⟩ := r1.lst_inv
  have e : vs.size = l.length := by rw [← rl.length, Array.length_toList]
  refine len_list (items := vs) ⟨o, S.fzh _ hm, hc, n, hdt⟩ (by rw [e]; omega) ?_
  rw [e]
  exact give hQ S (.int _ _) q
theorem op_len_str {x : Str} (hl : x.length < 2 ^ 62) (q : Q (.int x.length) ρ σ) : JV Rel G cx ρ σ [.str x] (fun Vs => call (.builtin "len") Vs) Q EQ := fun ex fz s _ g S r QQ EE hQ hE => by
  obtain ⟨_, rfl, r1⟩ := r.one_inv
  obtain ⟨t, rfl⟩ := r1.str_inv
  exact P.len_str (by omega) (give hQ S (.int _ _) q)
theorem op_sum {l : List Int} (hd : cx.hd = none) (q : Q (.int l.sum) ρ σ) : JV Rel G cx ρ σ [.lst (l.map .int)] (fun Vs => call (.builtin "sum") Vs) Q EQ := fun ex fz s _ g S r QQ EE hQ hE => by
  obtain ⟨_, rfl, r1⟩ := r.one_inv
  obtain ⟨a, o, vs, n, rfl, hm, hc, hdt, rl⟩ := r1.lst_inv
  obtain ⟨m, news, F, N, _, _, back⟩ := S.news
  refine LSm.sum_ints F N (S.ok.hd.trans hd) (vs := vs.toList) (by rw [Array.toArray_toList]; exact ⟨o, S.fzh _ hm, hc, n, hdt⟩) rl.ints fun h' tk t' F' N' => ?_
  exact hQ _ _ ρ σ fz h' tk (fun _ h => h) (back h' F' N') (.int _ _) q
theorem op_range {n : Int} (q : Q (.rng 0 n) ρ σ) : JV Rel G cx ρ σ [.int n] (fun Vs => call (.type "range") Vs) Q EQ := fun ex fz s _ g S r QQ EE hQ hE => by
  obtain ⟨_, rfl, r1⟩ := r.one_inv
  obtain ⟨t, rfl⟩ := r1.int_inv
  exact call_range_1 (hQ _ _ ρ σ _ _ _ (fun p hp => List.mem_cons_of_mem _ hp) (S.alloc _) (.rng List.mem_cons_self) q)
/-! sums of sequences -/
theorem op_addtup {l k : List AV} (hl : l.length + k.length ≤ 1000) (h0 : l ≠ []) (h1 : k ≠ []) (q : Q (.tup (l ++ k)) ρ σ) : JV Rel G cx ρ σ [.tup l, .tup k] (two (binaryOp .Add)) Q EQ := fun ex fz s _ g S r QQ EE hQ hE => by
  obtain ⟨_, _, rfl, r1, r2⟩ := r.two_inv
  obtain ⟨a, o, vs, n, rfl, hm, hc, hdt, rl⟩ := r1.tup_inv
  obtain ⟨a', o', vs', n', rfl, hm', hc', hdt', rl'⟩ := r2.tup_inv
  obtain ⟨m, news, F, N, _, _, back⟩ := S.news
  have e1 := rl.length
  have e2 := rl'.length
  refine add_tuples F N (vs := vs.toList) (ws := vs'.toList) (by rw [Array.toArray_toList]; exact ⟨o, S.fzh _ hm, hc, n, hdt⟩) (by rw [Array.toArray_toList]; exact ⟨o', S.fzh _ hm', hc', n', hdt'⟩) (fun q => ?_) (fun _ q => ?_) (fun _ _ h' F' N' => ?_) (by rw [e1, e2, sizeLine_eq]; omega)
  · rw [q] at e1; exact absurd (List.length_eq_zero_iff.mp e1.symm) h0
  · rw [q] at e2; exact absurd (List.length_eq_zero_iff.mp e2.symm) h1
  · have S' := back h' F' fun p hp => N' p (List.mem_cons_of_mem _ hp)
    exact hQ _ _ ρ σ _ h' s.toks (fun p hp => List.mem_cons_of_mem _ hp) (S.made S' (Nat.le_refl _) (N' _ List.mem_cons_self).1) (.tup List.mem_cons_self rfl rfl ((rl.append rl').mono fun p hp => List.mem_cons_of_mem _ hp)) q
theorem op_fdiv {a b : Int} (hb : b ≠ 0) (hs : b.natAbs < 1073741824) (q : Q (.int (a.fdiv b)) ρ σ) : JV Rel G cx ρ σ [.int a, .int b] (two (binaryOp .FloorDiv)) Q EQ := fun ex fz s _ g S r QQ EE hQ hE => by
  obtain ⟨_, _, rfl, r1, r2⟩ := r.two_inv
  obtain ⟨t, rfl⟩ := r1.int_inv
  obtain ⟨u, rfl⟩ := r2.int_inv
  exact floordiv_int hb (give hQ S (.int _ _) q) (.inl (PyProof.noPylong_small hs))
/-! methods -/
theorem meth_shape {o e : Expr} {name : Str} {apos pos : Pos} {env : Env} (hb : attributeBase o name env (eval o env) = eval o env) (hp : (apos.endLine == pos.line) = true) (he : starEach [e] env = (false, eval e env) :: starEach [] env) :
    ∃ pl, eval (.Call (.Attribute o name apos) [e] [] pos) env = (do
      let ov ← eval o env
      standAt apos.atName
      let (f, first) ← holding [ov] (getMethod ov name pl)
      callWith pos f first (backTo pos (starEach [e] env)) []) := by
  refine ⟨(do return (← importBound o env).getD true), ?_⟩
  show (do
    let ov ← attributeBase o name env (eval o env)
    standAt apos.atName
    methodCall o name apos pos env ov 1 (backTo pos (starEach [e] env)) []) = _
  rw [hb]
  have hf : methodCallForm 1 (backTo pos (starEach [e] env)) [] = true := by rw [he]; rfl
  unfold methodCall
  rw [hf]
  unfold methodCallPos calleeOf
  simp only [hp, Bool.not_true, Bool.false_or, if_true, pure_bind]
theorem ev_meth {o : Expr} {name : Str} {apos pos : Pos} {e : Expr} {rest : List Expr} {id : String} (hty : typeOf (.builtin id) = pure (.type "method_descriptor"))
    (h : Ev G cx ρ σ o (fun v ρ₁ σ₁ => (∀ ex₁ fz₁ (s₁ : Shared) V, Sat G cx ex₁ ρ₁ σ₁ fz₁ s₁.heap → Rel G fz₁ v V → ∃ T, s₁.TypeIs V T ∧ PlainAttrs T ∧ Slot T name id ∧ (∀ a, V = .ref a → ∃ o, s₁.heap.get? a = some o ∧ o.dict = none)) ∧
      Args G cx ρ₁ σ₁ pos (e :: rest) (fun vs ρ₂ σ₂ => JV Rel G cx ρ₂ σ₂ (v :: vs) (fun Vs => call (.builtin id) Vs) Q EQ) EQ) EQ)
    (he : starEach (e :: rest) cx.env = (false, eval e cx.env) :: starEach rest cx.env := by rfl) (hplain : (backTo pos (starEach rest cx.env)).any (·.1) = false := by rfl)
    (hm : ∃ pl, eval (.Call (.Attribute o name apos) (e :: rest) [] pos) cx.env = (do
      let ov ← eval o cx.env
      standAt apos.atName
      let (f, first) ← holding [ov] (getMethod ov name pl)
      callWith pos f first (backTo pos (starEach (e :: rest) cx.env)) [])) : Ev G cx ρ σ (.Call (.Attribute o name apos) (e :: rest) [] pos) Q EQ := fun ex fz s _ g S _ QQ EE hQ hE => by
  obtain ⟨pl, hm⟩ := hm
  refine MethodCall_ (h.run g S .nil (fun v V ρ₁ σ₁ fz₁ h₁ t₁ k₁ S₁ r₁ q₁ => ?_) hE) hm
  obtain ⟨T, hT, pa, slot, hd⟩ := q₁.1 ex fz₁ { s with heap := h₁, toks := t₁ } V S₁ r₁
  refine getMethod_builtin hT pa slot hty hd ?_
  have := q₁.2.run (s := { s with heap := h₁, toks := t₁ }) g S₁ .nil (QQ := fun Vs s' => wpAny (model G.prog G.w) cx.A (call (.builtin id) (V :: Vs)) QQ EE s') (fun vs Vs ρ₂ σ₂ fz₂ h₂ t₂ k₂ S₂ r₂ q₂ => q₂.run g S₂ (.cons (r₁.mono k₂) r₂) ((hQ.on k₁).on k₂) ((hE.on k₁).on k₂)) (hE.on k₁)
  exact callWith_method1 this he hplain
end
end Mine
namespace Mine
open PySem PySem.W PyProof.Rows PyProof.Rows.LCg PySem.Calls PySem.Spec

theorem strValues_of {vs : List Value} {ss : List Str} (h : StrsAre vs ss) : ∃ l : List (Str × Tok), vs = strValues l ∧ l.map (·.1) = ss := by
  induction h with
  | nil => exact ⟨[], rfl, rfl⟩
  | cons y t _ ih => obtain ⟨l, e1, e2⟩ := ih; exact ⟨(y, t) :: l, by rw [e1]; rfl, by rw [← e2]; rfl⟩

section
variable {prog : Program} {w : World} {A : Around} {E : Value → Shared → Prop} {s : Shared}
theorem setItem_at {l : Addr} {items : Array Value} {n : Nat} {k : Int} {t : Tok} {v : Value} {Q : Unit → Shared → Prop} (ho : s.heap.get? l = some { cls := .type "list", data := .seq items n })
    (h0 : 0 ≤ k) (hfit : k < 2 ^ 63) (hn : k < items.size)
    (hQ : ∀ h' n', h'.get? l = some { cls := .type "list", data := .seq (items.setIfInBounds k.toNat v) n' } → Heap.SameBut l s.heap h' → Q () { s with heap := h' }) :
    wpAny (model prog w) A (setItem (.ref l) (.int k t) v) Q E s := by
  have hl : s.heap.IsList l items := ⟨_, ho, rfl, n, rfl⟩
  unfold setItem
  try with_reducible refine wpAny_holding ?_
  first | refine wpAny_bind (wpAny_pure ?_) | skip
  refine wpAny_bind (wpAny_sequenceKey hl.typeIs (by decide) ?_)
  refine wpAny_bind (wpAny_callSpecial?_slot (name := Str.ofString "__setitem__") hl.typeIs slot_list_setitem
    (wpAny_call_entry slot_list_setitem hl.typeIs entry_list_setitem ?_ (args_list_setitem _ _ _)))
  show wpAny _ _ (Builtin.List.listSubscript? (.int k t) >>= _) _ _ s
  refine wpAny_bind (wpAny_listSubscript_int (fitsIndex_of h0 hfit) ?_)
  clear hfit
  obtain ⟨j, rfl⟩ := Int.eq_ofNat_of_zero_le h0
  have hj : j < items.size := by omega
  have hx' : items[j]? = some items[j] := Array.getElem?_eq_getElem hj
  show wpAny _ _ ((seqItemAt l j >>= fun r => pure (r.map (j, ·))) >>= _) _ _ s
  refine wpAny_bind (wpAny_bind (wpAny_seqItemAt ho rfl (wpAny_pure ?_)))
  rw [hx']
  show wpAny _ _ (setSeqItemAt l j v >>= _) _ _ s
  have hfin : (s.heap.update l (Obj.mapSeq (·.setIfInBounds j v))).get? l = some { cls := .type "list", data := .seq (items.setIfInBounds j v) (if (items.setIfInBounds j v).size == items.size then n else n + 1) } :=
    Heap.get?_update_self _ ho rfl
  refine wpAny_bind (wpAny_setSeqItemAt ho rfl ?_)
  first
    | exact wpAny_bind (wpAny_pure (wpAny_pure ⟨.none, rfl, wpAny_pure (hQ _ _ hfin (Heap.SameBut.update ..))⟩))
    | exact wpAny_pure ⟨.none, rfl, wpAny_pure (hQ _ _ hfin (Heap.SameBut.update ..))⟩
end

theorem RelL.set {G : Gr} {fz : Objs} {v V} (hv : Rel G fz v V) {l vs} (h : RelL G fz l vs) : ∀ i : Nat, RelL G fz (l.set i v) (vs.set i V) :=
  RelL.ind (P := fun l vs => ∀ i : Nat, RelL G fz (l.set i v) (vs.set i V)) (fun _ => .nil) (fun h r ih i => by
    cases i with
    | zero => exact .cons hv r
    | succ i => exact .cons h (ih i)) h

section
variable {G : Gr} {cx : Cx} {ρ : AE} {σ : AH} {ex fz : Objs} {EQ : AX → AE → AH → Prop} {Q : AV → AE → AH → Prop}

theorem op_join {x : Str} {l : List Str} (hok : JoinOk x l = true) (q : Q (.str (Txt.join x l)) ρ σ) : JV Rel G cx ρ σ [.str x, .lst (l.map .str)] (fun Vs => call (.builtin "str.join") Vs) Q EQ := fun ex fz s _ g S r QQ EE hQ hE => by
  obtain ⟨_, _, rfl, r1, r2⟩ := r.two_inv
  obtain ⟨t, rfl⟩ := r1.str_inv
  obtain ⟨a, o, vs, n, rfl, hm, hc, hdt, rl⟩ := r2.lst_inv
  obtain ⟨L, e1, e2⟩ := strValues_of rl.strs
  exact SC.join (l := L) (by rw [← e1, Array.toArray_toList]; exact ⟨o, S.fzh _ hm, hc, n, hdt⟩) e2 hok fun t' k => give hQ S (.str _ _) q
theorem op_index {x y : Str} {i : Nat} {rest : List Nat} (ho : Builtin.Str.occurrences x y 0 x.length 1 = i :: rest) (q : Q (.int i) ρ σ) : JV Rel G cx ρ σ [.str x, .str y] (fun Vs => call (.builtin "str.index") Vs) Q EQ := fun ex fz s _ g S r QQ EE hQ hE => by
  obtain ⟨_, _, rfl, r1, r2⟩ := r.two_inv
  obtain ⟨t, rfl⟩ := r1.str_inv
  obtain ⟨u, rfl⟩ := r2.str_inv
  exact SC.index ho (give hQ S (.int _ _) q)
theorem op_append {a : Addr} {σ₁ σ₂ : AH} {l : List AV} {v : AV} (hσ : σ = σ₁ ++ (a, .lst l) :: σ₂) (hl : l.length ≤ 1000) (q : Q .none ρ (σ₁ ++ (a, .lst (l ++ [v])) :: σ₂)) : JV Rel G cx ρ σ [.ref a, v] (fun Vs => call (.builtin "list.append") Vs) Q EQ := fun ex fz s _ g S r QQ EE hQ hE => by
  subst hσ
  obtain ⟨_, V, rfl, r1, r2⟩ := r.two_inv
  obtain rfl := r1.ref_inv
  obtain ⟨o, ho, vs, n, rfl, rl⟩ := S.live (a, .lst l) (by simp)
  have e := rl.length
  rw [Array.length_toList] at e
  refine append_at ho (fun h' hs' ho' => ?_) (by rw [e, sizeLine_eq]; omega)
  exact hQ _ _ ρ _ fz h' s.toks (fun _ h => h) (S.live_set (ao' := .lst (l ++ [v])) hs'.extBut ho' ⟨_, _, rfl, by rw [Array.toList_push]; exact rl.append (.one r2)⟩) .none q

/-! stores under a key -/
theorem st_dct {a : Addr} {σ₁ σ₂ : AH} {es : List (Str × AV)} {v : AV} {k : Str} {Q : Unit → AE → AH → Prop} (hσ : σ = σ₁ ++ (a, .dct es) :: σ₂) (hl : es.length ≤ 1000) (q : Q () ρ (σ₁ ++ (a, .dct (put es k v)) :: σ₂)) : JV RU G cx ρ σ [v, .ref a, .str k] storeItem Q EQ := fun ex fz s _ g S r QQ EE hQ hE => by
  subst hσ
  obtain ⟨V, _, _, rfl, r0, r1, r2⟩ := r.three_inv
  obtain rfl := r1.ref_inv
  obtain ⟨t, rfl⟩ := r2.str_inv
  obtain ⟨o, ho, kvs, hd, rl⟩ := S.live (a, .dct es) (by simp)
  refine wpAny_setItem_pairs (isStr_refl k t) (Heap.dictOf_iff.mpr ⟨o, ho, hd⟩) (fun h' hd' hs' => ?_) (by rw [rl.length, sizeLine_eq]; omega)
  obtain ⟨o', ho', hdo'⟩ := Heap.dictOf_iff.mp hd'
  exact hQ () () ρ _ fz h' _ (fun _ h => h) (S.live_set (ao' := .dct (put es k v)) hs'.extBut ho' ⟨_, hdo', rl.put r0⟩) trivial q
theorem st_lst {a : Addr} {σ₁ σ₂ : AH} {l : List AV} {v : AV} {i : Int} {Q : Unit → AE → AH → Prop} (hσ : σ = σ₁ ++ (a, .lst l) :: σ₂) (h0 : 0 ≤ i) (h1 : i < l.length) (hl : l.length ≤ 1000) (q : Q () ρ (σ₁ ++ (a, .lst (l.set i.toNat v)) :: σ₂)) : JV RU G cx ρ σ [v, .ref a, .int i] storeItem Q EQ := fun ex fz s _ g S r QQ EE hQ hE => by
  subst hσ
  obtain ⟨V, _, _, rfl, r0, r1, r2⟩ := r.three_inv
  obtain rfl := r1.ref_inv
  obtain ⟨t, rfl⟩ := r2.int_inv
  obtain ⟨o, ho, vs, n, rfl, rl⟩ := S.live (a, .lst l) (by simp)
  have e := rl.length
  rw [Array.length_toList] at e
  refine setItem_at ho h0 (by omega) (by rw [e]; exact h1) fun h' n' ho' hs' => ?_
  exact hQ () () ρ _ fz h' _ (fun _ h => h) (S.live_set (ao' := .lst (l.set i.toNat v)) hs'.extBut ho' ⟨_, _, rfl, by rw [Array.toList_setIfInBounds]; exact rl.set r0 _⟩) trivial q

/-! method calls, each kind -/
theorem ev_join {x : Str} {k : Nat} {cp apos pos : Pos} {e : Expr} (h : Ev G cx ρ σ e (fun v ρ₁ σ₁ => ∃ l : List Str, v = .lst (l.map .str) ∧ JoinOk x l = true ∧ Q (.str (Txt.join x l)) ρ₁ σ₁) EQ)
    (he : starEach [e] cx.env = (false, eval e cx.env) :: starEach [] cx.env := by rfl) (hp : (apos.endLine == pos.line) = true := by rfl) : Ev G cx ρ σ (.Call (.Attribute (.Constant (.str x) k cp) "join" apos) [e] [] pos) Q EQ := by
  refine ev_meth (id := "str.join") PySem.F.type_str_join (ev_str ⟨fun ex₁ fz₁ s₁ V S₁ r => ?_, as_one (h.mono (fun v ρ₁ σ₁ q => ?_) fun _ _ _ q => q) he⟩) he rfl (meth_shape rfl hp he)
  · obtain ⟨t, rfl⟩ := r.str_inv
    exact ⟨"str", typeIs_str _ _ _, PySem.F.plainAttrs_str, PySem.F.slot_str_join, fun a e => by cases e⟩
  · obtain ⟨l, rfl, hok, q⟩ := q
    exact op_join hok q
theorem ev_index {x : Str} {k : Nat} {cp apos pos : Pos} {e : Expr} (h : Ev G cx ρ σ e (fun v ρ₁ σ₁ => ∃ (y : Str) (i : Nat) (rest : List Nat), v = .str y ∧ Builtin.Str.occurrences x y 0 x.length 1 = i :: rest ∧ Q (.int i) ρ₁ σ₁) EQ)
    (he : starEach [e] cx.env = (false, eval e cx.env) :: starEach [] cx.env := by rfl) (hp : (apos.endLine == pos.line) = true := by rfl) : Ev G cx ρ σ (.Call (.Attribute (.Constant (.str x) k cp) "index" apos) [e] [] pos) Q EQ := by
  refine ev_meth (id := "str.index") PySem.F.type_str_index (ev_str ⟨fun ex₁ fz₁ s₁ V S₁ r => ?_, as_one (h.mono (fun v ρ₁ σ₁ q => ?_) fun _ _ _ q => q) he⟩) he rfl (meth_shape rfl hp he)
  · obtain ⟨t, rfl⟩ := r.str_inv
    exact ⟨"str", typeIs_str _ _ _, PySem.F.plainAttrs_str, PySem.F.slot_str_index, fun a e => by cases e⟩
  · obtain ⟨y, i, rest, rfl, ho, q⟩ := q
    exact op_index ho q
theorem ev_index_name {n : Str} {x : Str} {cp apos pos : Pos} {e : Expr} (hn : ρ n = some (.str x)) (h : Ev G cx ρ σ e (fun v ρ₁ σ₁ => ∃ (y : Str) (i : Nat) (rest : List Nat), v = .str y ∧ Builtin.Str.occurrences x y 0 x.length 1 = i :: rest ∧ Q (.int i) ρ₁ σ₁) EQ)
    (he : starEach [e] cx.env = (false, eval e cx.env) :: starEach [] cx.env := by rfl) (hd : (n == ("__debug__" : Str)) = false := by decide) (hc : (n == ("__classdict__" : Str)) = false := by decide) (hp : (apos.endLine == pos.line) = true := by rfl) : Ev G cx ρ σ (.Call (.Attribute (.Name n cp) "index" apos) [e] [] pos) Q EQ := by
  refine ev_meth (id := "str.index") PySem.F.type_str_index (ev_name hn ⟨fun ex₁ fz₁ s₁ V S₁ r => ?_, as_one (h.mono (fun v ρ₁ σ₁ q => ?_) fun _ _ _ q => q) he⟩ hd hc) he rfl (meth_shape rfl hp he)
  · obtain ⟨t, rfl⟩ := r.str_inv
    exact ⟨"str", typeIs_str _ _ _, PySem.F.plainAttrs_str, PySem.F.slot_str_index, fun a e => by cases e⟩
  · obtain ⟨y, i, rest, rfl, ho, q⟩ := q
    exact op_index ho q
theorem ev_append {n : Str} {a : Addr} {cp apos pos : Pos} {e : Expr} (hn : ρ n = some (.ref a)) (hσ : ∃ σ₁ l σ₂, σ = σ₁ ++ (a, .lst l) :: σ₂) (h : Ev G cx ρ σ e (fun v ρ₁ σ₁ => ∃ σa l σb, σ₁ = σa ++ (a, .lst l) :: σb ∧ l.length ≤ 1000 ∧ Q .none ρ₁ (σa ++ (a, .lst (l ++ [v])) :: σb)) EQ)
    (he : starEach [e] cx.env = (false, eval e cx.env) :: starEach [] cx.env := by rfl) (hd : (n == ("__debug__" : Str)) = false := by decide) (hc : (n == ("__classdict__" : Str)) = false := by decide) (hp : (apos.endLine == pos.line) = true := by rfl) : Ev G cx ρ σ (.Call (.Attribute (.Name n cp) "append" apos) [e] [] pos) Q EQ := by
  refine ev_meth (id := "list.append") type_list_append (ev_name hn ⟨fun ex₁ fz₁ s₁ V S₁ r => ?_, as_one (h.mono (fun v ρ₁ σ₁ q => ?_) fun _ _ _ q => q) he⟩ hd hc) he rfl (meth_shape rfl hp he)
  · obtain rfl := r.ref_inv
    obtain ⟨σ₁, l, σ₂, rfl⟩ := hσ
    obtain ⟨o, ho, vs, n, rfl, rl⟩ := S₁.live (a, .lst l) (by simp)
    exact ⟨"list", ⟨_, ho, rfl⟩, PySem.F.plainAttrs_list, slot_list_append, fun a e => by cases e; exact ⟨_, ho, rfl⟩⟩
  · obtain ⟨σa, l, σb, rfl, hl, q⟩ := q
    exact op_append rfl hl q
end
end Mine
namespace Mine
open PySem PySem.W PyProof.Rows PyProof.Rows.LCg PySem.Calls PySem.Spec

noncomputable def pickL {α : Type} (l : List α) (lo hi st : Option Int) : List α :=
  (sliceRange (sliceBounds lo hi st l.length).1 (sliceBounds lo hi st l.length).2.1 (sliceBounds lo hi st l.length).2.2).filterMap (l[·]?)

section
variable {G : Gr} {cx : Cx} {ρ : AE} {σ : AH} {ex fz : Objs} {EQ : AX → AE → AH → Prop} {Q : AV → AE → AH → Prop}

theorem RelL.picks {l : List AV} {vs : List Value} (r : RelL G fz l vs) : ∀ (is : List Nat), RelL G fz (is.filterMap (l[·]?)) (is.filterMap (vs[·]?))
  | [] => .nil
  | i :: is => by
    have ih := r.picks is
    cases e : l[i]? with
    | none =>
      have e' : vs[i]? = none := by rw [List.getElem?_eq_none_iff, r.length]; exact List.getElem?_eq_none_iff.mp e
      simp only [List.filterMap_cons, e, e']; exact ih
    | some v =>
      obtain ⟨V, e', hr⟩ := r.get e
      simp only [List.filterMap_cons, e, e']; exact .cons hr ih
theorem RelL.pick {l : List AV} {vs : Array Value} (r : RelL G fz l vs.toList) (lo hi st : Option Int) : RelL G fz (pickL l lo hi st) (slicePick vs lo hi st).toList := by
  have e : vs.size = l.length := by rw [← r.length, Array.length_toList]
  unfold pickL slicePick
  rw [e]
  have := r.picks (sliceRange (sliceBounds lo hi st l.length).1 (sliceBounds lo hi st l.length).2.1 (sliceBounds lo hi st l.length).2.2)
  simp only [Array.getElem?_toList] at this
  exact this

theorem sub_ofs {prog : Program} {w : World} {A : Around} {E : Value → Shared → Prop} {s : Shared} {value slice : Expr} {o i : Value} {l : List Value} {T id : String} {Q : Value → Shared → Prop} (hT : s.TypeIs o T)
    (hl : typeLookup (.type T) "__getitem__" = pure (some (.builtin id))) (h : wpAny (model prog w) A (getItem o i) Q E s) (hs : subscripted slice false o i = operate l (getItem o i)) :
    wpAny (model prog w) A (subscriptTail value slice o i) Q E s := by
  unfold subscriptTail
  refine wpAny_bind ?_
  rw [getitemInPython_of_ne hT.not_modules]
  refine wpAny_bind (wpAny_specialOf hT hl ?_)
  have fin : wpAny (model prog w) A (subscripted slice false o i) (fun r s₃ => wpAny (model prog w) A (letTemporaryGo value o r >>= fun _ => pure r) Q E s₃) E s := by
    rw [hs]
    exact wpAny_operating (wpAny_mono h (fun r s₃ h₃ => wpAny_bind (wpAny_letTemporaryGo (wpAny_pure h₃))) fun _ _ x => x)
  first
    | exact wpAny_pure (wpAny_bind fin)
    | exact wpAny_bind (wpAny_pure (wpAny_bind fin))
    | exact wpAny_bind fin

/-- l[:n] -/
theorem ev_upto {value hi : Expr} {p pos : Pos}
    (h : Ev G cx ρ σ value (fun v ρ₁ σ₁ => ∃ l, v = .lst l ∧ l.length ≤ 1000 ∧ Ev G cx ρ₁ σ₁ hi (fun u ρ₂ σ₂ => ∃ j, u = .int j ∧ Q (.lst (pickL l none (some j) none)) ρ₂ σ₂) EQ) EQ) :
    Ev G cx ρ σ (.Subscript value (.Slice none (some hi) none p) pos) Q EQ := fun ex fz s _ g S _ QQ EE hQ hE => by
  refine Subscript_ (h.run g S .nil (fun v V ρ₁ σ₁ fz₁ h₁ t₁ k₁ S₁ r₁ q₁ => wpAny_Slice (evalPart_none_step ?_)) hE)
  obtain ⟨l, rfl, hl, q₁⟩ := q₁
  refine evalPart_some_step (q₁.run (s := { s with heap := h₁, toks := t₁ }) g S₁ .nil (fun v V ρ₂ σ₂ fz₂ h₂ t₂ k₂ S₂ r₂ q₂ => ?_) (hE.on k₁))
  obtain ⟨j, rfl, q₂⟩ := q₂
  obtain ⟨tj, rfl⟩ := r₂.int_inv
  obtain ⟨a, o, vs, n, rfl, hm, hc, hdt, rl⟩ := (r₁.mono k₂).lst_inv
  have e : vs.size = l.length := by rw [← rl.length, Array.length_toList]
  rw [evalPart_none]
  refine wpAny_pure ?_
  have S₃ := S₂.push { cls := .type "slice", data := .fields #[.none, .int j tj, .none] }
  have hL : (h₂.push { cls := .type "slice", data := .fields #[.none, .int j tj, .none] }).IsList a vs := ⟨o, S₃.fzh _ hm, hc, n, hdt⟩
  refine sub_ofs (l := [.ref h₂.objs.size, .ref a]) hL.typeIs list_getitem_lookup (wpAny_getItem_list_slice hL (Heap.IsSliceOf.new ..) .none (.int _ _) .none (by simp) ?_ (by rw [e, sizeLine_eq]; omega)) (by rfl)
  have S₄ := S₃.alloc { cls := .type "list", data := .seq (slicePick vs none (some j) none) }
  exact hQ _ _ ρ₂ σ₂ _ _ t₂ (fun p hp => List.mem_cons_of_mem _ (k₂ p (k₁ p hp))) S₄ (.lst List.mem_cons_self rfl rfl ((rl.pick none (some j) none).mono fun p hp => List.mem_cons_of_mem _ hp)) q₂

/-- l[k::m] -/
theorem ev_step {value lo st : Expr} {p pos : Pos}
    (h : Ev G cx ρ σ value (fun v ρ₁ σ₁ => ∃ l, v = .lst l ∧ l.length ≤ 1000 ∧ Ev G cx ρ₁ σ₁ lo (fun u ρ₂ σ₂ => ∃ i, u = .int i ∧ Ev G cx ρ₂ σ₂ st (fun u ρ₃ σ₃ => ∃ m, u = .int m ∧ m ≠ 0 ∧ Q (.lst (pickL l (some i) none (some m))) ρ₃ σ₃) EQ) EQ) EQ) :
    Ev G cx ρ σ (.Subscript value (.Slice (some lo) none (some st) p) pos) Q EQ := fun ex fz s _ g S _ QQ EE hQ hE => by
  refine Subscript_ (h.run g S .nil (fun v V ρ₁ σ₁ fz₁ h₁ t₁ k₁ S₁ r₁ q₁ => wpAny_Slice (evalPart_some_step ?_)) hE)
  obtain ⟨l, rfl, hl, q₁⟩ := q₁
  refine q₁.run (s := { s with heap := h₁, toks := t₁ }) g S₁ .nil (fun v V ρ₂ σ₂ fz₂ h₂ t₂ k₂ S₂ r₂ q₂ => ?_) (hE.on k₁)
  obtain ⟨i, rfl, q₂⟩ := q₂
  obtain ⟨ti, rfl⟩ := r₂.int_inv
  refine evalPart_none_step (evalPart_some_step (q₂.run (s := { s with heap := h₂, toks := t₂ }) g S₂ .nil (fun v V ρ₃ σ₃ fz₃ h₃ t₃ k₃ S₃ r₃ q₃ => ?_) ((hE.on k₁).on k₂)))
  obtain ⟨m, rfl, hm0, q₃⟩ := q₃
  obtain ⟨tm, rfl⟩ := r₃.int_inv
  obtain ⟨a, o, vs, n, rfl, hm, hc, hdt, rl⟩ := ((r₁.mono k₂).mono k₃).lst_inv
  have e : vs.size = l.length := by rw [← rl.length, Array.length_toList]
  have S₄ := S₃.push { cls := .type "slice", data := .fields #[.int i ti, .none, .int m tm] }
  have hL : (h₃.push { cls := .type "slice", data := .fields #[.int i ti, .none, .int m tm] }).IsList a vs := ⟨o, S₄.fzh _ hm, hc, n, hdt⟩
  refine sub_ofs (l := [.ref a, .ref h₃.objs.size]) hL.typeIs list_getitem_lookup (wpAny_getItem_list_slice hL (Heap.IsSliceOf.new ..) (.int _ _) .none (.int _ _) (by simpa using hm0) ?_ (by rw [e, sizeLine_eq]; omega)) (by rfl)
  have S₅ := S₄.alloc { cls := .type "list", data := .seq (slicePick vs (some i) none (some m)) }
  exact hQ _ _ ρ₃ σ₃ _ _ t₃ (fun p hp => List.mem_cons_of_mem _ (k₃ p (k₂ p (k₁ p hp)))) S₅ (.lst List.mem_cons_self rfl rfl ((rl.pick (some i) none (some m)).mono fun p hp => List.mem_cons_of_mem _ hp)) q₃
end
end Mine
namespace Mine
open PySem PySem.W PyProof.Rows PyProof.Rows.LCg PySem.Calls PySem.Spec

/-! strings of single signs -/
noncomputable def oneS (c : Nat) : Str := ⟨#[c]⟩
noncomputable def mkS (l : List Nat) : Str := ⟨l.toArray⟩
theorem Str.ext' {a b : Str} (h : a.cps = b.cps) : a = b := by cases a; cases b; cases h; rfl
theorem join_empty : ∀ l : List Nat, Str.join "" (l.map oneS) = mkS l
  | [] => rfl
  | [c] => rfl
  | c :: d :: l => by
    have ih := join_empty (d :: l)
    show oneS c ++ ("" : Str) ++ Str.join "" ((d :: l).map oneS) = _
    rw [ih]
    refine Str.ext' ?_
    show (#[c] ++ (#[] : Array Nat)) ++ (d :: l).toArray = _
    simp [mkS]
theorem join_ones (l : List Nat) : Txt.join "" (l.map oneS) = mkS l := (StrLaws.glued_eq_join "" _).trans (join_empty l)
theorem joinOk_ones (l : List Nat) (h : l.length ≤ 10000) : JoinOk "" (l.map oneS) = true := by
  unfold JoinOk
  have key : ∀ (l : List Nat) (acc : Nat), (l.map oneS).foldl (fun a (x : Str) => a + x.length + ("" : Str).length) acc = acc + l.length := by
    intro l
    induction l with
    | nil => intro acc; rfl
    | cons c l ih =>
      intro acc
      rw [List.map_cons, List.foldl_cons, ih]
      show acc + 1 + 0 + l.length = acc + (l.length + 1)
      omega
  rw [List.foldl_toArray, key]
  unfold Builtin.Str.tooLong
  rw [sizeLine_eq]
  simp
  omega
end Mine
namespace Mine
open PySem PySem.W PyProof.Rows PyProof.Rows.LCg PySem.Calls PySem.Spec
open Builtin Builtin.ObjectAttr Builtin.Getset_descriptor

theorem fn_ga : Slot "function" "__getattribute__" "object.__getattribute__" :=
  .of (owner := "object") (n := "__getattribute__") (by rw [typeLookup_type, builtinLookup_eq_fast]; kernel_rfl) (by decide +kernel) (by decide +kernel) (by decide +kernel)
    (by first | exact .inl (by decide +kernel) | exact .inr (by decide +kernel)) (by rw [isSubtype_type]; kernel_rfl)
theorem fn_ga_entry : entryFor table "object.__getattribute__" = some Builtin.«object.__getattribute__» := entryFor_of_tree (by kernel_rfl)
theorem fn_ga_args (a b : Value) : argsOk "object.__getattribute__" ⟨[a, b], []⟩ := by unfold argsOk; kernel_rfl
theorem fn_lk : typeLookup (.type "function") "__name__" = pure (some (.builtin "function.__name__")) := by rw [typeLookup_type, builtinLookup_eq_fast]; kernel_rfl
theorem fn_ty : typeOf (.builtin "function.__name__") = pure (.type "getset_descriptor") := by kernel_rfl
theorem fn_entry : entryFor table "function.__name__" = some Builtin.«function.__name__» := entryFor_of_tree (by kernel_rfl)
theorem fn_owner : descrOwnerAndName "function.__name__" = ("function", "__name__") := by kernel_rfl
theorem fn_sub : isSubtype (.type "function") (.type "function") = pure true := by rw [isSubtype_type]; kernel_rfl

section
variable {prog : Program} {w : World} {A : Around} {E : Value → Shared → Prop} {h : Heap} {g : Array GenState} {d : Drawn} {t : Nat} {os : OsState} {a : Addr} {o : Obj} {fd : FuncData}
theorem fn_get {R : Result → Shared → Prop} (hx : h.get? a = some o) (hc : o.cls = .type "function") (hd : o.data = .func fd) (hz : fd.name.length ≤ sizeLine) (hq : R (.ok (.ret (.str fd.name t))) ⟨h, g, d, t + 1, os⟩) :
    codeAny (model prog w) A (.call (.builtin "getset_descriptor.__get__") ⟨[.builtin "function.__name__", .ref a, .type "function"], []⟩) R ⟨h, g, d, t, os⟩ := by
  have hT : (⟨h, g, d, t, os⟩ : Shared).TypeIs (.ref a) "function" := ⟨_, hx, hc⟩
  have hT5 : (⟨h, g, d, t, os⟩ : Shared).TypeIs (.builtin "function.__name__") "getset_descriptor" := fn_ty
  have L0 : Looks (model prog w) h (isInstance (.ref a) (.type "function")) true := (hc ▸ (Looks.ld hx).andThen .now : Looks (model prog w) h (typeOf (.ref a)) (.type "function")).andThen (Looks.of_pure fn_sub)
  refine codeAny_call_builtin F.slot_gs_get.plain F.entry_gs_get (F.slot_gs_get.check _ _ _ _ _ _ _ _ hT5 (F.args_gs_get _ _ _) ?_)
  show wpAny _ _ (descrGetter (.builtin "function.__name__") (some (.ref a))) _ _ _
  unfold descrGetter descrCheckInstance descrNameAndClass
  dsimp only
  rw [fn_owner]
  dsimp only
  repeat lk
  refine ⟨Code.quiet_builtin _ (by decide +kernel), codeAny_builtin fn_entry ?_⟩
  unfold Builtin.«function.__name__»
  show wpAny _ _ (funcData (.ref a) >>= _) _ _ _
  unfold funcData
  refine wpAny_bind (wpAny_bind (wpAny_load hx ?_))
  rw [hd]
  refine wpAny_pure ?_
  unfold retStr
  exact wpAny_bind (wpAny_mkStr (wpAny_pure hq) hz)

theorem fn_name {Q : Value → Shared → Prop} (hx : h.get? a = some o) (hc : o.cls = .type "function") (hd : o.data = .func fd) (hz : fd.name.length ≤ sizeLine) (hq : Q (.str fd.name (t + 1)) ⟨h, g, d, t + 2, os⟩) :
    wpAny (model prog w) A (getAttr (.ref a) "__name__" true) Q E ⟨h, g, d, t, os⟩ := by
  have hT : (⟨h, g, d, t + 1, os⟩ : Shared).TypeIs (.ref a) "function" := ⟨_, hx, hc⟩
  have L0 : Looks (model prog w) h (typeOf (.ref a)) (.type "function") := hc ▸ (Looks.ld hx).andThen .now
  have L1 : Looks (model prog w) h (typeLookup (.type "function") "__getattribute__") (some (.builtin "object.__getattribute__")) := Looks.of_pure fn_ga.lookup
  unfold getAttr getAttrBy
  refine wpAny_bind (wpAny_mkText (wpAny_holding (wpAny_bind (L0.at (wpAny_bind (L1.at ?_))))))
  show wpAny _ _ (getAttrByItsOwn _ _ _ _ _ _) _ _ _
  unfold getAttrByItsOwn
  refine wpAny_bind (m := hookBefore _) (wpAny_pure (wpAny_bind (wpAny_attempt (wpAny_holding ?_))))
  show wpAny _ _ (boundAndCalled (.builtin "object.__getattribute__") (.ref a) (.str "__name__" t)) _ _ _
  unfold boundAndCalled
  rw [fn_ga.bind]
  refine wpAny_bind (wpAny_pure ?_)
  dsimp only
  refine wpAny_call (codeAny_call_builtin fn_ga.plain fn_ga_entry (fn_ga.check _ _ _ _ _ _ _ _ hT (fn_ga_args _ _) ?_))
  have f4 := fn_lk
  have L2 : Looks (model prog w) h (find (.ref a) (.type "function") "__name__") (.bind (.builtin "getset_descriptor.__get__") (.builtin "function.__name__")) := by
    unfold find
    refine (Looks.of_pure fn_lk).andThen (((Looks.of_pure fn_ty).andThen (Looks.of_pure F.slot_gs_get.lookup) : Looks (model prog w) h (getOf (some (.builtin "function.__name__"))) _).andThen ?_)
    refine (show Looks (model prog w) h (dataDescriptor? (some (.builtin "function.__name__")) (some (.builtin "getset_descriptor.__get__"))) (some (.builtin "getset_descriptor.__get__", .builtin "function.__name__")) from ?_).andThen (Looks.tag .now)
    refine (show Looks (model prog w) h (takesStores (.builtin "function.__name__")) true from ?_).andThen .now
    exact ((Looks.of_pure fn_ty).andThen (Looks.of_pure F.slot_gs_set.lookup)).andThen .now
  unfold Builtin.«object.__getattribute__»
  repeat (first | with_reducible refine wpAny_call ?_ | lk)
  refine fn_get hx hc hd hz ?_
  refine wpAny_pure ?_
  refine wpAny_pure ?_
  exact hq
end
end Mine
namespace Mine
open PySem PySem.W PyProof.Rows PyProof.Rows.LCg PySem.Calls PySem.Spec

section
variable {G : Gr} {cx : Cx} {ρ : AE} {σ : AH} {EQ : AX → AE → AH → Prop} {Q : AV → AE → AH → Prop}

/-- parts of a text -/
noncomputable abbrev Jn (G : Gr) (cx : Cx) (ρ : AE) (σ : AH) (out : Str) (es : List Expr) (Q : AV → AE → AH → Prop) (EQ : AX → AE → AH → Prop) : Prop := JV Rel G cx ρ σ [] (fun _ => joinParts out (evalEach es cx.env)) Q EQ
theorem jn_nil {out : Str} (hz : out.length ≤ 10000) (q : Q (.str out) ρ σ) : Jn G cx ρ σ out [] Q EQ := fun ex fz s _ g S _ QQ EE hQ hE => joinParts_nil (give hQ S (.str _ _) q) (by rw [sizeLine_eq]; omega)
theorem jn_cons {out : Str} {e : Expr} {es : List Expr} (h : Ev G cx ρ σ e (fun v ρ₁ σ₁ => ∃ y, v = .str y ∧ (out ++ y).length ≤ 10000 ∧ Jn G cx ρ₁ σ₁ (out ++ y) es Q EQ) EQ) : Jn G cx ρ σ out (e :: es) Q EQ := fun ex fz s _ g S _ QQ EE hQ hE => by
  refine joinParts_cons (h.run g S .nil (fun v V ρ₁ σ₁ fz₁ h₁ t₁ k₁ S₁ r₁ q₁ => ?_) hE)
  obtain ⟨y, rfl, hz, q₁⟩ := q₁
  obtain ⟨t, rfl⟩ := r₁.str_inv
  exact ⟨by rw [sizeLine_eq]; omega, q₁.run (s := { s with heap := h₁, toks := t₁ }) g S₁ .nil (hQ.on k₁) (hE.on k₁)⟩
theorem ev_fstr {e₁ e₂ : Expr} {es : List Expr} {pos : Pos} (h : Jn G cx ρ σ Str.empty (e₁ :: e₂ :: es) Q EQ) : Ev G cx ρ σ (.JoinedStr (e₁ :: e₂ :: es) pos) Q EQ := fun ex fz s _ g S _ QQ EE hQ hE => JoinedStr_many (h.run g S .nil hQ hE)
theorem ev_fval {e : Expr} {pos : Pos} (h : Ev G cx ρ σ e (fun v ρ₁ σ₁ => ∃ y, v = .str y ∧ y.length ≤ 10000 ∧ Q (.str y) ρ₁ σ₁) EQ) : Ev G cx ρ σ (.FormattedValue e (-1) none pos) Q EQ := fun ex fz s _ g S _ QQ EE hQ hE => by
  refine FormattedValue_plain (h.run g S .nil (fun v V ρ₁ σ₁ fz₁ h₁ t₁ k₁ S₁ r₁ q₁ => ?_) hE)
  obtain ⟨y, rfl, hz, q₁⟩ := q₁
  obtain ⟨t, rfl⟩ := r₁.str_inv
  exact formatField_str (fun t' tk => (hQ.on k₁) _ _ ρ₁ σ₁ fz₁ h₁ tk (fun _ h => h) S₁ (.str _ _) q₁) (by rw [sizeLine_eq]; omega)
theorem ev_fname {n : Str} {np pos : Pos} {f : Addr} {od : Option Addr} {osl : Array (Option Value)} {fd : FuncData} (hn : ρ n = some (.val (.ref f))) (hK : G.K.lookup f = some ⟨.type "function", od, .func fd, osl⟩) (hz : fd.name.length ≤ 1000) (q : Q (.str fd.name) ρ σ)
    (hd : (n == ("__debug__" : Str)) = false := by decide) (hc : (n == ("__classdict__" : Str)) = false := by decide) : Ev G cx ρ σ (.Attribute (.Name n np) "__name__" pos) Q EQ := fun ex fz s _ g S _ QQ EE hQ hE => by
  refine Attribute_name (wpAny_Name (loadVar S hn hc fun V r => ?_) hd)
  obtain rfl := r.val_inv
  obtain ⟨hh, gg, d, t, os⟩ := s
  exact fn_name (S.base _ _ (g.KB _ _ hK)) rfl rfl (by rw [sizeLine_eq]; omega) (give hQ S (.str _ _) q)

/-- what the helper says of a failure -/
noncomputable def failed (what name : Str) : Str := Str.empty ++ "<" ++ what ++ " " ++ name ++ "() failed>"
end
end Mine
namespace Mine
open PySem PySem.W PyProof.Rows PyProof.Rows.LCg PySem.Calls PySem.Spec

mutual
inductive AD : AV → PyData → Prop
  | none : AD .none .none
  | bool (b) : AD (.bool b) (.bool b)
  | int (i) : AD (.int i) (.int i)
  | str (s) : AD (.str s) (.str s)
  | tup {l ds} : ADL l ds → AD (.tup l) (.tuple ds)
  | lst {l ds} : ADL l ds → AD (.lst l) (.list ds)
inductive ADL : List AV → List PyData → Prop
  | nil : ADL [] []
  | cons {v d l ds} : AD v d → ADL l ds → ADL (v :: l) (d :: ds)
end
theorem ADL.ofMap {α : Type} {f : α → AV} {g : α → PyData} (h : ∀ a, AD (f a) (g a)) : ∀ l : List α, ADL (l.map f) (l.map g)
  | [] => .nil
  | a :: l => .cons (h a) (ADL.ofMap h l)

theorem AD.reads {G : Gr} {fz : Objs} {h : Heap} (hh : Has fz h) {v d} (a : AD v d) : ∀ {V}, Rel G fz v V → ∃ as, Reads h V d as :=
  AD.rec (motive_1 := fun v d _ => ∀ {V}, Rel G fz v V → ∃ as, Reads h V d as) (motive_2 := fun l ds _ => ∀ vs, RelL G fz l vs → ∃ as, ReadsAll h vs ds as)
    (fun r => by rw [r.none_inv]; exact ⟨_, .none⟩) (fun b _ r => by rw [r.bool_inv]; exact ⟨_, .bool b⟩) (fun i _ r => by obtain ⟨t, rfl⟩ := r.int_inv; exact ⟨_, .int i t⟩) (fun i _ r => by obtain ⟨t, rfl⟩ := r.str_inv; exact ⟨_, .str i t⟩)
    (fun _ ih _ r => by
      obtain ⟨a, o, vs, n, rfl, hm, hc, hd, hr⟩ := r.tup_inv
      obtain ⟨as, e⟩ := ih _ hr
      exact ⟨_, .tuple (hh _ hm) hc hd e⟩)
    (fun _ ih _ r => by
      obtain ⟨a, o, vs, n, rfl, hm, hc, hd, hr⟩ := r.lst_inv
      obtain ⟨as, e⟩ := ih _ hr
      exact ⟨_, .list (hh _ hm) hc hd e⟩)
    (fun _ r => by rw [r.nil_inv]; exact ⟨_, .nil⟩)
    (fun _ _ i1 i2 _ r => by
      obtain ⟨V, vs', rfl, r1, r2⟩ := r.cons_inv
      obtain ⟨as, e⟩ := i1 r1
      obtain ⟨bs, e'⟩ := i2 _ r2
      exact ⟨_, .cons e e'⟩) a

section
variable {G : Gr} {cx : Cx} {ρ : AE} {σ : AH} {Q : AV → AE → AH → Prop} {EQ : AX → AE → AH → Prop}
theorem CxOk.room (ok : CxOk cx) : cx.A.units + 64 < cLine := by
  have := ok.units
  show _ < 9900
  omega
theorem op_eq_data {v u : AV} {da db : PyData} (h1 : AD v da) (h2 : AD u db) (s1 : SeqAt.shaped da = true) (s2 : SeqAt.shaped db = true) (q : Q (.bool (PyData.eqv da db)) ρ σ) : JV Rel G cx ρ σ [v, u] (two (compareOp .Eq)) Q EQ := fun ex fz s _ g S r QQ EE hQ hE => by
  obtain ⟨V, U, rfl, r1, r2⟩ := r.two_inv
  obtain ⟨as, e1⟩ := h1.reads S.fzh r1
  obtain ⟨bs, e2⟩ := h2.reads S.fzh r2
  exact eq_dataH e1 e2 s1 s2 S.ok.room (give hQ S (.bool _) q)
theorem op_ne_data {v u : AV} {da db : PyData} (h1 : AD v da) (h2 : AD u db) (s1 : SeqAt.shaped da = true) (s2 : SeqAt.shaped db = true) (q : Q (.bool (!PyData.eqv da db)) ρ σ) : JV Rel G cx ρ σ [v, u] (two (compareOp .NotEq)) Q EQ := fun ex fz s _ g S r QQ EE hQ hE => by
  obtain ⟨V, U, rfl, r1, r2⟩ := r.two_inv
  obtain ⟨as, e1⟩ := h1.reads S.fzh r1
  obtain ⟨bs, e2⟩ := h2.reads S.fzh r2
  exact ne_dataH e1 e2 s1 s2 S.ok.room (give hQ S (.bool _) q)
end

/-! the shapes that the laws compare -/
theorem canLayAll_map {α : Type} {g : α → PyData} : ∀ (l : List α), (∀ a ∈ l, (g a).canLay0 = true) → PyData.canLayAll0 (l.map g) = true
  | [], _ => by simp [PyData.canLayAll0]
  | a :: l, h => by
    simp only [List.map_cons, PyData.canLayAll0, Bool.and_eq_true]
    exact ⟨h a List.mem_cons_self, canLayAll_map l fun b hb => h b (List.mem_cons_of_mem _ hb)⟩
theorem depthAll_map {α : Type} {g : α → PyData} {n : Nat} : ∀ (l : List α), (∀ a ∈ l, (g a).depth ≤ n) → PyData.depthAll (l.map g) ≤ n
  | [], _ => by simp [PyData.depthAll]
  | a :: l, h => by
    have h1 := h a List.mem_cons_self
    have h2 := depthAll_map l fun b hb => h b (List.mem_cons_of_mem _ hb)
    simp only [List.map_cons, PyData.depthAll]
    omega
theorem shaped_list {α : Type} {g : α → PyData} {n : Nat} (hn : n ≤ 60) (l : List α) (h : ∀ a ∈ l, (g a).canLay0 = true ∧ (g a).depth ≤ n) : SeqAt.shaped (.list (l.map g)) = true := by
  have h1 := depthAll_map l fun a ha => (h a ha).2
  have h2 : PyData.depth (.list (l.map g)) ≤ 64 := by simp only [PyData.depth]; omega
  show (PyData.canLay0 (.list (l.map g)) && decide (PyData.depth (.list (l.map g)) ≤ 64)) = true
  rw [Bool.and_eq_true]
  exact ⟨by simp only [PyData.canLay0]; exact canLayAll_map l fun a ha => (h a ha).1, decide_eq_true h2⟩
end Mine
namespace Mine
open PySem PySem.W PyProof.Rows PyProof.Rows.LCg PySem.Calls PySem.Spec

theorem strsAre_at : ∀ (ss : List Str) (vs : List Value), vs.length = ss.length → (∀ (j : Nat) (v : Value), vs[j]? = some v → ∃ (x : Str) (t : Tok), ss[j]? = some x ∧ v = Value.str x t) → StrsAre vs ss
  | [], [], _, _ => PyProof.Rows.StrsAre.nil
  | [], _ :: _, h, _ => nomatch h
  | _ :: _, [], h, _ => nomatch h
  | x :: ss, v :: vs, h, k => by
    obtain ⟨y, t, e, rfl⟩ := k 0 v rfl
    cases e
    exact PyProof.Rows.StrsAre.cons x t (strsAre_at ss vs (by simpa using h) fun j u e => k (j + 1) u (by simpa using e))

section
variable {prog : Program} {w : World} {A : Around} {E : Value → Shared → Prop} {s : Shared}
theorem sorted_collected {V : Value} {ss : List Str} {Q : Value → Shared → Prop} (h64 : ss.length < 64)
    (hcol : ∀ R E', (∀ h' tk vs, (∀ b o, s.heap.get? b = some o → h'.get? b = some o) → StrsAre vs ss → R vs { s with heap := h', toks := tk }) → wpAny (model prog w) A.in1 (collect V) R E' s)
    (h : ∀ (h₁ h' : Heap) tk vs' ss' e, (∀ b o, s.heap.get? b = some o → h₁.get? b = some o) → (∀ b o, h₁.get? b = some o → h'.get? b = some o) → h'.get? h₁.objs.size = some (seqObj "list" vs'.toArray e) → StrsAre vs' ss' → ss'.Perm ss → sortedS ss' = true → Q (.ref h₁.objs.size) { s with heap := h', toks := tk }) :
    wpAny (model prog w) A (call (.builtin "sorted") [V]) Q E s := by
  refine call_function_entry kind_sorted plain_sorted entry_sorted (by
    have := args_sorted1 V
    exact this) ?_
  unfold Builtin.«sorted»
  refine wpAny_bind (m := checkCount "sorted" 1 1 _) (wpAny_pure ?_)
  refine wpAny_bind (hcol _ _ fun h₁ tk vs k₁ hS => ?_)
  have hlen := StrsAre.length hS
  refine wpAny_bind (wpAny_newList ?_ (by rw [sizeLine_eq]; omega))
  have hoL : (h₁.push (seqObj "list" vs.toArray 0)).get? h₁.objs.size = some (seqObj "list" vs.toArray 0) := Heap.get?_push_size _ rfl
  refine wpAny_bind (wpAny_holding (wpAny_call_entry slot_list_sort ⟨_, hoL, rfl⟩ entry_list_sort (list_sort_treeK strKind_oneLt hoL hS.keysOf (fun v₁ v₂ rest e => keyKind_strs (by rw [← e]; exact hS)) (by omega) fun st' hp hs => ⟨_, rfl, ?_⟩) (args_list_sort _)))
  obtain ⟨ss', h1, h2, h3⟩ := sorted_out_str hS hp hs
  obtain ⟨e, he⟩ := sortedHeap_at (out := (arrOf st').map (·.2)) hoL
  refine wpAny_pure ⟨_, rfl, h h₁ _ tk ((arrOf st').map (·.2)).toList ss' e k₁ (fun b o q => ?_) he h1 h2 h3⟩
  have hb := Heap.lt_size q
  rw [sortedHeap_old (Nat.ne_of_lt hb) (by rw [Heap.size_push]; exact Nat.lt_succ_of_lt hb)]
  exact Heap.get?_push_of_some _ q
end

section
variable {G : Gr} {cx : Cx} {ρ : AE} {σ : AH} {EQ : AX → AE → AH → Prop} {Q : AV → AE → AH → Prop}
theorem sorted_end {ex fz : Objs} {s : Shared} {QQ : Value → Shared → Prop} {ss : List Str} (S : Sat G cx ex ρ σ fz s.heap) (hQ : Ret Rel G cx ex fz s Q QQ) (q : ∀ ss' : List Str, ss'.Perm ss → sortedS ss' = true → Q (.lst (ss'.map .str)) ρ σ)
    (h₁ h' : Heap) (tk : Nat) (vs' : List Value) (ss' : List Str) (e : Nat) (k1 : ∀ b o, s.heap.get? b = some o → h₁.get? b = some o) (k2 : ∀ b o, h₁.get? b = some o → h'.get? b = some o) (hg : h'.get? h₁.objs.size = some (seqObj "list" vs'.toArray e))
    (hS : StrsAre vs' ss') (hp : ss'.Perm ss) (hs : sortedS ss' = true) : QQ (.ref h₁.objs.size) { s with heap := h', toks := tk } := by
  have S₁ := S.ext k1
  have S₂ := S₁.ext k2
  exact hQ _ _ ρ σ _ h' tk (fun p hp => List.mem_cons_of_mem _ hp) (S₁.made S₂ (Nat.le_refl _) hg) (.lst List.mem_cons_self rfl rfl (RelL.of_strs (by simpa using hS))) (q ss' hp hs)
theorem op_sorted_text {l : List Nat} (hd : cx.hd = none) (h64 : l.length < 64) (q : ∀ ss' : List Str, ss'.Perm (l.map oneS) → sortedS ss' = true → Q (.lst (ss'.map .str)) ρ σ) : JV Rel G cx ρ σ [.str (mkS l)] (fun Vs => call (.builtin "sorted") Vs) Q EQ := fun ex fz s _ g S r QQ EE hQ hE => by
  obtain ⟨_, rfl, r1⟩ := r.one_inv
  obtain ⟨t, rfl⟩ := r1.str_inv
  have hz : (mkS l).cps.size = l.length := by unfold mkS; simp
  refine sorted_collected (ss := l.map oneS) (by rw [List.length_map]; exact h64) (fun R E' hR => wpAny_collect_str (A := cx.A.in1) (S.ok.hd.trans hd) (mkS l) t (fun s' acc k1 k2 k3 k4 hacc => ?_) (by rw [hz, sizeLine_eq]; omega)) (sorted_end S hQ q)
  obtain ⟨h', gg, dd, tk, os⟩ := s'
  dsimp only at k1 k2 k3 k4
  subst k2 k3 k4
  refine hR h' tk acc.toList k1 (strsAre_at _ _ ?_ fun j v e => ?_)
  · rw [Array.length_toList, hacc.1, hz, List.length_map]
  · obtain ⟨c, u, e2, e3⟩ := hacc.2 j v (by rw [← Array.getElem?_toList]; exact e)
    refine ⟨oneS c, u, ?_, e3⟩
    have e4 : l[j]? = some c := by
      have : (mkS l).cps[j]? = l[j]? := by unfold mkS; simp
      rw [← this]; exact e2
    rw [List.getElem?_map, e4]
    rfl
end
end Mine
namespace Mine
open PySem PySem.W PyProof.Rows PyProof.Rows.LCg PySem.Calls PySem.Spec

end Mine
namespace Mine
open PySem PySem.W PyProof.Rows PyProof.Rows.LCg PySem.Calls PySem.Spec

section
variable {prog : Program} {w : World} {A : Around} {E : Value → Shared → Prop} {s : Shared} {G : Gr} {fz : Objs}
end

section
variable {G : Gr} {cx : Cx} {ρ : AE} {σ : AH} {EQ : AX → AE → AH → Prop} {Q : AV → AE → AH → Prop}
end
end Mine
namespace Mine
open PySem PySem.W PyProof.Rows PyProof.Rows.LCg PySem.Calls PySem.Spec

section
variable {prog : Program} {w : World} {A : Around} {E : Value → Shared → Prop} {s : Shared}
end
section
variable {G : Gr} {cx : Cx} {ρ : AE} {σ : AH} {EQ : AX → AE → AH → Prop} {Q : AV → AE → AH → Prop}
/-- what nobody changes any more -/
theorem jv_settle {α β : Type} {R : Gr → Objs → β → α → Prop} {args t} {σ₁ σ₂ : AH} {a : Addr} {es : List (Str × AV)} {x : Str} {Q : β → AE → AH → Prop} (hσ : σ = σ₁ ++ (a, .dct es) :: σ₂) (hx : ρ x = some (.ref a)) (h : JV R G cx (upd ρ x (.dct es)) (σ₁ ++ σ₂) args t Q EQ) : JV R G cx ρ σ args t Q EQ := fun ex fz s Vs g S r QQ EE hQ hE => by
  subst hσ
  have hnew := S.new a (by unfold Cx.mut; simp)
  have hsys : (a == sysModules) = false := beq_eq_false_iff_ne.mpr (Nat.ne_of_gt (Nat.lt_of_lt_of_le g.big hnew.2))
  obtain ⟨o, ho, ⟨kvs, hd, rl⟩, S₁⟩ := S.settle
  have k : ∀ p ∈ fz, p ∈ (a, o) :: fz := fun p hp => List.mem_cons_of_mem _ hp
  have rd : Rel G ((a, o) :: fz) (.dct es) (.ref a) := .dct List.mem_cons_self hsys hd (rl.mono k)
  have S₂ : Sat G cx ex (upd ρ x (.dct es)) (σ₁ ++ σ₂) ((a, o) :: fz) s.heap := by
    obtain ⟨m, hn, hv⟩ := S₁.loc
    refine ⟨S₁.ok, S₁.clx, S₁.base, S₁.stk, S₁.ownc, S₁.fzh, S₁.exh, S₁.live, ⟨m, hn, fun y v e => ?_⟩, S₁.nod, S₁.new, S₁.apf, S₁.apx, S₁.xf⟩
    unfold upd at e
    by_cases hy : y = x
    · subst hy
      rw [if_pos rfl] at e
      cases e
      rcases hv y (.ref a) hx with ⟨h1, V, h2, h3⟩ | ⟨h1, c, V, h2, h3, h4, h5⟩ | ⟨h1, c, o', V, h2, h3, h4, h5⟩
      · obtain rfl := h3.ref_inv; exact .inl ⟨h1, _, h2, rd⟩
      · obtain rfl := h5.ref_inv; exact .inr (.inl ⟨h1, c, _, h2, h3, h4, rd⟩)
      · obtain rfl := h5.ref_inv; exact .inr (.inr ⟨h1, c, o', _, h2, h3, h4, rd⟩)
    · rw [if_neg hy] at e
      exact hv y v e
  exact h ex _ s Vs g S₂ (RelL.mono k r) QQ EE (hQ.on k) (hE.on k)
end
end Mine
namespace Mine
open PySem PySem.W PyProof.Rows PyProof.Rows.LCg PySem.Calls PySem.Spec

section
variable {G : Gr} {cx : Cx} {ρ : AE} {σ : AH} {EQ : AX → AE → AH → Prop}
end
end Mine
namespace Mine
open PySem PySem.W PyProof.Rows PyProof.Rows.LCg PySem.Calls PySem.Spec
section
variable {G : Gr} {cx : Cx} {ρ : AE} {σ : AH} {EQ : AX → AE → AH → Prop} {Q : AV → AE → AH → Prop}
theorem Sat.see {ex fz : Objs} {h : Heap} {a : Addr} {o : Obj} {v : AV} {x : Str} (S₁ : Sat G cx ex ρ σ ((a, o) :: fz) h) (rd : Rel G ((a, o) :: fz) v (.ref a)) (hx : ρ x = some (.ref a)) : Sat G cx ex (upd ρ x v) σ ((a, o) :: fz) h := by
  obtain ⟨m, hn, hv⟩ := S₁.loc
  refine ⟨S₁.ok, S₁.clx, S₁.base, S₁.stk, S₁.ownc, S₁.fzh, S₁.exh, S₁.live, ⟨m, hn, fun y v e => ?_⟩, S₁.nod, S₁.new, S₁.apf, S₁.apx, S₁.xf⟩
  unfold upd at e
  by_cases hy : y = x
  · subst hy
    rw [if_pos rfl] at e
    cases e
    rcases hv y (.ref a) hx with ⟨h1, V, h2, h3⟩ | ⟨h1, c, V, h2, h3, h4, h5⟩ | ⟨h1, c, o', V, h2, h3, h4, h5⟩
    · obtain rfl := h3.ref_inv; exact .inl ⟨h1, _, h2, rd⟩
    · obtain rfl := h5.ref_inv; exact .inr (.inl ⟨h1, c, _, h2, h3, h4, rd⟩)
    · obtain rfl := h5.ref_inv; exact .inr (.inr ⟨h1, c, o', _, h2, h3, h4, rd⟩)
  · rw [if_neg hy] at e
    exact hv y v e
theorem jv_settle_lst {α β : Type} {R : Gr → Objs → β → α → Prop} {args t} {σ₁ σ₂ : AH} {a : Addr} {l : List AV} {x : Str} {Q : β → AE → AH → Prop} (hσ : σ = σ₁ ++ (a, .lst l) :: σ₂) (hx : ρ x = some (.ref a)) (h : JV R G cx (upd ρ x (.lst l)) (σ₁ ++ σ₂) args t Q EQ) : JV R G cx ρ σ args t Q EQ := fun ex fz s Vs g S r QQ EE hQ hE => by
  subst hσ
  obtain ⟨o, ho, ⟨vs, n, rfl, rl⟩, S₁⟩ := S.settle
  have k : ∀ p ∈ fz, p ∈ (a, ({ cls := .type "list", data := .seq vs n } : Obj)) :: fz := fun p hp => List.mem_cons_of_mem _ hp
  exact h ex _ s Vs g (S₁.see (.lst List.mem_cons_self rfl rfl (rl.mono k)) hx) (RelL.mono k r) QQ EE (hQ.on k) (hE.on k)
end
end Mine
namespace Mine
open PySem PySem.W PyProof.Rows PyProof.Rows.LCg PySem.Calls PySem.Spec

/-- the call of a def from no frame at all -/
theorem call_top {G : Gr} {A : Around} {d : Nat} {f : Addr} {of : Obj} {name qual : Str} {params : Arguments} {body : List Stmt} {scope : Scope} {dV kV doc pm cdv ct : Value} {an : Option Addr} {args : List AV} {names : List Str} {ex fz : Objs} {s : Shared} {Vs : List Value} {R : Result → Shared → Prop}
    (hf : A.frames = some []) (hAd : A.depth + 1 + d ≤ 900) (hAu : A.units + 3 + 20 * d ≤ 9000) (hAh : A.handled = none) (g : GOk G)
    (base : ∀ b o, G.hb.get? b = some o → s.heap.get? b = some o) (hsz : G.hb.objs.size ≤ s.heap.objs.size) (fzh : Has fz s.heap) (exh : Has ex s.heap) (xf : ∀ a ∈ keys ex, a ∉ keys fz) (r : RelL G fz args Vs)
    (hof : s.heap.get? f = some of) (hod : of.data = .func (fnOf name qual params body scope dV kV doc pm an cdv ct)) (hcd : s.heap.CodeRec cdv qual)
    (hbind : Looks (model G.prog G.w) s.heap (bindArgs (fnOf name qual params body scope dV kV doc pm an cdv ct) ⟨Vs, []⟩) (names.zip Vs))
    (hn : names.Nodup) (hl : args.length = names.length) (hkn : ∀ n ∈ names, scope.names.lookup n = some .local ∨ scope.names.lookup n = some .cell)
    (hkk : scope.names.all (fun p => p.2 != .free) = true) (hcn : ((cellsFrom 0 scope.names []).map (·.1)).Nodup)
    (hb : ∀ (cx' : Cx) (h₁ : Heap) (tk : Nat), cx'.d = d → cx'.hd = none → cx'.comp = false → cx'.env.scope = scope → (∀ x c, cx'.env.cells.lookup x = some c → c ∈ cx'.own) → cx'.cl = [] → cx'.env.code = cdv → cx'.stk = [] →
      Sat G cx' ex (fun x => (names.zip args).lookup x) [] fz h₁ →
      wpAny (model G.prog G.w) cx'.A (execs body cx'.env) (fun fl s' => R (.ok (.ret (match fl with | .ret v => v | _ => .none))) s') (fun _ _ => False) { s with heap := h₁, toks := tk })
    (hco : scope.isCoroutine = false := by rfl) (hgen : scope.isGenerator = false := by rfl) (hk : scope.kind = .function := by rfl) :
    codeAny (model G.prog G.w) A (.call (.ref f) ⟨Vs, []⟩) R s := by
  refine codeAny_call_function (by show A.depth < 1000; omega) hof hod hco hgen rfl hcd ?_
  refine hbind.here ?_
  have hkind : ∀ x ∈ names.zip Vs, scope.names.lookup x.1 = some .local ∨ (scope.names.lookup x.1 = some .cell ∧ ((cellsFrom (s.heap.objs.size + 1) scope.names []).lookup x.1).isSome = true) := fun x hx => by
    rcases hkn x.1 (List.of_mem_zip hx).1 with q | q
    · exact .inl q
    · exact .inr ⟨q, cellsFrom_some _ _ _ (.inl q)⟩
  refine wpAny_newFunctionEnv_cells hk hkind fun env' he s' X => ?_
  refine ⟨(g.TB.nolimit.keeps base).keeps X.toInCall.keep, codeAny_func ?_⟩
  obtain ⟨h₁, tk, rfl⟩ := X.toInCall.same
  have hke := X.toInCall.keep
  have hL : env'.locals = s.heap.objs.size := by rw [he]; rfl
  have hcells : env'.cells = cellsFrom (s.heap.objs.size + 1) scope.names [] := by rw [he]; rfl
  have hscope : env'.scope = scope := by rw [he]; rfl
  have cabove : ∀ x c, (x, c) ∈ env'.cells → s.heap.objs.size < c := fun x c hm => by
    rw [hcells] at hm
    rcases cells_above _ _ _ x c hm with q | q
    · cases q
    · exact q
  let cx' : Cx := { A := A.deeper env', d := d, hd := none, env := env', stk := [], own := env'.cells.map (·.2), cl := [], comp := false }
  have ok' : CxOk cx' := by
    refine ⟨?_, by show A.depth + 1 + d ≤ 900; omega, by show A.units + 3 + 20 * d ≤ 9000; omega, hAh, by show env'.scope.kind = _; rw [hscope]; exact hk, fun _ => by show env'.frame = some env'.locals; rw [hL, he]; rfl, fun p hp => (nomatch hp), ⟨by show env'.globals = _; rw [he]; rfl, by show env'.builtins = _; rw [he]; rfl⟩, fun x hx => ?_, fun x c h => .inl (List.mem_map_of_mem (f := (·.2)) (lookup_mem h)), fun x y c _ h1 h2 => ?_⟩
    · show A.frames.map (env' :: ·) = some (env' :: _)
      rw [hf]; rfl
    · have hx' : scope.names.lookup x = some .cell ∨ scope.names.lookup x = some .free := by
        have : env'.scope.names.lookup x = some .cell ∨ env'.scope.names.lookup x = some .free := hx
        rwa [hscope] at this
      rcases hx' with q | q
      · have := cellsFrom_some (x := x) scope.names (s.heap.objs.size + 1) [] (.inl q)
        obtain ⟨c, hc⟩ := Option.isSome_iff_exists.mp this
        exact ⟨c, by show env'.cells.lookup x = _; rw [hcells]; exact hc⟩
      · have := List.all_eq_true.mp hkk _ (lookup_mem q)
        simp at this
    · exact pair_inj X.apart (lookup_mem h1) (lookup_mem h2)
  have mut' : ∀ a ∈ cx'.mut [], a = env'.locals ∨ a ∈ cx'.own := fun a ha => by
    unfold Cx.mut at ha
    simp only [List.mem_cons, List.mem_append] at ha
    rcases ha with h | (h | h) | h
    · exact .inl h
    · cases h
    · exact .inr h
    · cases h
  have newgt : ∀ a ∈ cx'.mut [], s.heap.objs.size ≤ a := fun a ha => by
    rcases mut' a ha with rfl | h
    · rw [hL]; exact Nat.le_refl _
    · obtain ⟨p, hp, rfl⟩ := List.mem_map.mp h
      exact Nat.le_of_lt (cabove p.1 p.2 hp)
  refine hb cx' h₁ tk rfl rfl rfl hscope (fun x c h => List.mem_map_of_mem (f := (·.2)) (lookup_mem h)) rfl (by show env'.code = _; rw [he]; rfl) rfl ?_ |> fun z => wpAny_mono z (fun _ _ q => q) fun _ _ q => q.elim
  refine ⟨ok', fun p hp => (nomatch hp), fun b o e => hke b o (base b o e), fun p hp => (nomatch hp), fun c hc => ?_, fun p hp => hke _ _ (fzh p hp), fun p hp => hke _ _ (exh p hp), fun p hp => (nomatch hp), ⟨_, X.toInCall.ns, fun x v hx => ?_⟩, ?_, fun a ha => ?_, fun a ha hq => ?_, fun a ha hq => ?_, xf⟩
  · obtain ⟨p, hp, rfl⟩ := List.mem_map.mp hc
    have : env'.cells.lookup p.1 = some p.2 := by
      have hp' : (p.1, p.2) ∈ env'.cells := hp
      rw [hcells] at hp' ⊢
      exact lookup_of_mem_nodup (cellsFrom_names scope.names 0 (s.heap.objs.size + 1) [] [] rfl ▸ hcn) hp'
    exact ⟨_, X.cell p.1 p.2 this⟩
  · obtain ⟨V, rV, bl, bc⟩ := bind_at (kind := env'.kindOf) names args Vs (fun _ => none) hn r hx
    have hxn : x ∈ names := (List.of_mem_zip (lookup_mem hx)).1
    have hkx : env'.kindOf x = some .local ∨ env'.kindOf x = some .cell := by
      have : env'.kindOf x = scope.names.lookup x := by rw [kindOf_eq, hscope]
      rw [this]; exact hkn x hxn
    rcases hkx with q | q
    · exact .inl ⟨q, V, bl q, rV⟩
    · obtain ⟨c, hc⟩ := ok'.cs x (.inl q)
      refine .inr (.inl ⟨q, c, V, hc, List.mem_map_of_mem (f := (·.2)) (lookup_mem hc), ?_, rV⟩)
      have := X.cell x c hc
      rw [bc q] at this
      exact this
  · unfold Cx.mut
    show (env'.locals :: ([] ++ env'.cells.map (·.2) ++ [])).Nodup
    rw [List.nil_append, List.append_nil, List.nodup_cons]
    refine ⟨fun q => ?_, List.pairwise_map.mpr X.apart⟩
    obtain ⟨p, hp, hq⟩ := List.mem_map.mp q
    have := X.above p.1 p.2 hp
    rw [show p.2 = env'.locals from hq] at this
    exact Nat.lt_irrefl _ this
  · have := newgt a ha
    exact ⟨Heap.get?_none_of_le (Nat.le_trans hsz this), Nat.le_trans hsz this⟩
  · obtain ⟨p, hp, rfl⟩ := List.mem_map.mp hq
    exact absurd (Heap.lt_size (fzh p hp)) (Nat.not_lt.mpr (newgt _ ha))
  · obtain ⟨p, hp, rfl⟩ := List.mem_map.mp hq
    exact absurd (Heap.lt_size (exh p hp)) (Nat.not_lt.mpr (newgt _ ha))
end Mine
namespace Mine
open PySem PySem.W PyProof.Rows PyProof.Rows.LCg PySem.Calls PySem.Spec

end Mine
namespace Mine
open PySem PySem.W PyProof.Rows PyProof.Rows.LCg PySem.Calls PySem.Spec

section
variable {prog : Program} {w : World} {A : Around} {E : Value → Shared → Prop} {s : Shared}
end

section
variable {G : Gr} {cx : Cx} {ex : Objs} {ρ : AE} {σ : AH} {fz : Objs} {s : Shared}
end
end Mine
namespace Mine
open PySem PySem.W PyProof.Rows PyProof.Rows.LCg PySem.Calls PySem.Spec

section
variable {G : Gr} {cx : Cx} {ex : Objs} {ρ : AE} {σ : AH} {fz : Objs} {s : Shared}
end
end Mine
namespace Mine
open PySem PySem.W PyProof.Rows PyProof.Rows.LCg PySem.Calls PySem.Spec

theorem pickL_map {α β : Type} (f : α → β) (l : List α) (lo hi st : Option Int) : pickL (l.map f) lo hi st = (pickL l lo hi st).map f := by
  unfold pickL
  rw [List.length_map, List.map_filterMap]
  congr 1
  funext i
  rw [List.getElem?_map]
theorem pickL_le {α : Type} (l : List α) (lo hi st : Option Int) : (pickL l lo hi st).length ≤ l.length := by
  have h1 := slicePick_size_le (l.map fun _ => Value.none).toArray lo hi st
  have h2 : (slicePick (l.map fun _ => Value.none).toArray lo hi st).size = (pickL (l.map fun _ => Value.none) lo hi st).length := by
    unfold slicePick pickL
    simp
  rw [h2, pickL_map, List.length_map] at h1
  simpa using h1
section
variable {G : Gr} {cx : Cx} {ex : Objs} {ρ : AE} {σ : AH} {fz : Objs} {s : Shared}
theorem itr_range (n : Nat) (hn : n ≤ 1000) : Itr (.rng 0 (n : Int)) ((List.range n).map fun i : Nat => AV.int (i : Int)) := by
  have := Itr.rng 0 n (by decide) (by omega)
  unfold intsFrom at this
  simpa using this
theorem nat_small {n : Nat} (h : n ≤ 1000) : (n : Int) < 2 ^ 62 := Int.lt_of_le_of_lt (Int.ofNat_le.mpr h) (by decide)
theorem pow_cast (o : Nat) : (2 : Int) ^ ((o : Int)).toNat = ((2 ^ o : Nat) : Int) := by rw [Int.toNat_natCast]; simp
theorem pow_ne (o : Nat) : ((2 ^ o : Nat) : Int) ≠ 0 := Int.ofNat_ne_zero.mpr (Nat.ne_of_gt (Nat.pow_pos (by decide)))
theorem pow_lt {o : Nat} (h : o ≤ 20) : (((2 ^ o : Nat) : Int)).natAbs < 1073741824 := by
  rw [Int.natAbs_natCast]
  exact Nat.lt_of_le_of_lt (Nat.pow_le_pow_right (by decide) h) (by decide)
theorem op_pow2 {EQ : AX → AE → AH → Prop} {Q : AV → AE → AH → Prop} {o : Nat} (h : o ≤ 60) (q : Q (.int ((2 ^ o : Nat) : Int)) ρ σ) : JV Rel G cx ρ σ [.int 2, .int (o : Int)] (two (binaryOp .Pow)) Q EQ :=
  op_pow (Int.natCast_nonneg o) (Int.le_trans (Int.ofNat_le.mpr h) (by decide)) (by decide) (by rw [pow_cast]; exact q)
/-- an item at a place known as a natural number -/
theorem it_at {value slice : Expr} {EQ : AX → AE → AH → Prop} {Q : AV → AE → AH → Prop} {l : List AV} {i : Nat} {v : AV} (h : i ≤ 1000) (h1 : l[i]? = some v) (q : Q v ρ σ) (hs : ∀ o i, subscripted slice false o i = operate [o, i] (getItem o i) := by intro o i; rfl) : JV Rel G cx ρ σ [.lst l, .int (i : Int)] (two (subscriptTail value slice)) Q EQ :=
  it_lst (Int.natCast_nonneg i) (by rw [Int.toNat_natCast]; exact h1) (nat_small h) q hs
end
end Mine
namespace Mine
open PySem PySem.W PyProof.Rows PyProof.Rows.LCg PySem.Calls PySem.Spec
/-! sorted signs -/
noncomputable def signOf (s : Str) : Nat := s.cps.getD 0 0
theorem ones_of_perm {ss : List Str} {l : List Nat} (h : ss.Perm (l.map oneS)) : (ss.map signOf).Perm l ∧ ss = (ss.map signOf).map oneS := by
  constructor
  · have := h.map signOf
    rw [List.map_map] at this
    have e : (signOf ∘ oneS) = id := by funext c; rfl
    rw [e, List.map_id] at this
    exact this
  · rw [List.map_map]
    refine (List.map_id ss).symm.trans (List.map_congr_left fun s hs => ?_)
    obtain ⟨c, _, rfl⟩ := List.mem_map.mp (h.mem_iff.mp hs)
    rfl
theorem lt_ones (a b : Nat) : ltCps (oneS a).cps.toList (oneS b).cps.toList = decide (a < b) := by
  show ltCps [a] [b] = _
  unfold ltCps
  have e : ltCps [] [] = false := rfl
  rw [e, Bool.and_false, Bool.or_false]
theorem rising_ones : ∀ (l : List Nat) (a : Nat), risingS (oneS a) (l.map oneS) = true → (a :: l).Pairwise (· ≤ ·)
  | [], a, _ => by simp
  | b :: l, a, h => by
    rw [List.map_cons, risingS] at h
    have h1 : b < a → False := fun q => by
      rw [lt_ones, decide_eq_true q] at h
      simp at h
    have h2 : risingS (oneS b) (l.map oneS) = true := by
      rw [lt_ones, decide_eq_false h1] at h
      simpa using h
    have ih := rising_ones l b h2
    rw [List.pairwise_cons]
    refine ⟨fun c hc => ?_, ih⟩
    rcases List.mem_cons.mp hc with rfl | hc
    · exact Nat.le_of_not_lt h1
    · have := (List.pairwise_cons.mp ih).1 c hc
      exact Nat.le_trans (Nat.le_of_not_lt h1) this
theorem sorted_ones {l : List Nat} (h : sortedS (l.map oneS) = true) : l.Pairwise (· ≤ ·) := by
  cases l with
  | nil => simp
  | cons a l => exact rising_ones l a h
/-- what sorting makes of single signs -/
theorem sorted_signs {ss : List Str} {l m : List Nat} (hp : ss.Perm (l.map oneS)) (hs : sortedS ss = true) (hm : m.Perm l) (hms : m.Pairwise (· ≤ ·)) : ss = m.map oneS := by
  obtain ⟨h1, h2⟩ := ones_of_perm hp
  have e : ss.map signOf = m := by
    rw [h2] at hs
    exact (h1.trans hm.symm).eq_of_pairwise (fun a b _ _ h h' => Nat.le_antisymm h h') (sorted_ones hs) hms
  rw [h2, e]
section
variable {G : Gr} {cx : Cx} {ρ : AE} {σ : AH} {EQ : AX → AE → AH → Prop} {Q : AV → AE → AH → Prop}
end
end Mine
namespace Mine
open PySem PySem.W PyProof.Rows PyProof.Rows.LCg PySem.Calls PySem.Spec

theorem oneS_inj {a b : Nat} (h : oneS a = oneS b) : a = b := by
  have := congrArg Str.cps h
  simpa [oneS] using this
theorem oneS_beq (a b : Nat) : (oneS a == oneS b) = (a == b) := by
  by_cases h : a = b
  · subst h; rw [beq_self_eq_true, beq_self_eq_true]
  · rw [beq_eq_false_iff_ne.mpr h, beq_eq_false_iff_ne.mpr fun e => h (oneS_inj e)]
theorem upd_at (ρ : AE) (x : Str) (v : AV) : upd ρ x v x = some v := if_pos rfl
theorem upd_off {ρ : AE} {x y : Str} {v : AV} {u : Option AV} (h : ρ y = u) (hn : (y == x) = false) : upd ρ x v y = u := (if_neg (by simpa using hn)).trans h

theorem forP_ind {G : Gr} {cx : Cx} {t : Expr} {body : List Stmt} {Q : AF → AE → AH → Prop} {EQ : AX → AE → AH → Prop} {α : Type} (g : α → AV) (I : List α → AE → AH → Prop) (hnil : ∀ ρ σ, I [] ρ σ → Q .next ρ σ)
    (hcons : ∀ x rest ρ σ, I (x :: rest) ρ σ → ∃ ρ', TB cx t (g x) ρ ρ' ∧ Xs G cx ρ' σ body (fun fl ρ'' σ'' => match fl with | .next => I rest ρ'' σ'' | .ret v => Q (.ret v) ρ'' σ'') EQ) : ∀ (xs : List α) (ρ : AE) (σ : AH), I xs ρ σ → ForP G cx t body Q EQ (xs.map g) ρ σ
  | [], ρ, σ, h => hnil ρ σ h
  | x :: rest, ρ, σ, h => by
    obtain ⟨ρ', T, hb⟩ := hcons x rest ρ σ h
    refine ⟨ρ', T, hb.mono (fun fl ρ'' σ'' q => ?_) fun _ _ _ q => q⟩
    cases fl with
    | next => exact forP_ind g I hnil hcons rest ρ'' σ'' q
    | ret v => exact q

theorem JV.shrink {α β : Type} {R : Gr → Objs → β → α → Prop} {G : Gr} {cx : Cx} {ρ : AE} {σ : AH} {args : List AV} {t : List Value → Sem α} {Q : β → AE → AH → Prop} {EQ : AX → AE → AH → Prop}
    (h : JV R G cx ρ σ args t (fun b ρ' σ' => ∃ a ao σ₂, σ' = (a, ao) :: σ₂ ∧ Q b ρ' σ₂) EQ) : JV R G cx ρ σ args t Q EQ := fun ex fz s Vs g S r QQ EE hQ hE =>
  h.run g S r (fun b a ρ' σ' fz' h' tk' k S' rr q => by
    obtain ⟨x, ao, σ₂, rfl, q⟩ := q
    exact hQ b a ρ' σ₂ fz' h' tk' k S'.drop.1 rr q) hE

theorem filterMap_if {α β : Type} {p : α → Bool} {f : α → β} : ∀ l : List α, (l.filterMap fun c => if p c = true then some (f c) else none) = (l.filter p).map f
  | [] => rfl
  | c :: l => by
    simp only [List.filterMap_cons, List.filter_cons]
    cases p c <;> simp [filterMap_if l]
section
variable {G : Gr} {cx : Cx} {ρ : AE} {σ : AH} {EQ : AX → AE → AH → Prop} {Q : AV → AE → AH → Prop}

theorem one_in (c : Nat) (l : List Nat) : (!(Builtin.Str.occurrences (mkS l) (oneS c) 0 (mkS l).length 1).isEmpty) = l.contains c := by
  have h := StrLaws.found_one (mkS l) c
  refine h.trans ?_
  show decide (c ∈ (l.toArray).toList) = _
  rw [List.contains_eq_mem]
theorem op_in_one {c : Nat} {l : List Nat} (q : Q (.bool (l.contains c)) ρ σ) : JV Rel G cx ρ σ [.str (oneS c), .str (mkS l)] (two (compareOp .In)) Q EQ :=
  op_in_str (by rw [one_in]; exact q)
theorem op_notin_one {c : Nat} {l : List Nat} (q : Q (.bool (!l.contains c)) ρ σ) : JV Rel G cx ρ σ [.str (oneS c), .str (mkS l)] (two (compareOp .NotIn)) Q EQ :=
  op_notin_str (by rw [one_in]; exact q)
theorem op_len_mk {l : List Nat} (h : l.length ≤ 1000) (q : Q (.int l.length) ρ σ) : JV Rel G cx ρ σ [.str (mkS l)] (fun Vs => call (.builtin "len") Vs) Q EQ :=
  op_len_str (x := mkS l) (Nat.lt_of_le_of_lt h (by decide)) q
theorem op_cat_mk {a b : List Nat} (h : a.length + b.length ≤ 1000) (q : Q (.str (mkS (a ++ b))) ρ σ) : JV Rel G cx ρ σ [.str (mkS a), .str (mkS b)] (two (binaryOp .Add)) Q EQ :=
  op_cat (a := mkS a) (b := mkS b) (by show a.length + b.length ≤ _; rw [sizeLine_eq]; omega) (by
    have : mkS a ++ mkS b = mkS (a ++ b) := Str.ext' (by show a.toArray ++ b.toArray = _; simp [mkS])
    rw [this]; exact q)
theorem it_mk {value slice : Expr} {l : List Nat} {i c : Nat} (h : i ≤ 1000) (h1 : l[i]? = some c) (q : Q (.str (oneS c)) ρ σ) (hs : ∀ o i, subscripted slice false o i = operate [o, i] (getItem o i) := by intro o i; rfl) : JV Rel G cx ρ σ [.str (mkS l), .int (i : Int)] (two (subscriptTail value slice)) Q EQ :=
  it_str (x := mkS l) (i := i) (c := c) (by show (l.toArray)[i]? = _; simpa using h1) (nat_small h) q hs
/-- the signs of a text, those that are wanted, joined -/
theorem ev_joinc {α : Type} {e : Expr} {k : Nat} {cp apos pos : Pos} (h : Ev G cx ρ σ e (fun v ρ₁ σ₁ => ∃ l : List Nat, v = .lst (l.map fun c => .str (oneS c)) ∧ l.length ≤ 1000 ∧ Q (.str (mkS l)) ρ₁ σ₁) EQ)
    (he : starEach [e] cx.env = (false, eval e cx.env) :: starEach [] cx.env := by rfl) (hp : (apos.endLine == pos.line) = true := by rfl) : Ev G cx ρ σ (.Call (.Attribute (.Constant (.str "") k cp) "join" apos) [e] [] pos) Q EQ :=
  ev_join (h.mono (fun v ρ₁ σ₁ ⟨l, e, hl, q⟩ => ⟨l.map oneS, by rw [e, List.map_map]; rfl, joinOk_ones l (Nat.le_trans hl (by decide)), by rw [join_ones]; exact q⟩) fun _ _ _ q => q) he hp
/-- sorting a text's signs -/
theorem op_sorted_mk {l m : List Nat} (hd : cx.hd = none) (h64 : l.length < 64) (hp : m.Perm l) (hm : m.Pairwise (· ≤ ·)) (q : Q (.lst (m.map fun c => .str (oneS c))) ρ σ) : JV Rel G cx ρ σ [.str (mkS l)] (fun Vs => call (.builtin "sorted") Vs) Q EQ :=
  op_sorted_text hd h64 fun ss' hp' hs' => by
    rw [sorted_signs hp' hs' hp hm, List.map_map]; exact q
end
end Mine
namespace Mine
open PySem PySem.W PyProof.Rows PyProof.Rows.LCg PySem.Calls PySem.Spec
/-- what a frame's names hold, the newest first -/
noncomputable def Holds (ρ : AE) (tbl : List (Str × AV)) : Prop := ∀ x v, tbl.lookup x = some v → ρ x = some v
theorem Holds.of {ρ : AE} {tbl : List (Str × AV)} (h : ∀ p ∈ tbl, ρ p.1 = some p.2) : Holds ρ tbl := fun x v e => h (x, v) (lookup_mem e)
theorem Holds.upd {ρ : AE} {tbl : List (Str × AV)} (h : Holds ρ tbl) (x : Str) (v : AV) : Holds (upd ρ x v) ((x, v) :: tbl) := fun y u e => by
  rw [List.lookup_cons] at e
  by_cases q : y = x
  · subst q
    rw [beq_self_eq_true] at e
    cases e
    exact upd_at _ _ _
  · have q' : (y == x) = false := by simpa using q
    rw [q'] at e
    exact (if_neg q).trans (h y u e)
theorem whP_ind {G : Gr} {cx : Cx} {test : Expr} {body : List Stmt} {Q : AF → AE → AH → Prop} {EQ : AX → AE → AH → Prop} (I : Nat → AE → AH → Prop) (h0 : ∀ ρ σ, ¬ I 0 ρ σ)
    (step : ∀ n ρ σ, I (n + 1) ρ σ → Ts G cx ρ σ test (fun b ρ' σ' => if b = true then Xs G cx ρ' σ' body (fun fl ρ'' σ'' => match fl with | .next => I n ρ'' σ'' | .ret v => Q (.ret v) ρ'' σ'') EQ else Q .next ρ' σ') EQ) : ∀ (n : Nat) (ρ : AE) (σ : AH), I n ρ σ → WhP G cx test body Q EQ n ρ σ
  | 0, ρ, σ, h => (h0 ρ σ h).elim
  | n + 1, ρ, σ, h => (step n ρ σ h).mono (fun b ρ' σ' q => by
    cases b with
    | false => exact q
    | true =>
      rw [if_pos rfl] at q ⊢
      exact q.mono (fun fl ρ'' σ'' q => by
        cases fl with
        | next => exact whP_ind I h0 step n ρ'' σ'' q
        | ret v => exact q) fun _ _ _ q => q) fun _ _ _ q => q
theorem put_self (es : List (Str × AV)) (k : Str) (v : AV) : (put es k v).lookup k = some v := by
  unfold put
  split
  · rename_i h
    induction es with
    | nil => cases h
    | cons p es ih =>
      obtain ⟨x, u⟩ := p
      rw [List.map_cons]
      by_cases hx : x = k
      · subst hx
        rw [if_pos rfl, List.lookup_cons, beq_self_eq_true]
      · rw [if_neg hx, List.lookup_cons, beq_eq_false_iff_ne.mpr fun e => hx e.symm]
        refine ih ?_
        rw [List.any_cons, decide_eq_false hx, Bool.false_or] at h
        exact h
  · rename_i h
    induction es with
    | nil => show List.lookup k [(k, v)] = _; rw [List.lookup_cons, beq_self_eq_true]
    | cons p es ih =>
      obtain ⟨x, u⟩ := p
      rw [List.any_cons] at h
      by_cases hx : x = k
      · subst hx; simp at h
      · rw [List.cons_append, List.lookup_cons, beq_eq_false_iff_ne.mpr fun e => hx e.symm]
        refine ih fun q => h ?_
        rw [q, Bool.or_true]
end Mine
namespace Mine
open PySem PySem.W PyProof.Rows PyProof.Rows.LCg PySem.Calls PySem.Spec

section
variable {G : Gr} {cx : Cx} {ρ : AE} {σ : AH} {EQ : AX → AE → AH → Prop} {Q : AV → AE → AH → Prop}
theorem lookup_nd {es : List (Str × AV)} (hn : (es.map (·.1)).Nodup) {p : Str × AV} (hp : p ∈ es) : es.lookup p.1 = some p.2 := lookup_of_mem' hn hp
/-- two tables of the same data -/
theorem op_eq_dct {es : List (Str × AV)} (hn : (es.map (·.1)).Nodup) (had : ∀ p ∈ es, ∃ d, AD p.2 d ∧ SeqAt.shaped d = true ∧ PyData.eqv d d = true) (q : Q (.bool true) ρ σ) : JV Rel G cx ρ σ [.dct es, .dct es] (two (compareOp .Eq)) Q EQ := fun ex fz s _ g S r QQ EE hQ hE => by
  obtain ⟨V, U, rfl, r1, r2⟩ := r.two_inv
  obtain ⟨a, o, ka, rfl, hm, hs, hd, hr⟩ := r1.dct_inv
  obtain ⟨b, o', kb, rfl, hm', hs', hd', hr'⟩ := r2.dct_inv
  have hl : ka.length = kb.length := hr.length.trans hr'.length.symm
  have hits : ∀ (l : List (Str × AV)) (k : List (Str × Value)), RelE G fz l k → (∀ p ∈ l, p ∈ es) → KeqHits cx.A.in1 s kb k true := by
    intro l k r
    refine RelE.ind (P := fun l k => (∀ p ∈ l, p ∈ es) → KeqHits cx.A.in1 s kb k true) (fun _ => .nil) (fun {x v V l vs} hv _ ih hl => ?_) r
    have hp := hl (x, v) List.mem_cons_self
    obtain ⟨d, hd, hsh, he⟩ := had _ hp
    obtain ⟨Y, hY, rY⟩ := hr'.value.1 v (lookup_nd hn hp)
    obtain ⟨as, e1⟩ := hd.reads S.fzh hv
    obtain ⟨bs, e2⟩ := hd.reads S.fzh rY
    have hu : cx.A.in1.units + 64 < cLine := by
      have := S.ok.units
      show cx.A.units + 1 + 64 < 9900
      omega
    have := KeqHits.hit (e := PyData.eqv d d) (b := true) hY (keq_at (A := cx.A) e1 e2 hsh hsh hu) (ih fun p hp => hl p (List.mem_cons_of_mem _ hp))
    rw [he] at this
    exact this
  refine keq_eq (knd := strKind G.prog G.w) (r := true) hs hs' (Heap.dictOf_iff.mpr ⟨o, S.fzh _ hm, hd⟩) (Heap.dictOf_iff.mpr ⟨o', S.fzh _ hm', hd'⟩) (Nat.lt_of_le_of_lt (Nat.le_add_right _ 64) S.ok.room) (fun _ => hits es ka hr fun _ h => h) ?_
  rw [hl, beq_self_eq_true]
  exact give hQ S (.bool _) q
end

/-! a table's comprehension with two clauses -/
section
variable {prog : Program} {w : World} {A : Around} {E : Value → Shared → Prop} {R : Result → Shared → Prop} {s : Shared}
theorem codeAny_compStart1 {kx vx target iter ifs g0 scope pos it acc env}
    (h0 : codeAny (model prog w) A (.compLoop (.DictComp kx vx [g0, ⟨target, iter, ifs, 0⟩] scope pos) 1 it acc env) R s)
    (h : wpAny (model prog w) A (pyIter it) (fun it' s' => codeAny (model prog w) A (.compLoop (.DictComp kx vx [g0, ⟨target, iter, ifs, 0⟩] scope pos) 1 it' acc env) R s')
      (notedBy (model prog w) A env fun x s' => R (.error x) s') s) :
    codeAny (model prog w) A (.compStart (.DictComp kx vx [g0, ⟨target, iter, ifs, 0⟩] scope pos) 1 it acc env) R s := by
  refine codeAny_of_tree ?_
  show wpAny _ A ((compStart (.DictComp kx vx [g0, ⟨target, iter, ifs, 0⟩] scope pos) 1 it acc env).onRaise (fun x => do noteFrame x env; standAt theWindowsPlace)) _ _ s
  refine wpAny_notedAt ?_
  unfold compStart
  show wpAny _ A (ask >>= _) _ _ s
  refine wpAny_bind (wpAny_askSetting (wpAny_ite ?_))
  split
  · first
      | exact wpAny_bind (wpAny_pure (wpAny_pure (And.intro rfl h0)))
      | exact wpAny_pure (And.intro rfl h0)
  · first
      | exact wpAny_bind (wpAny_rule (wpAny_bind (wpAny_standAt (wpAny_bind (wpAny_mono h (fun it' s' h' => wpAny_pure (And.intro rfl h')) fun _ _ x => x)))))
      | (refine wpAny_bind (wpAny_rule ?_); show wpAny _ _ (standAt iter.pos >>= _) _ _ s; exact wpAny_bind (wpAny_standAt (wpAny_bind (wpAny_mono h (fun it' s' h' => wpAny_pure (And.intro rfl h')) fun _ _ x => x))))

noncomputable def D2 (kx vx t1 i1 t2 i2 : Expr) (scope : Scope) (pos : Pos) : Expr := .DictComp kx vx [⟨t1, i1, [], 0⟩, ⟨t2, i2, [], 0⟩] scope pos
theorem turn_outer (kx vx t1 i1 t2 i2 : Expr) (scope : Scope) (pos : Pos) (it : Value) (D : Addr) (env : Env) :
    compTurn (D2 kx vx t1 i1 t2 i2 scope pos) 0 it (.ref D) env = (do
      standAt i1.pos
      match ← pyNext it with
      | none => pure (.done .next)
      | some v =>
        letOwnedTupleGo t1 it v
        assign t1 env v
        let x ← eval i2 env
        standAt i2.pos
        let x ← foldedSetIterable i2 env x
        let _ ← runOwn (.compStart (D2 kx vx t1 i1 t2 i2 scope pos) 1 (← holding [x] (pyIter x)) (.ref D) env) env
        again (.compLoop (D2 kx vx t1 i1 t2 i2 scope pos) 0 it (.ref D) env)) := by rfl
theorem turn_inner (kx vx t1 i1 t2 i2 : Expr) (scope : Scope) (pos : Pos) (it : Value) (D : Addr) (env : Env) : TurnD kx vx t2 [] [⟨t1, i1, [], 0⟩, ⟨t2, i2, [], 0⟩] scope pos i2.pos 1 it D env := by
  unfold TurnD
  rfl
noncomputable def Err2 (prog : Program) (w : World) (A : Around) (env : Env) (R : Result → Shared → Prop) : Value → Shared → Prop := notedBy (model prog w) A env fun e s' => R (.error e) s'
noncomputable def Back2 (prog : Program) (w : World) (A : Around) (env : Env) (R : Result → Shared → Prop) (I : Nat → Shared → Prop) (n : Nat) (r : Result) (s : Shared) : Prop := match r with
  | .ok _ => ∃ m, m < n ∧ I m s
  | .error e => cameBackBy (model prog w) A env (Err2 prog w A env R) e s
noncomputable def Item2 (prog : Program) (w : World) (A : Around) (env : Env) (R : Result → Shared → Prop) (e t1 i2 : Expr) (D : Addr) (I : Nat → Shared → Prop) (n : Nat) (v : Value) (s : Shared) : Prop :=
  wpAny (model prog w) A (assign t1 env v) (fun _ s₂ => wpAny (model prog w) A (eval i2 env) (fun x s₃ => wpAny (model prog w) A (pyIter x) (fun it2 s₄ => codeAny (model prog w) A (.compStart e 1 it2 (.ref D) env) (Back2 prog w A env R I n) s₄) (Err2 prog w A env R) s₃) (Err2 prog w A env R) s₂) (Err2 prog w A env R) s
noncomputable def Turn2 (prog : Program) (w : World) (A : Around) (env : Env) (R : Result → Shared → Prop) (e t1 i2 : Expr) (it : Value) (D : Addr) (I : Nat → Shared → Prop) (n : Nat) (r : Option Value) (s : Shared) : Prop := match r with
  | none => R (.ok .next) s
  | some v => wpAny (model prog w) A (letOwnedTupleGo t1 it v) (fun _ s' => Item2 prog w A env R e t1 i2 D I n v s') (Err2 prog w A env R) s
theorem compLoop_any2 {kx vx t1 i1 t2 i2 : Expr} {scope : Scope} {pos : Pos} {it : Value} {D : Addr} {env : Env} (hs : ∀ x, foldedSetIterable i2 env x = pure x) (I : Nat → Shared → Prop)
    (turn : ∀ n s, I n s → wpAny (model prog w) A (pyNext it) (Turn2 prog w A env R (D2 kx vx t1 i1 t2 i2 scope pos) t1 i2 it D I n) (Err2 prog w A env R) s) (n : Nat) (h : I n s) :
    codeAny (model prog w) A (.compLoop (D2 kx vx t1 i1 t2 i2 scope pos) 0 it (.ref D) env) R s := by
  refine codeAny_loop rfl I (fun n s hI => ?_) n h
  show wpAny _ A ((compTurn (D2 kx vx t1 i1 t2 i2 scope pos) 0 it (.ref D) env).onRaise (fun x => do noteFrame x env; theTreesLotGoes x)) _ _ s
  refine wpAny_noted ?_
  rw [turn_outer]
  refine wpAny_bind (wpAny_standAt (wpAny_bind (wpAny_mono (turn n s hI) (fun r s₁ h₁ => ?_) fun _ _ h' => h')))
  cases r with
  | none => exact wpAny_pure h₁
  | some v =>
    refine wpAny_bind (wpAny_mono h₁ (fun _ s₁' h₁' => ?_) fun _ _ h' => h')
    refine wpAny_bind (wpAny_mono h₁' (fun _ s₂ h₂ => ?_) fun _ _ h' => h')
    refine wpAny_bind (wpAny_mono h₂ (fun x s₃ h₃ => ?_) fun _ _ h' => h')
    refine wpAny_bind (wpAny_standAt ?_)
    rw [hs x]
    refine wpAny_bind (wpAny_pure ?_)
    refine wpAny_bind (wpAny_holding (wpAny_mono h₃ (fun it2 s₄ h₄ => ?_) fun _ _ h' => h'))
    refine wpAny_bind (wpAny_runOwn (h := none) (codeAny_mono h₄ fun r s₅ h₅ => ?_))
    cases r with
    | ok f => exact wpAny_pure ⟨rfl, h₅⟩
    | error e => exact h₅
end

section
variable {G : Gr} {cx : Cx} {ρ : AE} {σ : AH}
noncomputable def CInv2 {α : Type} (G : Gr) (cx : Cx) (ex : Objs) (ρ : AE) (σ : AH) (fz : Objs) (s : Shared) (l : List α) (f : α → List (Str × AV)) (St : Nat → Heap → Prop) (I D : Addr) (n : Nat) (s' : Shared) : Prop :=
  ∃ i fz' h' tk' o kvs, s' = { s with heap := h', toks := tk' } ∧ n = l.length - i ∧ i ≤ l.length ∧ Sat G cx ex ρ σ fz' h' ∧ St i h' ∧ Off G cx ex σ fz' I ∧ Off G cx ex σ fz' D ∧ (∀ p ∈ fz, p ∈ fz') ∧
      h'.get? D = some o ∧ o.IsDictOf (strKind G.prog G.w) kvs ∧ RelE G fz' (puts [] ((l.take i).flatMap f)) kvs
theorem dloop_two {α β : Type} {kx vx t1 i1 t2 i2 : Expr} {scope : Scope} {pos : Pos} (l : List α) (gx : α → AV) (m : α → List β) (gy : β → AV) (hy : α → β → Str × AV) (hb : (l.flatMap fun a => (m a).map (hy a)).length ≤ 16000000) (h1 : ∀ y ∈ tNames t1, ρ y = none) (hs : ∀ x, foldedSetIterable i2 cx.env x = pure x)
    (turns : ∀ a ∈ l, ∃ ρ', TB cx t1 (gx a) ρ ρ' ∧ (∀ y ∈ tNames t2, ρ' y = none) ∧ Ev G cx ρ' σ i2 (fun v ρ'' σ'' => Itr v ((m a).map gy) ∧ ρ'' = ρ' ∧ σ'' = σ ∧ ∀ b ∈ m a, CoT G cx ρ' σ t2 [] (PrT G cx σ kx vx) (gy b) (some (hy a b))) (fun _ _ _ => False)) :
    DLoop G cx ρ σ (.DictComp kx vx [⟨t1, i1, [], 0⟩, ⟨t2, i2, [], 0⟩] scope pos) (l.map gx) (puts [] (l.flatMap fun a => (m a).map (hy a))) := by
  intro ex fz s I D fp P St o₀ R g hA It S st oI oD hne hD hD₀ fin
  have lenx : (l.map gx).length = l.length := List.length_map ..
  refine compLoop_any2 hs (CInv2 G cx ex ρ σ fz s l (fun a => (m a).map (hy a)) St I D) ?_ l.length ⟨0, fz, s.heap, s.toks, o₀, [], rfl, rfl, Nat.zero_le _, S, st, oI, oD, fun _ h => h, hD, hD₀, .nil⟩
  rintro n s' ⟨i, fz', h', tk', o, kvs, rfl, rfl, hi, S', st', oI', oD', kk, hD', ho, rl⟩
  rcases Nat.lt_or_ge i l.length with hlt | hge
  · refine It.W.item i _ _ _ (by rw [lenx]; exact hlt) st' fun v h₂ tk₂ hv st₂ k₂ => ?_
    have S₂ : Sat G cx ex ρ σ fz' h₂ := S'.keep fun b o nb e => k₂ b o (fun q => nb (by rw [List.mem_singleton.mp q]; exact oI')) e
    obtain ⟨x, hxe, rx⟩ := It.val i v hv
    have ha : l[i]? = some l[i] := List.getElem?_eq_getElem hlt
    have hxx : x = gx l[i] := by rw [List.getElem?_map, ha] at hxe; cases hxe; rfl
    subst hxx
    obtain ⟨ρ', T, ht2, hT⟩ := turns l[i] (List.getElem_mem hlt)
    obtain ⟨oI₂, nI, hoI, hcI, hnI⟩ := It.obj _ _ st₂
    have hD₂ : h₂.get? D = some o := k₂ D _ (fun q => hne (List.mem_singleton.mp q)) hD'
    have S₃ := (S₂.park hoI oI'.m oI'.f).park hD₂ oD'.m oD'.f
    refine owned_none hoI hcI hnI ?_
    refine assign_T T S₃ (.inl hA) (rx.mono kk) fun h₃ tk₃ S₄ => ?_
    have take : (l.take (i + 1)).flatMap (fun a => (m a).map (hy a)) = (l.take i).flatMap (fun a => (m a).map (hy a)) ++ (m l[i]).map (hy l[i]) := by
      rw [List.take_add_one, ha, List.flatMap_append]
      simp
    have hlen : (m l[i]).length + (puts [] ((l.take i).flatMap fun a => (m a).map (hy a))).length ≤ 16000000 := by
      have e1 := puts_length ((l.take i).flatMap fun a => (m a).map (hy a)) []
      have e2 : (l.flatMap fun a => (m a).map (hy a)) = (l.take (i + 1)).flatMap (fun a => (m a).map (hy a)) ++ (l.drop (i + 1)).flatMap (fun a => (m a).map (hy a)) := by
        rw [← List.flatMap_append, List.take_append_drop]
      rw [e2, take, List.length_append, List.length_append, List.length_map] at hb
      simp only [List.length_nil] at e1
      omega
    refine hT.run g S₄ .nil (fun v' V' ρ₅ σ₅ fz₅ h₅ tk₅ k₅ S₅ r₅ q₅ => ?_) (fun _ _ _ _ _ _ _ _ _ _ q => q.elim)
    obtain ⟨hI2, rfl, rfl, hco⟩ := q₅
    obtain ⟨v1, v2, v3, v4⟩ := S₅.unpark (fun p hp => List.mem_cons_of_mem _ (S₂.clx p hp))
    have oD₅ : Off G cx ((I, oI₂) :: ex) σ₅ fz₅ D := ⟨v3, v4, fun q => by
      rcases List.mem_cons.mp q with q | q
      · exact hne q
      · exact oD'.x q, oD'.b⟩
    have hA2 : cx.A.handled = none := hA
    refine iter_start (s := { s with heap := h₅, toks := tk₅ }) v1 hA2 hI2 r₅ fun oJ fp2 P2 St2 It2 st2 => ?_
    have offJ := v1.size_off (Nat.le_refl h₅.objs.size)
    have S₆ := v1.push oJ
    have hDJ : D ≠ h₅.objs.size := Nat.ne_of_lt (Heap.lt_size v2)
    have hD₆ : (h₅.push oJ).get? D = some o := Heap.get?_push_of_some _ v2
    have loop : codeAny (model G.prog G.w) cx.A (.compLoop (D2 kx vx t1 i1 t2 i2 scope pos) 1 (.ref h₅.objs.size) (.ref D) cx.env) (Back2 G.prog G.w cx.A cx.env R (CInv2 G cx ex ρ σ₅ fz s l (fun a => (m a).map (hy a)) St I D) (l.length - i)) { s with heap := h₅.push oJ, toks := tk₅ } := by
      refine comp_dict_loop (s := { s with heap := h₅.push oJ, toks := tk₅ }) (ρ := ρ₅) (m l[i]) gy (fun b => some (hy l[i] b)) (turn_inner kx vx t1 i1 t2 i2 scope pos _ D cx.env) g hco ht2 hA2 hlen It2 S₆ st2 offJ oD₅ hDJ hD₆ ho (rl.mono k₅) fun h₇ tk₇ fz₇ o₇ kvs₇ k₇ S₇ oD₇ hD₇ ho₇ rl₇ => ?_
      obtain ⟨u1, u2, u3, u4⟩ := S₇.unpark S₂.clx
      refine ⟨l.length - (i + 1), by omega, i + 1, fz₇, h₇, tk₇, o₇, kvs₇, rfl, rfl, hlt, u1.forget (T.keep h1), It.W.frame _ _ _ st₂ fun b hb o e => ?_, ⟨u3, u4, oI'.x, oI'.b⟩, ⟨oD₇.m, oD₇.f, oD'.x, oD'.b⟩, fun p hp => k₇ p (k₅ p (kk p hp)), hD₇, ho₇, ?_⟩
      · rcases It.fpk b hb with rfl | hb
        · rw [hoI] at e; cases e; exact u2
        · obtain ⟨p, hp, rfl⟩ := List.mem_map.mp hb
          have := S₂.fzh p (kk p hp)
          rw [e] at this; cases this
          exact u1.fzh p (k₇ p (k₅ p (kk p hp)))
      · rw [take, puts_append, ← List.filterMap_eq_map']
        exact rl₇
    exact codeAny_compStart1 loop (It2.W.self 0 _ _ _ st2 loop)
  · have hi' : i = l.length := Nat.le_antisymm hi hge
    subst hi'
    rw [← lenx] at st'
    refine It.W.done _ _ _ st' fun h₂ tk₂ k₂ => ?_
    have S₂ : Sat G cx ex ρ σ fz' h₂ := S'.keep fun b o nb e => k₂ b o (fun q => nb (by rw [List.mem_singleton.mp q]; exact oI')) e
    refine fin h₂ tk₂ fz' o kvs kk S₂ oD' (k₂ D _ (fun q => hne (List.mem_singleton.mp q)) hD') ho ?_
    rwa [List.take_length] at rl

variable {EQ : AX → AE → AH → Prop}
theorem ev_dictcomp2 {α β : Type} {kx vx t1 i1 t2 i2 : Expr} {scope : Scope} {pos : Pos} {Q : AV → AE → AH → Prop} (l : List α) (gx : α → AV) (m : α → List β) (gy : β → AV) (hy : α → β → Str × AV)
    {names : List (Str × NameKind)} (K : KN cx names) (hd : cx.hd = none) (hb : (l.flatMap fun a => (m a).map (hy a)).length ≤ 16000000)
    (h : Ev G cx ρ σ i1 (fun v ρ₁ σ₁ => Itr v (l.map gx) ∧ ρ₁ = ρ ∧ σ₁ = σ ∧ ∀ cxc, CIn cx cxc scope → (∀ x, foldedSetIterable i2 cxc.env x = pure x) ∧ ∀ a ∈ l, ∃ ρ', TB cxc t1 (gx a) (inρ scope ρ) ρ' ∧ (∀ y ∈ tNames t2, ρ' y = none) ∧ Ev G cxc ρ' σ i2 (fun v ρ'' σ'' => Itr v ((m a).map gy) ∧ ρ'' = ρ' ∧ σ'' = σ ∧ ∀ b ∈ m a, CoT G cxc ρ' σ t2 [] (PrT G cxc σ kx vx) (gy b) (some (hy a b))) (fun _ _ _ => False)) EQ)
    (q : Q (.dct (puts [] (l.flatMap fun a => (m a).map (hy a)))) ρ σ)
    (hkind : (scope.kind == .function && decide (scope.names.map (·.1)).Nodup) = true := by rfl)
    (hfree : (scope.names.all fun p => p.2 != .free || (names.lookup p.1 == some .free || names.lookup p.1 == some .cell)) = true := by rfl) (htn : ((tNames t1).all fun y => !(scope.names.lookup y == some .free)) = true := by rfl)
    (hs : ∀ x, foldedSetIterable i1 cx.env x = pure x := by intro _; rfl) :
    Ev G cx ρ σ (.DictComp kx vx [⟨t1, i1, [], 0⟩, ⟨t2, i2, [], 0⟩] scope pos) Q EQ := fun ex fz s _ g S _ QQ EE hQ hE => by
  show wpAny _ _ (eval _ _) _ _ _
  show wpAny _ _ (comprehension _ _ _ _ newDict false (eval i1 cx.env) none) _ _ _
  refine comp_dict (use := none) K hd hkind hfree hs g S (h.mono (fun v ρ₁ σ₁ q => ⟨q.1, q.2.1, q.2.2.1, fun cxc ci => dloop_two l gx m gy hy hb (fun y hy => ?_) (q.2.2.2 cxc ci).1 (q.2.2.2 cxc ci).2⟩) fun _ _ _ q => q) hE fun h' tk' fz' D C oC m oD kvs k S₀ oD' hb hD hdo rl hC hn oC₀ hCD => ?_
  · have := List.all_eq_true.mp htn y hy
    unfold inρ
    rw [if_neg (by simpa using this)]
  · obtain ⟨S', r, oC'⟩ := frozeD g S₀ oD' hb hD hdo rl oC₀ hCD
    exact ⟨m, hn, fun h'' hs'' => hQ _ _ ρ σ _ h'' tk' (fun p hp => List.mem_cons_of_mem _ (k p hp)) (S'.but hs''.extBut oC') r q⟩
end
end Mine
/-! what law 02's functions compute, in plain Lean. A sign is its code. -/
namespace Mine
noncomputable def lw : List Nat := [112, 113, 114, 115, 80, 81, 82, 83]
noncomputable def asc : List Nat := [80, 81, 82, 83, 112, 113, 114, 115]
noncomputable def turn (c : Nat) : Nat := if 112 ≤ c then c - 32 else c + 32
theorem turn_in : ∀ c ∈ lw, turn c ∈ lw := by decide
theorem turn_turn : ∀ c ∈ lw, turn (turn c) = c := by decide
theorem turn_ne : ∀ c ∈ lw, turn c ≠ c := by decide
theorem mem_asc {c : Nat} : c ∈ asc ↔ c ∈ lw := by simp [asc, lw]; omega
noncomputable def tornL (l : List Nat) : Nat := (l.filter fun c => l.contains (turn c)).length
noncomputable def sortL (l : List Nat) : List Nat := asc.filter fun c => l.contains c
noncomputable abbrev Ld := Nat → List Nat
noncomputable def addL (L : Ld) (a b : Nat) : Ld := if (L (turn a)).contains b = true then L else fun c => if c = turn a then L c ++ [b] else L c
noncomputable def leadsL (ws : List (Nat × Nat)) : Ld := ws.foldl (fun L w => addL (addL L w.1 w.2) w.2 w.1) fun _ => []
noncomputable def stepF (L : Ld) (al : List Nat) (k : Nat) : List Nat := al ++ (L (al.getD k 0)).filter fun c => !al.contains c
noncomputable def followF (L : Ld) : Nat → List Nat → Nat → List Nat
  | 0, al, _ => al
  | n + 1, al, k => if k < al.length then followF L n (stepF L al k) (k + 1) else al
noncomputable def followL (L : Ld) (c : Nat) : List Nat := followF L 9 [c] 0
/-- what all steps keep: signs, none twice -/
structure LdOk (L : Ld) : Prop where
  sg : ∀ c, ∀ d ∈ L c, d ∈ lw
  nd : ∀ c, (L c).Nodup
structure AlOk (al : List Nat) : Prop where
  sg : ∀ c ∈ al, c ∈ lw
  nd : al.Nodup
theorem nodup_le {l m : List Nat} (h : l.Nodup) (k : ∀ c ∈ l, c ∈ m) : l.length ≤ m.length := by
  induction l generalizing m with
  | nil => exact Nat.zero_le _
  | cons a l ih =>
    rw [List.nodup_cons] at h
    have ha := k a List.mem_cons_self
    have := ih (m := m.erase a) h.2 fun c hc => by
      have : c ≠ a := fun e => h.1 (e ▸ hc)
      exact (List.mem_erase_of_ne this).mpr (k c (List.mem_cons_of_mem _ hc))
    rw [List.length_erase_of_mem ha] at this
    have : 0 < m.length := List.length_pos_of_mem ha
    rw [List.length_cons]; omega
theorem AlOk.le {al : List Nat} (h : AlOk al) : al.length ≤ 8 := nodup_le (m := lw) h.nd h.sg
theorem LdOk.le {L : Ld} (h : LdOk L) (c : Nat) : (L c).length ≤ 8 := nodup_le (m := lw) (h.nd c) (h.sg c)
theorem LdOk.nil : LdOk fun _ => [] := ⟨fun _ _ h => (nomatch h), fun _ => List.nodup_nil⟩
theorem LdOk.add {L : Ld} (h : LdOk L) {a b : Nat} (hb : b ∈ lw) : LdOk (addL L a b) := by
  unfold addL
  split
  · exact h
  · rename_i hc
    have hc : b ∉ L (turn a) := by simpa using hc
    refine ⟨fun c d hd => ?_, fun c => ?_⟩
    · split at hd
      · rcases List.mem_append.mp hd with q | q
        · exact h.sg c d q
        · rw [List.mem_singleton.mp q]; exact hb
      · exact h.sg c d hd
    · split
      · rename_i e
        subst e
        rw [List.nodup_append]
        exact ⟨h.nd _, by simp, fun x hx y hy => by rw [List.mem_singleton.mp hy]; exact fun q => hc (q ▸ hx)⟩
      · exact h.nd c
theorem LdOk.leads {ws : List (Nat × Nat)} (hw : ∀ w ∈ ws, w.1 ∈ lw ∧ w.2 ∈ lw) : LdOk (leadsL ws) := by
  unfold leadsL
  have : ∀ (ws : List (Nat × Nat)) (L : Ld), (∀ w ∈ ws, w.1 ∈ lw ∧ w.2 ∈ lw) → LdOk L → LdOk (ws.foldl (fun L w => addL (addL L w.1 w.2) w.2 w.1) L) := by
    intro ws
    induction ws with
    | nil => exact fun _ _ h => h
    | cons w ws ih =>
      intro L hw h
      have := hw w List.mem_cons_self
      exact ih _ (fun w hw' => hw w (List.mem_cons_of_mem _ hw')) ((h.add this.2).add this.1)
  exact this ws _ hw .nil
theorem AlOk.step {L : Ld} (hL : LdOk L) {al : List Nat} (h : AlOk al) (k : Nat) : AlOk (stepF L al k) := by
  unfold stepF
  refine ⟨fun c hc => ?_, ?_⟩
  · rcases List.mem_append.mp hc with q | q
    · exact h.sg c q
    · exact hL.sg _ c (List.mem_filter.mp q).1
  · rw [List.nodup_append]
    refine ⟨h.nd, (hL.nd _).sublist List.filter_sublist, fun x hx y hy e => ?_⟩
    subst e
    have := (List.mem_filter.mp hy).2
    simp [hx] at this
theorem step_len (L : Ld) (al : List Nat) (k : Nat) : al.length ≤ (stepF L al k).length := by
  unfold stepF; rw [List.length_append]; exact Nat.le_add_right _ _
theorem AlOk.follow {L : Ld} (hL : LdOk L) : ∀ (n : Nat) {al : List Nat} (k : Nat), AlOk al → AlOk (followF L n al k)
  | 0, _, _, h => h
  | n + 1, al, k, h => by
    unfold followF
    split
    · exact AlOk.follow hL n (k + 1) (h.step hL k)
    · exact h
theorem AlOk.one {c : Nat} (h : c ∈ lw) : AlOk [c] := ⟨fun d hd => by rw [List.mem_singleton.mp hd]; exact h, by simp⟩
theorem AlOk.followL {L : Ld} (hL : LdOk L) {c : Nat} (h : c ∈ lw) : AlOk (Mine.followL L c) := AlOk.follow hL 9 0 (.one h)
theorem sortL_perm {al : List Nat} (h : AlOk al) : (sortL al).Perm al := by
  refine (List.perm_ext_iff_of_nodup ?_ h.nd).mpr fun c => ?_
  · exact (by decide : asc.Nodup).sublist List.filter_sublist
  · unfold sortL
    rw [List.mem_filter, mem_asc]
    constructor
    · exact fun q => by simpa using q.2
    · exact fun q => ⟨h.sg c q, by simpa using q⟩
theorem sortL_sorted (al : List Nat) : (sortL al).Pairwise (· ≤ ·) := (by decide : asc.Pairwise (· ≤ ·)).sublist List.filter_sublist
end Mine
namespace Mine
noncomputable def sm : List Nat := [112, 113, 114, 115]
noncomputable def more (st al : List Nat) : List Nat := st ++ al.filter fun c => !st.contains c
noncomputable def settleF (L : Ld) : List Nat → List Nat → Except Nat (List Nat)
  | [], st => .ok st
  | x :: r, st =>
    if (!st.contains x && !st.contains (turn x)) = true then
      if tornL (followL L x) = 0 then settleF L r (more st (followL L x))
      else if tornL (followL L (turn x)) = 0 then settleF L r (more st (followL L (turn x)))
      else .error x
    else settleF L r st
theorem AlOk.more {st al : List Nat} (h : AlOk st) (k : AlOk al) : AlOk (Mine.more st al) := by
  unfold Mine.more
  refine ⟨fun c hc => ?_, ?_⟩
  · rcases List.mem_append.mp hc with q | q
    · exact h.sg c q
    · exact k.sg c (List.mem_filter.mp q).1
  · rw [List.nodup_append]
    refine ⟨h.nd, k.nd.sublist List.filter_sublist, fun x hx y hy e => ?_⟩
    subst e
    have := (List.mem_filter.mp hy).2
    simp [hx] at this
theorem AlOk.nil : AlOk [] := ⟨fun _ h => (nomatch h), List.nodup_nil⟩
end Mine
namespace Mine
open PySem
noncomputable def idx (c : Nat) : Nat := lw.idxOf c
noncomputable def bitI (x : Int) (j : Nat) : Bool := (x.fdiv ((2 ^ j : Nat) : Int)).fmod 2 == 1
noncomputable def orI (r : List Int) (i : Nat) (b : Int) : List Int := r.set i (Builtin.bitOr (r.getD i 0) b)
noncomputable def addR (r : List Int) (w : Nat × Nat) : List Int := orI (orI r ((idx w.1 + 4) % 8) ((2 ^ idx w.2 : Nat) : Int)) ((idx w.2 + 4) % 8) ((2 ^ idx w.1 : Nat) : Int)
noncomputable def wStep (m : Nat) (r : List Int) (k : Nat) : List Int := if bitI (r.getD k 0) m = true then orI r k (r.getD m 0) else r
noncomputable def wRow (r : List Int) (m : Nat) : List Int := (List.range 8).foldl (wStep m) r
noncomputable def r0 : List Int := (List.range 8).map fun k => ((2 ^ k : Nat) : Int)
noncomputable def reachI (ws : List (Nat × Nat)) : List Int := (List.range 8).foldl wRow (ws.foldl addR r0)
/-- the signs in a row of bits, in order -/
noncomputable def rowL (x : Int) : List Nat := asc.filter fun c => bitI x (idx c)
theorem orI_len (r : List Int) (i : Nat) (b : Int) : (orI r i b).length = r.length := by unfold orI; rw [List.length_set]
theorem addR_len (r : List Int) (w : Nat × Nat) : (addR r w).length = r.length := by unfold addR; rw [orI_len, orI_len]
theorem idx_lt : ∀ c ∈ lw, idx c < 8 := by decide
end Mine
namespace Mine
open PySem
noncomputable def wayC (n k : Nat) : Nat := if (((n : Int).fdiv ((2 ^ (3 - k) : Nat) : Int)).fmod 2 == 0) = true then 112 + k else 80 + k
noncomputable def wayL (n : Nat) : List Nat := (List.range 4).map (wayC n)
noncomputable def badW (ws : List (Nat × Nat)) (way : List Nat) : List (Nat × Nat) := ws.filter fun w => !way.contains w.1 && !way.contains w.2
noncomputable def waysStep (ws : List (Nat × Nat)) (acc : List (List Nat)) (n : Nat) : List (List Nat) := if (badW ws (wayL n)).isEmpty = true then acc ++ [wayL n] else acc
noncomputable def waysL (ws : List (Nat × Nat)) : List (List Nat) := (List.range 16).foldl (waysStep ws) []
end Mine
namespace Mine
open PySem PySem.W PyProof.Rows
noncomputable def bases2 : List Int := [12, 44, 48, 29, 61, 30, 22]
noncomputable def draw2 (xs : List Int) (k : Nat) : Int := (bases2.getD k 0 + ((pickL (pickL xs none (some 42) none) (some (k : Int)) none (some 7)).map fun x => x.fmod 64).sum).fmod 64
noncomputable def draws2 (xs : List Int) : List Int := (List.range 7).map (draw2 xs)
noncomputable def wishOf (d : Int) : Nat × Nat := (lw.getD (d.fmod 8).toNat 0, lw.getD (d.fdiv 8).toNat 0)
noncomputable def wishesOf (xs : List Int) : List (Nat × Nat) := (draws2 xs).map wishOf
theorem draw2_mem {xs : List Int} {d : Int} (h : d ∈ draws2 xs) : 0 ≤ d ∧ d < 64 := by
  obtain ⟨k, _, rfl⟩ := List.mem_map.mp h
  exact ⟨Int.fmod_nonneg_of_pos _ (by decide), Int.fmod_lt_of_pos _ (by decide)⟩
theorem lw_at : ∀ k < 8, lw.getD k 0 ∈ lw := by decide
theorem oct {d : Int} (h0 : 0 ≤ d) (h1 : d < 64) : (d.fmod 8).toNat < 8 ∧ (d.fdiv 8).toNat < 8 ∧ d.fmod 8 = ((d.fmod 8).toNat : Int) ∧ d.fdiv 8 = ((d.fdiv 8).toNat : Int) := by
  rw [Int.fmod_eq_emod_of_nonneg _ (by decide), Int.fdiv_eq_ediv_of_nonneg _ (by decide)]
  omega
theorem wish_in {xs : List Int} : ∀ w ∈ wishesOf xs, w.1 ∈ lw ∧ w.2 ∈ lw := by
  intro w hw
  obtain ⟨d, hd, rfl⟩ := List.mem_map.mp hw
  obtain ⟨h0, h1⟩ := draw2_mem hd
  obtain ⟨a, b, _, _⟩ := oct h0 h1
  exact ⟨lw_at _ a, lw_at _ b⟩
end Mine
namespace Mine
open PySem
noncomputable def rcL (ws : List (Nat × Nat)) (c : Nat) : List Nat := rowL ((reachI ws).getD (idx c) 0)
noncomputable def isLost (ws : List (Nat × Nat)) (c : Nat) : Bool := (rcL ws c).contains (turn c)
noncomputable def isBoth (ws : List (Nat × Nat)) (x : Nat) : Bool := isLost ws x && isLost ws (turn x)
/-- what the plain law has to show -/
structure Law2 (ws : List (Nat × Nat)) : Prop where
  same : ∀ c ∈ lw, sortL (followL (leadsL ws) c) = rcL ws c
  torn : ∀ c ∈ lw, tornL (followL (leadsL ws) c) = tornL (rcL ws c)
  lost : ∀ c ∈ lw, tornL (followL (leadsL ws) c) ≠ 0 ↔ isLost ws c = true
  ok : ∀ st, settleF (leadsL ws) sm [] = .ok st → ∃ w rest, waysL ws = w :: rest ∧ AlOk w ∧ sortL w = sortL st
  no : ∀ x, settleF (leadsL ws) sm [] = .error x → waysL ws = [] ∧ ∃ rest, sm.filter (isBoth ws) = x :: rest
theorem rowL_sg (x : Int) : ∀ c ∈ rowL x, c ∈ lw := fun c hc => mem_asc.mp (List.mem_filter.mp hc).1
theorem rowL_len (x : Int) : (rowL x).length ≤ 1000 := Nat.le_trans (List.length_filter_le _ _) (by decide)
theorem lw_range : lw = (List.range 8).map fun k => lw.getD k 0 := by decide
theorem idx_at : ∀ k < 8, idx (lw.getD k 0) = k := by decide
end Mine
namespace Mine
open PySem PySem.W PyProof.Rows

/-! rows of bits -/
theorem bitOr_pos {x y : Int} (hx : 0 ≤ x) (hy : 0 ≤ y) : Builtin.bitOr x y = ((x.toNat ||| y.toNat : Nat) : Int) := by
  have h1 : ¬ 0 ≤ Builtin.bitNot x := by unfold Builtin.bitNot; omega
  have h2 : ¬ 0 ≤ Builtin.bitNot y := by unfold Builtin.bitNot; omega
  have e : ∀ z : Int, Builtin.bitNot (Builtin.bitNot z) = z := fun z => by unfold Builtin.bitNot; omega
  unfold Builtin.bitOr
  simp only [Builtin.bitAnd, decide_eq_false h1, decide_eq_false h2, e]
theorem bitOr_nn {x y : Int} (hx : 0 ≤ x) (hy : 0 ≤ y) : 0 ≤ Builtin.bitOr x y := by rw [bitOr_pos hx hy]; exact Int.natCast_nonneg _
theorem bitI_pos {x : Int} (hx : 0 ≤ x) (j : Nat) : bitI x j = x.toNat.testBit j := by
  have e : x = (x.toNat : Int) := (Int.toNat_of_nonneg hx).symm
  unfold bitI
  rw [e, Int.toNat_natCast, Int.fdiv_eq_ediv_of_nonneg _ (Int.natCast_nonneg _), Int.fmod_eq_emod_of_nonneg _ (by decide), Nat.testBit_eq_decide_div_mod_eq]
  generalize x.toNat = n
  have : ((n : Int) / ((2 ^ j : Nat) : Int)) % 2 = ((n / 2 ^ j % 2 : Nat) : Int) := by omega
  rw [this]
  rw [Bool.eq_iff_iff, beq_iff_eq, decide_eq_true_iff]
  omega
theorem bitI_or {x y : Int} (hx : 0 ≤ x) (hy : 0 ≤ y) (j : Nat) : bitI (Builtin.bitOr x y) j = (bitI x j || bitI y j) := by
  rw [bitI_pos (bitOr_nn hx hy), bitI_pos hx, bitI_pos hy, bitOr_pos hx hy, Int.toNat_natCast, Nat.testBit_or]
theorem bitI_pow (k j : Nat) : bitI ((2 ^ k : Nat) : Int) j = decide (k = j) := by
  rw [bitI_pos (Int.natCast_nonneg _), Int.toNat_natCast, Nat.testBit_two_pow]

structure Rows8 (r : List Int) : Prop where
  len : r.length = 8
  nn : ∀ i, 0 ≤ r.getD i 0
theorem Rows8.or {r : List Int} (h : Rows8 r) (i : Nat) {b : Int} (hb : 0 ≤ b) : Rows8 (orI r i b) := by
  refine ⟨(orI_len _ _ _).trans h.len, fun j => ?_⟩
  unfold orI
  rw [List.getD_eq_getElem?_getD, List.getElem?_set]
  split
  · rename_i e
    split
    · exact bitOr_nn (h.nn i) hb
    · exact Int.le_refl _
  · rw [← List.getD_eq_getElem?_getD]; exact h.nn j
theorem or_at {r : List Int} (h : Rows8 r) {i k : Nat} (hi : i < 8) {b : Int} (hb : 0 ≤ b) (j : Nat) : bitI ((orI r i b).getD k 0) j = (bitI (r.getD k 0) j || (decide (k = i) && bitI b j)) := by
  unfold orI
  rw [List.getD_eq_getElem?_getD, List.getElem?_set]
  by_cases e : i = k
  · subst e
    rw [if_pos rfl, if_pos (by rw [h.len]; exact hi), decide_eq_true rfl, Bool.true_and]
    exact bitI_or (h.nn i) hb j
  · rw [if_neg e, decide_eq_false (fun q => e q.symm), Bool.false_and, Bool.or_false, ← List.getD_eq_getElem?_getD]

/-- a step, of two signs, in a table of steps -/
noncomputable def M (r : List Int) (c d : Nat) : Bool := bitI (r.getD (idx c) 0) (idx d)
theorem idx_inj : ∀ c ∈ lw, ∀ d ∈ lw, idx c = idx d → c = d := by decide
theorem idx_turn : ∀ c ∈ lw, ∀ d ∈ lw, decide (idx c = (idx d + 4) % 8) = decide (c = turn d) := by decide
theorem pow_nn (k : Nat) : (0 : Int) ≤ ((2 ^ k : Nat) : Int) := Int.natCast_nonneg _
theorem Rows8.add {r : List Int} (h : Rows8 r) (w : Nat × Nat) : Rows8 (addR r w) := (h.or _ (pow_nn _)).or _ (pow_nn _)
theorem M_add {r : List Int} (h : Rows8 r) {w : Nat × Nat} (h1 : w.1 ∈ lw) (h2 : w.2 ∈ lw) {c d : Nat} (hc : c ∈ lw) (hd : d ∈ lw) :
    M (addR r w) c d = (M r c d || (decide (c = turn w.1) && decide (d = w.2)) || (decide (c = turn w.2) && decide (d = w.1))) := by
  have e : ∀ a ∈ lw, decide (idx a = idx d) = decide (d = a) := fun a ha => by
    rw [Bool.eq_iff_iff, decide_eq_true_iff, decide_eq_true_iff]
    exact ⟨fun q => (idx_inj a ha d hd q).symm, fun q => by rw [q]⟩
  unfold M addR
  rw [or_at (h.or _ (pow_nn _)) (Nat.mod_lt _ (by decide)) (pow_nn _), or_at h (Nat.mod_lt _ (by decide)) (pow_nn _), bitI_pow, bitI_pow, idx_turn c hc _ h1, idx_turn c hc _ h2, e _ h1, e _ h2]
theorem rows0 : Rows8 r0 := ⟨rfl, fun i => by
  unfold r0
  rw [List.getD_eq_getElem?_getD, List.getElem?_map]
  cases (List.range 8)[i]? with
  | none => exact Int.le_refl _
  | some k => exact pow_nn k⟩
theorem M_zero : ∀ c ∈ lw, ∀ d ∈ lw, M r0 c d = decide (c = d) := by decide +kernel

/-- one stage -/
theorem row_at {r : List Int} (h : Rows8 r) (m : Nat) (hm : m < 8) : ∀ t, t ≤ 8 → Rows8 ((List.range t).foldl (wStep m) r) ∧ ∀ i j, bitI (((List.range t).foldl (wStep m) r).getD i 0) j = (bitI (r.getD i 0) j || (decide (i < t) && (bitI (r.getD i 0) m && bitI (r.getD m 0) j)))
  | 0, _ => ⟨h, fun i j => by simp⟩
  | t + 1, ht => by
    obtain ⟨h1, h2⟩ := row_at h m hm t (by omega)
    rw [List.range_succ, List.foldl_append]
    generalize (List.range t).foldl (wStep m) r = q at h1 h2
    show Rows8 (wStep m q t) ∧ ∀ i j, bitI ((wStep m q t).getD i 0) j = _
    have hrow : ∀ j, bitI (q.getD m 0) j = bitI (r.getD m 0) j := fun j => by
      rw [h2]; cases bitI (r.getD m 0) j <;> simp
    have htm : bitI (q.getD t 0) m = bitI (r.getD t 0) m := by rw [h2]; simp
    unfold wStep
    rw [htm]
    cases hb : bitI (r.getD t 0) m with
    | false =>
      rw [if_neg (by decide)]
      refine ⟨h1, fun i j => ?_⟩
      rw [h2]
      by_cases e : i = t
      · subst e; rw [hb]; simp
      · have : decide (i < t + 1) = decide (i < t) := by
          rw [Bool.eq_iff_iff, decide_eq_true_iff, decide_eq_true_iff]; omega
        rw [this]
    | true =>
      rw [if_pos rfl]
      refine ⟨h1.or _ (h1.nn m), fun i j => ?_⟩
      rw [or_at h1 (by omega) (h1.nn m), hrow, h2]
      by_cases e : i = t
      · subst e; rw [hb]; simp
      · have : decide (i < t + 1) = decide (i < t) := by
          rw [Bool.eq_iff_iff, decide_eq_true_iff, decide_eq_true_iff]; omega
        rw [this, decide_eq_false e]; simp
theorem M_row {r : List Int} (h : Rows8 r) {s c d : Nat} (hs : s ∈ lw) (hc : c ∈ lw) : Rows8 (wRow r (idx s)) ∧ M (wRow r (idx s)) c d = (M r c d || (M r c s && M r s d)) := by
  obtain ⟨h1, h2⟩ := row_at h (idx s) (idx_lt s hs) 8 (Nat.le_refl _)
  refine ⟨h1, ?_⟩
  unfold M wRow
  rw [h2, decide_eq_true (idx_lt c hc), Bool.true_and]

/-! steps, and what they lead to -/
noncomputable def Edge (ws : List (Nat × Nat)) (c d : Nat) : Prop := ∃ w ∈ ws, (c = turn w.1 ∧ d = w.2) ∨ (c = turn w.2 ∧ d = w.1)
inductive Rt (ws : List (Nat × Nat)) (c : Nat) : Nat → Prop
  | refl : Rt ws c c
  | step {d e : Nat} : Rt ws c d → Edge ws d e → Rt ws c e
theorem Rt.trans {ws : List (Nat × Nat)} {a b c : Nat} (h : Rt ws a b) (k : Rt ws b c) : Rt ws a c := by
  induction k with
  | refl => exact h
  | step _ e ih => exact ih.step e
theorem Rt.one {ws : List (Nat × Nat)} {a b : Nat} (h : Edge ws a b) : Rt ws a b := Rt.refl.step h
section
variable {ws : List (Nat × Nat)} (hw : ∀ w ∈ ws, w.1 ∈ lw ∧ w.2 ∈ lw)
include hw
theorem Edge.to {c d : Nat} (h : Edge ws c d) : d ∈ lw := by
  obtain ⟨w, hm, ⟨_, rfl⟩ | ⟨_, rfl⟩⟩ := h
  · exact (hw w hm).2
  · exact (hw w hm).1
theorem Edge.skew {c d : Nat} (h : Edge ws c d) : Edge ws (turn d) (turn c) := by
  obtain ⟨w, hm, ⟨rfl, rfl⟩ | ⟨rfl, rfl⟩⟩ := h
  · exact ⟨w, hm, .inr ⟨rfl, turn_turn _ (hw w hm).1⟩⟩
  · exact ⟨w, hm, .inl ⟨rfl, turn_turn _ (hw w hm).2⟩⟩
theorem Rt.to {c d : Nat} (hc : c ∈ lw) (h : Rt ws c d) : d ∈ lw := by
  cases h with
  | refl => exact hc
  | step _ e => exact e.to hw
theorem Rt.skew {c d : Nat} (h : Rt ws c d) : Rt ws (turn d) (turn c) := by
  induction h with
  | refl => exact .refl
  | step _ e ih => exact (Rt.one (e.skew hw)).trans ih

omit hw in
theorem M_edges : ∀ (l : List (Nat × Nat)) (r : List Int), Rows8 r → (∀ w ∈ l, w.1 ∈ lw ∧ w.2 ∈ lw) → Rows8 (l.foldl addR r) ∧ ∀ c ∈ lw, ∀ d ∈ lw, M (l.foldl addR r) c d = true ↔ M r c d = true ∨ Edge l c d
  | [], r, h, _ => ⟨h, fun c _ d _ => ⟨.inl, fun q => q.elim id fun ⟨_, hm, _⟩ => nomatch hm⟩⟩
  | w :: l, r, h, hl => by
    have h12 := hl w List.mem_cons_self
    obtain ⟨a, b⟩ := M_edges l (addR r w) (h.add w) fun v hv => hl v (List.mem_cons_of_mem _ hv)
    refine ⟨a, fun c hc d hd => (b c hc d hd).trans ?_⟩
    rw [M_add h h12.1 h12.2 hc hd]
    simp only [Bool.or_eq_true, Bool.and_eq_true, decide_eq_true_eq]
    constructor
    · rintro (((q | ⟨q1, q2⟩) | ⟨q1, q2⟩) | ⟨v, hv, q⟩)
      · exact .inl q
      · exact .inr ⟨w, List.mem_cons_self, .inl ⟨q1, q2⟩⟩
      · exact .inr ⟨w, List.mem_cons_self, .inr ⟨q1, q2⟩⟩
      · exact .inr ⟨v, List.mem_cons_of_mem _ hv, q⟩
    · rintro (q | ⟨v, hv, q⟩)
      · exact .inl (.inl (.inl q))
      · rcases List.mem_cons.mp hv with rfl | hv
        · rcases q with q | q
          · exact .inl (.inl (.inr q))
          · exact .inl (.inr q)
        · exact .inr ⟨v, hv, q⟩

/-- the table, after the middle signs below t -/
structure Mid (ws : List (Nat × Nat)) (t : Nat) (r : List Int) : Prop where
  rows : Rows8 r
  self : ∀ c ∈ lw, M r c c = true
  edge : ∀ c ∈ lw, ∀ d ∈ lw, Edge ws c d → M r c d = true
  sound : ∀ c ∈ lw, ∀ d ∈ lw, M r c d = true → Rt ws c d
  tr : ∀ s ∈ lw, idx s < t → ∀ c ∈ lw, ∀ d ∈ lw, M r c s = true → M r s d = true → M r c d = true
omit hw in
theorem Mid.next {t : Nat} (ht : t < 8) {r : List Int} (h : Mid ws t r) : Mid ws (t + 1) (wRow r t) := by
  have hs := lw_at t ht
  have e := idx_at t ht
  generalize lw.getD t 0 = s at hs e
  subst e
  have R : ∀ c ∈ lw, ∀ d, M (wRow r (idx s)) c d = (M r c d || (M r c s && M r s d)) := fun c hc d => (M_row h.rows hs hc).2
  have U : ∀ c ∈ lw, ∀ d, M (wRow r (idx s)) c d = true ↔ M r c d = true ∨ (M r c s = true ∧ M r s d = true) := fun c hc d => by
    rw [R c hc d, Bool.or_eq_true, Bool.and_eq_true]
  refine ⟨(M_row (d := s) h.rows hs hs).1, fun c hc => (U c hc c).mpr (.inl (h.self c hc)), fun c hc d hd q => (U c hc d).mpr (.inl (h.edge c hc d hd q)), fun c hc d hd q => ?_, fun a ha hlt c hc d hd q1 q2 => ?_⟩
  · rcases (U c hc d).mp q with q | ⟨q1, q2⟩
    · exact h.sound c hc d hd q
    · exact (h.sound c hc s hs q1).trans (h.sound s hs d hd q2)
  · rw [U c hc d]
    by_cases eq : a = s
    · subst eq
      have q1' : M r c a = true := by
        rcases (U c hc a).mp q1 with q | q
        · exact q
        · exact q.1
      have q2' : M r a d = true := by
        rcases (U a ha d).mp q2 with q | q
        · exact q
        · exact q.2
      exact .inr ⟨q1', q2'⟩
    · have lt : idx a < idx s := by
        have : idx a ≠ idx s := fun q => eq (idx_inj a ha s hs q)
        omega
      rcases (U c hc a).mp q1 with x | ⟨x1, x2⟩
      · rcases (U a ha d).mp q2 with y | ⟨y1, y2⟩
        · exact .inl (h.tr a ha lt c hc d hd x y)
        · exact .inr ⟨h.tr a ha lt c hc s hs x y1, y2⟩
      · rcases (U a ha d).mp q2 with y | ⟨y1, y2⟩
        · exact .inr ⟨x1, h.tr a ha lt s hs d hd x2 y⟩
        · exact .inr ⟨x1, y2⟩
theorem reach_is {c d : Nat} (hc : c ∈ lw) (hd : d ∈ lw) : M (reachI ws) c d = true ↔ Rt ws c d := by
  obtain ⟨a, b⟩ := M_edges ws r0 rows0 hw
  have h0 : Mid ws 0 (ws.foldl addR r0) := ⟨a, fun c hc => (b c hc c hc).mpr (.inl (by rw [M_zero c hc c hc]; simp)), fun c hc d hd q => (b c hc d hd).mpr (.inr q), fun c hc d hd q => by
    rcases (b c hc d hd).mp q with q | q
    · rw [M_zero c hc d hd, decide_eq_true_iff] at q
      subst q; exact .refl
    · exact .one q, fun s hs hlt => absurd hlt (Nat.not_lt_zero _)⟩
  have all : ∀ t, t ≤ 8 → Mid ws t ((List.range t).foldl wRow (ws.foldl addR r0)) := by
    intro t
    induction t with
    | zero => intro _; rw [List.range_zero, List.foldl_nil]; exact h0
    | succ t ih =>
      intro ht
      rw [List.range_succ, List.foldl_append, List.foldl_cons, List.foldl_nil]
      exact (ih (by omega)).next (by omega)
  have h8 : Mid ws 8 (reachI ws) := by unfold reachI; exact all 8 (Nat.le_refl _)
  generalize reachI ws = R8 at h8 ⊢
  refine ⟨h8.sound c hc d hd, fun h => ?_⟩
  induction h with
  | refl => exact h8.self c hc
  | step h' e ih =>
    have hm := h'.to hw hc
    exact h8.tr _ hm (idx_lt _ hm) c hc _ hd (ih hm) (h8.edge _ hm _ hd e)
end
end Mine
namespace Mine
open PySem

theorem mem_addL (L : Ld) (a b c d : Nat) : d ∈ addL L a b c ↔ d ∈ L c ∨ (c = turn a ∧ d = b) := by
  unfold addL
  split
  · rename_i h
    refine ⟨.inl, fun q => q.elim id fun ⟨e1, e2⟩ => ?_⟩
    subst e1 e2
    simpa using h
  · show d ∈ (if c = turn a then L c ++ [b] else L c) ↔ _
    by_cases e : c = turn a
    · rw [if_pos e, List.mem_append, List.mem_singleton]
      exact ⟨fun q => q.imp id fun q => ⟨e, q⟩, fun q => q.imp id (·.2)⟩
    · rw [if_neg e]
      exact ⟨.inl, fun q => q.elim id fun q => absurd q.1 e⟩
theorem mem_leads (c d : Nat) : ∀ (ws : List (Nat × Nat)) (L : Ld), d ∈ ws.foldl (fun L w => addL (addL L w.1 w.2) w.2 w.1) L c ↔ d ∈ L c ∨ Edge ws c d
  | [], L => ⟨.inl, fun q => q.elim id fun ⟨_, h, _⟩ => nomatch h⟩
  | w :: ws, L => by
    rw [List.foldl_cons, mem_leads c d ws, mem_addL, mem_addL]
    constructor
    · rintro (((q | q) | q) | ⟨v, hv, q⟩)
      · exact .inl q
      · exact .inr ⟨w, List.mem_cons_self, .inl q⟩
      · exact .inr ⟨w, List.mem_cons_self, .inr q⟩
      · exact .inr ⟨v, List.mem_cons_of_mem _ hv, q⟩
    · rintro (q | ⟨v, hv, q⟩)
      · exact .inl (.inl (.inl q))
      · rcases List.mem_cons.mp hv with rfl | hv
        · rcases q with q | q
          · exact .inl (.inl (.inr q))
          · exact .inl (.inr q)
        · exact .inr ⟨v, hv, q⟩
theorem leads_iff (ws : List (Nat × Nat)) (c d : Nat) : d ∈ leadsL ws c ↔ Edge ws c d := by
  unfold leadsL
  rw [mem_leads]
  exact ⟨fun q => q.elim (fun h => nomatch h) id, .inr⟩

section
variable {ws : List (Nat × Nat)}
/-- what the loop of a following keeps -/
structure Fol (ws : List (Nat × Nat)) (c : Nat) (al : List Nat) (k : Nat) : Prop where
  ok : AlOk al
  first : c ∈ al
  le : k ≤ al.length
  rt : ∀ d ∈ al, Rt ws c d
  done : ∀ i d, i < k → al[i]? = some d → ∀ e ∈ leadsL ws d, e ∈ al
theorem mem_step (L : Ld) (al : List Nat) (k e : Nat) : e ∈ stepF L al k ↔ e ∈ al ∨ e ∈ L (al.getD k 0) := by
  unfold stepF
  rw [List.mem_append, List.mem_filter]
  constructor
  · exact fun q => q.imp id (·.1)
  · rintro (q | q)
    · exact .inl q
    · by_cases h : e ∈ al
      · exact .inl h
      · exact .inr ⟨q, by simpa using h⟩
theorem Fol.step (hL : LdOk (leadsL ws)) {c : Nat} {al : List Nat} {k : Nat} (h : Fol ws c al k) (hk : k < al.length) : Fol ws c (stepF (leadsL ws) al k) (k + 1) := by
  have hg : al[k]? = some (al.getD k 0) := by rw [List.getD_eq_getElem?_getD, List.getElem?_eq_getElem hk]; rfl
  refine ⟨h.ok.step hL k, (mem_step _ _ _ _).mpr (.inl h.first), ?_, fun d hd => ?_, fun i d hi hid e he => ?_⟩
  · have := step_len (leadsL ws) al k
    omega
  · rcases (mem_step _ _ _ _).mp hd with q | q
    · exact h.rt d q
    · exact (h.rt _ (List.mem_of_getElem? hg)).step ((leads_iff ws _ _).mp q)
  · have hil : i < al.length := by omega
    have hid' : al[i]? = some d := by
      unfold stepF at hid
      rwa [List.getElem?_append_left hil] at hid
    rcases Nat.lt_or_ge i k with hlt | hge
    · exact (mem_step _ _ _ _).mpr (.inl (h.done i d hlt hid' e he))
    · have : i = k := by omega
      subst this
      rw [hg] at hid'
      cases hid'
      exact (mem_step _ _ _ _).mpr (.inr he)
theorem Fol.all (hL : LdOk (leadsL ws)) {c : Nat} : ∀ (n : Nat) {al : List Nat} {k : Nat}, 9 ≤ n + k → Fol ws c al k → ∃ k', Fol ws c (followF (leadsL ws) n al k) k' ∧ (followF (leadsL ws) n al k).length ≤ k'
  | 0, al, k, h9, h => by
    have := h.ok.le
    have := h.le
    omega
  | n + 1, al, k, h9, h => by
    unfold followF
    split
    · rename_i hk
      exact Fol.all hL n (by omega) (h.step hL hk)
    · rename_i hk
      exact ⟨k, h, by omega⟩
theorem follow_is (hL : LdOk (leadsL ws)) {c : Nat} (hc : c ∈ lw) (d : Nat) : d ∈ followL (leadsL ws) c ↔ Rt ws c d := by
  obtain ⟨k, h, hk⟩ := Fol.all hL 9 (k := 0) (by decide) (al := [c]) (c := c) ⟨.one hc, by simp, Nat.zero_le _, fun d hd => by rw [List.mem_singleton.mp hd]; exact .refl, fun i d hi => absurd hi (Nat.not_lt_zero _)⟩
  show d ∈ followF (leadsL ws) 9 [c] 0 ↔ _
  refine ⟨h.rt d, fun q => ?_⟩
  induction q with
  | refl => exact h.first
  | step _ e ih =>
    obtain ⟨i, hi, hg⟩ := List.mem_iff_getElem.mp ih
    exact h.done i _ (by omega) (by rw [List.getElem?_eq_getElem hi, hg]) _ ((leads_iff ws _ _).mpr e)

variable (hw : ∀ w ∈ ws, w.1 ∈ lw ∧ w.2 ∈ lw)
include hw
theorem rc_is {c d : Nat} (hc : c ∈ lw) : d ∈ rcL ws c ↔ Rt ws c d := by
  unfold rcL rowL
  rw [List.mem_filter, mem_asc]
  exact ⟨fun q => (reach_is hw hc q.1).mp q.2, fun q => ⟨q.to hw hc, (reach_is hw hc (q.to hw hc)).mpr q⟩⟩
theorem law_same {c : Nat} (hc : c ∈ lw) : sortL (followL (leadsL ws) c) = rcL ws c := by
  unfold sortL rcL rowL
  refine List.filter_congr fun d hd => ?_
  have hd := mem_asc.mp hd
  rw [Bool.eq_iff_iff, List.contains_iff_mem, follow_is (.leads hw) hc]
  exact (reach_is hw hc hd).symm
omit hw in
theorem torn_perm {l m : List Nat} (h : l.Perm m) : tornL l = tornL m := by
  unfold tornL
  have e : (fun c => l.contains (turn c)) = fun c => m.contains (turn c) := by
    funext c
    rw [Bool.eq_iff_iff, List.contains_iff_mem, List.contains_iff_mem]
    exact h.mem_iff
  rw [e]
  exact (h.filter _).length_eq
theorem law_torn {c : Nat} (hc : c ∈ lw) : tornL (followL (leadsL ws) c) = tornL (rcL ws c) := by
  rw [← law_same hw hc]
  exact (torn_perm (sortL_perm (.followL (.leads hw) hc))).symm
/-- a sign is torn when its opposite comes along -/
theorem torn_iff {c : Nat} (hc : c ∈ lw) : tornL (followL (leadsL ws) c) ≠ 0 ↔ Rt ws c (turn c) := by
  unfold tornL
  constructor
  · intro h
    obtain ⟨d, hd⟩ := List.exists_mem_of_length_pos (Nat.pos_of_ne_zero h)
    rw [List.mem_filter, List.contains_iff_mem, follow_is (.leads hw) hc, follow_is (.leads hw) hc] at hd
    have hdl := hd.1.to hw hc
    have k := hd.2.skew hw
    rw [turn_turn d hdl] at k
    exact hd.1.trans k
  · intro h e
    have : c ∈ (followL (leadsL ws) c).filter fun x => (followL (leadsL ws) c).contains (turn x) := by
      rw [List.mem_filter, List.contains_iff_mem, follow_is (.leads hw) hc, follow_is (.leads hw) hc]
      exact ⟨.refl, h⟩
    rw [List.length_eq_zero_iff.mp e] at this
    cases this
theorem lost_iff {c : Nat} (hc : c ∈ lw) : isLost ws c = true ↔ Rt ws c (turn c) := by
  unfold isLost
  rw [List.contains_iff_mem, rc_is hw hc]
end
end Mine
namespace Mine
open PySem

/-- a set of signs that every step stays in, and that holds no sign with its opposite -/
structure Good (ws : List (Nat × Nat)) (s : List Nat) : Prop where
  cl : ∀ c ∈ s, ∀ d, Edge ws c d → d ∈ s
  co : ∀ c ∈ s, turn c ∉ s
theorem Good.rt {ws : List (Nat × Nat)} {s : List Nat} (h : Good ws s) {c d : Nat} (hc : c ∈ s) (r : Rt ws c d) : d ∈ s := by
  induction r with
  | refl => exact hc
  | step _ e ih => exact h.cl _ ih _ e
theorem Good.free {ws : List (Nat × Nat)} {s : List Nat} (h : Good ws s) {c : Nat} (hc : c ∈ s) : ¬ Rt ws c (turn c) := fun r => h.co c hc (h.rt hc r)

/-! the sixteen ways -/
theorem way_one : ∀ n < 16, ∀ c ∈ lw, (c ∈ wayL n ↔ turn c ∉ wayL n) := by decide +kernel
theorem way_nd : ∀ n < 16, (wayL n).Nodup := by decide +kernel
theorem way_sg : ∀ n < 16, ∀ c ∈ wayL n, c ∈ lw := by decide +kernel
noncomputable def code (f : Nat → Bool) : Nat := (if f 112 = true then 0 else 8) + (if f 113 = true then 0 else 4) + (if f 114 = true then 0 else 2) + (if f 115 = true then 0 else 1)
theorem code_lt (f : Nat → Bool) : code f < 16 := by
  unfold code
  cases f 112 <;> cases f 113 <;> cases f 114 <;> cases f 115 <;> decide
theorem code_way (f : Nat → Bool) : ∀ x ∈ sm, (x ∈ wayL (code f) ↔ f x = true) := by
  have key : ∀ a b c d : Bool, (112 ∈ wayL ((if a = true then 0 else 8) + (if b = true then 0 else 4) + (if c = true then 0 else 2) + (if d = true then 0 else 1)) ↔ a = true) ∧ (113 ∈ wayL ((if a = true then 0 else 8) + (if b = true then 0 else 4) + (if c = true then 0 else 2) + (if d = true then 0 else 1)) ↔ b = true) ∧
      (114 ∈ wayL ((if a = true then 0 else 8) + (if b = true then 0 else 4) + (if c = true then 0 else 2) + (if d = true then 0 else 1)) ↔ c = true) ∧ (115 ∈ wayL ((if a = true then 0 else 8) + (if b = true then 0 else 4) + (if c = true then 0 else 2) + (if d = true then 0 else 1)) ↔ d = true) := by decide +kernel
  obtain ⟨k1, k2, k3, k4⟩ := key (f 112) (f 113) (f 114) (f 115)
  intro x hx
  unfold code
  rcases List.mem_cons.mp hx with rfl | hx
  · exact k1
  · rcases List.mem_cons.mp hx with rfl | hx
    · exact k2
    · rcases List.mem_cons.mp hx with rfl | hx
      · exact k3
      · rw [List.mem_singleton.mp hx]; exact k4
theorem lw_split : ∀ c ∈ lw, c ∈ sm ∨ turn c ∈ sm := by decide
/-- a choice for every letter is one of the ways -/
theorem way_of {p : Nat → Bool} (h : ∀ c ∈ lw, (p c = true ↔ p (turn c) = false)) : ∃ n < 16, ∀ c ∈ lw, (c ∈ wayL n ↔ p c = true) := by
  refine ⟨code p, code_lt p, fun c hc => ?_⟩
  rcases lw_split c hc with q | q
  · exact code_way p c q
  · rw [way_one _ (code_lt p) c hc, code_way p _ q, h c hc]
    cases p (turn c) <;> simp
/-- of two ways the one that is small at the first letter where they part comes first -/
noncomputable def partB (n m k : Nat) : Bool := !((List.range k).all fun j => (wayL n).contains (112 + j) == (wayL m).contains (112 + j)) || !(wayL n).contains (112 + k) || (wayL m).contains (112 + k) || decide (n < m)
theorem part_all : ∀ n < 16, ∀ m < 16, ∀ k < 4, partB n m k = true := by decide +kernel
theorem way_lt {n m k : Nat} (hn : n < 16) (hm : m < 16) (hk : k < 4) (h : ∀ j < k, (112 + j ∈ wayL n ↔ 112 + j ∈ wayL m)) (h1 : 112 + k ∈ wayL n) (h2 : 112 + k ∉ wayL m) : n < m := by
  have := part_all n hn m hm k hk
  unfold partB at this
  have e : ((List.range k).all fun j => (wayL n).contains (112 + j) == (wayL m).contains (112 + j)) = true := by
    rw [List.all_eq_true]
    intro j hj
    rw [beq_iff_eq, Bool.eq_iff_iff, List.contains_iff_mem, List.contains_iff_mem]
    exact h j (List.mem_range.mp hj)
  rw [e, List.contains_iff_mem.mpr h1, show (wayL m).contains (112 + k) = false by simpa using h2] at this
  simpa using this

section
variable {ws : List (Nat × Nat)} (hw : ∀ w ∈ ws, w.1 ∈ lw ∧ w.2 ∈ lw)
noncomputable def goodN (ws : List (Nat × Nat)) (n : Nat) : Bool := (badW ws (wayL n)).isEmpty
include hw
theorem good_iff {n : Nat} (hn : n < 16) : goodN ws n = true ↔ Good ws (wayL n) := by
  unfold goodN badW
  rw [List.isEmpty_iff, List.filter_eq_nil_iff]
  have one := way_one n hn
  constructor
  · intro h
    have keep : ∀ w ∈ ws, w.1 ∈ wayL n ∨ w.2 ∈ wayL n := fun w hm => by
      have := h w hm
      simp only [Bool.and_eq_true, Bool.not_eq_true', not_and, Bool.not_eq_false] at this
      by_cases q : w.1 ∈ wayL n
      · exact .inl q
      · exact .inr (by simpa using this (by simpa using q))
    refine ⟨?_, fun c hc => (one c (way_sg n hn c hc)).mp hc⟩
    rintro c hc d ⟨w, hm, ⟨rfl, rfl⟩ | ⟨rfl, rfl⟩⟩
    · exact (keep w hm).resolve_left fun q => (one w.1 (hw w hm).1).mp q hc
    · exact (keep w hm).resolve_right fun q => (one w.2 (hw w hm).2).mp q hc
  · intro h w hm
    simp only [Bool.and_eq_true, Bool.not_eq_true', not_and, Bool.not_eq_false]
    intro q
    have q : w.1 ∉ wayL n := by simpa using q
    have h1 := (hw w hm).1
    have : turn w.1 ∈ wayL n := by
      rw [one _ (turn_in _ h1), turn_turn _ h1]; exact q
    have := h.cl _ this _ ⟨w, hm, .inl ⟨rfl, rfl⟩⟩
    simpa using this

omit hw in
theorem ways_fold : ∀ (l : List Nat) (acc : List (List Nat)), l.foldl (waysStep ws) acc = acc ++ (l.filter (goodN ws)).map wayL
  | [], acc => by simp
  | n :: l, acc => by
    rw [List.foldl_cons, ways_fold l, List.filter_cons]
    unfold waysStep
    show (if goodN ws n = true then acc ++ [wayL n] else acc) ++ _ = _
    cases goodN ws n <;> simp
omit hw in
theorem ways_is : waysL ws = ((List.range 16).filter (goodN ws)).map wayL := by
  unfold waysL
  rw [ways_fold, List.nil_append]

omit hw in
theorem ways_none : waysL ws = [] ↔ ∀ n < 16, goodN ws n ≠ true := by
  rw [ways_is, List.map_eq_nil_iff, List.filter_eq_nil_iff]
  exact ⟨fun h n hn => h n (List.mem_range.mpr hn), fun h n hn => h n (List.mem_range.mp hn)⟩
omit hw in
/-- the first way -/
theorem ways_first (h : ∃ n < 16, goodN ws n = true) : ∃ n < 16, goodN ws n = true ∧ (∀ m < n, goodN ws m ≠ true) ∧ ∃ rest, waysL ws = wayL n :: rest := by
  obtain ⟨n, hn, hg⟩ := h
  have : (List.range 16).filter (goodN ws) ≠ [] := fun e => by
    have := List.filter_eq_nil_iff.mp e n (List.mem_range.mpr hn)
    exact this hg
  cases e : (List.range 16).filter (goodN ws) with
  | nil => exact absurd e this
  | cons m r =>
    have hm : m ∈ (List.range 16).filter (goodN ws) := by rw [e]; exact List.mem_cons_self
    rw [List.mem_filter, List.mem_range] at hm
    refine ⟨m, hm.1, hm.2, fun j hj hgj => ?_, r.map wayL, by rw [ways_is, e]; rfl⟩
    have hjm : j ∈ (List.range 16).filter (goodN ws) := List.mem_filter.mpr ⟨List.mem_range.mpr (by omega), hgj⟩
    have hp : ((List.range 16).filter (goodN ws)).Pairwise (· < ·) := List.pairwise_lt_range.sublist List.filter_sublist
    rw [e] at hjm hp
    rcases List.mem_cons.mp hjm with q | q
    · omega
    · have := (List.pairwise_cons.mp hp).1 j q
      omega

/-! settling -/
/-- what is settled, behind the letters of pre -/
structure SInv (ws : List (Nat × Nat)) (pre st : List Nat) : Prop where
  ok : AlOk st
  good : Good ws st
  all : ∀ y ∈ pre, y ∈ st ∨ turn y ∈ st
omit hw in
theorem mem_more (st al : List Nat) (c : Nat) : c ∈ more st al ↔ c ∈ st ∨ c ∈ al := by
  unfold more
  rw [List.mem_append, List.mem_filter]
  constructor
  · exact fun q => q.imp id (·.1)
  · rintro (q | q)
    · exact .inl q
    · by_cases h : c ∈ st
      · exact .inl h
      · exact .inr ⟨q, by simpa using h⟩
theorem SInv.more {pre st : List Nat} (h : SInv ws pre st) {x y : Nat} (hx : x ∈ lw) (hno : turn x ∉ st) (ht : tornL (followL (leadsL ws) x) = 0) (hy : x = y ∨ x = turn y) : SInv ws (pre ++ [y]) (Mine.more st (followL (leadsL ws) x)) := by
  have F := fun d => follow_is (.leads hw) hx d
  have hn : ¬ Rt ws x (turn x) := fun q => (torn_iff hw hx).mpr q ht
  refine ⟨h.ok.more (.followL (.leads hw) hx), ⟨fun c hc d e => ?_, fun c hc hd => ?_⟩, fun z hz => ?_⟩
  · rw [mem_more] at hc ⊢
    rcases hc with q | q
    · exact .inl (h.good.cl c q d e)
    · exact .inr ((F d).mpr (((F c).mp q).step e))
  · rw [mem_more] at hc hd
    rcases hc with q | q <;> rcases hd with k | k
    · exact h.good.co c q k
    · have r := ((F _).mp k).skew hw
      rw [turn_turn c (h.ok.sg c q)] at r
      exact hno (h.good.rt q r)
    · exact hno (h.good.rt k (((F c).mp q).skew hw))
    · have r := ((F _).mp k).skew hw
      have hcl := ((F c).mp q).to hw hx
      rw [turn_turn c hcl] at r
      exact hn (((F c).mp q).trans r)
  · rcases List.mem_append.mp hz with q | q
    · exact (h.all z q).imp (fun k => (mem_more _ _ _).mpr (.inl k)) fun k => (mem_more _ _ _).mpr (.inl k)
    · rw [List.mem_singleton.mp q]
      have hself := (mem_more st (followL (leadsL ws) x) x).mpr (.inr ((F x).mpr .refl))
      rcases hy with rfl | rfl
      · exact .inl hself
      · exact .inr hself

/-- how settling ends -/
theorem settle_ends : ∀ (l pre st : List Nat), (∀ x ∈ l, x ∈ sm) → SInv ws pre st →
    (∀ st', settleF (leadsL ws) l st = .ok st' → SInv ws (pre ++ l) st') ∧
    (∀ x, settleF (leadsL ws) l st = .error x → x ∈ l ∧ Rt ws x (turn x) ∧ Rt ws (turn x) x ∧ ∃ p r st₁, l = p ++ x :: r ∧ SInv ws (pre ++ p) st₁)
  | [], pre, st, _, h => ⟨fun st' e => by cases e; rw [List.append_nil]; exact h, fun x e => by cases e⟩
  | y :: l, pre, st, hl, h => by
    have hys := hl y List.mem_cons_self
    have hyl : y ∈ lw := by
      have : ∀ x ∈ sm, x ∈ lw := by decide
      exact this y hys
    have hty := turn_in y hyl
    have hl' : ∀ x ∈ l, x ∈ sm := fun x hx => hl x (List.mem_cons_of_mem _ hx)
    have app : pre ++ y :: l = (pre ++ [y]) ++ l := by simp
    have go : ∀ st₁, SInv ws (pre ++ [y]) st₁ → settleF (leadsL ws) (y :: l) st = settleF (leadsL ws) l st₁ →
        (∀ st', settleF (leadsL ws) (y :: l) st = .ok st' → SInv ws (pre ++ y :: l) st') ∧
        (∀ x, settleF (leadsL ws) (y :: l) st = .error x → x ∈ y :: l ∧ Rt ws x (turn x) ∧ Rt ws (turn x) x ∧ ∃ p r st₁, y :: l = p ++ x :: r ∧ SInv ws (pre ++ p) st₁) := fun st₁ h₁ e => by
      obtain ⟨a, b⟩ := settle_ends l (pre ++ [y]) st₁ hl' h₁
      rw [e, app]
      refine ⟨a, fun x ex => ?_⟩
      obtain ⟨b1, b2, b3, p, r, st₂, b4, b5⟩ := b x ex
      exact ⟨List.mem_cons_of_mem _ b1, b2, b3, y :: p, r, st₂, by rw [b4]; rfl, by rw [show pre ++ y :: p = pre ++ [y] ++ p by simp]; exact b5⟩
    by_cases hc : (!st.contains y && !st.contains (turn y)) = true
    · have e : settleF (leadsL ws) (y :: l) st = if tornL (followL (leadsL ws) y) = 0 then settleF (leadsL ws) l (Mine.more st (followL (leadsL ws) y)) else if tornL (followL (leadsL ws) (turn y)) = 0 then settleF (leadsL ws) l (Mine.more st (followL (leadsL ws) (turn y))) else .error y := by
        rw [settleF, if_pos hc]
      simp only [Bool.and_eq_true, Bool.not_eq_true', List.contains_eq_mem, decide_eq_false_iff_not] at hc
      by_cases t1 : tornL (followL (leadsL ws) y) = 0
      · rw [if_pos t1] at e
        exact go _ (h.more hw hyl hc.2 t1 (.inl rfl)) e
      · rw [if_neg t1] at e
        by_cases t2 : tornL (followL (leadsL ws) (turn y)) = 0
        · rw [if_pos t2] at e
          exact go _ (h.more hw hty (by rw [turn_turn y hyl]; exact hc.1) t2 (.inr rfl)) e
        · rw [if_neg t2] at e
          have r2 := (torn_iff hw hty).mp t2
          rw [turn_turn y hyl] at r2
          exact ⟨fun st' q => (by rw [e] at q; cases q), fun x q => by
            rw [e] at q
            cases q
            exact ⟨List.mem_cons_self, (torn_iff hw hyl).mp t1, r2, [], l, st, rfl, by rw [List.append_nil]; exact h⟩⟩
    · refine go st ⟨h.ok, h.good, fun z hz => ?_⟩ (by rw [settleF, if_neg hc])
      rcases List.mem_append.mp hz with q | q
      · exact h.all z q
      · rw [List.mem_singleton.mp q]
        simp only [Bool.and_eq_true, Bool.not_eq_true', List.contains_eq_mem, decide_eq_false_iff_not, not_and, Decidable.not_not] at hc
        by_cases k : y ∈ st
        · exact .inl k
        · exact .inr (hc k)
end
end Mine
namespace Mine
open PySem
theorem sm_at {pre l : List Nat} {y : Nat} (h : sm = pre ++ y :: l) : y = 112 + pre.length ∧ pre.length < 4 ∧ ∀ j < pre.length, 112 + j ∈ pre := by
  have at_ : ∀ i < 4, sm[i]? = some (112 + i) := by decide
  have hl : pre.length < 4 := by
    have := congrArg List.length h
    rw [List.length_append, List.length_cons] at this
    have e : sm.length = 4 := rfl
    omega
  refine ⟨?_, hl, fun j hj => ?_⟩
  · have := at_ _ hl
    rw [h, List.getElem?_append_right (Nat.le_refl _), Nat.sub_self] at this
    exact Option.some.inj this
  · have := at_ j (by omega)
    rw [h, List.getElem?_append_left hj] at this
    exact List.mem_of_getElem? this
theorem sm_lw' : ∀ x ∈ sm, x ∈ lw := by decide
section
variable {ws : List (Nat × Nat)} (hw : ∀ w ∈ ws, w.1 ∈ lw ∧ w.2 ∈ lw)
include hw
/-- the signs of a good choice, as one of the ways -/
theorem good_way {p : Nat → Bool} (h : ∀ c ∈ lw, (p c = true ↔ p (turn c) = false)) (hc : ∀ c ∈ lw, p c = true → ∀ d, Edge ws c d → p d = true) : ∃ n < 16, goodN ws n = true ∧ ∀ c ∈ lw, (c ∈ wayL n ↔ p c = true) := by
  obtain ⟨n, hn, e⟩ := way_of h
  refine ⟨n, hn, (good_iff hw hn).mpr ⟨fun c hcn d hd => ?_, fun c hcn => (way_one n hn c (way_sg n hn c hcn)).mp hcn⟩, e⟩
  have hl := way_sg n hn c hcn
  exact (e d (hd.to hw)).mpr (hc c hl ((e c hl).mp hcn) d hd)

theorem first_keeps {N : Nat} (hN : N < 16) (hg : goodN ws N = true) (hf : ∀ m < N, goodN ws m ≠ true) : ∀ (l pre st : List Nat), sm = pre ++ l → SInv ws pre st → (∀ c ∈ st, c ∈ wayL N) → ∀ st', settleF (leadsL ws) l st = .ok st' → ∀ c ∈ st', c ∈ wayL N
  | [], pre, st, _, _, hs, st', e => by cases e; exact hs
  | y :: l, pre, st, hsm, h, hs, st', e => by
    have G := (good_iff hw hN).mp hg
    have hys : y ∈ sm := by rw [hsm]; simp
    have hyl := sm_lw' y hys
    have hty := turn_in y hyl
    have hsm' : sm = (pre ++ [y]) ++ l := by rw [hsm]; simp
    by_cases hc : (!st.contains y && !st.contains (turn y)) = true
    · rw [settleF, if_pos hc] at e
      simp only [Bool.and_eq_true, Bool.not_eq_true', List.contains_eq_mem, decide_eq_false_iff_not] at hc
      by_cases t1 : tornL (followL (leadsL ws) y) = 0
      · rw [if_pos t1] at e
        have h1 := h.more hw hyl hc.2 t1 (.inl rfl)
        have hy1 : y ∈ more st (followL (leadsL ws) y) := (mem_more _ _ _).mpr (.inr ((follow_is (.leads hw) hyl y).mpr .refl))
        have hin : y ∈ wayL N := by
          refine Decidable.byContradiction fun hno => ?_
          generalize hst1 : more st (followL (leadsL ws) y) = st1 at h1 hy1
          have hsub : ∀ c ∈ st, c ∈ st1 := fun c hc => by rw [← hst1]; exact (mem_more _ _ _).mpr (.inl hc)
          let p : Nat → Bool := fun c => st1.contains c || ((wayL N).contains c && !st1.contains (turn c))
          have pt : ∀ c, p c = true ↔ c ∈ st1 ∨ (c ∈ wayL N ∧ turn c ∉ st1) := fun c => by simp [p]
          have pf : ∀ c, p c = false ↔ ¬ (c ∈ st1 ∨ (c ∈ wayL N ∧ turn c ∉ st1)) := fun c => by rw [← pt c, Bool.not_eq_true]
          have key : ∃ n < 16, goodN ws n = true ∧ ∀ c ∈ lw, (c ∈ wayL n ↔ p c = true) := by
            refine good_way hw (p := p) (fun c hcl => ?_) (fun c hcl hp d hd => ?_)
            · rw [pt, pf, turn_turn c hcl]
              constructor
              · rintro (q | ⟨q1, q2⟩) (k | ⟨k1, k2⟩)
                · exact h1.good.co c q k
                · exact k2 q
                · exact q2 k
                · exact (way_one N hN c hcl).mp q1 k1
              · intro q
                rw [not_or] at q
                by_cases k : c ∈ st1
                · exact .inl k
                · exact .inr ⟨(way_one N hN c hcl).mpr fun k' => q.2 ⟨k', k⟩, q.1⟩
            · have hdl := hd.to hw
              rw [pt] at hp ⊢
              rcases hp with q | ⟨q1, q2⟩
              · exact .inl (h1.good.cl c q d hd)
              · by_cases k : turn d ∈ st1
                · exact absurd (h1.good.cl _ k _ (hd.skew hw)) q2
                · exact .inr ⟨G.cl c q1 d hd, k⟩
          obtain ⟨n, hn, hgn, hiff⟩ := key
          obtain ⟨ey, hk, hpre⟩ := sm_at hsm
          refine hf n ?_ hgn
          refine way_lt hn hN hk (fun j hj => ?_) (by rw [← ey]; exact (hiff y hyl).mpr ((pt y).mpr (.inl hy1))) (by rw [← ey]; exact hno)
          have hjp := hpre j hj
          have hjl : 112 + j ∈ lw := sm_lw' _ (by rw [hsm]; exact List.mem_append_left _ hjp)
          rw [hiff _ hjl, pt]
          rcases h.all _ hjp with q | q
          · exact ⟨fun _ => hs _ q, fun _ => .inl (hsub _ q)⟩
          · have hno' : 112 + j ∉ wayL N := fun k => (way_one N hN _ hjl).mp k (hs _ q)
            refine ⟨fun k => ?_, fun k => absurd k hno'⟩
            rcases k with k | k
            · exact absurd (hsub _ q) (h1.good.co _ k)
            · exact k.1
        refine first_keeps hN hg hf l _ _ hsm' h1 (fun c hc => ?_) st' e
        rcases (mem_more _ _ _).mp hc with q | q
        · exact hs c q
        · exact G.rt hin ((follow_is (.leads hw) hyl c).mp q)
      · rw [if_neg t1] at e
        by_cases t2 : tornL (followL (leadsL ws) (turn y)) = 0
        · rw [if_pos t2] at e
          have hno : y ∉ wayL N := fun q => G.free q ((torn_iff hw hyl).mp t1)
          have hin : turn y ∈ wayL N := by rw [way_one N hN _ hty, turn_turn y hyl]; exact hno
          refine first_keeps hN hg hf l _ _ hsm' (h.more hw hty (by rw [turn_turn y hyl]; exact hc.1) t2 (.inr rfl)) (fun c hc => ?_) st' e
          rcases (mem_more _ _ _).mp hc with q | q
          · exact hs c q
          · exact G.rt hin ((follow_is (.leads hw) hty c).mp q)
        · rw [if_neg t2] at e
          cases e
    · rw [settleF, if_neg hc] at e
      refine first_keeps hN hg hf l _ _ hsm' ⟨h.ok, h.good, fun z hz => ?_⟩ hs st' e
      rcases List.mem_append.mp hz with q | q
      · exact h.all z q
      · rw [List.mem_singleton.mp q]
        simp only [Bool.and_eq_true, Bool.not_eq_true', List.contains_eq_mem, decide_eq_false_iff_not, not_and, Decidable.not_not] at hc
        by_cases k : y ∈ st
        · exact .inl k
        · exact .inr (hc k)
omit hw in
theorem sinv_nil : SInv ws [] [] := ⟨⟨fun _ h => (nomatch h), List.nodup_nil⟩, ⟨fun _ h => (nomatch h), fun _ h => (nomatch h)⟩, fun _ h => (nomatch h)⟩

theorem law_ok {st : List Nat} (e : settleF (leadsL ws) sm [] = .ok st) : ∃ w rest, waysL ws = w :: rest ∧ AlOk w ∧ sortL w = sortL st := by
  have h : SInv ws sm st := (settle_ends hw sm [] [] (fun _ h => h) sinv_nil).1 st e
  have full : ∀ c ∈ lw, c ∈ st ∨ turn c ∈ st := fun c hc => by
    rcases lw_split c hc with q | q
    · exact h.all c q
    · have := h.all _ q
      rw [turn_turn c hc] at this
      exact this.symm
  have hex : ∃ n < 16, goodN ws n = true := by
    obtain ⟨n, hn, hg, _⟩ := good_way hw (p := fun c => st.contains c) (fun c hc => by
      rw [List.contains_iff_mem, ← Bool.not_eq_true, List.contains_iff_mem]
      exact ⟨fun q => h.good.co c q, fun q => (full c hc).resolve_right q⟩) fun c hc hp d hd => by
        rw [List.contains_iff_mem] at hp ⊢
        exact h.good.cl c hp d hd
    exact ⟨n, hn, hg⟩
  obtain ⟨N, hN, hg, hf, rest, hws⟩ := ways_first hex
  have sub := first_keeps hw hN hg hf sm [] [] rfl sinv_nil (fun _ h => nomatch h) st e
  refine ⟨wayL N, rest, hws, ⟨way_sg N hN, way_nd N hN⟩, ?_⟩
  unfold sortL
  refine List.filter_congr fun c hc => ?_
  have hc := mem_asc.mp hc
  rw [Bool.eq_iff_iff, List.contains_iff_mem, List.contains_iff_mem]
  refine ⟨fun q => ?_, sub c⟩
  rcases full c hc with k | k
  · exact k
  · exact absurd (sub _ k) ((way_one N hN c hc).mp q)

theorem law_no {x : Nat} (e : settleF (leadsL ws) sm [] = .error x) : waysL ws = [] ∧ ∃ rest, sm.filter (isBoth ws) = x :: rest := by
  obtain ⟨hx, r1, r2, p, r, st₁, hs, h⟩ := (settle_ends hw sm [] [] (fun _ h => h) sinv_nil).2 x e
  have hxl := sm_lw' x hx
  have htx := turn_in x hxl
  have r2' : Rt ws (turn x) (turn (turn x)) := by rw [turn_turn x hxl]; exact r2
  refine ⟨ways_none.mpr fun n hn hg => ?_, r.filter (isBoth ws), ?_⟩
  · have G := (good_iff hw hn).mp hg
    by_cases q : x ∈ wayL n
    · exact G.free q r1
    · have : turn x ∈ wayL n := by rw [way_one n hn _ htx, turn_turn x hxl]; exact q
      exact G.free this r2'
  · have hp : p.filter (isBoth ws) = [] := by
      rw [List.filter_eq_nil_iff]
      intro y hy hb
      have hyl : y ∈ lw := sm_lw' y (by rw [hs]; exact List.mem_append_left _ hy)
      unfold isBoth at hb
      rw [Bool.and_eq_true, lost_iff hw hyl, lost_iff hw (turn_in y hyl)] at hb
      rcases h.all y (by simpa using hy) with q | q
      · exact h.good.free q hb.1
      · exact h.good.free q hb.2
    have hbx : isBoth ws x = true := by
      unfold isBoth
      rw [Bool.and_eq_true, lost_iff hw hxl, lost_iff hw htx]
      exact ⟨r1, r2'⟩
    rw [hs, List.filter_append, hp, List.nil_append, List.filter_cons, if_pos hbx]

theorem law_two : Law2 ws :=
  ⟨fun c hc => law_same hw hc, fun c hc => law_torn hw hc, fun c hc => (torn_iff hw hc).trans (lost_iff hw hc).symm, fun st e => law_ok hw e, fun x e => law_no hw e⟩
end
end Mine
section
open PySem PySem.W PyProof.Rows
namespace Mine2
set_option maxRecDepth 100000 in
set_option maxHeartbeats 8000000 in
open_top hd for PySem.Challenge.rw_wa0004_02
end Mine2
end
namespace Mine
open PySem PySem.W PyProof.Rows PyProof.Rows.LCg PySem.Calls PySem.Spec

theorem cons_of {α : Type} {l : List α} {n : Nat} (h : l.length = n + 1) : ∃ a r, l = a :: r ∧ r.length = n := by
  cases l with
  | nil => cases h
  | cons a r => exact ⟨a, r, rfl, Nat.succ.inj h⟩
theorem one_of {α : Type} {l : List α} (h : l.length = 1) : ∃ a, l = [a] := List.length_eq_one_iff.mp h
theorem two_of {α : Type} {l : List α} (h : l.length = 2) : ∃ a b, l = [a, b] := by
  obtain ⟨a, r, e, h'⟩ := cons_of h
  obtain ⟨b, e'⟩ := one_of h'
  exact ⟨a, b, by rw [e, e']⟩
theorem three_of {α : Type} {l : List α} (h : l.length = 3) : ∃ a b c, l = [a, b, c] := by
  obtain ⟨a, r, e, h'⟩ := cons_of h
  obtain ⟨b, c, e'⟩ := two_of h'
  exact ⟨a, b, c, by rw [e, e']⟩
theorem four_of {α : Type} {l : List α} (h : l.length = 4) : ∃ a b c d, l = [a, b, c, d] := by
  obtain ⟨a, r, e, h'⟩ := cons_of h
  obtain ⟨b, c, d, e'⟩ := three_of h'
  exact ⟨a, b, c, d, by rw [e, e']⟩

theorem safe_ok {G : Gr} {P : Params} (hG : G.K = Mine2.hd.heap_39 P) {cx : Cx} {ρ : AE} {σ : AH} {EQ : AX → AE → AH → Prop} {Q : AV → AE → AH → Prop} (hd : cx.hd = none) (h1 : 1 ≤ cx.d) {value : AV} {what : Str} {f : Addr} {od : Option Addr} {osl : Array (Option Value)} {fd : FuncData}
    (hK : G.K.lookup f = some ⟨.type "function", od, .func fd, osl⟩) (hz : fd.name.length ≤ 1000) (hw : what.length ≤ 1000)
    (hf : ∀ cx' ρ', cx'.d + 1 = cx.d → cx'.hd = none → JVC G cx' ρ' σ [value] f (fun v _ σ' => Q v ρ σ') (fun x ρ₁ σ' => ρ₁ = ρ' ∧ Q (.str (failed what fd.name)) ρ σ')) :
    JVC G cx ρ σ [value, .str what, .val (.ref f)] 22 Q EQ := by
  refine call_fn (hK := by rw [hG]; rfl) (hcd := by rw [hG]; rfl) (names := ["value", "what", "func"]) (fun Vs h hl X => ?_) (by decide) rfl (by decide) (by decide) (by decide) h1 (fun cx' hd' hh' hc' hs' ho' => ?_)
  · obtain ⟨a, b, c, rfl⟩ := three_of hl
    exact Looks.of_peek X (by rw [hG]; rfl)
  have hN := KN.of_scope hs' ho'
  have hdn : cx'.hd = none := hh'.trans hd
  refine xs_cons (x_try_bare hc' hdn (xs_cons (x_ret (ev_call (ev_name (v := .val (.ref f)) rfl ⟨rfl, as_one (ev_name (v := value) rfl ?_)⟩) hK))))
  refine (hf cx' _ hd' hdn).jv.mono (fun v ρ' σ' q => q) (fun x ρ' σ' q e => ?_)
  obtain ⟨rfl, q⟩ := q
  have hz2 : (Str.empty ++ ("<" : Str) ++ what ++ " " ++ fd.name ++ "() failed>").length ≤ 10000 := by
    simp only [strLen_append]
    have e1 : Str.empty.length = 0 := rfl
    have e2 : ("<" : Str).length = 1 := rfl
    have e3 : (" " : Str).length = 1 := rfl
    have e4 : ("() failed>" : Str).length = 10 := rfl
    omega
  have hz1 : ∀ {a b : Str}, (a ++ b).length ≤ 10000 → a.length ≤ 10000 := fun h => by rw [strLen_append] at h; omega
  refine xs_cons (x_ret (ev_fstr (jn_cons (ev_str ⟨_, rfl, hz1 (hz1 (hz1 (hz1 hz2))), jn_cons (ev_fval (ev_name (v := .str what) rfl ⟨_, rfl, by omega, _, rfl, hz1 (hz1 (hz1 hz2)), jn_cons (ev_str ⟨_, rfl, hz1 (hz1 hz2), jn_cons (ev_fval (ev_fname (f := f) rfl hK hz ⟨_, rfl, by omega, _, rfl, hz1 hz2, jn_cons (ev_str ⟨_, rfl, hz2, jn_nil hz2 q⟩)⟩))⟩)⟩))⟩))))
end Mine
namespace Mine
open PySem PySem.W PyProof.Rows PyProof.Rows.LCg PySem.Calls PySem.Spec

theorem occ_sign {c : Nat} (h : c ∈ lw) : ∃ i rest, Builtin.Str.occurrences "pqrsPQRS" (oneS c) 0 (Str.length "pqrsPQRS") 1 = i :: rest ∧ ("PQRSpqrs" : Str).cps[i]? = some (turn c) ∧ ("pqrsPQRS" : Str).cps[i]? = some c ∧ i < 8 := by
  have : ∀ c ∈ lw, ∃ i < 8, Builtin.Str.occurrences "pqrsPQRS" (oneS c) 0 (Str.length "pqrsPQRS") 1 = [i] ∧ ("PQRSpqrs" : Str).cps[i]? = some (turn c) ∧ ("pqrsPQRS" : Str).cps[i]? = some c := by decide +kernel
  obtain ⟨i, h1, h2, h3, h4⟩ := this c h
  exact ⟨i, [], h2, h3, h4, h1⟩

section
variable {G : Gr} {P : Params} {cx : Cx} {ρ : AE} {σ : AH} {EQ : AX → AE → AH → Prop} {Q : AV → AE → AH → Prop}
theorem turned_ok (hG : G.K = Mine2.hd.heap_39 P) (hd : cx.hd = none) (h1 : 1 ≤ cx.d) {c : Nat} (hc : c ∈ lw) (q : Q (.str (oneS (turn c))) ρ σ) :
    JVC G cx ρ σ [.str (oneS c)] 99 Q EQ := by
  refine call_fn (hK := by rw [hG]; rfl) (hcd := by rw [hG]; rfl) (names := ["sign"]) (fun Vs h hl X => ?_) (by decide) rfl (by decide) (by decide) (by decide) h1 (fun cx' hd' hh' hc' hs' ho' => ?_)
  · obtain ⟨a, rfl⟩ := one_of hl
    exact Looks.of_pure rfl
  obtain ⟨i, rest, e1, e2, _, e3⟩ := occ_sign hc
  exact xs_cons (x_ret (ev_sub (ev_str (ev_index (ev_name rfl ⟨_, i, rest, rfl, e1, it_str e2 (nat_small (by omega)) q⟩)))))
/-- the call of it, wherever -/
theorem ev_turned (hG : G.K = Mine2.hd.heap_39 P) (hd : cx.hd = none) (h1 : 1 ≤ cx.d) {names : List (Str × NameKind)} (K : KN cx names) (hn : names.lookup ("_law_turned" : Str) = some .globalImplicit) {e : Expr} {np cp : Pos}
    (h : Ev G cx ρ σ e (fun v ρ₁ σ₁ => ∃ c ∈ lw, v = .str (oneS c) ∧ Q (.str (oneS (turn c))) ρ₁ σ₁) EQ) (he : starEach [e] cx.env = (false, eval e cx.env) :: starEach [] cx.env := by rfl) :
    Ev G cx ρ σ (.Call (.Name "_law_turned" np) [e] [] cp) Q EQ := by
  refine ev_call (ev_global (V := .ref 99) (K.glob hn) (by rw [hG]; kernel_rfl) ⟨rfl, as_one (h.mono (fun v ρ₁ σ₁ ⟨c, hc, e, q⟩ => ?_) fun _ _ _ q => q) (he := he)⟩) (by rw [hG]; rfl) (he := he)
  subst e
  exact (turned_ok hG hd h1 hc q).jv
theorem signs_mk (l : List Nat) : Itr (.str (mkS l)) (l.map fun c => AV.str (oneS c)) := Itr.str _
theorem torn_ok (hG : G.K = Mine2.hd.heap_39 P) (hd : cx.hd = none) (h1 : 2 ≤ cx.d) {l : List Nat} (hl : l.length ≤ 1000) (hs : ∀ c ∈ l, c ∈ lw) (q : Q (.int (tornL l)) ρ σ) :
    JVC G cx ρ σ [.str (mkS l)] 104 Q EQ := by
  refine call_fn (hK := by rw [hG]; rfl) (hcd := by rw [hG]; rfl) (names := ["signs"]) (fun Vs h hl X => ?_) (by decide) rfl (by decide) (by decide) (by decide) (by omega) (fun cx' hd' hh' hc' hs' ho' => ?_)
  · obtain ⟨a, rfl⟩ := one_of hl
    exact Looks.of_pure rfl
  have hK := KN.of_scope hs' ho'
  have hdn : cx'.hd = none := hh'.trans hd
  refine xs_cons (x_ret (ev_callb (ev_builtin (V := .builtin "len") (hK.glob (by rfl)) (by rw [hG]; kernel_rfl) (by rfl) ⟨rfl, as_one <| ev_listcomp l (fun c => AV.str (oneS c)) (fun c => if l.contains (turn c) = true then some (AV.str (oneS c)) else none) hK hdn (Nat.le_trans hl (by decide)) (ev_name rfl ⟨signs_mk l, rfl, rfl, fun cxc ci c hc => ?_⟩) ?_⟩)))
  · refine coT1 (b := l.contains (turn c)) (TB.name (ci.kn.mine (by rfl))) (ts_cmp <| ev_turned hG (ci.hd.trans hdn) (by rw [ci.d]; omega) ci.kn (by rfl) <| ev_name (upd_at _ _ _) ⟨c, hs c hc, rfl, ev_name (upd_off (if_pos (by rfl)) (by decide)) (op_in_one ⟨_, rfl, rfl, rfl, rfl⟩)⟩) fun _ => ev_name (upd_at _ _ _) ⟨rfl, rfl, rfl⟩
  · rw [filterMap_if]
    refine op_len_lst ?_ ?_
    · rw [List.length_map]; exact Nat.lt_of_le_of_lt (Nat.le_trans (List.length_filter_le _ _) hl) (by decide)
    · rw [List.length_map]; exact q
end
end Mine
namespace Mine
open PySem PySem.W PyProof.Rows PyProof.Rows.LCg PySem.Calls PySem.Spec

theorem ecls_sender {G : Gr} {P : Params} (hG : G.K = Mine2.hd.heap_39 P) : ECls G.K 71 68 := by
  rw [hG]
  refine ⟨⟨_, _, _, rfl, by kernel_rfl, by kernel_rfl, by kernel_rfl, by kernel_rfl, by kernel_rfl, by kernel_rfl, by kernel_rfl, by kernel_rfl, by kernel_rfl, fun self => by kernel_rfl⟩, by kernel_rfl, by kernel_rfl, by kernel_rfl, by kernel_rfl, by kernel_rfl, by kernel_rfl, by kernel_rfl, by kernel_rfl⟩
theorem ecls_recip {G : Gr} {P : Params} (hG : G.K = Mine2.hd.heap_39 P) : ECls G.K 90 87 := by
  rw [hG]
  refine ⟨⟨_, _, _, rfl, by kernel_rfl, by kernel_rfl, by kernel_rfl, by kernel_rfl, by kernel_rfl, by kernel_rfl, by kernel_rfl, by kernel_rfl, by kernel_rfl, fun self => by kernel_rfl⟩, by kernel_rfl, by kernel_rfl, by kernel_rfl, by kernel_rfl, by kernel_rfl, by kernel_rfl, by kernel_rfl, by kernel_rfl⟩

section
variable {G : Gr} {P : Params} {cx : Cx} {ρ : AE} {σ : AH} {EQ : AX → AE → AH → Prop} {Q : AV → AE → AH → Prop}
theorem init_recip (hG : G.K = Mine2.hd.heap_39 P) (hd : cx.hd = none) (h1 : 1 ≤ cx.d) {x : Addr} {v : AV}
    (q : ∀ D, Q .none ρ ((D, .ns [("recipients", v)]) :: (x, .ins 90 (some D)) :: σ)) : JVC G cx ρ ((x, .ins 90 none) :: σ) [.ref x, v] 87 Q EQ := by
  have EC := ecls_recip hG
  refine call_fn (hK := by rw [hG]; rfl) (hcd := by rw [hG]; rfl) (names := ["self", "recipients"]) (fun Vs h hl X => ?_) (by decide) rfl (by decide) (by decide) (by decide) h1 (fun cx' hd' hh' hc' hs' ho' => ?_)
  · obtain ⟨a, b, rfl⟩ := two_of hl
    exact Looks.of_pure rfl
  have hK := KN.of_scope hs' ho'
  have hdn : cx'.hd = none := hh'.trans hd
  refine xs_cons (x_attr (x := x) EC (by rw [hG]; kernel_rfl) (ev_name rfl ⟨rfl, .inl ⟨_, rfl, fun D => ?_⟩⟩))
  refine xs_cons (x_args (x := x) (d := some D) EC (ev_tuple (as_one (ev_name rfl ⟨Nat.le_of_ble_eq_true rfl, rfl, ⟨_, rfl⟩, ⟨some D, [(D, .ns _)], σ, rfl, fun D' e => ?_⟩, ?_⟩))))
  · cases e
    exact ⟨_, List.mem_cons_self⟩
  · exact xs_nil (q D)
theorem init_sender (hG : G.K = Mine2.hd.heap_39 P) (hd : cx.hd = none) (h1 : 1 ≤ cx.d) {x : Addr} {v₁ v₂ v₃ : AV}
    (q : ∀ D, Q .none ρ ((D, .ns [("sender", v₃), ("smtp_error", v₂), ("smtp_code", v₁)]) :: (x, .ins 71 (some D)) :: σ)) : JVC G cx ρ ((x, .ins 71 none) :: σ) [.ref x, v₁, v₂, v₃] 68 Q EQ := by
  have EC := ecls_sender hG
  refine call_fn (hK := by rw [hG]; rfl) (hcd := by rw [hG]; rfl) (names := ["self", "code", "msg", "sender"]) (fun Vs h hl X => ?_) (by decide) rfl (by decide) (by decide) (by decide) h1 (fun cx' hd' hh' hc' hs' ho' => ?_)
  · obtain ⟨a, b, c, d, rfl⟩ := four_of hl
    exact Looks.of_pure rfl
  have hK := KN.of_scope hs' ho'
  have hdn : cx'.hd = none := hh'.trans hd
  refine xs_cons (x_attr (x := x) EC (by rw [hG]; kernel_rfl) (ev_name rfl ⟨rfl, .inl ⟨_, rfl, fun D => ?_⟩⟩))
  refine xs_cons (x_attr (x := x) EC (by rw [hG]; kernel_rfl) (ev_name rfl ⟨rfl, .inr ⟨D, _, _, rfl, Nat.le_of_ble_eq_true rfl, ?_⟩⟩))
  refine xs_cons (x_attr (x := x) EC (by rw [hG]; kernel_rfl) (ev_name rfl ⟨rfl, .inr ⟨D, _, _, rfl, Nat.le_of_ble_eq_true rfl, ?_⟩⟩))
  refine xs_cons (x_args (x := x) (d := some D) EC (ev_tuple (as_cons (ev_name rfl (as_cons (ev_name rfl (as_one (ev_name rfl ⟨Nat.le_of_ble_eq_true rfl, rfl, ⟨_, rfl⟩, ⟨some D, [(D, .ns _)], σ, rfl, fun D' e => ?_⟩, ?_⟩))))))))
  · cases e
    exact ⟨_, List.mem_cons_self⟩
  · exact xs_nil (q D)

theorem raise_recip {Q : AF → AE → AH → Prop} {names : List (Str × NameKind)} (K : KN cx names) (hn : names.lookup ("SMTPRecipientsRefused" : Str) = some .globalImplicit) (hG : G.K = Mine2.hd.heap_39 P) (hd : cx.hd = none) (h1 : 2 ≤ cx.d) {e : Expr} {np cp pos : Pos}
    (h : Ev G cx ρ σ e (fun v ρ₁ σ₁ => EQ ⟨90, [("recipients", v)]⟩ ρ₁ σ₁) EQ) (he : starEach [e] cx.env = (false, eval e cx.env) :: starEach [] cx.env := by rfl) :
    X1 G cx ρ σ (.Raise (some (.Call (.Name "SMTPRecipientsRefused" np) [e] [] cp)) none pos) Q EQ := by
  have EC := ecls_recip hG
  refine x_raise EC hd (ev_callexc EC (ev_global (V := .ref 90) (K.glob hn) (by rw [hG]; kernel_rfl) ⟨rfl, as_one (h.mono (fun v ρ₁ σ₁ q => ?_) fun _ _ _ q => q) (he := he)⟩) (he := he))
  refine call_exc EC (by omega) fun x cx' hd' hh' => ?_
  exact init_recip hG (hh'.trans hd) (by omega) fun D => ⟨rfl, x, D, _, _, rfl, rfl, q⟩
theorem raise_sender {Q : AF → AE → AH → Prop} {names : List (Str × NameKind)} (K : KN cx names) (hn : names.lookup ("SMTPSenderRefused" : Str) = some .globalImplicit) (hG : G.K = Mine2.hd.heap_39 P) (hd : cx.hd = none) (h1 : 2 ≤ cx.d) {e₁ e₂ e₃ : Expr} {np cp pos : Pos}
    (h : Ev G cx ρ σ e₁ (fun v₁ ρ₁ σ₁ => Ev G cx ρ₁ σ₁ e₂ (fun v₂ ρ₂ σ₂ => Ev G cx ρ₂ σ₂ e₃ (fun v₃ ρ₃ σ₃ => EQ ⟨71, [("sender", v₃), ("smtp_error", v₂), ("smtp_code", v₁)]⟩ ρ₃ σ₃) EQ) EQ) EQ)
    (he : starEach [e₁, e₂, e₃] cx.env = (false, eval e₁ cx.env) :: starEach [e₂, e₃] cx.env := by rfl) (he2 : starEach [e₂, e₃] cx.env = (false, eval e₂ cx.env) :: starEach [e₃] cx.env := by rfl) (he3 : starEach [e₃] cx.env = (false, eval e₃ cx.env) :: starEach [] cx.env := by rfl)
    (hplain : (backTo cp (starEach [e₂, e₃] cx.env)).any (·.1) = false := by rfl) :
    X1 G cx ρ σ (.Raise (some (.Call (.Name "SMTPSenderRefused" np) [e₁, e₂, e₃] [] cp)) none pos) Q EQ := by
  have EC := ecls_sender hG
  refine x_raise EC hd (ev_callexc EC (ev_global (V := .ref 71) (K.glob hn) (by rw [hG]; kernel_rfl) ⟨rfl, as_cons (h.mono (fun v₁ ρ₁ σ₁ q => as_cons (q.mono (fun v₂ ρ₂ σ₂ q => as_one (q.mono (fun v₃ ρ₃ σ₃ q => ?_) fun _ _ _ q => q) (he := he3)) fun _ _ _ q => q) (he := he2)) fun _ _ _ q => q) (he := he)⟩) (he := he) (hplain := hplain))
  refine call_exc EC (by omega) fun x cx' hd' hh' => ?_
  exact init_sender hG (hh'.trans hd) (by omega) fun D => ⟨rfl, x, D, _, _, rfl, rfl, q⟩
end
end Mine
namespace Mine
open PySem PySem.W PyProof.Rows PyProof.Rows.LCg PySem.Calls PySem.Spec

noncomputable def leadsV (L : Ld) : List (Str × AV) := lw.map fun c => (oneS c, .str (mkS (L c)))
noncomputable def wishV (ws : List (Nat × Nat)) : AV := .lst (ws.map fun w => .str (mkS [w.1, w.2]))
theorem leadsV_lookup (L : Ld) {c : Nat} (hc : c ∈ lw) : (leadsV L).lookup (oneS c) = some (.str (mkS (L c))) := by
  unfold leadsV
  revert hc
  generalize lw = l
  intro hc
  induction l with
  | nil => cases hc
  | cons d l ih =>
    rw [List.map_cons, List.lookup_cons, oneS_beq]
    by_cases h : c = d
    · subst h; rw [beq_self_eq_true]
    · rw [beq_eq_false_iff_ne.mpr h]
      exact ih ((List.mem_cons.mp hc).resolve_left h)
theorem leadsV_put (L : Ld) {c : Nat} (hc : c ∈ lw) (l : List Nat) : put (leadsV L) (oneS c) (.str (mkS l)) = leadsV (fun d => if d = c then l else L d) := by
  unfold put
  have : (leadsV L).any (fun e => e.1 = oneS c) = true := List.any_eq_true.mpr ⟨_, List.mem_map_of_mem hc, by simp⟩
  rw [if_pos this]
  unfold leadsV
  rw [List.map_map]
  refine List.map_congr_left fun d _ => ?_
  show (if oneS d = oneS c then (oneS d, AV.str (mkS l)) else (oneS d, AV.str (mkS (L d)))) = _
  by_cases h : d = c
  · subst h; rw [if_pos rfl]; simp
  · rw [if_neg fun e => h (oneS_inj e)]; simp [h]
theorem signs_lw : Itr (.str "pqrsPQRS") (lw.map fun c => AV.str (oneS c)) := by
  have : signs "pqrsPQRS" = lw.map fun c => AV.str (oneS c) := by
    have : ("pqrsPQRS" : Str).cps.toList = lw := by decide +kernel
    unfold signs
    rw [this]
    rfl
  rw [← this]
  exact Itr.str _
theorem leads0 : puts [] (lw.filterMap fun c => some (oneS c, AV.str "")) = leadsV fun _ => [] := by
  rfl

noncomputable def LeadI (ws : List (Nat × Nat)) (A : Addr) (σ : AH) (l : List (Nat × Nat)) (ρ₁ : AE) (σ₁ : AH) : Prop :=
  ∃ L, ρ₁ "leads" = some (.ref A) ∧ LdOk L ∧ (∀ w ∈ l, w.1 ∈ lw ∧ w.2 ∈ lw) ∧ σ₁ = (A, .dct (leadsV L)) :: σ ∧ leadsL ws = l.foldl (fun L w => addL (addL L w.1 w.2) w.2 w.1) L
noncomputable def LeadJ (ws : List (Nat × Nat)) (A : Addr) (σ : AH) (rest l : List (Nat × Nat)) (ρ₁ : AE) (σ₁ : AH) : Prop :=
  ∃ L, ρ₁ "leads" = some (.ref A) ∧ LdOk L ∧ (∀ w ∈ l, w.1 ∈ lw ∧ w.2 ∈ lw) ∧ σ₁ = (A, .dct (leadsV L)) :: σ ∧ leadsL ws = rest.foldl (fun L w => addL (addL L w.1 w.2) w.2 w.1) (l.foldl (fun L w => addL L w.1 w.2) L)

theorem leads_ok {G : Gr} {P : Params} (hG : G.K = Mine2.hd.heap_39 P) {cx : Cx} {ρ : AE} {σ : AH} {ws : List (Nat × Nat)} {Q : AV → AE → AH → Prop} {EQ : AX → AE → AH → Prop}
    (hd : cx.hd = none) (hdp : 5 ≤ cx.d) (hw : ∀ w ∈ ws, w.1 ∈ lw ∧ w.2 ∈ lw) (hq : ∀ A, Q (.ref A) ρ ((A, .dct (leadsV (leadsL ws))) :: σ)) :
    JVC G cx ρ σ [wishV ws] 109 Q EQ := by
  refine call_fn (hK := by rw [hG]; rfl) (hcd := by rw [hG]; rfl) (names := ["wishes"]) (fun Vs h hl X => ?_) (by decide) rfl (by decide) (by decide) (by decide) (by omega) (fun cx' hd' hh' hc' hs' ho' => ?_)
  · obtain ⟨a, rfl⟩ := one_of hl
    exact Looks.of_pure rfl
  have hN := KN.of_scope hs' ho'
  have hdn : cx'.hd = none := hh'.trans hd
  refine xs_cons (x_dictcomp_live lw (fun c => AV.str (oneS c)) (fun c => some (oneS c, AV.str "")) hN hdn (by decide) (ev_str ⟨signs_lw, rfl, rfl, fun cxc ci c hc => ?_⟩) (fun A => ?_))
  · exact coT0 (TB.name (ci.kn.mine (by rfl))) ⟨ev_name (upd_at _ _ _) ⟨rfl, rfl, rfl⟩, ev_str ⟨rfl, rfl, rfl⟩⟩
  rw [leads0]
  refine xs_cons (x_for hdn hc' (ev_name rfl ⟨_, Itr.lst _, ?_⟩))
  refine forP_ind (fun w : Nat × Nat => AV.str (mkS [w.1, w.2])) (LeadI ws A σ) ?_ ?_ _ _ _ ⟨fun _ => [], rfl, .nil, hw, rfl, rfl⟩
  · rintro ρ₁ σ₁ ⟨L, h1, hL, hl, rfl, e⟩
    refine xs_cons (x_ret (ev_name h1 ?_))
    have e' : leadsL ws = L := e
    rw [← e']
    exact hq A
  · rintro w rest ρ₁ σ₁ ⟨L, h1, hL, hl, rfl, e⟩
    refine ⟨_, TB.name (hN.mine (by rfl)), ?_⟩
    have h1 : upd ρ₁ "wish" (.str (mkS [w.1, w.2])) "leads" = some (.ref A) := upd_off h1 (by decide)
    have h2 : upd ρ₁ "wish" (.str (mkS [w.1, w.2])) "wish" = some (.str (mkS [w.1, w.2])) := upd_at _ _ _
    have hw2 := hl w List.mem_cons_self
    refine xs_cons (x_for hdn hc' (ev_list <| as_cons <| ev_tuple <| as_cons <| ev_sub <| ev_name h2 <| ev_int <| it_mk (i := 0) (c := w.1) (by decide) rfl <| as_one <| ev_sub <| ev_name h2 <| ev_int <| it_mk (i := 1) (c := w.2) (by decide) rfl
      ⟨Nat.le_of_ble_eq_true rfl, as_one <| ev_tuple <| as_cons <| ev_sub <| ev_name h2 <| ev_int <| it_mk (i := 1) (c := w.2) (by decide) rfl <| as_one <| ev_sub <| ev_name h2 <| ev_int <| it_mk (i := 0) (c := w.1) (by decide) rfl
        ⟨Nat.le_of_ble_eq_true rfl, Nat.le_of_ble_eq_true rfl, _, Itr.lst _, ?_⟩⟩))
    refine forP_ind (fun w : Nat × Nat => AV.tup [AV.str (oneS w.1), AV.str (oneS w.2)]) (LeadJ ws A σ rest) ?_ ?_ [(w.1, w.2), (w.2, w.1)] _ _ ⟨L, h1, hL, ?_, rfl, e⟩
    · rintro ρ₁ σ₁ ⟨L, h1, hL, _, rfl, e⟩
      exact xs_nil ⟨L, h1, hL, fun w hw => hl w (List.mem_cons_of_mem _ hw), rfl, e⟩
    · rintro p rest' ρ₁ σ₁ ⟨L, h1, hL, hp, rfl, e⟩
      obtain ⟨a, b⟩ := p
      refine ⟨_, TB.two (hN.mine (by rfl)) (hN.mine (by rfl)), ?_⟩
      have hab := hp _ List.mem_cons_self
      have h1 : upd (upd ρ₁ "one" (.str (oneS a))) "other" (.str (oneS b)) "leads" = some (.ref A) := upd_off (upd_off h1 (by decide)) (by decide)
      have h2 : upd (upd ρ₁ "one" (.str (oneS a))) "other" (.str (oneS b)) "one" = some (.str (oneS a)) := upd_off (upd_at _ _ _) (by decide)
      have h3 : upd (upd ρ₁ "one" (.str (oneS a))) "other" (.str (oneS b)) "other" = some (.str (oneS b)) := upd_at _ _ _
      revert h1 h2 h3
      generalize upd (upd ρ₁ "one" (.str (oneS a))) "other" (.str (oneS b)) = ρ₂
      intro h1 h2 h3
      have hta := turn_in a hab.1
      refine xs_cons (x_if (ts_cmp <| ev_name h3 <| ev_sub <| ev_name h1 <| ev_turned hG hdn (by omega) hN (by rfl) <| ev_name h2 ⟨a, hab.1, rfl, it_ldct (σ₁ := []) rfl (leadsV_lookup L hta) <| op_notin_one ⟨_, rfl, ?_⟩⟩))
      cases hc : (L (turn a)).contains b with
      | true =>
        refine xs_nil (xs_nil ⟨L, h1, hL, fun w hw => hp w (List.mem_cons_of_mem _ hw), rfl, ?_⟩)
        rw [List.foldl_cons] at e
        have : addL L a b = L := if_pos hc
        rw [this] at e
        exact e
      | false =>
        have hlen := hL.le (turn a)
        refine xs_cons (x_setitem (ev_bin <| ev_sub <| ev_name h1 <| ev_turned hG hdn (by omega) hN (by rfl) <| ev_name h2 ⟨a, hab.1, rfl, it_ldct (σ₁ := []) rfl (leadsV_lookup L hta) <| ev_name h3 <| op_cat_mk (a := L (turn a)) (b := [b]) (by rw [List.length_singleton]; omega) <| ev_name h1 <| ev_turned hG hdn (by omega) hN (by rfl) <| ev_name h2 ⟨a, hab.1, rfl, st_dct (σ₁ := []) rfl (Nat.le_of_ble_eq_true rfl) ?_⟩⟩))
        rw [leadsV_put L hta]
        have : addL L a b = fun d => if d = turn a then L (turn a) ++ [b] else L d := by
          unfold addL
          rw [if_neg (by rw [hc]; decide)]
          funext d
          by_cases h : d = turn a
          · subst h; rw [if_pos rfl]
          · rw [if_neg h]; simp [h]
        rw [← this]
        exact xs_nil (xs_nil ⟨addL L a b, h1, hL.add hab.2, fun w hw => hp w (List.mem_cons_of_mem _ hw), rfl, e⟩)
    · intro p hp
      rcases List.mem_cons.mp hp with rfl | hp
      · exact hw2
      · rcases List.mem_cons.mp hp with rfl | hp
        · exact ⟨hw2.2, hw2.1⟩
        · cases hp
end Mine
namespace Mine
open PySem PySem.W PyProof.Rows PyProof.Rows.LCg PySem.Calls PySem.Spec

noncomputable def lostV (al : List Nat) : AV := .tup [.int (tornL al), .str (mkS (sortL al))]
noncomputable def refusedX (c : Nat) (al : List Nat) : AX := ⟨71, [("sender", .str (oneS c)), ("smtp_error", .str (mkS (sortL al))), ("smtp_code", .int (tornL al))]⟩
structure FolEnv (ρ : AE) (L : Ld) (T : Addr) (c : Nat) : Prop where
  l : ρ "leads" = some (.dct (leadsV L))
  t : ρ "table" = some (.ref T)
  s : ρ "sign" = some (.str (oneS c))
theorem FolEnv.upd {ρ : AE} {L : Ld} {T : Addr} {c : Nat} (h : FolEnv ρ L T c) {x : Str} {v : AV} (hx : ((("leads" : Str) == x) || (("table" : Str) == x) || (("sign" : Str) == x)) = false) : FolEnv (Mine.upd ρ x v) L T c := by
  simp only [Bool.or_eq_false_iff] at hx
  exact ⟨upd_off h.l hx.1.1, upd_off h.t hx.1.2, upd_off h.s hx.2⟩
noncomputable def FolI (L : Ld) (T : Addr) (c : Nat) (σ : AH) (n : Nat) (ρ : AE) (σ₁ : AH) : Prop :=
  ∃ (al : List Nat) (k : Nat), FolEnv ρ L T c ∧ ρ "along" = some (.str (mkS al)) ∧ ρ "k" = some (.int (k : Int)) ∧ AlOk al ∧ k ≤ al.length ∧ 10 ≤ n + k ∧ n ≤ 10 ∧ σ₁ = σ ∧ followL L c = followF L (n - 1) al k

theorem mk_len {a : List Nat} (h : AlOk a) : a.length ≤ 1000 := Nat.le_trans h.le (by decide)
theorem lt_int (a b : Nat) : decide ((a : Int) < (b : Int)) = decide (a < b) := by
  rw [Bool.eq_iff_iff, decide_eq_true_iff, decide_eq_true_iff]; exact Int.ofNat_lt

theorem follow_ok {G : Gr} {P : Params} (hG : G.K = Mine2.hd.heap_39 P) {cx : Cx} {ρ : AE} {σ₀ : AH} {L : Ld} (hL : LdOk L) {c : Nat} (hc : c ∈ lw) {T : Addr} {es : List (Str × AV)} {Q : AV → AE → AH → Prop} {EQ : AX → AE → AH → Prop}
    (hd : cx.hd = none) (hdp : 10 ≤ cx.d) (hes : es.length ≤ 100)
    (hq : tornL (followL L c) = 0 → Q (.str (mkS (followL L c))) ρ ((T, .dct es) :: σ₀))
    (he : tornL (followL L c) ≠ 0 → EQ (refusedX c (followL L c)) ρ ((T, .dct (put es (oneS c) (lostV (followL L c)))) :: σ₀)) :
    JVC G cx ρ ((T, .dct es) :: σ₀) [.tup [.dct (leadsV L), .ref T, .str (oneS c)]] 114 Q EQ := by
  refine call_fn (hK := by rw [hG]; rfl) (hcd := by rw [hG]; rfl) (names := ["ask"]) (fun Vs h hl X => ?_) (by decide) rfl (by decide) (by decide) (by decide) (by omega) (fun cx' hd' hh' hc' hs' ho' => ?_)
  · obtain ⟨a, rfl⟩ := one_of hl
    exact Looks.of_pure rfl
  have hN := KN.of_scope hs' ho'
  have hdn : cx'.hd = none := hh'.trans hd
  have hdp' : 9 ≤ cx'.d := by omega
  clear hd hdp hh' hs' ho' hd'
  refine xs_cons (x_unpack hdn (ev_name rfl ⟨_, TB.three (hN.mine (by rfl)) (hN.mine (by rfl)) (hN.mine (by rfl)), ?_⟩))
  refine xs_cons (x_assign (ev_name rfl ?_) (hN.mine (by rfl)))
  refine xs_cons (x_assign (ev_int ?_) (hN.mine (by rfl)))
  refine xs_cons (x_while hc' 10 (whP_ind (FolI L T c ((T, .dct es) :: σ₀)) ?_ ?_ 10 _ _ ⟨[c], 0, ⟨rfl, rfl, rfl⟩, rfl, rfl, .one hc, Nat.zero_le _, by decide, by decide, rfl, rfl⟩))
  · rintro ρ₁ σ₁ ⟨al, k, _, _, _, ha, hk, h10, _, _, _⟩
    have := ha.le
    omega
  · rintro n ρ₁ σ₁ ⟨al, k, hρ, hal, hk, ha, hkl, h10, hn, rfl, e⟩
    refine ts_cmp <| ev_name hk <| ev_callb <| ev_builtin (V := .builtin "len") (hN.glob (by rfl)) (by rw [hG]; kernel_rfl) (by rfl) ⟨rfl, as_one <| ev_name hal <| op_len_mk (mk_len ha) <| op_lt_int ⟨_, rfl, ?_⟩⟩
    rw [lt_int]
    by_cases hlt : k < al.length
    · rw [decide_eq_true hlt, if_pos rfl]
      have hget : al[k]? = some (al.getD k 0) := by rw [List.getD_eq_getElem?_getD, List.getElem?_eq_getElem hlt]; rfl
      have hsg : al.getD k 0 ∈ lw := ha.sg _ (List.mem_of_getElem? hget)
      have h8 := ha.le
      have hLl := hL.le (al.getD k 0)
      have hfl : ((L (al.getD k 0)).filter fun c => !al.contains c).length ≤ 8 := Nat.le_trans (List.length_filter_le _ _) hLl
      refine xs_cons (x_assign (ev_bin <| ev_name hal <| ev_joinc (α := Nat) <| ev_listcomp (L (al.getD k 0)) (fun c => AV.str (oneS c)) (fun c => if (!al.contains c) = true then some (AV.str (oneS c)) else none) hN hdn (Nat.le_trans hLl (by decide))
        (ev_sub <| ev_name hρ.l <| ev_sub <| ev_name hal <| ev_name hk <| it_mk (by omega) hget <| it_dct (leadsV_lookup L hsg) ⟨signs_mk _, rfl, rfl, fun cxc ci d hd => ?_⟩) ⟨(L (al.getD k 0)).filter fun c => !al.contains c, ?_, by omega, op_cat_mk (by omega) ?_⟩) (hN.mine (by rfl)))
      · exact coT1 (b := !al.contains d) (TB.name (ci.kn.mine (by rfl))) (ts_cmp <| ev_name (upd_at _ _ _) <| ev_name (upd_off ((if_pos (by rfl)).trans hal) (by decide)) <| op_notin_one ⟨_, rfl, rfl, rfl, rfl⟩) fun _ => ev_name (upd_at _ _ _) ⟨rfl, rfl, rfl⟩
      · rw [filterMap_if]
      · refine xs_cons (x_assign (ev_bin <| ev_name (upd_off hk (by decide)) <| ev_int <| op_add ?_) (hN.mine (by rfl)))
        refine xs_nil ⟨stepF L al k, k + 1, (hρ.upd (by decide)).upd (by decide), upd_off (upd_at _ _ _) (by decide), upd_at _ _ _, ha.step hL k, ?_, by omega, by omega, rfl, ?_⟩
        · have := step_len L al k
          omega
        · rw [e]
          cases n with
          | zero => omega
          | succ m =>
            show followF L (m + 1) al k = followF L m _ _
            rw [followF, if_pos hlt]
    · rw [decide_eq_false hlt]
      simp only [Bool.false_eq_true, if_false]
      have ef : followL L c = al := by
        rw [e]
        cases n with
        | zero => rfl
        | succ m =>
          show followF L (m + 1) al k = al
          rw [followF, if_neg hlt]
      clear e hkl h10 hlt hk
      rw [ef] at hq he
      clear ef
      refine xs_cons (x_if (ts_cmp <| ev_call (ev_global (V := .ref 104) (hN.glob (by rfl)) (by rw [hG]; kernel_rfl) ⟨rfl, as_one <| ev_name hal (torn_ok hG hdn (by omega) (mk_len ha) ha.sg <| ev_int <| op_gt_int ⟨_, rfl, ?_⟩).jv⟩) (by rw [hG]; rfl)))
      by_cases ht : tornL al = 0
      · rw [ht, show decide ((0 : Int) < ((0 : Nat) : Int)) = false from rfl]
        exact xs_nil (xs_cons (x_ret (ev_name hal (hq ht))))
      · have hlt : (0 : Int) < (tornL al : Int) := Int.ofNat_lt.mpr (Nat.pos_of_ne_zero ht)
        rw [decide_eq_true hlt, if_pos rfl]
        refine xs_cons (x_setitem (ev_tuple <| as_cons <| ev_call (ev_global (V := .ref 104) (hN.glob (by rfl)) (by rw [hG]; kernel_rfl) ⟨rfl, as_one <| ev_name hal (torn_ok hG hdn (by omega) (mk_len ha) ha.sg <| as_one <| ev_joinc (α := Nat) <| ev_callb <| ev_builtin (V := .builtin "sorted") (hN.glob (by rfl)) (by rw [hG]; kernel_rfl) (by rfl) ⟨rfl, as_one <| ev_name hal <| op_sorted_mk hdn (Nat.lt_of_le_of_lt ha.le (by decide)) (sortL_perm ha) (sortL_sorted al) ⟨sortL al, rfl, ?_, Nat.le_of_ble_eq_true rfl, ev_name hρ.t <| ev_name hρ.s <| st_dct (σ₁ := []) rfl (Nat.le_trans hes (by decide)) ?_⟩⟩).jv⟩) (by rw [hG]; rfl)))
        · rw [(sortL_perm ha).length_eq]; exact mk_len ha
        · have hpl := put_self es (oneS c) (lostV al)
          refine xs_cons (raise_sender hN (by rfl) hG hdn (by omega) (ev_sub <| ev_sub <| ev_name hρ.t <| ev_name hρ.s <| it_ldct (σ₁ := []) rfl hpl <| ev_int <| it_tup (i := 0) rfl (by decide) <| ev_sub <| ev_sub <| ev_name hρ.t <| ev_name hρ.s <| it_ldct (σ₁ := []) rfl hpl <| ev_int <| it_tup (i := 1) rfl (by decide) <| ev_name hρ.s (he ht)))
end Mine
namespace Mine
open PySem PySem.W PyProof.Rows PyProof.Rows.LCg PySem.Calls PySem.Spec

theorem follow_name {c : Nat} (h : c ∈ lw) : failed (oneS c) "_law_follow" = "<" ++ oneS c ++ " _law_follow() failed>" := by
  have : ∀ c ∈ lw, failed (oneS c) "_law_follow" = "<" ++ oneS c ++ " _law_follow() failed>" := by decide +kernel
  exact this c h
theorem name_len {c : Nat} : ("<" ++ oneS c ++ " _law_follow() failed>" : Str).length = 24 := by
  have : (" _law_follow() failed>" : Str).length = 22 := by decide +kernel
  rw [strLen_append, strLen_append, this]; rfl
theorem text_no {al : List Nat} (h : AlOk al) {c : Nat} : (mkS al == ("<" ++ oneS c ++ " _law_follow() failed>" : Str)) = false := by
  rw [beq_eq_false_iff_ne]
  intro e
  have := congrArg Str.length e
  rw [name_len] at this
  have h8 := h.le
  have e1 : (mkS al).length = al.length := rfl
  omega

structure SetEnv (ρ : AE) (L : Ld) (st : List Nat) (x : Nat) (T : Addr) : Prop where
  l : ρ "leads" = some (.dct (leadsV L))
  s : ρ "settled" = some (.str (mkS st))
  m : ρ "small" = some (.str (oneS x))
  g : ρ "great" = some (.str (oneS (turn x)))
  t : ρ "table" = some (.ref T)
theorem SetEnv.upd {ρ : AE} {L : Ld} {st : List Nat} {x : Nat} {T : Addr} (h : SetEnv ρ L st x T) {v : AV} : SetEnv (Mine.upd ρ "told" v) L st x T :=
  ⟨upd_off h.l (by decide), upd_off h.s (by decide), upd_off h.m (by decide), upd_off h.g (by decide), upd_off h.t (by decide)⟩
noncomputable def SetI (L : Ld) (σ : AH) (l : List Nat) (ρ₁ : AE) (σ₁ : AH) : Prop :=
  ∃ st, ρ₁ "leads" = some (.dct (leadsV L)) ∧ ρ₁ "settled" = some (.str (mkS st)) ∧ AlOk st ∧ (∀ x ∈ l, x ∈ sm) ∧ σ₁ = σ ∧ settleF L sm [] = settleF L l st
noncomputable def SetM1 (L : Ld) (σ : AH) (st : List Nat) (x : Nat) (T : Addr) (fl : AF) (ρ₁ : AE) (σ₁ : AH) : Prop :=
  fl = .next ∧ SetEnv ρ₁ L st x T ∧ ((ρ₁ "told" = some (.str (mkS (followL L x))) ∧ tornL (followL L x) = 0 ∧ σ₁ = (T, .dct []) :: σ) ∨
    (ρ₁ "told" = some (.str (failed (oneS x) "_law_follow")) ∧ tornL (followL L x) ≠ 0 ∧ σ₁ = (T, .dct [(oneS x, lostV (followL L x))]) :: σ))
noncomputable def SetM2 (L : Ld) (σ : AH) (st : List Nat) (x : Nat) (T : Addr) (fl : AF) (ρ₁ : AE) (σ₁ : AH) : Prop :=
  fl = .next ∧ SetEnv ρ₁ L st x T ∧ ((∃ al es, ρ₁ "told" = some (.str (mkS al)) ∧ AlOk al ∧ σ₁ = (T, .dct es) :: σ ∧ (tornL al = 0 ∧ (al = followL L x ∨ tornL (followL L x) ≠ 0 ∧ al = followL L (turn x)))) ∨
    (ρ₁ "told" = some (.str (failed (oneS (turn x)) "_law_follow")) ∧ tornL (followL L x) ≠ 0 ∧ tornL (followL L (turn x)) ≠ 0 ∧ σ₁ = (T, .dct [(oneS x, lostV (followL L x)), (oneS (turn x), lostV (followL L (turn x)))]) :: σ))
theorem sm_lw : ∀ x ∈ sm, x ∈ lw := by decide
theorem signs_sm : Itr (.str "pqrs") (sm.map fun c => AV.str (oneS c)) := by
  have : signs "pqrs" = sm.map fun c => AV.str (oneS c) := by
    have : ("pqrs" : Str).cps.toList = sm := by decide +kernel
    unfold signs
    rw [this]
    rfl
  rw [← this]
  exact Itr.str _
theorem table_two {x : Nat} (hx : x ∈ lw) (v u : AV) : put [(oneS x, v)] (oneS (turn x)) u = [(oneS x, v), (oneS (turn x), u)] := by
  unfold put
  have : ([(oneS x, v)] : List (Str × AV)).any (fun e => e.1 = oneS (turn x)) = false := by
    rw [List.any_cons, List.any_nil, Bool.or_false, decide_eq_false_iff_not]
    exact fun e => turn_ne x hx (oneS_inj e).symm
  rw [this]
  rfl

theorem settle_ok {G : Gr} {P : Params} (hG : G.K = Mine2.hd.heap_39 P) {cx : Cx} {ρ : AE} {σ : AH} {L : Ld} (hL : LdOk L) {Q : AV → AE → AH → Prop} {EQ : AX → AE → AH → Prop}
    (hd : cx.hd = none) (hdp : 20 ≤ cx.d)
    (hq : ∀ st, settleF L sm [] = .ok st → AlOk st → Q (.str (mkS st)) ρ σ)
    (he : ∀ x T, x ∈ sm → settleF L sm [] = .error x → EQ ⟨90, [("recipients", .ref T)]⟩ ρ ((T, .dct [(oneS x, lostV (followL L x)), (oneS (turn x), lostV (followL L (turn x)))]) :: σ)) :
    JVC G cx ρ σ [.dct (leadsV L)] 119 Q EQ := by
  refine call_fn (hK := by rw [hG]; rfl) (hcd := by rw [hG]; rfl) (names := ["leads"]) (fun Vs h hl X => ?_) (by decide) rfl (by decide) (by decide) (by decide) (by omega) (fun cx' hd' hh' hc' hs' ho' => ?_)
  · obtain ⟨a, rfl⟩ := one_of hl
    exact Looks.of_pure rfl
  have hN := KN.of_scope hs' ho'
  have hdn : cx'.hd = none := hh'.trans hd
  have hdp' : 18 ≤ cx'.d := by omega
  clear hd hdp hh' hs' ho' hd'
  refine xs_cons (x_assign (ev_str ?_) (hN.mine (by rfl)))
  refine xs_cons (x_for hdn hc' (ev_str ⟨_, signs_sm, ?_⟩))
  refine forP_ind (fun c => AV.str (oneS c)) (SetI L σ) ?_ ?_ _ _ _ ⟨[], rfl, rfl, .nil, fun _ h => h, rfl, rfl⟩
  · rintro ρ₁ σ₁ ⟨st, h1, h2, h3, _, rfl, e⟩
    exact xs_cons (x_ret (ev_name h2 (hq st e h3)))
  · clear hq
    rintro x rest ρ₁ σ₁ ⟨st, h1, h2, h3, h4, rfl, e⟩
    refine ⟨_, TB.name (hN.mine (by rfl)), ?_⟩
    have hxs := h4 x List.mem_cons_self
    have hx := sm_lw x hxs
    have htx := turn_in x hx
    have h4' : ∀ y ∈ rest, y ∈ sm := fun y hy => h4 y (List.mem_cons_of_mem _ hy)
    have hst8 := h3.le
    refine xs_cons (x_assign (ev_turned hG hdn (by omega) hN (by rfl) <| ev_name (upd_at _ _ _) ⟨x, hx, rfl, ?_⟩) (hN.mine (by rfl)))
    have h1 : upd (upd ρ₁ "small" (.str (oneS x))) "great" (.str (oneS (turn x))) "leads" = some (.dct (leadsV L)) := upd_off (upd_off h1 (by decide)) (by decide)
    have h2 : upd (upd ρ₁ "small" (.str (oneS x))) "great" (.str (oneS (turn x))) "settled" = some (.str (mkS st)) := upd_off (upd_off h2 (by decide)) (by decide)
    have h5 : upd (upd ρ₁ "small" (.str (oneS x))) "great" (.str (oneS (turn x))) "small" = some (.str (oneS x)) := upd_off (upd_at _ _ _) (by decide)
    have h6 : upd (upd ρ₁ "small" (.str (oneS x))) "great" (.str (oneS (turn x))) "great" = some (.str (oneS (turn x))) := upd_at _ _ _
    revert h1 h2 h5 h6
    generalize upd (upd ρ₁ "small" (.str (oneS x))) "great" (.str (oneS (turn x))) = ρ₂
    intro h1 h2 h5 h6
    have skip : (!st.contains x && !st.contains (turn x)) = false → SetI L σ₁ rest ρ₂ σ₁ := fun q => ⟨st, h1, h2, h3, h4', rfl, by rw [e, settleF, if_neg (by rw [q]; decide)]⟩
    refine xs_cons (x_if (ts_and <| ts_cmp <| ev_name h5 <| ev_name h2 <| op_notin_one ⟨_, rfl, ?_⟩))
    cases c1 : st.contains x with
    | true => exact xs_nil (xs_nil (skip (by rw [c1]; rfl)))
    | false =>
    refine ts_cmp <| ev_name h6 <| ev_name h2 <| op_notin_one ⟨_, rfl, ?_⟩
    cases c2 : st.contains (turn x) with
    | true => exact xs_nil (xs_nil (skip (by rw [c1, c2]; rfl)))
    | false =>
    clear skip
    have e : settleF L sm [] = if tornL (followL L x) = 0 then settleF L rest (more st (followL L x)) else if tornL (followL L (turn x)) = 0 then settleF L rest (more st (followL L (turn x))) else .error x := by
      rw [e, settleF, if_pos (by rw [c1, c2]; rfl)]
    refine xs_cons (x_assign (ev_dict0 fun T => ?_) (hN.mine (by rfl)))
    have E : SetEnv (upd ρ₂ "table" (.ref T)) L st x T := ⟨upd_off h1 (by decide), upd_off h2 (by decide), upd_off h5 (by decide), upd_off h6 (by decide), upd_at _ _ _⟩
    revert E
    generalize upd ρ₂ "table" (.ref T) = ρ₃
    intro E
    have nm : ∀ {c : Nat}, ("<" ++ oneS c : Str).length = 2 := by intro c; rw [strLen_append]; rfl
    have nl : (" _law_follow() failed>" : Str).length = 22 := by decide +kernel
    refine xs_cons (JV.mono (Q := SetM1 L σ₁ st x T) ?_ ?_ fun _ _ _ q => q)
    · refine x_assign (ev_call (ev_global (V := .ref 22) (hN.glob (by rfl)) (by rw [hG]; kernel_rfl) ⟨rfl, as_cons <| ev_tuple <| as_cons <| ev_name E.l <| as_cons <| ev_name E.t <| as_one <| ev_name E.m ⟨Nat.le_of_ble_eq_true rfl, as_cons <| ev_name E.m <| as_one <| ev_global (V := .ref 114) (hN.glob (by rfl)) (by rw [hG]; kernel_rfl) ?_⟩⟩) (by rw [hG]; rfl)) (hN.mine (by rfl))
      refine (safe_ok hG hdn (by omega) (by rw [hG]; rfl) (by decide) (by show 1 ≤ 1000; decide) fun cx₂ ρ₂ hd₂ hdn₂ => ?_).jv
      refine follow_ok (es := []) hG hL hx hdn₂ (by omega) (by decide) (fun h0 => ?_) fun h0 => ⟨rfl, ?_⟩
      · exact ⟨rfl, E.upd, .inl ⟨upd_at _ _ _, h0, rfl⟩⟩
      · exact ⟨rfl, E.upd, .inr ⟨upd_at _ _ _, h0, rfl⟩⟩
    · clear E h1 h2 h5 h6
      rintro fl ρ' σ' ⟨rfl, E, H⟩
      refine xs_cons (JV.mono (Q := SetM2 L σ₁ st x T) ?_ ?_ fun _ _ _ q => q)
      · rcases H with ⟨h1, h0, rfl⟩ | ⟨h1, h0, rfl⟩
        · have al := AlOk.followL hL hx
          refine x_if (ts_cmp <| ev_name h1 <| ev_bin <| ev_bin <| ev_str <| ev_name E.m <| op_cat (by rw [sizeLine_eq]; show 2 ≤ _; decide) <| ev_str <| op_cat (by rw [nm, nl, sizeLine_eq]; decide) <| op_eq_str ⟨_, rfl, ?_⟩)
          rw [text_no al]
          exact xs_nil ⟨rfl, E, .inl ⟨_, _, h1, al, rfl, h0, .inl rfl⟩⟩
        · refine x_if (ts_cmp <| ev_name h1 <| ev_bin <| ev_bin <| ev_str <| ev_name E.m <| op_cat (by rw [sizeLine_eq]; show 2 ≤ _; decide) <| ev_str <| op_cat (by rw [nm, nl, sizeLine_eq]; decide) <| op_eq_str ⟨_, rfl, ?_⟩)
          rw [follow_name hx, beq_self_eq_true]
          refine xs_cons (x_assign (ev_call (ev_global (V := .ref 22) (hN.glob (by rfl)) (by rw [hG]; kernel_rfl) ⟨rfl, as_cons <| ev_tuple <| as_cons <| ev_name E.l <| as_cons <| ev_name E.t <| as_one <| ev_name E.g ⟨Nat.le_of_ble_eq_true rfl, as_cons <| ev_name E.g <| as_one <| ev_global (V := .ref 114) (hN.glob (by rfl)) (by rw [hG]; kernel_rfl) ?_⟩⟩) (by rw [hG]; rfl)) (hN.mine (by rfl)))
          refine (safe_ok hG hdn (by omega) (by rw [hG]; rfl) (by decide) (by show 1 ≤ 1000; decide) fun cx₂ ρ₂ hd₂ hdn₂ => ?_).jv
          refine follow_ok (es := [(oneS x, lostV (followL L x))]) hG hL htx hdn₂ (by omega) (Nat.le_of_ble_eq_true rfl) (fun h0' => ?_) fun h0' => ⟨rfl, ?_⟩
          · exact xs_nil ⟨rfl, E.upd, .inl ⟨_, _, upd_at _ _ _, AlOk.followL hL htx, rfl, h0', .inr ⟨h0, rfl⟩⟩⟩
          · refine xs_nil ⟨rfl, E.upd, .inr ⟨upd_at _ _ _, h0, h0', ?_⟩⟩
            rw [table_two hx]
      · clear H E
        rintro fl ρ' σ' ⟨rfl, E, H⟩
        rcases H with ⟨al, es, h1, ha, rfl, h0, hr⟩ | ⟨h1, h0, h0', rfl⟩
        · refine xs_cons (x_if (ts_cmp <| ev_name h1 <| ev_bin <| ev_bin <| ev_str <| ev_name E.g <| op_cat (by rw [sizeLine_eq]; show 2 ≤ _; decide) <| ev_str <| op_cat (by rw [nm, nl, sizeLine_eq]; decide) <| op_eq_str ⟨_, rfl, ?_⟩))
          rw [text_no ha]
          have ha8 := ha.le
          have hfl : (al.filter fun c => !st.contains c).length ≤ 8 := Nat.le_trans (List.length_filter_le _ _) ha8
          refine xs_nil (xs_cons (JV.shrink (x_assign (ev_bin <| ev_name E.s <| ev_joinc (α := Nat) <| ev_listcomp al (fun c => AV.str (oneS c)) (fun c => if (!st.contains c) = true then some (AV.str (oneS c)) else none) hN hdn (Nat.le_trans ha8 (by decide)) (ev_name h1 ⟨signs_mk _, rfl, rfl, fun cxc ci d hd => ?_⟩) ⟨al.filter fun c => !st.contains c, ?_, by omega, op_cat_mk (by omega) ⟨_, _, _, rfl, ?_⟩⟩) (hN.mine (by rfl)))))
          · exact coT1 (b := !st.contains d) (TB.name (ci.kn.mine (by rfl))) (ts_cmp <| ev_name (upd_at _ _ _) <| ev_name (upd_off ((if_pos (by rfl)).trans E.s) (by decide)) <| op_notin_one ⟨_, rfl, rfl, rfl, rfl⟩) fun _ => ev_name (upd_at _ _ _) ⟨rfl, rfl, rfl⟩
          · rw [filterMap_if]
          · refine xs_nil (xs_nil ⟨more st al, upd_off E.l (by decide), upd_at _ _ _, h3.more ha, h4', rfl, ?_⟩)
            rw [e]
            rcases hr with rfl | ⟨hr1, rfl⟩
            · rw [if_pos h0]
            · rw [if_neg hr1, if_pos h0]
        · refine xs_cons (x_if (ts_cmp <| ev_name h1 <| ev_bin <| ev_bin <| ev_str <| ev_name E.g <| op_cat (by rw [sizeLine_eq]; show 2 ≤ _; decide) <| ev_str <| op_cat (by rw [nm, nl, sizeLine_eq]; decide) <| op_eq_str ⟨_, rfl, ?_⟩))
          rw [follow_name htx, beq_self_eq_true]
          refine xs_cons (raise_recip hN (by rfl) hG hdn (by omega) (ev_name E.t (he x T hxs ?_)))
          rw [e, if_neg h0, if_neg h0']
end Mine
namespace Mine
open PySem PySem.W PyProof.Rows PyProof.Rows.LCg PySem.Calls PySem.Spec

theorem occ_idx {c : Nat} (h : c ∈ lw) : Builtin.Str.occurrences "pqrsPQRS" (oneS c) 0 (Str.length "pqrsPQRS") 1 = [idx c] := by
  have : ∀ c ∈ lw, Builtin.Str.occurrences "pqrsPQRS" (oneS c) 0 (Str.length "pqrsPQRS") 1 = [idx c] := by decide +kernel
  exact this c h
theorem mod8 (i : Nat) : ((i : Int) + 4).fmod 8 = (((i + 4) % 8 : Nat) : Int) := by
  rw [Int.fmod_eq_emod_of_nonneg _ (by decide)]; omega
theorem int_at {r : List Int} {i : Nat} (h : i < r.length) : (r.map AV.int)[i]? = some (.int (r.getD i 0)) := by
  rw [List.getElem?_map, List.getD_eq_getElem?_getD, List.getElem?_eq_getElem h]; rfl
noncomputable def reachV (r : List Int) : List (Str × AV) := (List.range 8).map fun k => (oneS (lw.getD k 0), .str (mkS (rowL (r.getD k 0))))
theorem signs_asc : Itr (.str "PQRSpqrs") (asc.map fun c => AV.str (oneS c)) := by
  have : signs "PQRSpqrs" = asc.map fun c => AV.str (oneS c) := by
    have : ("PQRSpqrs" : Str).cps.toList = asc := by decide +kernel
    unfold signs
    rw [this]
    rfl
  rw [← this]
  exact Itr.str _
theorem sign_at {k : Nat} (h : k < 8) : ("pqrsPQRS" : Str).cps[k]? = some (lw.getD k 0) := by
  have : ∀ k < 8, ("pqrsPQRS" : Str).cps[k]? = some (lw.getD k 0) := by decide +kernel
  exact this k h
theorem puts_new : ∀ (l es : List (Str × AV)), ((es ++ l).map (·.1)).Nodup → puts es l = es ++ l
  | [], es, _ => by simp [puts]
  | (k, v) :: l, es, h => by
    have hn : k ∉ es.map (·.1) := fun q => by
      rw [List.map_append, List.nodup_append] at h
      exact h.2.2 k q k (by simp) rfl
    have e : put es k v = es ++ [(k, v)] := by
      unfold put
      rw [if_neg]
      intro q
      obtain ⟨p, hp, e⟩ := List.any_eq_true.mp q
      exact hn (by rw [← show p.1 = k by simpa using e]; exact List.mem_map_of_mem hp)
    show puts (put es k v) l = _
    rw [e, puts_new l _ (by rw [List.append_assoc]; exact h), List.append_assoc]
    rfl

structure RchEnv (ρ : AE) (A : Addr) : Prop where
  s : ρ "signs" = some (.str "pqrsPQRS")
  r : ρ "reach" = some (.ref A)
noncomputable def RchI (ws : List (Nat × Nat)) (A : Addr) (σ : AH) (l : List (Nat × Nat)) (ρ₁ : AE) (σ₁ : AH) : Prop :=
  ∃ r : List Int, RchEnv ρ₁ A ∧ r.length = 8 ∧ (∀ w ∈ l, w.1 ∈ lw ∧ w.2 ∈ lw) ∧ σ₁ = (A, .lst (r.map .int)) :: σ ∧ reachI ws = (List.range 8).foldl wRow (l.foldl addR r)
noncomputable def RchM (ws : List (Nat × Nat)) (A : Addr) (σ : AH) (l : List Nat) (ρ₁ : AE) (σ₁ : AH) : Prop :=
  ∃ r : List Int, RchEnv ρ₁ A ∧ r.length = 8 ∧ (∀ m ∈ l, m < 8) ∧ σ₁ = (A, .lst (r.map .int)) :: σ ∧ reachI ws = l.foldl wRow r
noncomputable def RchK (ws : List (Nat × Nat)) (A : Addr) (σ : AH) (m : Nat) (rest l : List Nat) (ρ₁ : AE) (σ₁ : AH) : Prop :=
  ∃ r : List Int, RchEnv ρ₁ A ∧ ρ₁ "middle" = some (.int (m : Int)) ∧ r.length = 8 ∧ (∀ m ∈ l, m < 8) ∧ σ₁ = (A, .lst (r.map .int)) :: σ ∧ reachI ws = rest.foldl wRow (l.foldl (wStep m) r)

theorem set_av (r : List Int) (i : Nat) (b : Int) : (r.map AV.int).set i (.int (Builtin.bitOr (r.getD i 0) b)) = (orI r i b).map AV.int := by
  unfold orI; rw [List.map_set]

theorem reach_ok {G : Gr} {P : Params} (hG : G.K = Mine2.hd.heap_39 P) {cx : Cx} {ρ : AE} {σ : AH} {ws : List (Nat × Nat)} {Q : AV → AE → AH → Prop} {EQ : AX → AE → AH → Prop}
    (hd : cx.hd = none) (hdp : 5 ≤ cx.d) (hw : ∀ w ∈ ws, w.1 ∈ lw ∧ w.2 ∈ lw) (hq : Q (.dct (reachV (reachI ws))) ρ σ) :
    JVC G cx ρ σ [wishV ws] 124 Q EQ := by
  refine call_fn (hK := by rw [hG]; rfl) (hcd := by rw [hG]; rfl) (names := ["wishes"]) (fun Vs h hl X => ?_) (by decide) rfl (by decide) (by decide) (by decide) (by omega) (fun cx' hd' hh' hc' hs' ho' => ?_)
  · obtain ⟨a, rfl⟩ := one_of hl
    exact Looks.of_pure rfl
  have hN := KN.of_scope hs' ho'
  have hdn : cx'.hd = none := hh'.trans hd
  clear hd hdp hh' hs' ho' hd'
  refine xs_cons (x_assign (ev_str ?_) (hN.mine (by rfl)))
  refine xs_cons (x_listcomp_live (List.range 8) (fun k : Nat => AV.int (k : Int)) (fun k => some (AV.int ((2 ^ k : Nat) : Int))) hN hdn (by decide) (ev_callt (ev_builtin (V := .type "range") (hN.glob (by rfl)) (by rw [hG]; kernel_rfl) (by rfl) ⟨rfl, as_one <| ev_int <| op_range ⟨itr_range 8 (by decide), rfl, rfl, fun cxc ci k hk => ?_⟩⟩)) (fun A => ?_) (by rfl))
  · have hk8 : k < 8 := List.mem_range.mp hk
    exact coT0 (TB.name (ci.kn.mine (by rfl))) (ev_bin <| ev_int <| ev_name (upd_at _ _ _) <| op_pow2 (Nat.le_trans (Nat.le_of_lt hk8) (by decide)) ⟨rfl, rfl, rfl⟩)
  have e0 : ((List.range 8).filterMap fun k => some (AV.int ((2 ^ k : Nat) : Int))) = r0.map AV.int := by
    unfold r0; rw [List.filterMap_eq_map', List.map_map]; rfl
  rw [e0]
  refine xs_cons (x_for hdn hc' (ev_name rfl ⟨_, Itr.lst _, ?_⟩))
  refine forP_ind (fun w : Nat × Nat => AV.str (mkS [w.1, w.2])) (RchI ws A σ) ?_ ?_ _ _ _ ⟨r0, ⟨rfl, rfl⟩, rfl, hw, rfl, rfl⟩
  · rintro ρ₁ σ₁ ⟨r, E, hr, _, rfl, e⟩
    refine xs_cons (x_for hdn hc' (ev_callt (ev_builtin (V := .type "range") (hN.glob (by rfl)) (by rw [hG]; kernel_rfl) (by rfl) ⟨rfl, as_one <| ev_int <| op_range ⟨_, itr_range 8 (by decide), ?_⟩⟩)))
    refine forP_ind (fun i : Nat => AV.int (i : Int)) (RchM ws A σ) ?_ ?_ _ _ _ ⟨r, E, hr, fun m hm => List.mem_range.mp hm, rfl, e⟩
    · clear E hr e r
      rintro ρ₁ σ₁ ⟨r, E, hr, _, rfl, e⟩
      have e : reachI ws = r := e
      rw [e] at hq
      refine xs_cons (JV.shrink (x_ret (ev_dictcomp (List.range 8) (fun k : Nat => AV.int (k : Int)) (fun k => some (oneS (lw.getD k 0), AV.str (mkS (rowL (r.getD k 0))))) hN hdn (by decide) (ev_callt (ev_builtin (V := .type "range") (hN.glob (by rfl)) (by rw [hG]; kernel_rfl) (by rfl) ⟨rfl, as_one <| ev_int <| op_range ⟨itr_range 8 (by decide), rfl, rfl, fun cxc ci k hk => ?_⟩⟩)) ⟨_, _, _, rfl, ?_⟩)))
      · have hk8 : k < 8 := List.mem_range.mp hk
        have hdc : cxc.hd = none := ci.hd.trans hdn
        refine coT0 (TB.name (ci.kn.mine (by rfl))) ⟨?_, ?_⟩
        · exact ev_sub <| ev_name (upd_off ((if_pos (by rfl)).trans E.s) (by decide)) <| ev_name (upd_at _ _ _) <| it_str (sign_at hk8) (nat_small (Nat.le_trans (Nat.le_of_lt hk8) (by decide))) ⟨rfl, rfl, rfl⟩
        · refine ev_joinc (α := Nat) <| ev_listcomp asc (fun c => AV.str (oneS c)) (fun c => if bitI (r.getD k 0) (idx c) = true then some (AV.str (oneS c)) else none) ci.kn hdc (by decide) (ev_str ⟨signs_asc, rfl, rfl, fun cxd cj c hc => ?_⟩) ⟨rowL (r.getD k 0), ?_, Nat.le_trans (List.length_filter_le _ _) (by decide), rfl, rfl, rfl⟩
          · have hcl := mem_asc.mp hc
            have h8 := idx_lt c hcl
            refine coT1 (b := bitI (r.getD k 0) (idx c)) (TB.name (cj.kn.mine (by rfl))) (ts_cmp <| ev_bin <| ev_bin <| ev_sub <| ev_name (upd_off ((if_pos (by rfl)).trans (upd_off ((if_pos (by rfl)).trans E.r) (by decide))) (by decide)) <| ev_name (upd_off ((if_pos (by rfl)).trans (upd_at _ _ _)) (by decide)) <| it_llst (σ₁ := []) rfl (i := (k : Int)) (v := .int (r.getD k 0)) (Int.natCast_nonneg _) (by rw [Int.toNat_natCast]; exact int_at (by omega)) (nat_small (Nat.le_trans (Nat.le_of_lt hk8) (by decide))) <| ev_bin <| ev_int <| ev_index_name (x := "pqrsPQRS") (upd_off ((if_pos (by rfl)).trans (upd_off ((if_pos (by rfl)).trans E.s) (by decide))) (by decide)) <| ev_name (upd_at _ _ _) ⟨_, idx c, [], rfl, occ_idx hcl, ?_⟩) fun _ => ev_name (upd_at _ _ _) ⟨rfl, rfl, rfl⟩
            exact op_pow2 (Nat.le_trans (Nat.le_of_lt h8) (by decide)) (op_fdiv (pow_ne _) (pow_lt (Nat.le_trans (Nat.le_of_lt h8) (by decide))) (ev_int (op_mod (by decide) (ev_int (op_eq_int ⟨_, rfl, rfl, rfl, rfl⟩)))))
          · rw [filterMap_if]; rfl
      · have : puts [] ((List.range 8).filterMap fun k => some (oneS (lw.getD k 0), AV.str (mkS (rowL (r.getD k 0))))) = reachV r := by
          rw [List.filterMap_eq_map']
          refine puts_new _ [] ?_
          rw [List.nil_append, List.map_map]
          exact (by decide +kernel : ((List.range 8).map fun k => oneS (lw.getD k 0)).Nodup)
        rw [this]
        exact hq
    · clear E hr e r
      rintro m rest ρ₁ σ₁ ⟨r, E, hr, hm, rfl, e⟩
      refine ⟨_, TB.name (hN.mine (by rfl)), ?_⟩
      have hm8 := hm m List.mem_cons_self
      refine xs_cons (x_for hdn hc' (ev_callt (ev_builtin (V := .type "range") (hN.glob (by rfl)) (by rw [hG]; kernel_rfl) (by rfl) ⟨rfl, as_one <| ev_int <| op_range ⟨_, itr_range 8 (by decide), ?_⟩⟩)))
      refine forP_ind (fun i : Nat => AV.int (i : Int)) (RchK ws A σ m rest) ?_ ?_ _ _ _ ⟨r, ⟨upd_off E.s (by decide), upd_off E.r (by decide)⟩, upd_at _ _ _, hr, fun m hm => List.mem_range.mp hm, rfl, e⟩
      · clear E hr e r
        rintro ρ₁ σ₁ ⟨r, E, _, hr, _, rfl, e⟩
        exact xs_nil ⟨r, E, hr, fun k hk => hm k (List.mem_cons_of_mem _ hk), rfl, e⟩
      · clear E hr e r
        rintro k rest' ρ₁ σ₁ ⟨r, E, hmi, hr, hk, rfl, e⟩
        refine ⟨_, TB.name (hN.mine (by rfl)), ?_⟩
        have hk8 := hk k List.mem_cons_self
        have E : RchEnv (upd ρ₁ "k" (.int (k : Int))) A := ⟨upd_off E.s (by decide), upd_off E.r (by decide)⟩
        have hmi : upd ρ₁ "k" (.int (k : Int)) "middle" = some (.int (m : Int)) := upd_off hmi (by decide)
        have hki : upd ρ₁ "k" (.int (k : Int)) "k" = some (.int (k : Int)) := upd_at _ _ _
        revert E hmi hki
        generalize upd ρ₁ "k" (.int (k : Int)) = ρ₂
        intro E hmi hki
        have hkb : (k : Int) < 2 ^ 62 := nat_small (Nat.le_trans (Nat.le_of_lt hk8) (by decide))
        have hmb : (m : Int) < 2 ^ 62 := nat_small (Nat.le_trans (Nat.le_of_lt hm8) (by decide))
        have ak : (r.map AV.int)[(k : Int).toNat]? = some (.int (r.getD k 0)) := by rw [Int.toNat_natCast]; exact int_at (by omega)
        have am : (r.map AV.int)[(m : Int).toNat]? = some (.int (r.getD m 0)) := by rw [Int.toNat_natCast]; exact int_at (by omega)
        refine xs_cons (x_if (ts_cmp <| ev_bin <| ev_bin <| ev_sub <| ev_name E.r <| ev_name hki <| it_llst (σ₁ := []) rfl (Int.natCast_nonneg _) ak hkb <| ev_bin <| ev_int <| ev_name hmi <| op_pow2 (Nat.le_trans (Nat.le_of_lt hm8) (by decide)) <| op_fdiv (pow_ne _) (pow_lt (Nat.le_trans (Nat.le_of_lt hm8) (by decide))) <| ev_int <| op_mod (by decide) <| ev_int <| op_eq_int ⟨bitI (r.getD k 0) m, rfl, ?_⟩))
        rw [List.foldl_cons, wStep] at e
        cases hb : bitI (r.getD k 0) m with
        | false =>
          rw [if_neg (by rw [hb]; decide)] at e
          exact xs_nil (xs_nil ⟨r, E, hmi, hr, fun j hj => hk j (List.mem_cons_of_mem _ hj), rfl, e⟩)
        | true =>
          rw [if_pos hb] at e
          refine xs_cons (x_setitem (ev_bin <| ev_sub <| ev_name E.r <| ev_name hki <| it_llst (σ₁ := []) rfl (Int.natCast_nonneg _) ak hkb <| ev_sub <| ev_name E.r <| ev_name hmi <| it_llst (σ₁ := []) rfl (Int.natCast_nonneg _) am hmb <| op_or <| ev_name E.r <| ev_name hki <| st_lst (σ₁ := []) rfl (Int.natCast_nonneg _) (by rw [List.length_map, hr]; omega) (by rw [List.length_map, hr]; decide) ?_))
          rw [Int.toNat_natCast, set_av]
          exact xs_nil (xs_nil ⟨_, E, hmi, (orI_len _ _ _).trans hr, fun j hj => hk j (List.mem_cons_of_mem _ hj), rfl, e⟩)
  · rintro w rest ρ₁ σ₁ ⟨r, E, hr, hl, rfl, e⟩
    refine ⟨_, TB.name (hN.mine (by rfl)), ?_⟩
    have hw2 := hl w List.mem_cons_self
    have i1 := idx_lt _ hw2.1
    have i2 := idx_lt _ hw2.2
    have E : RchEnv (upd ρ₁ "wish" (.str (mkS [w.1, w.2]))) A := ⟨upd_off E.s (by decide), upd_off E.r (by decide)⟩
    have hwi : upd ρ₁ "wish" (.str (mkS [w.1, w.2])) "wish" = some (.str (mkS [w.1, w.2])) := upd_at _ _ _
    revert E hwi
    generalize upd ρ₁ "wish" (.str (mkS [w.1, w.2])) = ρ₂
    intro E hwi
    refine xs_cons (x_assign (ev_index_name E.s <| ev_sub <| ev_name hwi <| ev_int <| it_mk (i := 0) (c := w.1) (by decide) rfl ⟨_, idx w.1, [], rfl, occ_idx hw2.1, ?_⟩) (hN.mine (by rfl)))
    refine xs_cons (x_assign (ev_index_name (upd_off E.s (by decide)) <| ev_sub <| ev_name (upd_off hwi (by decide)) <| ev_int <| it_mk (i := 1) (c := w.2) (by decide) rfl ⟨_, idx w.2, [], rfl, occ_idx hw2.2, ?_⟩) (hN.mine (by rfl)))
    have E : RchEnv (upd (upd ρ₂ "one" (.int (idx w.1 : Int))) "other" (.int (idx w.2 : Int))) A := ⟨upd_off (upd_off E.s (by decide)) (by decide), upd_off (upd_off E.r (by decide)) (by decide)⟩
    have h1 : upd (upd ρ₂ "one" (.int (idx w.1 : Int))) "other" (.int (idx w.2 : Int)) "one" = some (.int (idx w.1 : Int)) := upd_off (upd_at _ _ _) (by decide)
    have h2 : upd (upd ρ₂ "one" (.int (idx w.1 : Int))) "other" (.int (idx w.2 : Int)) "other" = some (.int (idx w.2 : Int)) := upd_at _ _ _
    revert E h1 h2
    generalize upd (upd ρ₂ "one" (.int (idx w.1 : Int))) "other" (.int (idx w.2 : Int)) = ρ₃
    intro E h1 h2
    have st : ∀ {r : List Int} {n j : Nat}, r.length = 8 → j < 8 → (((j + 4) % 8 : Nat) : Int) < 2 ^ 62 ∧ (r.map AV.int)[((((j + 4) % 8 : Nat) : Int)).toNat]? = some (.int (r.getD ((j + 4) % 8) 0)) ∧ ((((j + 4) % 8 : Nat) : Int)) < (r.map AV.int).length := fun hr hj =>
      ⟨nat_small (by omega), by rw [Int.toNat_natCast]; exact int_at (by omega), by rw [List.length_map, hr]; omega⟩
    obtain ⟨s1, s2, s3⟩ := st (n := 0) hr i1
    refine xs_cons (x_setitem (ev_bin <| ev_sub <| ev_name E.r <| ev_bin <| ev_bin <| ev_name h1 <| ev_int <| op_add <| ev_int <| op_mod (by decide) ?_))
    rw [mod8]
    refine it_llst (σ₁ := []) rfl (Int.natCast_nonneg _) s2 s1 <| ev_bin <| ev_int <| ev_name h2 <| op_pow2 (Nat.le_trans (Nat.le_of_lt i2) (by decide)) <| op_or <| ev_name E.r <| ev_bin <| ev_bin <| ev_name h1 <| ev_int <| op_add <| ev_int <| op_mod (by decide) ?_
    rw [mod8]
    refine st_lst (σ₁ := []) rfl (Int.natCast_nonneg _) s3 (by rw [List.length_map, hr]; decide) ?_
    rw [Int.toNat_natCast, set_av]
    have hr' := (orI_len r ((idx w.1 + 4) % 8) ((2 ^ idx w.2 : Nat) : Int)).trans hr
    obtain ⟨s1, s2, s3⟩ := st (n := 0) hr' i2
    refine xs_cons (x_setitem (ev_bin <| ev_sub <| ev_name E.r <| ev_bin <| ev_bin <| ev_name h2 <| ev_int <| op_add <| ev_int <| op_mod (by decide) ?_))
    rw [mod8]
    refine it_llst (σ₁ := []) rfl (Int.natCast_nonneg _) s2 s1 <| ev_bin <| ev_int <| ev_name h1 <| op_pow2 (Nat.le_trans (Nat.le_of_lt i1) (by decide)) <| op_or <| ev_name E.r <| ev_bin <| ev_bin <| ev_name h2 <| ev_int <| op_add <| ev_int <| op_mod (by decide) ?_
    rw [mod8]
    refine st_lst (σ₁ := []) rfl (Int.natCast_nonneg _) s3 (by rw [List.length_map, hr']; decide) ?_
    rw [Int.toNat_natCast, set_av]
    exact xs_nil ⟨_, E, (addR_len r w).trans hr, fun w hw => hl w (List.mem_cons_of_mem _ hw), rfl, e⟩
end Mine
namespace Mine
open PySem PySem.W PyProof.Rows PyProof.Rows.LCg PySem.Calls PySem.Spec

noncomputable def wayV (l : List (List Nat)) : List AV := l.map fun w => .str (mkS w)
theorem sign4 {k : Nat} (h : k < 4) : ("pqrs" : Str).cps[k]? = some (112 + k) ∧ ("PQRS" : Str).cps[k]? = some (80 + k) := by
  have : ∀ k < 4, ("pqrs" : Str).cps[k]? = some (112 + k) ∧ ("PQRS" : Str).cps[k]? = some (80 + k) := by decide +kernel
  exact this k h
theorem ad_wish (l : List (Nat × Nat)) : AD (wishV l) (.list (l.map fun w => PyData.str (mkS [w.1, w.2]))) := .lst (ADL.ofMap (fun w => .str _) l)
theorem lw_small : ∀ c ∈ lw, c < 0x110000 := by decide
theorem strOk_mk {l : List Nat} (h : ∀ c ∈ l, c ∈ lw) : PyData.strOk (mkS l) = true := by
  show (l.toArray).all _ = true
  rw [Array.all_eq_true']
  intro c hc
  exact decide_eq_true (lw_small c (h c (by simpa using hc)))
theorem shaped_strs {α : Type} (f : α → Str) (l : List α) (h : ∀ a ∈ l, PyData.strOk (f a) = true) : SeqAt.shaped (.list (l.map fun w => PyData.str (f w))) = true := shaped_list (n := 0) (by decide) l fun a ha => ⟨by simp only [PyData.canLay0]; exact h a ha, by simp only [PyData.depth]; exact Nat.le_refl _⟩
theorem eqv_nil {α : Type} (g : α → PyData) (l : List α) : PyData.eqv (.list (l.map g)) (.list (([] : List α).map g)) = l.isEmpty := by
  cases l <;> simp [PyData.eqv, PyData.eqvAll]
noncomputable def WayI (ws : List (Nat × Nat)) (A : Addr) (σ : AH) (l : List Nat) (ρ₁ : AE) (σ₁ : AH) : Prop :=
  ∃ acc : List (List Nat), ρ₁ "wishes" = some (wishV ws) ∧ ρ₁ "ways" = some (.ref A) ∧ acc.length + l.length ≤ 16 ∧ (∀ n ∈ l, n < 16) ∧ σ₁ = (A, .lst (wayV acc)) :: σ ∧ waysL ws = l.foldl (waysStep ws) acc

theorem ways_ok {G : Gr} {P : Params} (hG : G.K = Mine2.hd.heap_39 P) {cx : Cx} {ρ : AE} {σ : AH} {ws : List (Nat × Nat)} {Q : AV → AE → AH → Prop} {EQ : AX → AE → AH → Prop}
    (hd : cx.hd = none) (hdp : 5 ≤ cx.d) (hl : ws.length ≤ 1000) (hw : ∀ w ∈ ws, w.1 ∈ lw ∧ w.2 ∈ lw) (hq : ∀ A, Q (.ref A) ρ ((A, .lst (wayV (waysL ws))) :: σ)) :
    JVC G cx ρ σ [wishV ws] 129 Q EQ := by
  refine call_fn (hK := by rw [hG]; rfl) (hcd := by rw [hG]; rfl) (names := ["wishes"]) (fun Vs h hl X => ?_) (by decide) rfl (by decide) (by decide) (by decide) (by omega) (fun cx' hd' hh' hc' hs' ho' => ?_)
  · obtain ⟨a, rfl⟩ := one_of hl
    exact Looks.of_pure rfl
  have hN := KN.of_scope hs' ho'
  have hdn : cx'.hd = none := hh'.trans hd
  clear hd hdp hh' hs' ho' hd'
  refine xs_cons (x_assign (ev_list_live (as_nil ⟨Nat.zero_le _, fun A => ?_⟩)) (hN.mine (by rfl)))
  refine xs_cons (x_for hdn hc' (ev_callt (ev_builtin (V := .type "range") (hN.glob (by rfl)) (by rw [hG]; kernel_rfl) (by rfl) ⟨rfl, as_one <| ev_int <| op_range ⟨_, itr_range 16 (by decide), ?_⟩⟩)))
  refine forP_ind (fun i : Nat => AV.int (i : Int)) (WayI ws A σ) ?_ ?_ _ _ _ ⟨[], rfl, rfl, by decide, fun n hn => List.mem_range.mp hn, rfl, rfl⟩
  · rintro ρ₁ σ₁ ⟨acc, h1, h2, _, _, rfl, e⟩
    have e' : waysL ws = acc := e
    rw [← e']
    exact xs_cons (x_ret (ev_name h2 (hq A)))
  · rintro n rest ρ₁ σ₁ ⟨acc, h1, h2, ha, hn, rfl, e⟩
    refine ⟨_, TB.name (hN.mine (by rfl)), ?_⟩
    have hn16 := hn n List.mem_cons_self
    refine xs_cons (x_assign (ev_joinc (α := Nat) <| ev_listcomp (List.range 4) (fun k : Nat => AV.int (k : Int)) (fun k => some (AV.str (oneS (wayC n k)))) hN hdn (by decide) (ev_callt (ev_builtin (V := .type "range") (hN.glob (by rfl)) (by rw [hG]; kernel_rfl) (by rfl) ⟨rfl, as_one <| ev_int <| op_range ⟨itr_range 4 (by decide), rfl, rfl, fun cxc ci k hk => ?_⟩⟩)) ⟨wayL n, ?_, Nat.le_of_ble_eq_true rfl, ?_⟩) (hN.mine (by rfl)))
    · have hk4 : k < 4 := List.mem_range.mp hk
      have hs4 := sign4 hk4
      have hkb : (k : Int) < 2 ^ 62 := nat_small (Nat.le_trans (Nat.le_of_lt hk4) (by decide))
      refine coT0 (TB.name (ci.kn.mine (by rfl))) (ev_if <| ts_cmp <| ev_bin <| ev_bin <| ev_name (upd_off ((if_pos (by rfl)).trans (upd_at _ _ _)) (by decide)) <| ev_bin <| ev_int <| ev_bin <| ev_int <| ev_name (upd_at _ _ _) <| op_sub ?_)
      rw [show (3 : Int) - (k : Int) = ((3 - k : Nat) : Int) by omega]
      refine op_pow2 (Nat.le_trans (Nat.sub_le _ _) (by decide)) (op_fdiv (pow_ne _) (pow_lt (Nat.le_trans (Nat.sub_le _ _) (by decide))) (ev_int (op_mod (by decide) (ev_int (op_eq_int ⟨((n : Int).fdiv ((2 ^ (3 - k) : Nat) : Int)).fmod 2 == 0, rfl, ?_⟩)))))
      unfold wayC
      cases ((n : Int).fdiv ((2 ^ (3 - k) : Nat) : Int)).fmod 2 == 0 with
      | true => exact ev_sub <| ev_str <| ev_name (upd_at _ _ _) <| it_str hs4.1 hkb ⟨rfl, rfl, rfl⟩
      | false => exact ev_sub <| ev_str <| ev_name (upd_at _ _ _) <| it_str hs4.2 hkb ⟨rfl, rfl, rfl⟩
    · unfold wayL
      rw [List.filterMap_eq_map', List.map_map]; rfl
    · have h1 : upd (upd ρ₁ "n" (.int (n : Int))) "way" (.str (mkS (wayL n))) "wishes" = some (wishV ws) := upd_off (upd_off h1 (by decide)) (by decide)
      have h2 : upd (upd ρ₁ "n" (.int (n : Int))) "way" (.str (mkS (wayL n))) "ways" = some (.ref A) := upd_off (upd_off h2 (by decide)) (by decide)
      have h3 : upd (upd ρ₁ "n" (.int (n : Int))) "way" (.str (mkS (wayL n))) "way" = some (.str (mkS (wayL n))) := upd_at _ _ _
      revert h1 h2 h3
      generalize upd (upd ρ₁ "n" (.int (n : Int))) "way" (.str (mkS (wayL n))) = ρ₂
      intro h1 h2 h3
      rw [List.length_cons] at ha
      rw [List.foldl_cons, waysStep] at e
      refine xs_cons (x_if (ts_cmp <| ev_listcomp ws (fun w : Nat × Nat => AV.str (mkS [w.1, w.2])) (fun w => if (!(wayL n).contains w.1 && !(wayL n).contains w.2) = true then some (AV.str (mkS [w.1, w.2])) else none) hN hdn (Nat.le_trans hl (by decide)) (ev_name h1 ⟨Itr.lst _, rfl, rfl, fun cxc ci w hw => ?_⟩) <| ev_list <| as_nil ⟨Nat.zero_le _, ?_⟩))
      · refine coT1 (b := !(wayL n).contains w.1 && !(wayL n).contains w.2) (TB.name (ci.kn.mine (by rfl))) (ts_and <| ts_cmp <| ev_sub <| ev_name (upd_at _ _ _) <| ev_int <| it_mk (i := 0) (c := w.1) (by decide) rfl <| ev_name (upd_off ((if_pos (by rfl)).trans h3) (by decide)) <| op_notin_one ⟨_, rfl, ?_⟩) fun _ => ev_name (upd_at _ _ _) ⟨rfl, rfl, rfl⟩
        cases (wayL n).contains w.1 with
        | true => exact ⟨rfl, rfl, rfl⟩
        | false => exact ts_cmp <| ev_sub <| ev_name (upd_at _ _ _) <| ev_int <| it_mk (i := 1) (c := w.2) (by decide) rfl <| ev_name (upd_off ((if_pos (by rfl)).trans h3) (by decide)) <| op_notin_one ⟨_, rfl, rfl, rfl, rfl⟩
      · rw [filterMap_if]
        refine op_eq_data (ad_wish (badW ws (wayL n))) (ad_wish []) (shaped_strs _ _ fun w hw' => strOk_mk fun c hc => ?_) (shaped_strs _ _ fun _ h => nomatch h) ⟨_, rfl, ?_⟩
        · have := hw w (List.mem_filter.mp hw').1
          rcases List.mem_cons.mp hc with rfl | hc
          · exact this.1
          · rw [List.mem_singleton.mp hc]; exact this.2
        rw [eqv_nil]
        cases hb : (badW ws (wayL n)).isEmpty with
        | false =>
          rw [if_neg (by rw [hb]; decide)] at e
          exact xs_nil (xs_nil ⟨acc, h1, h2, by omega, fun j hj => hn j (List.mem_cons_of_mem _ hj), rfl, e⟩)
        | true =>
          rw [if_pos hb] at e
          refine xs_cons (x_expr (ev_append h2 ⟨[], _, _, rfl⟩ (ev_name h3 ⟨[], _, _, rfl, ?_, rfl, xs_nil (xs_nil ⟨acc ++ [wayL n], h1, h2, ?_, fun j hj => hn j (List.mem_cons_of_mem _ hj), ?_, e⟩)⟩)))
          · unfold wayV; rw [List.length_map]; omega
          · rw [List.length_append]; show acc.length + 1 + rest.length ≤ 16; omega
          · unfold wayV; rw [List.map_append]; rfl
end Mine
namespace Mine
open PySem PySem.W PyProof.Rows PyProof.Rows.LCg PySem.Calls PySem.Spec

noncomputable def lawBody2 (P : Params) : List Stmt := match (Mine2.hd.heap_39 P).lookup 134 with
  | some o => (match o.data with
    | .func fd => (match fd.body with
      | .stmts b => b
      | _ => [])
    | _ => [])
  | none => []
noncomputable def lawNames2 (P : Params) : List (Str × NameKind) := match (Mine2.hd.heap_39 P).lookup 134 with
  | some o => (match o.data with
    | .func fd => fd.scope.names
    | _ => [])
  | none => []

section
variable {G : Gr} {P : Params} {cx : Cx} {xs : List Int} {Q : AF → AE → AH → Prop} {EQ : AX → AE → AH → Prop}
theorem law2_pre (hG : G.K = Mine2.hd.heap_39 P) (hxs : xs.length ≤ 63) {ρ : AE} (K : KN cx (lawNames2 P)) (hd : cx.hd = none) (hdd : 60 ≤ cx.d) (hρ : ρ "script" = some (.lst (xs.map .int)))
    (k : ∀ ρ', Holds ρ' [("reach", .dct (reachV (reachI (wishesOf xs)))), ("leads", .dct (leadsV (leadsL (wishesOf xs)))), ("wishes", wishV (wishesOf xs))] → Xs G cx ρ' [] ((lawBody2 P).drop 5) Q EQ) :
    Xs G cx ρ [] (lawBody2 P) Q EQ := by
  refine xs_cons (x_assign (ev_list (as_cons <| ev_int <| as_cons <| ev_int <| as_cons <| ev_int <| as_cons <| ev_int <| as_cons <| ev_int <| as_cons <| ev_int <| as_one <| ev_int ⟨Nat.le_of_ble_eq_true rfl, ?_⟩)) (K.mine (by rfl)))
  have e1 := upd_off (x := "bases") (v := .lst (bases2.map .int)) hρ (by decide)
  have e2 : upd ρ "bases" (.lst (bases2.map .int)) "bases" = some (.lst (bases2.map .int)) := upd_at _ _ _
  show Xs G cx (upd ρ "bases" (.lst (bases2.map .int))) [] _ _ _
  revert e1 e2
  generalize upd ρ "bases" (.lst (bases2.map .int)) = ρ₁
  intro e1 e2
  refine xs_cons (x_listcomp (List.range 7) (fun k : Nat => AV.int (k : Int)) (fun k => some (AV.int (draw2 xs k))) K hd (by decide) (ev_callt (ev_builtin (V := .type "range") (K.glob (by rfl)) (by rw [hG]; kernel_rfl) (by rfl) ⟨rfl, as_one <| ev_int <| op_range ⟨itr_range 7 (by decide), rfl, rfl, fun cxc ci i hi => ?_⟩⟩)) ?_ (by rfl))
  · have hi7 : i < 7 := List.mem_range.mp hi
    refine coT0 (TB.name (ci.kn.mine (by rfl))) ?_
    have hdc : cxc.hd = none := ci.hd.trans hd
    refine ev_bin <| ev_bin <| ev_sub <| ev_name (upd_off ((if_pos (by rfl)).trans e2) (by decide)) <| ev_name (upd_at _ _ _) <| it_at (v := .int (bases2.getD i 0)) (Nat.le_trans (Nat.le_of_lt hi7) (by decide)) ?_ <| ev_callb <| ev_builtin (V := .builtin "sum") (ci.kn.glob (by rfl)) (by rw [hG]; kernel_rfl) (by rfl) ⟨rfl, as_one <| ev_listcomp (pickL (pickL xs none (some 42) none) (some (i : Int)) none (some 7)) AV.int (fun x => some (AV.int (x.fmod 64))) ci.kn hdc ?_ ?_ ?_⟩
    · rw [List.getElem?_map, List.getD_eq_getElem?_getD, List.getElem?_eq_getElem (by show i < 7; exact hi7)]; rfl
    · exact Nat.le_trans (pickL_le _ _ _ _) (Nat.le_trans (pickL_le _ _ _ _) (by omega))
    · refine ev_step <| ev_upto <| ev_name (upd_off ((if_pos (by rfl)).trans e1) (by decide)) ⟨_, rfl, by rw [List.length_map]; omega, ev_int ⟨_, rfl, _, rfl, ?_, ev_name (upd_at _ _ _) ⟨_, rfl, ev_int ⟨_, rfl, by decide, ?_, rfl, rfl, fun cxd cj x hx => ?_⟩⟩⟩⟩
      · exact Nat.le_trans (pickL_le _ _ _ _) (by rw [List.length_map]; omega)
      · rw [pickL_map, pickL_map]; exact Itr.lst _
      · refine coT0 (TB.name (cj.kn.mine (by rfl))) ?_
        exact ev_bin <| ev_name (upd_at _ _ _) <| ev_int <| op_mod (by decide) ⟨rfl, rfl, rfl⟩
    · have e3 : ((pickL (pickL xs none (some 42) none) (some (i : Int)) none (some 7)).filterMap fun x => some (AV.int (x.fmod 64))) = ((pickL (pickL xs none (some 42) none) (some (i : Int)) none (some 7)).map fun x => x.fmod 64).map AV.int := by
        rw [List.filterMap_eq_map', List.map_map]; rfl
      rw [e3]
      exact op_sum hdc <| op_add <| ev_int <| op_mod (by decide) ⟨rfl, rfl, rfl⟩
  have e3 : ((List.range 7).filterMap fun k => some (AV.int (draw2 xs k))) = (draws2 xs).map AV.int := by
    unfold draws2; rw [List.filterMap_eq_map', List.map_map]; rfl
  rw [e3]
  refine xs_cons (x_listcomp (draws2 xs) AV.int (fun d => some (AV.str (mkS [(wishOf d).1, (wishOf d).2]))) K hd (Nat.le_of_ble_eq_true rfl) (ev_name (upd_at _ _ _) ⟨Itr.lst _, rfl, rfl, fun cxc ci d hd' => ?_⟩) ?_ (by rfl))
  · obtain ⟨h0, h1⟩ := draw2_mem hd'
    obtain ⟨a, b, ea, eb⟩ := oct h0 h1
    refine coT0 (TB.name (ci.kn.mine (by rfl))) (ev_bin <| ev_sub <| ev_str <| ev_bin <| ev_name (upd_at _ _ _) <| ev_int <| op_mod (by decide) ?_)
    rw [ea]
    refine it_str (sign_at a) (nat_small (by omega)) <| ev_sub <| ev_str <| ev_bin <| ev_name (upd_at _ _ _) <| ev_int <| op_fdiv (by decide) (by decide) ?_
    rw [eb]
    exact it_str (sign_at b) (nat_small (by omega)) <| op_cat_mk (a := [lw.getD (d.fmod 8).toNat 0]) (b := [lw.getD (d.fdiv 8).toNat 0]) (by show 1 + 1 ≤ 1000; decide) ⟨rfl, rfl, rfl⟩
  have e4 : AV.lst ((draws2 xs).filterMap fun d => some (AV.str (mkS [(wishOf d).1, (wishOf d).2]))) = wishV (wishesOf xs) := by
    unfold wishesOf wishV; rw [List.filterMap_eq_map', List.map_map]; rfl
  rw [e4]
  have hw := wish_in (xs := xs)
  refine xs_cons (x_assign (ev_call (ev_global (V := .ref 109) (K.glob (by rfl)) (by rw [hG]; kernel_rfl) ⟨rfl, as_one <| ev_name (upd_at _ _ _) (leads_ok hG hd (by omega) hw fun A => ?_).jv⟩) (by rw [hG]; rfl)) (K.mine (by rfl)))
  refine jv_settle (σ₁ := []) (x := "leads") rfl (upd_at _ _ _) ?_
  refine xs_cons (x_assign (ev_call (ev_global (V := .ref 124) (K.glob (by rfl)) (by rw [hG]; kernel_rfl) ⟨rfl, as_one <| ev_name (upd_off (upd_off (upd_at _ _ _) (by decide)) (by decide)) (reach_ok hG hd (by omega) hw ?_).jv⟩) (by rw [hG]; rfl)) (K.mine (by rfl)))
  refine k _ (.of <| List.forall_mem_cons.mpr ⟨upd_at _ _ _, List.forall_mem_cons.mpr ⟨upd_off (upd_at _ _ _) (by rfl), List.forall_mem_cons.mpr ⟨upd_off (upd_off (upd_off (upd_at _ _ _) (by rfl)) (by rfl)) (by rfl), fun _ h => nomatch h⟩⟩⟩)
end
end Mine
namespace Mine
open PySem PySem.W PyProof.Rows PyProof.Rows.LCg PySem.Calls PySem.Spec

noncomputable def rV (ws : List (Nat × Nat)) : List (Str × AV) := lw.map fun c => (oneS c, .str (mkS (rcL ws c)))
theorem reachV_eq (ws : List (Nat × Nat)) : reachV (reachI ws) = rV ws := by
  unfold rV reachV
  rw [lw_range, List.map_map]
  refine List.map_congr_left fun k hk => ?_
  have := idx_at k (List.mem_range.mp hk)
  show _ = (oneS (lw.getD k 0), AV.str (mkS (rowL ((reachI ws).getD (idx (lw.getD k 0)) 0))))
  rw [this]; rfl
theorem map_lookup {α : Type} (f : Nat → α) {c : Nat} : ∀ {l : List Nat}, c ∈ l → (l.map fun c => (oneS c, f c)).lookup (oneS c) = some (f c)
  | [], h => nomatch h
  | d :: l, h => by
    rw [List.map_cons, List.lookup_cons, oneS_beq]
    by_cases e : c = d
    · subst e; rw [beq_self_eq_true]
    · rw [beq_eq_false_iff_ne.mpr e]
      exact map_lookup f ((List.mem_cons.mp h).resolve_left e)
theorem map_lookup_none {α : Type} (f : Nat → α) {c : Nat} : ∀ {l : List Nat}, c ∉ l → (l.map fun c => (oneS c, f c)).lookup (oneS c) = none
  | [], h => rfl
  | d :: l, h => by
    rw [List.mem_cons, not_or] at h
    rw [List.map_cons, List.lookup_cons, oneS_beq, beq_eq_false_iff_ne.mpr h.1]
    exact map_lookup_none f h.2
theorem map_nodup {l : List Nat} (f : Nat → AV) (h : l.Nodup) : ((l.map fun c => (oneS c, f c)).map (·.1)).Nodup := by
  rw [List.map_map]
  exact List.pairwise_map.mpr (h.imp fun hne e => hne (oneS_inj e))
theorem rV_at (ws : List (Nat × Nat)) {c : Nat} (h : c ∈ lw) : (rV ws).lookup (oneS c) = some (.str (mkS (rcL ws c))) := map_lookup (fun c => AV.str (mkS (rcL ws c))) h
noncomputable def lostT (l : List Nat) : AV := .tup [.int (tornL l), .str (mkS l)]
noncomputable def lostD (ws : List (Nat × Nat)) : List (Str × AV) := (lw.filter (isLost ws)).map fun c => (oneS c, lostT (rcL ws c))
theorem lostD_at (ws : List (Nat × Nat)) {c : Nat} (h : c ∈ lw) (hl : isLost ws c = true) : (lostD ws).lookup (oneS c) = some (lostT (rcL ws c)) := map_lookup (fun c => lostT (rcL ws c)) (List.mem_filter.mpr ⟨h, hl⟩)
theorem lostD_in (ws : List (Nat × Nat)) {c : Nat} (h : c ∈ lw) : ((lostD ws).lookup (oneS c)).isSome = isLost ws c := by
  cases hl : isLost ws c with
  | true => rw [lostD_at ws h hl]; rfl
  | false =>
    have : (lostD ws).lookup (oneS c) = none := map_lookup_none (fun c => lostT (rcL ws c)) fun q => by
      rw [(List.mem_filter.mp q).2] at hl; cases hl
    rw [this]; rfl
theorem sh3 (i : Int) {a b : List Nat} (ha : ∀ c ∈ a, c ∈ lw) (hb : ∀ c ∈ b, c ∈ lw) : SeqAt.shaped (.tuple [.int i, .str (mkS a), .str (mkS b)]) = true := by
  show (PyData.canLay0 _ && decide (PyData.depth _ ≤ 64)) = true
  simp [PyData.canLay0, PyData.canLayAll0, PyData.depth, PyData.depthAll, strOk_mk ha, strOk_mk hb]
theorem sh2 (i : Int) {a : List Nat} (ha : ∀ c ∈ a, c ∈ lw) : SeqAt.shaped (.tuple [.int i, .str (mkS a)]) = true := by
  show (PyData.canLay0 _ && decide (PyData.depth _ ≤ 64)) = true
  simp [PyData.canLay0, PyData.canLayAll0, PyData.depth, PyData.depthAll, strOk_mk ha]
theorem eqv3 (i : Int) (a b : Str) : PyData.eqv (.tuple [.int i, .str a, .str b]) (.tuple [.int i, .str a, .str b]) = true := by simp [PyData.eqv, PyData.eqvAll]
theorem eqv2 (i : Int) (a : Str) : PyData.eqv (.tuple [.int i, .str a]) (.tuple [.int i, .str a]) = true := by simp [PyData.eqv, PyData.eqvAll]

section
variable {G : Gr} {P : Params} {cx : Cx} {ws : List (Nat × Nat)} {Q : AF → AE → AH → Prop} {EQ : AX → AE → AH → Prop}
noncomputable abbrev Tbl (ws : List (Nat × Nat)) : List (Str × AV) := [("lost", .dct (lostD ws)), ("reach", .dct (rV ws)), ("leads", .dct (leadsV (leadsL ws))), ("wishes", wishV ws)]
theorem law2_lost (hG : G.K = Mine2.hd.heap_39 P) {ρ : AE} (K : KN cx (lawNames2 P)) (hd : cx.hd = none) (hdd : 60 ≤ cx.d)
    (hρ : Holds ρ [("reach", .dct (rV ws)), ("leads", .dct (leadsV (leadsL ws))), ("wishes", wishV ws)])
    (k : ∀ ρ', Holds ρ' (Tbl ws) → Xs G cx ρ' [] ((lawBody2 P).drop 6) Q EQ) :
    Xs G cx ρ [] ((lawBody2 P).drop 5) Q EQ := by
  have hr : ρ "reach" = some (.dct (rV ws)) := hρ _ _ rfl
  refine xs_cons (x_dictcomp lw (fun c => AV.str (oneS c)) (fun c => if isLost ws c = true then some (oneS c, lostT (rcL ws c)) else none) K hd (by decide) (ev_name hr ⟨?_, rfl, rfl, fun cxc ci c hc => ?_⟩) ?_ (by rfl))
  · have : (rV ws).map (fun p => AV.str p.1) = lw.map fun c => AV.str (oneS c) := by unfold rV; rw [List.map_map]; rfl
    rw [← this]
    exact Itr.dct _
  · have hdc : cxc.hd = none := ci.hd.trans hd
    refine coT1 (b := isLost ws c) (TB.name (ci.kn.mine (by rfl))) (ts_cmp <| ev_turned hG hdc (by rw [ci.d]; omega) ci.kn (by rfl) <| ev_name (upd_at _ _ _) ⟨c, hc, rfl, ev_sub <| ev_name (upd_off ((if_pos (by rfl)).trans hr) (by decide)) <| ev_name (upd_at _ _ _) <| it_dct (rV_at ws hc) <| op_in_one ⟨_, rfl, rfl, rfl, rfl⟩⟩) fun _ => ⟨ev_name (upd_at _ _ _) ⟨rfl, rfl, rfl⟩, ?_⟩
    exact ev_tuple <| as_cons <| ev_call (ev_global (V := .ref 104) (ci.kn.glob (by rfl)) (by rw [hG]; kernel_rfl) ⟨rfl, as_one <| ev_sub <| ev_name (upd_off ((if_pos (by rfl)).trans hr) (by decide)) <| ev_name (upd_at _ _ _) <| it_dct (rV_at ws hc) (torn_ok hG hdc (by rw [ci.d]; omega) (rowL_len _) (rowL_sg _) <| as_one <| ev_sub <| ev_name (upd_off ((if_pos (by rfl)).trans hr) (by decide)) <| ev_name (upd_at _ _ _) <| it_dct (rV_at ws hc) ⟨Nat.le_of_ble_eq_true rfl, rfl, rfl, rfl⟩).jv⟩) (by rw [hG]; rfl)
  · have : puts [] (lw.filterMap fun c => if isLost ws c = true then some (oneS c, lostT (rcL ws c)) else none) = lostD ws := by
      rw [filterMap_if (p := isLost ws) (f := fun c => (oneS c, lostT (rcL ws c))) lw]
      have hn := map_nodup (l := lw.filter (isLost ws)) (fun c => lostT (rcL ws c)) ((by decide : lw.Nodup).sublist List.filter_sublist)
      rw [puts_new _ [] (by rw [List.nil_append]; exact hn), List.nil_append]
      rfl
    rw [this]
    exact k _ (hρ.upd "lost" (.dct (lostD ws)))

noncomputable def toldV (ws : List (Nat × Nat)) (c : Nat) : AV := if isLost ws c = true then .tup [.int (tornL (rcL ws c)), .str (mkS (rcL ws c)), .str (oneS c)] else .str (mkS (rcL ws c))
noncomputable def TellM (ws : List (Nat × Nat)) (c : Nat) (fl : AF) (ρ' : AE) (σ' : AH) : Prop := fl = .next ∧ Holds ρ' (Tbl ws) ∧ ρ' "sign" = some (.str (oneS c)) ∧ ρ' "told" = some (toldV ws c) ∧ σ' = []
theorem Holds.keep {ρ : AE} {tbl : List (Str × AV)} (h : Holds ρ tbl) {x : Str} {v : AV} (hx : tbl.all (fun p => !(p.1 == x)) = true) : Holds (Mine.upd ρ x v) tbl := fun y u e => by
  have := List.all_eq_true.mp hx _ (lookup_mem e)
  exact upd_off (h y u e) (by simpa using this)
theorem Holds.drop {ρ : AE} {tbl : List (Str × AV)} (h : Holds ρ tbl) {x : Str} (hx : tbl.all (fun p => !(p.1 == x)) = true) : Holds (Mine.del ρ x) tbl := fun y u e => by
  have := List.all_eq_true.mp hx _ (lookup_mem e)
  exact (if_neg (by simpa using this)).trans (h y u e)

theorem law2_for (hG : G.K = Mine2.hd.heap_39 P) {ρ : AE} (K : KN cx (lawNames2 P)) (hd : cx.hd = none) (hc : cx.comp = false) (hdd : 60 ≤ cx.d) (hL : LdOk (leadsL ws)) (F : Law2 ws)
    (hρ : Holds ρ (Tbl ws)) (k : ∀ ρ', Holds ρ' (Tbl ws) → Xs G cx ρ' [] ((lawBody2 P).drop 7) Q EQ) :
    Xs G cx ρ [] ((lawBody2 P).drop 6) Q EQ := by
  refine xs_cons (x_for hd hc (ev_name (hρ "reach" _ rfl) ⟨_, Itr.dct _, ?_⟩))
  have : (rV ws).map (fun p => AV.str p.1) = lw.map fun c => AV.str (oneS c) := by unfold rV; rw [List.map_map]; rfl
  rw [this]
  refine forP_ind (fun c => AV.str (oneS c)) (fun l ρ' σ' => Holds ρ' (Tbl ws) ∧ (∀ c ∈ l, c ∈ lw) ∧ σ' = []) ?_ ?_ _ _ _ ⟨hρ, fun _ h => h, rfl⟩
  · rintro ρ₁ σ₁ ⟨h1, _, rfl⟩
    exact k ρ₁ h1
  · clear hρ k
    rintro c rest ρ₁ σ₁ ⟨h1, h2, rfl⟩
    refine ⟨_, TB.name (K.mine (by rfl)), ?_⟩
    have hcl := h2 c List.mem_cons_self
    have h1 : Holds (upd ρ₁ "sign" (.str (oneS c))) (Tbl ws) := h1.keep (by rfl)
    have h3 : upd ρ₁ "sign" (.str (oneS c)) "sign" = some (.str (oneS c)) := upd_at _ _ _
    revert h1 h3
    generalize upd ρ₁ "sign" (.str (oneS c)) = ρ₂
    intro h1 h3
    have al := AlOk.followL hL hcl
    have tell : ∀ b, b = isLost ws c → toldV ws c = if b = true then .tup [.int (tornL (rcL ws c)), .str (mkS (rcL ws c)), .str (oneS c)] else .str (mkS (rcL ws c)) := fun b e => by rw [e]; rfl
    refine xs_cons (JV.mono (Q := TellM ws c) ?_ ?_ fun _ _ _ q => q)
    · refine x_try_as K hc hd (C := 52) (by rfl) (by rw [hG]; kernel_rfl) (by rfl) (xs_cons (JV.shrink (x_assign (ev_joinc (α := Nat) <| ev_callb <| ev_builtin (V := .builtin "sorted") (K.glob (by rfl)) (by rw [hG]; kernel_rfl) (by rfl) ⟨rfl, as_one <| ev_call (ev_global (V := .ref 114) (K.glob (by rfl)) (by rw [hG]; kernel_rfl) ⟨rfl, as_one <| ev_tuple <| as_cons <| ev_name (h1 "leads" _ rfl) <| as_cons <| ev_dict0 fun T => as_one <| ev_name h3 ⟨Nat.le_of_ble_eq_true rfl, ?_⟩⟩) (by rw [hG]; rfl)⟩) (K.mine (by rfl)))))
      refine (follow_ok (es := []) hG hL hcl hd (by omega) (by decide) (fun h0 => ?_) fun h0 => ?_).jv
      · refine op_sorted_mk hd (Nat.lt_of_le_of_lt al.le (by decide)) (sortL_perm al) (sortL_sorted _) ⟨sortL (followL (leadsL ws) c), rfl, ?_, _, _, _, rfl, ?_⟩
        · rw [(sortL_perm al).length_eq]; exact mk_len al
        · refine xs_nil ⟨rfl, h1.keep (by rfl), upd_off h3 (by decide), ?_, rfl⟩
          rw [upd_at, F.same c hcl]
          have hn : isLost ws c = false := by
            cases e : isLost ws c with
            | false => rfl
            | true => exact absurd h0 ((F.lost c hcl).mpr e)
          rw [tell false hn.symm]
          rfl
      · refine ⟨by rw [hG]; kernel_rfl, fun ee => ?_⟩
        have hy : isLost ws c = true := (F.lost c hcl).mp h0
        have h5 := h1.keep (x := "refused") (v := .exc (refusedX c (followL (leadsL ws) c)).c (refusedX c (followL (leadsL ws) c)).at_) (by rfl)
        have h6 := upd_off (x := "refused") (v := .exc (refusedX c (followL (leadsL ws) c)).c (refusedX c (followL (leadsL ws) c)).at_) h3 (by decide)
        have Ke : KN (cx.mk' ee) (lawNames2 P) := K.on
        refine xs_cons (JV.shrink (x_assign (ev_tuple (as_cons <| ev_attr (ecls_sender hG) (upd_at _ _ _) rfl (by rw [hG]; kernel_rfl) rfl <| as_cons <| ev_attr (ecls_sender hG) (upd_at _ _ _) rfl (by rw [hG]; kernel_rfl) rfl <| as_one <| ev_attr (ecls_sender hG) (upd_at _ _ _) rfl (by rw [hG]; kernel_rfl) rfl ⟨Nat.le_of_ble_eq_true rfl, _, _, _, rfl, ?_⟩)) (Ke.mine (by rfl))))
        refine xs_nil ⟨rfl, (h5.keep (by rfl)).drop (by rfl), (if_neg (by decide)).trans (upd_off h6 (by decide)), ?_, rfl⟩
        refine ((if_neg (by decide)).trans (upd_at _ _ _)).trans ?_
        rw [tell true hy.symm, F.same c hcl, F.torn c hcl]
        rfl
    · clear h1 h3 ρ₂
      rintro fl ρ' σ' ⟨rfl, h1, h3, h4, rfl⟩
      refine xs_cons (x_if (ts_cmp <| ev_name h4 <| ev_if <| ts_cmp <| ev_name h3 <| ev_name (h1 "lost" _ rfl) <| op_in_dct ⟨_, rfl, ?_⟩))
      rw [lostD_in ws hcl]
      unfold toldV
      cases hl : isLost ws c with
      | true =>
        have sg1 : ∀ d ∈ [c], d ∈ lw := fun d hd => by rw [List.mem_singleton.mp hd]; exact hcl
        refine ev_bin <| ev_sub <| ev_name (h1 "lost" _ rfl) <| ev_name h3 <| it_dct (lostD_at ws hcl hl) <| ev_tuple <| as_one <| ev_name h3 ⟨Nat.le_of_ble_eq_true rfl, op_addtup (by show 2 + 1 ≤ 1000; decide) (by simp) (by simp) <| op_ne_data (da := .tuple [.int (tornL (rcL ws c)), .str (mkS (rcL ws c)), .str (mkS [c])]) (db := .tuple [.int (tornL (rcL ws c)), .str (mkS (rcL ws c)), .str (mkS [c])]) (.tup (.cons (.int _) (.cons (.str _) (.cons (.str _) .nil)))) (.tup (.cons (.int _) (.cons (.str _) (.cons (.str _) .nil)))) (sh3 _ (rowL_sg _) sg1) (sh3 _ (rowL_sg _) sg1) ⟨_, rfl, ?_⟩⟩
        rw [eqv3]
        exact xs_nil (xs_nil ⟨h1, fun c hc => h2 c (List.mem_cons_of_mem _ hc), rfl⟩)
      | false =>
        refine ev_sub <| ev_name (h1 "reach" _ rfl) <| ev_name h3 <| it_dct (rV_at ws hcl) <| op_ne_str ⟨_, rfl, ?_⟩
        rw [bne_self_eq_false]
        exact xs_nil (xs_nil ⟨h1, fun c hc => h2 c (List.mem_cons_of_mem _ hc), rfl⟩)
end
end Mine
namespace Mine
open PySem PySem.W PyProof.Rows PyProof.Rows.LCg PySem.Calls PySem.Spec

noncomputable def two2 (ws : List (Nat × Nat)) (x : Nat) : List (Str × AV) := [(oneS x, lostT (rcL ws x)), (oneS (turn x), lostT (rcL ws (turn x)))]
noncomputable def SetM (ws : List (Nat × Nat)) (fl : AF) (ρ' : AE) (σ' : AH) : Prop := fl = .next ∧ Holds ρ' (Tbl ws) ∧
  ((∃ st, settleF (leadsL ws) sm [] = .ok st ∧ AlOk st ∧ ρ' "told" = some (.str (mkS (sortL st))) ∧ σ' = []) ∨
    ∃ x T, x ∈ sm ∧ settleF (leadsL ws) sm [] = .error x ∧ ρ' "told" = some (.ref T) ∧ σ' = [(T, .dct (two2 ws x))])
theorem ad_ways (l : List (List Nat)) : AD (.lst (wayV l)) (.list (l.map fun w => PyData.str (mkS w))) := .lst (ADL.ofMap (fun w => .str _) l)
theorem eqv_nil' {α : Type} (g : α → PyData) (l : List α) : PyData.eqv (.list (l.map g)) (.list (([] : List α).map g)) = l.isEmpty := eqv_nil g l
theorem wayL_sg : ∀ n < 16, ∀ c ∈ wayL n, c ∈ lw := by decide +kernel
theorem waysL_sg (ws : List (Nat × Nat)) : ∀ w ∈ waysL ws, ∀ c ∈ w, c ∈ lw := by
  have : ∀ (l : List Nat) (acc : List (List Nat)), (∀ n ∈ l, n < 16) → (∀ w ∈ acc, ∀ c ∈ w, c ∈ lw) → ∀ w ∈ l.foldl (waysStep ws) acc, ∀ c ∈ w, c ∈ lw := by
    intro l
    induction l with
    | nil => exact fun _ _ h => h
    | cons n l ih =>
      intro acc hl h
      refine ih _ (fun m hm => hl m (List.mem_cons_of_mem _ hm)) ?_
      unfold waysStep
      split
      · intro w hw
        rcases List.mem_append.mp hw with q | q
        · exact h w q
        · rw [List.mem_singleton.mp q]; exact wayL_sg n (hl n List.mem_cons_self)
      · exact h
  exact this _ [] (fun n hn => List.mem_range.mp hn) fun _ h => nomatch h
theorem pick_one {α : Type} {a : α} {r : List α} (h : r.length ≤ 3) : pickL (a :: r) none (some 1) none = [a] := by
  match r, h with
  | [], _ => rfl
  | [b], _ => rfl
  | [b, c], _ => rfl
  | [b, c, d], _ => rfl

section
variable {G : Gr} {P : Params} {cx : Cx} {ws : List (Nat × Nat)}
theorem lost_same (F : Law2 ws) {c : Nat} (h : c ∈ lw) : lostV (followL (leadsL ws) c) = lostT (rcL ws c) := by
  unfold lostV lostT
  rw [F.torn c h, F.same c h]
theorem law2_end (hG : G.K = Mine2.hd.heap_39 P) {ρ : AE} (K : KN cx (lawNames2 P)) (hd : cx.hd = none) (hc : cx.comp = false) (hdd : 60 ≤ cx.d) (hL : LdOk (leadsL ws)) (hw : ∀ w ∈ ws, w.1 ∈ lw ∧ w.2 ∈ lw) (hlen : ws.length ≤ 1000) (F : Law2 ws)
    (hρ : Holds ρ (Tbl ws)) : Xs G cx ρ [] ((lawBody2 P).drop 7) (fun fl _ _ => fl = .ret (.bool true)) (fun _ _ _ => False) := by
  refine xs_cons (JV.mono (Q := SetM ws) ?_ ?_ fun _ _ _ q => q)
  · refine x_try_as K hc hd (C := 90) (by rfl) (by rw [hG]; kernel_rfl) (by rfl) (xs_cons (x_assign (ev_joinc (α := Nat) <| ev_callb <| ev_builtin (V := .builtin "sorted") (K.glob (by rfl)) (by rw [hG]; kernel_rfl) (by rfl) ⟨rfl, as_one <| ev_call (ev_global (V := .ref 119) (K.glob (by rfl)) (by rw [hG]; kernel_rfl) ⟨rfl, as_one <| ev_name (hρ "leads" _ rfl) ?_⟩) (by rw [hG]; rfl)⟩) (K.mine (by rfl))))
    refine (settle_ok hG hL hd (by omega) (fun st e ha => ?_) fun x T hx e => ?_).jv
    · refine op_sorted_mk hd (Nat.lt_of_le_of_lt ha.le (by decide)) (sortL_perm ha) (sortL_sorted _) ⟨sortL st, rfl, ?_, ?_⟩
      · rw [(sortL_perm ha).length_eq]; exact mk_len ha
      · exact xs_nil ⟨rfl, hρ.keep (by rfl), .inl ⟨st, e, ha, upd_at _ _ _, rfl⟩⟩
    · refine ⟨by rw [hG]; kernel_rfl, fun ee => ?_⟩
      have Ke : KN (cx.mk' ee) (lawNames2 P) := K.on
      have hxl := sm_lw x hx
      rw [lost_same F hxl, lost_same F (turn_in x hxl)]
      refine xs_cons (x_assign (ev_attr (ecls_recip hG) (upd_at _ _ _) rfl (by rw [hG]; kernel_rfl) rfl ?_) (Ke.mine (by rfl)))
      exact xs_nil ⟨rfl, ((hρ.keep (by rfl)).keep (by rfl)).drop (by rfl), .inr ⟨x, T, hx, e, (if_neg (by decide)).trans (upd_at _ _ _), rfl⟩⟩
  · clear hρ ρ
    rintro fl ρ' σ' ⟨rfl, hρ, H⟩
    have wsg := waysL_sg ws
    have okw : ∀ w ∈ waysL ws, PyData.strOk (mkS w) = true := fun w hw => strOk_mk (wsg w hw)
    rcases H with ⟨st, e, ha, ht, rfl⟩ | ⟨x, T, hx, e, ht, rfl⟩
    · refine xs_cons (x_assign (ev_call (ev_global (V := .ref 129) (K.glob (by rfl)) (by rw [hG]; kernel_rfl) ⟨rfl, as_one <| ev_name (hρ "wishes" _ rfl) (ways_ok hG hd (by omega) hlen hw fun A => ?_).jv⟩) (by rw [hG]; rfl)) (K.mine (by rfl)))
      refine jv_settle_lst (σ₁ := []) (x := "ways") rfl (upd_at _ _ _) ?_
      obtain ⟨w, rest, hws, hwa, hso⟩ := F.ok st e
      refine xs_cons (x_if (ts_cmp <| ev_name (upd_at _ _ _) <| ev_list <| as_nil ⟨Nat.zero_le _, op_ne_data (ad_ways _) (ad_ways []) (shaped_strs _ _ okw) (shaped_strs _ _ fun _ h => nomatch h) ⟨_, rfl, ?_⟩⟩))
      rw [eqv_nil', hws]
      refine xs_cons (x_ret (ev_cmp <| ev_name (upd_off (upd_off ht (by decide)) (by decide)) <| ev_joinc (α := Nat) <| ev_callb <| ev_builtin (V := .builtin "sorted") (K.glob (by rfl)) (by rw [hG]; kernel_rfl) (by rfl) ⟨rfl, as_one <| ev_sub <| ev_name (upd_at _ _ _) <| ev_int <| it_at (i := 0) (v := .str (mkS w)) (by decide) rfl <| op_sorted_mk hd (Nat.lt_of_le_of_lt hwa.le (by decide)) (sortL_perm hwa) (sortL_sorted _) ⟨sortL w, rfl, ?_, op_eq_str ?_⟩⟩))
      · rw [(sortL_perm hwa).length_eq]; exact mk_len hwa
      · rw [hso, beq_self_eq_true]
    · refine jv_settle (σ₁ := []) (x := "told") rfl ht ?_
      have hρ : Holds (upd ρ' "told" (.dct (two2 ws x))) (Tbl ws) := hρ.keep (by rfl)
      have ht : upd ρ' "told" (.dct (two2 ws x)) "told" = some (.dct (two2 ws x)) := upd_at _ _ _
      revert hρ ht
      generalize upd ρ' "told" (.dct (two2 ws x)) = ρ₁
      intro hρ ht
      obtain ⟨hws, rest, hbo⟩ := F.no x e
      refine xs_cons (x_assign (ev_call (ev_global (V := .ref 129) (K.glob (by rfl)) (by rw [hG]; kernel_rfl) ⟨rfl, as_one <| ev_name (hρ "wishes" _ rfl) (ways_ok hG hd (by omega) hlen hw fun A => ?_).jv⟩) (by rw [hG]; rfl)) (K.mine (by rfl)))
      refine jv_settle_lst (σ₁ := []) (x := "ways") rfl (upd_at _ _ _) ?_
      refine xs_cons (x_if (ts_cmp <| ev_name (upd_at _ _ _) <| ev_list <| as_nil ⟨Nat.zero_le _, op_ne_data (ad_ways _) (ad_ways []) (shaped_strs _ _ okw) (shaped_strs _ _ fun _ h => nomatch h) ⟨_, rfl, ?_⟩⟩))
      rw [eqv_nil', show (waysL ws).isEmpty = true by rw [hws]; rfl]
      refine xs_nil ?_
      have h2 := ((hρ.keep (x := "ways") (v := .ref A) (by rfl)).keep (x := "ways") (v := .lst (wayV (waysL ws))) (by rfl))
      have ht2 : upd (upd ρ₁ "ways" (.ref A)) "ways" (.lst (wayV (waysL ws))) "told" = some (.dct (two2 ws x)) := upd_off (upd_off ht (by decide)) (by decide)
      revert h2 ht2
      generalize upd (upd ρ₁ "ways" (.ref A)) "ways" (.lst (wayV (waysL ws))) = ρ₂
      intro h2 ht2
      refine xs_cons (x_listcomp sm (fun c => AV.str (oneS c)) (fun c => if isBoth ws c = true then some (AV.str (oneS c)) else none) K hd (by decide) (ev_str ⟨signs_sm, rfl, rfl, fun cxc ci c hc => ?_⟩) ?_ (by rfl))
      · have hcl := sm_lw c hc
        have hdc : cxc.hd = none := ci.hd.trans hd
        refine coT1 (b := isBoth ws c) (TB.name (ci.kn.mine (by rfl))) (ts_and <| ts_cmp <| ev_name (upd_at _ _ _) <| ev_name (upd_off ((if_pos (by rfl)).trans (h2 "lost" _ rfl)) (by decide)) <| op_in_dct ⟨_, rfl, ?_⟩) fun _ => ev_name (upd_at _ _ _) ⟨rfl, rfl, rfl⟩
        rw [lostD_in ws hcl]
        unfold isBoth
        cases isLost ws c with
        | false => exact ⟨rfl, rfl, rfl⟩
        | true =>
          refine ts_cmp <| ev_turned hG hdc (by rw [ci.d]; omega) ci.kn (by rfl) <| ev_name (upd_at _ _ _) ⟨c, hcl, rfl, ev_name (upd_off ((if_pos (by rfl)).trans (h2 "lost" _ rfl)) (by decide)) <| op_in_dct ⟨_, rfl, ?_⟩⟩
          rw [lostD_in ws (turn_in c hcl)]
          exact ⟨(Bool.true_and _).symm, rfl, rfl⟩
      · rw [filterMap_if (p := isBoth ws) (f := fun c => AV.str (oneS c)) sm, hbo]
        have hmem : x ∈ sm.filter (isBoth ws) := by rw [hbo]; exact List.mem_cons_self
        have hxb : isLost ws x = true ∧ isLost ws (turn x) = true := by
          have := (List.mem_filter.mp hmem).2
          unfold isBoth at this
          rwa [Bool.and_eq_true] at this
        have hrl : rest.length ≤ 3 := by
          have := List.length_filter_le (isBoth ws) sm
          rw [hbo] at this
          exact Nat.le_of_succ_le_succ this
        have hxl := sm_lw x hx
        have htx := turn_in x hxl
        refine xs_cons (x_ret (ev_cmp <| ev_name (upd_off ht2 (by decide)) <| ev_dictcomp2 [x] (fun c => AV.str (oneS c)) (fun c => [c, turn c]) (fun c => AV.str (oneS c)) (fun _ b => (oneS b, lostT (rcL ws b))) K hd (by show 2 ≤ 16000000; decide) (ev_upto <| ev_name (upd_at _ _ _) ⟨_, rfl, ?_, ev_int ⟨_, rfl, ?_, rfl, rfl, fun cxc ci => ⟨fun _ => rfl, fun a ha => ?_⟩⟩⟩) ?_))
        · rw [List.length_map, List.length_cons]; omega
        · rw [pickL_map, pick_one hrl]; exact Itr.lst _
        · rw [List.mem_singleton.mp ha]
          have hdc : cxc.hd = none := ci.hd.trans hd
          refine ⟨_, TB.name (ci.kn.mine (by rfl)), ?_, ?_⟩
          · intro y hy
            rw [List.mem_singleton.mp hy]
            rfl
          · refine ev_list <| as_cons <| ev_name (upd_at _ _ _) <| as_one <| ev_turned hG hdc (by rw [ci.d]; omega) ci.kn (by rfl) <| ev_name (upd_at _ _ _) ⟨x, hxl, rfl, Nat.le_of_ble_eq_true rfl, Itr.lst _, rfl, rfl, fun b hb => ?_⟩
            have hbl : b ∈ lw ∧ isLost ws b = true := by
              rcases List.mem_cons.mp hb with rfl | hb
              · exact ⟨hxl, hxb.1⟩
              · rw [List.mem_singleton.mp hb]; exact ⟨htx, hxb.2⟩
            exact coT0 (TB.name (ci.kn.mine (by rfl))) ⟨ev_name (upd_at _ _ _) ⟨rfl, rfl, rfl⟩, ev_sub <| ev_name (upd_off (upd_off ((if_pos (by rfl)).trans (upd_off (h2 "lost" _ rfl) (by decide))) (by decide)) (by decide)) <| ev_name (upd_at _ _ _) <| it_dct (lostD_at ws hbl.1 hbl.2) ⟨rfl, rfl, rfl⟩⟩
        · have hnd : ((two2 ws x).map (·.1)).Nodup := by
            show [oneS x, oneS (turn x)].Nodup
            refine List.nodup_cons.mpr ⟨fun q => turn_ne x hxl (oneS_inj (List.mem_singleton.mp q)).symm, by simp⟩
          have : puts [] ([x].flatMap fun a => [a, turn a].map fun b => (oneS b, lostT (rcL ws b))) = two2 ws x := by
            have e : ([x].flatMap fun a => [a, turn a].map fun b => (oneS b, lostT (rcL ws b))) = two2 ws x := rfl
            rw [e, puts_new (two2 ws x) [] (by rw [List.nil_append]; exact hnd), List.nil_append]
          rw [this]
          refine op_eq_dct hnd (fun p hp => ?_) rfl
          rcases List.mem_cons.mp hp with rfl | hp
          · exact ⟨.tuple [.int (tornL (rcL ws x)), .str (mkS (rcL ws x))], .tup (.cons (.int _) (.cons (.str _) .nil)), sh2 _ (rowL_sg _), eqv2 _ _⟩
          · rw [List.mem_singleton.mp hp]
            exact ⟨.tuple [.int (tornL (rcL ws (turn x))), .str (mkS (rcL ws (turn x)))], .tup (.cons (.int _) (.cons (.str _) .nil)), sh2 _ (rowL_sg _), eqv2 _ _⟩
end
end Mine
namespace Mine
open PySem PySem.W PyProof.Rows PyProof.Rows.LCg PySem.Calls PySem.Spec
/-- the law's own body, whole -/
theorem law2_all {G : Gr} {P : Params} {cx : Cx} {xs : List Int} {ρ : AE} (hG : G.K = Mine2.hd.heap_39 P) (hxs : xs.length ≤ 63) (K : KN cx (lawNames2 P)) (hd : cx.hd = none) (hc : cx.comp = false) (hdd : 60 ≤ cx.d) (F : Law2 (wishesOf xs)) (hρ : ρ "script" = some (.lst (xs.map .int))) :
    Xs G cx ρ [] (lawBody2 P) (fun fl _ _ => fl = .ret (.bool true)) (fun _ _ _ => False) := by
  have hL := LdOk.leads (wish_in (xs := xs))
  refine law2_pre hG hxs K hd hdd hρ fun ρ₁ h1 => ?_
  rw [reachV_eq] at h1
  refine law2_lost hG K hd hdd h1 fun ρ₂ h2 => ?_
  refine law2_for hG K hd hc hdd hL F h2 fun ρ₃ h3 => ?_
  exact law2_end hG K hd hc hdd hL wish_in (by unfold wishesOf draws2; rw [List.length_map, List.length_map]; decide) F h3
end Mine
open PySem PySem.W PyProof.Rows
set_option maxRecDepth 100000 in
set_option maxHeartbeats 8000000 in
theorem Mine.joined (F : ∀ xs, Mine.Law2 (Mine.wishesOf xs)) : PySem.Challenge.rw_wa0004_02.Holds := by
  exact Mine2.hd (by
    k_fill
    intro w s₀ s₁ mg mb G Y fa o pm cd doc dV kV ho hd hcd hD hmg hg args vals as hpre hlay hrd hwl hlo
    have KX := kIn_of Y
    have X := (Ground.X G).1
    have V := (Ground.X G).2
    refine Ground.open G ?_
    intro T B D TE TW
    try (refine guard_noD D (by decide +kernel) ?_; clear D)
    clear hmg
    wrow_args hpre hlay hrd hwl hlo
    all_goals (first | refine callC_kw (enter_call ?_) | refine enter_call ?_)
    all_goals (
      rename_i xs e1 e2 e3 e4 e5 a4 a3 l vs a0 hL e6 e7 e8 hI e9 hlen e10
      have he := Dflts.none hD rfl
      subst he
      have he := Dflts.noKw hD
      subst he
      refine codeAny_mono ?_ (fun _ _ g => GoodW.toG g)
      obtain ⟨ol, hol, hcl, nl, hdl⟩ := hL
      have gok : Mine.GOk ⟨Challenge.rw_wa0004_02.row.prog, w, s₁.heap, Mine2.hd.heap_39 w.params, Mine2.hd.view_39, _, ExcName.means s₀.heap, mg, mb⟩ :=
        ⟨KX, T, PyProof.Rows.modules_low T.nolimit⟩
      refine Mine.call_top (args := [.lst (xs.map .int)]) (names := ["script"]) (d := 400) (ex := []) (fz := [(l, ol)]) (by rfl) (by decide) (by decide) (by rfl) gok (fun b o e => e) (Nat.le_refl _) ?_ (fun p hp => (nomatch hp)) (fun a ha => (nomatch ha)) ?_ ho hd hcd ?_ (by decide) rfl (of_decide_eq_true (by kernel_rfl)) (by kernel_rfl) (of_decide_eq_true (by kernel_rfl)) ?_
      · intro p hp
        rw [List.mem_singleton.mp hp]
        exact hol
      · exact .cons (.lst List.mem_cons_self hcl hdl (Mine.RelL.of_ints (by simpa using hI))) .nil
      · exact Looks.of_pure rfl
      · intro cx' h₁ tk hd' hh' hc' hs' ho' hcl' hcode hstk S
        refine (Mine.law2_all (P := w.params) rfl (by omega) (Mine.KN.of_scope hs' ho') hh' hc' (by rw [hd']; decide) (F xs) rfl).run gok S .nil (fun fl FL ρ' σ' fz' h' tk' kk S' rf q => ?_) (fun _ _ _ _ _ _ _ _ _ _ q => q.elim)
        cases rf with
        | next => cases q
        | ret rv =>
          have q' := Mine.AF.ret.inj q
          subst q'
          rw [rv.bool_inv]
          refine ⟨.inl ⟨.bool true, _, _, rfl, fun _ => rfl, .bool true, ?_, fun _ => ⟨List.nodup_nil, fun a ha => nomatch ha⟩⟩, S'.base, ?_, ?_⟩
          · wrow_post
          · rfl
          · exact hg))
theorem PySem.Challenge.cw_wa0004_02_holds : PySem.Challenge.rw_wa0004_02.Holds :=
  Mine.joined fun _ => Mine.law_two Mine.wish_in
