import PyProof.Rows.All
import Wide.All
import OpenK.AllK
import Wide.FinOn
import Lean
import PySem.Challenge.RW_wa0004_01
set_option Elab.async false
set_option maxRecDepth 100000
set_option maxHeartbeats 4000000
set_option linter.unusedVariables false
set_option linter.unusedSimpArgs false
namespace Mine
open PySem PySem.W PyProof.Rows PyProof.Rows.LCg PySem.Calls PySem.Spec

/-! abstract values, and how the heap bears them -/
inductive AV where
  | none
  | bool (b : Bool)
  | int (i : Int)
  | str (s : Str)
  | val (v : Value)
  | ref (a : Addr)
  | tup (l : List AV)
  | lst (l : List AV)
  | dct (es : List (Str × AV))
  | rng (lo hi : Int)
  | exc (c : Addr) (at_ : List (Str × AV))

/-- what an activation stands on -/
structure Gr where
  prog : Program
  w : World
  hb : Heap
  K : Frag
  p : Program
  loose : List Str
  mean : ExcName → Option Value
  mg : Str → Option Value
  mb : Str → Option Value

structure GOk (G : Gr) : Prop where
  KB : G.K.In G.hb
  TB : Top G.p G.loose G.mean G.mg G.mb G.hb
  big : sysModules < G.hb.objs.size

noncomputable abbrev Objs := List (Addr × Obj)
noncomputable def Has (fz : Objs) (h : Heap) : Prop := ∀ p ∈ fz, h.get? p.1 = some p.2

mutual
inductive Rel (G : Gr) (fz : Objs) : AV → Value → Prop
  | none : Rel G fz .none .none
  | bool (b) : Rel G fz (.bool b) (.bool b)
  | int (i t) : Rel G fz (.int i) (.int i t)
  | str (s t) : Rel G fz (.str s) (.str s t)
  | val (v) : Rel G fz (.val v) v
  | ref (a) : Rel G fz (.ref a) (.ref a)
  | tup {a : Addr} {o : Obj} {vs : Array Value} {n : Nat} {l} : (a, o) ∈ fz → o.cls = .type "tuple" → o.data = .seq vs n → RelL G fz l vs.toList → Rel G fz (.tup l) (.ref a)
  | lst {a : Addr} {o : Obj} {vs : Array Value} {n : Nat} {l} : (a, o) ∈ fz → o.cls = .type "list" → o.data = .seq vs n → RelL G fz l vs.toList → Rel G fz (.lst l) (.ref a)
  | dct {a : Addr} {o : Obj} {kvs : List (Str × Value)} {es} : (a, o) ∈ fz → (a == sysModules) = false → o.IsDictOf (strKind G.prog G.w) kvs → RelE G fz es kvs → Rel G fz (.dct es) (.ref a)
  | rng {a : Addr} {t u v : Tok} {lo hi} : (a, ({ cls := .type "range", data := .fields #[.int lo t, .int hi u, .int 1 v] } : Obj)) ∈ fz → Rel G fz (.rng lo hi) (.ref a)
  | exc {a d : Addr} {o od : Obj} {vs : Array Value} {m : Str → Option Value} {W : Str → Value} {c es} : (a, o) ∈ fz → o.cls = .ref c → o.dict = some d → o.data = .fields vs → (d, od) ∈ fz → NsObj od m → (∀ x v, List.lookup x es = some v → m x = some (W x)) → (∀ x v, List.lookup x es = some v → Rel G fz v (W x)) → Rel G fz (.exc c es) (.ref a)
inductive RelL (G : Gr) (fz : Objs) : List AV → List Value → Prop
  | nil : RelL G fz [] []
  | cons {v V l vs} : Rel G fz v V → RelL G fz l vs → RelL G fz (v :: l) (V :: vs)
inductive RelE (G : Gr) (fz : Objs) : List (Str × AV) → List (Str × Value) → Prop
  | nil : RelE G fz [] []
  | cons {k v V l vs} : Rel G fz v V → RelE G fz l vs → RelE G fz ((k, v) :: l) ((k, V) :: vs)
end

theorem RelL.ind {G : Gr} {fz : Objs} {P : List AV → List Value → Prop} (n : P [] []) (c : ∀ {v V l vs}, Rel G fz v V → RelL G fz l vs → P l vs → P (v :: l) (V :: vs)) {l vs} (h : RelL G fz l vs) : P l vs :=
  RelL.rec (motive_1 := fun _ _ _ => True) (motive_2 := fun l vs _ => P l vs) (motive_3 := fun _ _ _ => True) trivial (fun _ => trivial) (fun _ _ => trivial) (fun _ _ => trivial) (fun _ => trivial) (fun _ => trivial)
    (fun _ _ _ _ _ => trivial) (fun _ _ _ _ _ => trivial) (fun _ _ _ _ _ => trivial) (fun _ => trivial) (fun _ _ _ _ _ _ _ _ _ => trivial) n (fun h r _ ih => c h r ih) trivial (fun _ _ _ _ => trivial) h
theorem RelE.ind {G : Gr} {fz : Objs} {P : List (Str × AV) → List (Str × Value) → Prop} (n : P [] []) (c : ∀ {k v V l vs}, Rel G fz v V → RelE G fz l vs → P l vs → P ((k, v) :: l) ((k, V) :: vs)) {l vs} (h : RelE G fz l vs) : P l vs :=
  RelE.rec (motive_1 := fun _ _ _ => True) (motive_2 := fun _ _ _ => True) (motive_3 := fun l vs _ => P l vs) trivial (fun _ => trivial) (fun _ _ => trivial) (fun _ _ => trivial) (fun _ => trivial) (fun _ => trivial)
    (fun _ _ _ _ _ => trivial) (fun _ _ _ _ _ => trivial) (fun _ _ _ _ _ => trivial) (fun _ => trivial) (fun _ _ _ _ _ _ _ _ _ => trivial) trivial (fun _ _ _ _ => trivial) n (fun h r _ ih => c h r ih) h
theorem Rel.mono {G : Gr} {fz fz' : Objs} (k : ∀ p ∈ fz, p ∈ fz') {v V} (h : Rel G fz v V) : Rel G fz' v V :=
  Rel.rec (motive_1 := fun v V _ => Rel G fz' v V) (motive_2 := fun l vs _ => RelL G fz' l vs) (motive_3 := fun l vs _ => RelE G fz' l vs) .none .bool .int .str .val .ref
    (fun hm hc hd _ ih => .tup (k _ hm) hc hd ih) (fun hm hc hd _ ih => .lst (k _ hm) hc hd ih) (fun hm hs hd _ ih => .dct (k _ hm) hs hd ih) (fun hm => .rng (k _ hm))
    (fun hm hc hd hv hm' hd' hl _ ih => .exc (k _ hm) hc hd hv (k _ hm') hd' hl ih) .nil (fun _ _ a b => .cons a b) .nil (fun _ _ a b => .cons a b) h
theorem RelL.mono {G : Gr} {fz fz' : Objs} (k : ∀ p ∈ fz, p ∈ fz') {l vs} (h : RelL G fz l vs) : RelL G fz' l vs := h.ind .nil fun a _ b => .cons (a.mono k) b
theorem RelE.mono {G : Gr} {fz fz' : Objs} (k : ∀ p ∈ fz, p ∈ fz') {l vs} (h : RelE G fz l vs) : RelE G fz' l vs := h.ind .nil fun a _ b => .cons (a.mono k) b

theorem RelL.length {G : Gr} {fz : Objs} {l vs} (h : RelL G fz l vs) : vs.length = l.length := RelL.ind (P := fun l vs => vs.length = l.length) rfl (fun _ _ ih => congrArg (· + 1) ih) h
theorem RelL.get {G : Gr} {fz : Objs} {l vs} (h : RelL G fz l vs) : ∀ {i : Nat} {v : AV}, l[i]? = some v → ∃ V, vs[i]? = some V ∧ Rel G fz v V :=
  RelL.ind (P := fun l vs => ∀ {i : Nat} {v : AV}, l[i]? = some v → ∃ V, vs[i]? = some V ∧ Rel G fz v V) (fun e => nomatch e) (fun h _ ih i v e => by
    cases i with
    | zero => cases e; exact ⟨_, rfl, h⟩
    | succ i => exact ih (i := i) e) h
theorem RelL.get' {G : Gr} {fz : Objs} {l vs} (h : RelL G fz l vs) : ∀ {i : Nat} {V : Value}, vs[i]? = some V → ∃ v, l[i]? = some v ∧ Rel G fz v V :=
  RelL.ind (P := fun l vs => ∀ {i : Nat} {V : Value}, vs[i]? = some V → ∃ v, l[i]? = some v ∧ Rel G fz v V) (fun e => nomatch e) (fun h _ ih i v e => by
    cases i with
    | zero => cases e; exact ⟨_, rfl, h⟩
    | succ i => exact ih (i := i) e) h
theorem RelL.append {G : Gr} {fz : Objs} {l vs l' vs'} (h : RelL G fz l vs) (r : RelL G fz l' vs') : RelL G fz (l ++ l') (vs ++ vs') := RelL.ind (P := fun l vs => RelL G fz (l ++ l') (vs ++ vs')) r (fun a _ ih => .cons a ih) h
theorem RelL.one {G : Gr} {fz : Objs} {v V} (h : Rel G fz v V) : RelL G fz [v] [V] := .cons h .nil
theorem RelE.length {G : Gr} {fz : Objs} {l vs} (h : RelE G fz l vs) : vs.length = l.length := RelE.ind (P := fun l vs => vs.length = l.length) rfl (fun _ _ ih => congrArg (· + 1) ih) h
theorem RelE.keys {G : Gr} {fz : Objs} {l vs} (h : RelE G fz l vs) : vs.map (·.1) = l.map (·.1) := RelE.ind (P := fun l vs => vs.map Prod.fst = l.map Prod.fst) rfl (fun _ _ ih => congrArg (_ :: ·) ih) h
/-! the live part: objects that may still change -/
inductive AO where
  | lst (l : List AV)
  | dct (es : List (Str × AV))
  | ns (es : List (Str × AV))
  | ins (c : Addr) (d : Option Addr)
noncomputable def NsB (o : Obj) (m : Str → Option Value) (n : Nat) : Prop := ∃ es ep, o.data = .dict es ep ∧ StrKeys es ∧ (∀ name, nsFind es name = m name) ∧ es.size ≤ n
theorem NsB.obj {o m n} (h : NsB o m n) : NsObj o m := let ⟨es, ep, a, b, c, _⟩ := h; ⟨es, ep, a, b, c⟩
noncomputable def AtR (G : Gr) (fz : Objs) (es : List (Str × AV)) (m : Str → Option Value) : Prop := ∀ x v, es.lookup x = some v → ∃ V, m x = some V ∧ Rel G fz v V
theorem AtR.mono {G : Gr} {fz fz' : Objs} (k : ∀ p ∈ fz, p ∈ fz') {es m} (h : AtR G fz es m) : AtR G fz' es m := fun x v e => let ⟨V, a, b⟩ := h x v e; ⟨V, a, b.mono k⟩
noncomputable abbrev AH := List (Addr × AO)

noncomputable def RelO (G : Gr) (fz : Objs) : AO → Obj → Prop
  | .lst l, o => ∃ vs n, o = { cls := .type "list", data := .seq vs n } ∧ RelL G fz l vs.toList
  | .dct es, o => ∃ kvs, o.IsDictOf (strKind G.prog G.w) kvs ∧ RelE G fz es kvs
  | .ns es, o => ∃ m, NsB o m es.length ∧ AtR G fz es m
  | .ins c d, o => o.cls = .ref c ∧ o.dict = d ∧ ∃ vs, o.data = .fields vs ∧ vs.size = 11 ∧ (∃ t, vs[0]? = some (.ref t)) ∧ vs[1]? = some .none
theorem RelO.mono {G : Gr} {fz fz' : Objs} (k : ∀ p ∈ fz, p ∈ fz') : ∀ {ao o}, RelO G fz ao o → RelO G fz' ao o
  | .lst _, _, ⟨vs, n, hd, hl⟩ => ⟨vs, n, hd, hl.mono k⟩
  | .dct _, _, ⟨kvs, hd, hl⟩ => ⟨kvs, hd, hl.mono k⟩
  | .ns _, _, ⟨m, hd, hl⟩ => ⟨m, hd, hl.mono k⟩
  | .ins _ _, _, h => h

/-- the frame at hand -/
structure Cx where
  A : Around
  d : Nat
  hd : Option Value
  env : Env
  stk : List (Env × (Str → Option Value))
  own : List Addr
  cl : List (Addr × Obj)
  comp : Bool
noncomputable def Cx.frames (cx : Cx) : List Env := if cx.comp then cx.stk.map (·.1) else cx.env :: cx.stk.map (·.1)

structure CxOk (cx : Cx) : Prop where
  frames : cx.A.frames = some cx.frames
  depth : cx.A.depth + cx.d ≤ 900
  units : cx.A.units + 20 * cx.d ≤ 9000
  hd : cx.A.handled = cx.hd
  kf : cx.env.scope.kind = .function
  fr : cx.comp = false → cx.env.frame = some cx.env.locals
  fs : ∀ p ∈ cx.stk, p.1.scope.kind = .function ∧ p.1.frame = some p.1.locals
  gl : cx.env.globals = mainGlobals ∧ cx.env.builtins = builtinsNs
  cs : ∀ x, cx.env.kindOf x = some .cell ∨ cx.env.kindOf x = some .free → ∃ c, cx.env.cells.lookup x = some c
  ca : ∀ x c, cx.env.cells.lookup x = some c → c ∈ cx.own ∨ c ∈ cx.cl.map (·.1)
  ci : ∀ x y c, c ∈ cx.own → cx.env.cells.lookup x = some c → cx.env.cells.lookup y = some c → x = y

noncomputable def keys (l : Objs) : List Addr := l.map (·.1)
noncomputable def Cx.mut (cx : Cx) (σ : AH) : List Addr := cx.env.locals :: (cx.stk.map (·.1.locals) ++ cx.own ++ σ.map (·.1))

noncomputable abbrev AE := Str → Option AV
noncomputable def upd (ρ : AE) (x : Str) (v : AV) : AE := fun y => if y = x then some v else ρ y

noncomputable def VarOk (G : Gr) (cx : Cx) (fz : Objs) (m : Str → Option Value) (h : Heap) (x : Str) (v : AV) : Prop :=
  (cx.env.kindOf x = some .local ∧ ∃ V, m x = some V ∧ Rel G fz v V) ∨
  (cx.env.kindOf x = some .cell ∧ ∃ c V, cx.env.cells.lookup x = some c ∧ c ∈ cx.own ∧ h.IsCell c (some V) ∧ Rel G fz v V) ∨
  ((cx.env.kindOf x = some .free ∨ cx.env.kindOf x = some .cell) ∧ ∃ c o V, cx.env.cells.lookup x = some c ∧ (c, o) ∈ cx.cl ∧ o.data = .cell (some V) ∧ Rel G fz v V)

structure Sat (G : Gr) (cx : Cx) (ex : Objs) (ρ : AE) (σ : AH) (fz : Objs) (h : Heap) : Prop where
  ok : CxOk cx
  clx : ∀ p ∈ cx.cl, p ∈ ex
  base : ∀ b o, G.hb.get? b = some o → h.get? b = some o
  stk : ∀ p ∈ cx.stk, h.Ns p.1.locals p.2
  ownc : ∀ c ∈ cx.own, ∃ v, h.IsCell c v
  fzh : Has fz h
  exh : Has ex h
  live : ∀ p ∈ σ, ∃ o, h.get? p.1 = some o ∧ RelO G fz p.2 o
  loc : ∃ m, h.Ns cx.env.locals m ∧ ∀ x v, ρ x = some v → VarOk G cx fz m h x v
  nod : (cx.mut σ).Nodup
  new : ∀ a ∈ cx.mut σ, G.hb.get? a = none ∧ G.hb.objs.size ≤ a
  apf : ∀ a ∈ cx.mut σ, a ∉ keys fz
  apx : ∀ a ∈ cx.mut σ, a ∉ keys ex
  xf : ∀ a ∈ keys ex, a ∉ keys fz

theorem Sat.mut_there {G cx ex ρ σ fz h} (S : Sat G cx ex ρ σ fz h) {a : Addr} (ha : a ∈ cx.mut σ) : ∃ o, h.get? a = some o := by
  unfold Cx.mut at ha
  rcases List.mem_cons.mp ha with rfl | ha
  · obtain ⟨m, ⟨o, _, _, ho, _⟩, _⟩ := S.loc
    exact ⟨o, ho⟩
  · rcases List.mem_append.mp ha with ha | ha
    · rcases List.mem_append.mp ha with ha | ha
      · obtain ⟨p, hp, rfl⟩ := List.mem_map.mp ha
        obtain ⟨o, _, _, ho, _⟩ := S.stk p hp
        exact ⟨o, ho⟩
      · obtain ⟨v, o, ho, _⟩ := S.ownc a ha
        exact ⟨o, ho⟩
    · obtain ⟨p, hp, rfl⟩ := List.mem_map.mp ha
      obtain ⟨o, ho, _⟩ := S.live p hp
      exact ⟨o, ho⟩

/-- an address that no part of the state stands on -/
structure Off (G : Gr) (cx : Cx) (ex : Objs) (σ : AH) (fz : Objs) (a : Addr) : Prop where
  m : a ∉ cx.mut σ
  f : a ∉ keys fz
  x : a ∉ keys ex
  b : G.hb.get? a = none

theorem Sat.size_off {G cx ex ρ σ fz h} (S : Sat G cx ex ρ σ fz h) {a : Addr} (ha : h.objs.size ≤ a) : Off G cx ex σ fz a := by
  have key : ∀ o, h.get? a = some o → False := fun o e => absurd (Heap.lt_size e) (Nat.not_lt.mpr ha)
  refine ⟨fun hm => ?_, fun hm => ?_, fun hm => ?_, ?_⟩
  · obtain ⟨o, ho⟩ := S.mut_there hm; exact key o ho
  · obtain ⟨p, hp, rfl⟩ := List.mem_map.mp hm; exact key _ (S.fzh p hp)
  · obtain ⟨p, hp, rfl⟩ := List.mem_map.mp hm; exact key _ (S.exh p hp)
  · cases e : G.hb.get? a with
    | none => rfl
    | some o => exact (key o (S.base a o e)).elim

theorem VarOk.keep {G cx fz m h h' x v} (k : ∀ c ∈ cx.own, ∀ v, h.IsCell c v → h'.IsCell c v) (V : VarOk G cx fz m h x v) : VarOk G cx fz m h' x v := by
  rcases V with V | ⟨hk, c, V, hc, ho, hi, hr⟩ | V
  · exact .inl V
  · exact .inr (.inl ⟨hk, c, V, hc, ho, k c ho _ hi, hr⟩)
  · exact .inr (.inr V)
theorem VarOk.mono {G cx fz fz' m h x v} (k : ∀ p ∈ fz, p ∈ fz') (V : VarOk G cx fz m h x v) : VarOk G cx fz' m h x v := by
  rcases V with ⟨hk, V, hm, hr⟩ | ⟨hk, c, V, hc, ho, hi, hr⟩ | ⟨hk, c, o, V, hc, ho, hd, hr⟩
  · exact .inl ⟨hk, V, hm, hr.mono k⟩
  · exact .inr (.inl ⟨hk, c, V, hc, ho, hi, hr.mono k⟩)
  · exact .inr (.inr ⟨hk, c, o, V, hc, ho, hd, hr.mono k⟩)

/-- the state is kept by a step that changes only what is off it -/
theorem Sat.keep {G cx ex ρ σ fz h h'} (S : Sat G cx ex ρ σ fz h) (k : ∀ b o, ¬ Off G cx ex σ fz b → h.get? b = some o → h'.get? b = some o) : Sat G cx ex ρ σ fz h' := by
  have km : ∀ b o, b ∈ cx.mut σ → h.get? b = some o → h'.get? b = some o := fun b o hm e => k b o (fun q => q.m hm) e
  have kcell : ∀ c ∈ cx.own, ∀ v, h.IsCell c v → h'.IsCell c v := fun c hc v ⟨o, ho, hd⟩ => ⟨o, km c o (by unfold Cx.mut; simp [hc]) ho, hd⟩
  refine ⟨S.ok, S.clx, fun b o e => k b o (fun q => by rw [q.b] at e; cases e) (S.base b o e), fun p hp => ?_, fun c hc => ?_, fun p hp => ?_, fun p hp => ?_, fun p hp => ?_, ?_, S.nod, S.new, S.apf, S.apx, S.xf⟩
  · obtain ⟨o, es, ep, ho, r⟩ := S.stk p hp
    exact ⟨o, es, ep, km _ o (by unfold Cx.mut; simp only [List.mem_cons, List.mem_append, List.mem_map]; exact .inr (.inl (.inl ⟨p, hp, rfl⟩))) ho, r⟩
  · obtain ⟨v, hv⟩ := S.ownc c hc
    exact ⟨v, kcell c hc v hv⟩
  · exact k _ _ (fun q => q.f (List.mem_map_of_mem hp)) (S.fzh p hp)
  · exact k _ _ (fun q => q.x (List.mem_map_of_mem hp)) (S.exh p hp)
  · obtain ⟨o, ho, r⟩ := S.live p hp
    exact ⟨o, km _ o (by unfold Cx.mut; simp only [List.mem_cons, List.mem_append, List.mem_map]; exact .inr (.inr ⟨p, hp, rfl⟩)) ho, r⟩
  · obtain ⟨m, ⟨o, es, ep, ho, r⟩, hv⟩ := S.loc
    exact ⟨m, ⟨o, es, ep, km _ o (by unfold Cx.mut; simp) ho, r⟩, fun x v e => (hv x v e).keep kcell⟩

theorem Sat.ext {G cx ex ρ σ fz h h'} (S : Sat G cx ex ρ σ fz h) (k : ∀ b o, h.get? b = some o → h'.get? b = some o) : Sat G cx ex ρ σ fz h' := S.keep fun b o _ e => k b o e
theorem Sat.push {G cx ex ρ σ fz h} (S : Sat G cx ex ρ σ fz h) (o : Obj) : Sat G cx ex ρ σ fz (h.push o) := S.ext fun _ _ e => Heap.get?_push_of_some _ e
theorem Sat.but {G cx ex ρ σ fz h h'} {a : Addr} (S : Sat G cx ex ρ σ fz h) (k : Heap.ExtBut a h h') (ha : Off G cx ex σ fz a) : Sat G cx ex ρ σ fz h' :=
  S.keep fun b o nb e => k b o (fun q => nb (q ▸ ha)) e

/-- more that is frozen -/
theorem Sat.freeze {G cx ex ρ σ fz h} {a : Addr} {o : Obj} (S : Sat G cx ex ρ σ fz h) (ho : h.get? a = some o) (hm : a ∉ cx.mut σ) (hx : a ∉ keys ex) : Sat G cx ex ρ σ ((a, o) :: fz) h := by
  have k : ∀ p ∈ fz, p ∈ (a, o) :: fz := fun p hp => List.mem_cons_of_mem _ hp
  refine ⟨S.ok, S.clx, S.base, S.stk, S.ownc, fun p hp => ?_, S.exh, fun p hp => ?_, ?_, S.nod, S.new, fun b hb hf => ?_, S.apx, fun b hb hf => ?_⟩
  · rcases List.mem_cons.mp hp with rfl | hp
    · exact ho
    · exact S.fzh p hp
  · obtain ⟨o', ho', r⟩ := S.live p hp
    exact ⟨o', ho', r.mono k⟩
  · obtain ⟨m, hn, hv⟩ := S.loc
    exact ⟨m, hn, fun x v e => (hv x v e).mono k⟩
  · rcases List.mem_cons.mp hf with rfl | hf
    · exact hm hb
    · exact S.apf b hb hf
  · rcases List.mem_cons.mp hf with rfl | hf
    · exact hx hb
    · exact S.xf b hb hf

/-- a new object, frozen at once -/
theorem Sat.alloc {G cx ex ρ σ fz h} (S : Sat G cx ex ρ σ fz h) (o : Obj) (hf : o.isFreed = false := by rfl) : Sat G cx ex ρ σ ((h.objs.size, o) :: fz) (h.push o) :=
  (S.push o).freeze (Heap.get?_push_size _ hf) (S.size_off (Nat.le_refl _)).m (S.size_off (Nat.le_refl _)).x

/-- a new live object -/
theorem Sat.live_new {G cx ex ρ σ fz h} {a : Addr} {o : Obj} {ao : AO} (S : Sat G cx ex ρ σ fz h) (ho : h.get? a = some o) (ha : Off G cx ex σ fz a) (hs : G.hb.objs.size ≤ a) (r : RelO G fz ao o) : Sat G cx ex ρ ((a, ao) :: σ) fz h := by
  have mm : ∀ b, b ∈ cx.mut ((a, ao) :: σ) → b = a ∨ b ∈ cx.mut σ := fun b hb => by
    unfold Cx.mut at hb ⊢
    simp only [List.mem_cons, List.mem_append, List.map_cons] at hb ⊢
    rcases hb with h | (h | h) | h | h
    · exact .inr (.inl h)
    · exact .inr (.inr (.inl (.inl h)))
    · exact .inr (.inr (.inl (.inr h)))
    · exact .inl h
    · exact .inr (.inr (.inr h))
  refine ⟨S.ok, S.clx, S.base, S.stk, S.ownc, S.fzh, S.exh, fun p hp => ?_, S.loc, ?_, fun b hb => ?_, fun b hb => ?_, fun b hb => ?_, S.xf⟩
  · rcases List.mem_cons.mp hp with rfl | hp
    · exact ⟨o, ho, r⟩
    · exact S.live p hp
  · have nd := S.nod
    have na := ha.m
    have perm : (cx.mut ((a, ao) :: σ)).Perm (a :: cx.mut σ) := by
      unfold Cx.mut
      simp only [List.map_cons]
      refine List.Perm.trans (List.Perm.cons _ List.perm_middle) (List.Perm.swap _ _ _)
    exact perm.nodup_iff.mpr (List.nodup_cons.mpr ⟨na, nd⟩)
  · rcases mm b hb with rfl | h
    · exact ⟨ha.b, hs⟩
    · exact S.new b h
  · rcases mm b hb with rfl | h
    · exact ha.f
    · exact S.apf b h
  · rcases mm b hb with rfl | h
    · exact ha.x
    · exact S.apx b h

/-- fewer live objects, in any order -/
theorem Sat.sub {G cx ex ρ σ σ' fz h} (S : Sat G cx ex ρ σ fz h) (k : ∀ p ∈ σ', p ∈ σ) (nd : (σ'.map (·.1)).Nodup) : Sat G cx ex ρ σ' fz h := by
  have kk : ∀ a, a ∈ σ'.map (·.1) → a ∈ σ.map (·.1) := fun a ha => by
    obtain ⟨p, hp, rfl⟩ := List.mem_map.mp ha
    exact List.mem_map_of_mem (k p hp)
  have mm : ∀ b, b ∈ cx.mut σ' → b ∈ cx.mut σ := fun b hb => by
    unfold Cx.mut at hb ⊢
    simp only [List.mem_cons, List.mem_append] at hb ⊢
    rcases hb with h | h | h
    · exact .inl h
    · exact .inr (.inl h)
    · exact .inr (.inr (kk b h))
  refine ⟨S.ok, S.clx, S.base, S.stk, S.ownc, S.fzh, S.exh, fun p hp => S.live p (k p hp), S.loc, ?_, fun b hb => S.new b (mm b hb), fun b hb => S.apf b (mm b hb), fun b hb => S.apx b (mm b hb), S.xf⟩
  have n0 := S.nod
  unfold Cx.mut at n0 ⊢
  rw [List.nodup_cons] at n0 ⊢
  refine ⟨fun q => n0.1 ?_, ?_⟩
  · rcases List.mem_append.mp q with q | q
    · exact List.mem_append_left _ q
    · exact List.mem_append_right _ (kk _ q)
  · rw [List.nodup_append] at n0 ⊢
    exact ⟨n0.2.1, nd, fun a ha b hb => n0.2.2.2 a ha b (kk b hb)⟩

/-- a live object's change -/
theorem Sat.live_set {G cx ex ρ σ₁ σ₂ fz h h'} {a : Addr} {o : Obj} {ao ao' : AO} (S : Sat G cx ex ρ (σ₁ ++ (a, ao) :: σ₂) fz h) (k : Heap.ExtBut a h h') (ho : h'.get? a = some o) (r : RelO G fz ao' o) : Sat G cx ex ρ (σ₁ ++ (a, ao') :: σ₂) fz h' := by
  have em : cx.mut (σ₁ ++ (a, ao') :: σ₂) = cx.mut (σ₁ ++ (a, ao) :: σ₂) := by unfold Cx.mut; simp
  have ham : a ∈ cx.mut (σ₁ ++ (a, ao) :: σ₂) := by unfold Cx.mut; simp
  have nd := S.nod
  have na : ∀ b, b ∈ cx.env.locals :: (cx.stk.map (·.1.locals) ++ cx.own) → b ≠ a := fun b hb q => by
    subst q
    unfold Cx.mut at nd
    rw [← List.cons_append, List.nodup_append] at nd
    exact nd.2.2 b hb b (by simp) rfl
  have nσ : ∀ p ∈ σ₁ ++ σ₂, p.1 ≠ a := fun p hp q => by
    have n2 : ((σ₁ ++ (a, ao) :: σ₂).map (·.1)).Nodup := by
      unfold Cx.mut at nd
      rw [← List.cons_append, List.nodup_append] at nd
      exact nd.2.1
    rw [List.map_append, List.map_cons] at n2
    have pm : (σ₁.map (·.1) ++ a :: σ₂.map (·.1)).Perm (a :: (σ₁.map (·.1) ++ σ₂.map (·.1))) := List.perm_middle
    have n3 := (List.nodup_cons.mp (pm.nodup_iff.mp n2)).1
    refine n3 ?_
    rw [← List.map_append, ← q]
    exact List.mem_map_of_mem hp
  have hbn : ∀ b o', G.hb.get? b = some o' → b ≠ a := fun b o' e q => by
    have := (S.new a ham).1
    rw [← q, e] at this; cases this
  have kcell : ∀ c ∈ cx.own, ∀ v, h.IsCell c v → h'.IsCell c v := fun c hc v ⟨o', ho', hd⟩ => ⟨o', k c o' (na c (by simp [hc])) ho', hd⟩
  refine ⟨S.ok, S.clx, fun b o' e => k b o' (hbn b o' e) (S.base b o' e), fun p hp => ?_, fun c hc => ?_, fun p hp => k _ _ (fun q => S.apf a ham (q ▸ List.mem_map_of_mem hp)) (S.fzh p hp),
    fun p hp => k _ _ (fun q => S.apx a ham (q ▸ List.mem_map_of_mem hp)) (S.exh p hp), fun p hp => ?_, ?_, by rw [em]; exact S.nod, by rw [em]; exact S.new, by rw [em]; exact S.apf, by rw [em]; exact S.apx, S.xf⟩
  · obtain ⟨o', es, ep, ho', r'⟩ := S.stk p hp
    exact ⟨o', es, ep, k _ o' (na _ (by simp only [List.mem_cons, List.mem_append, List.mem_map]; exact .inr (.inl ⟨p, hp, rfl⟩))) ho', r'⟩
  · obtain ⟨v, hv⟩ := S.ownc c hc
    exact ⟨v, kcell c hc v hv⟩
  · rcases List.mem_append.mp hp with hp | hp
    · obtain ⟨o', ho', r'⟩ := S.live p (List.mem_append_left _ hp)
      exact ⟨o', k _ _ (nσ p (List.mem_append_left _ hp)) ho', r'⟩
    · rcases List.mem_cons.mp hp with rfl | hp
      · exact ⟨o, ho, r⟩
      · obtain ⟨o', ho', r'⟩ := S.live p (List.mem_append_right _ (List.mem_cons_of_mem _ hp))
        exact ⟨o', k _ _ (nσ p (List.mem_append_right _ hp)) ho', r'⟩
  · obtain ⟨m, ⟨o', es, ep, ho', r'⟩, hv⟩ := S.loc
    exact ⟨m, ⟨o', es, ep, k _ o' (na _ (by simp)) ho', r'⟩, fun x v e => (hv x v e).keep kcell⟩

/-- a live object frozen for good -/
theorem Sat.settle {G cx ex ρ σ₁ σ₂ fz h} {a : Addr} {ao : AO} (S : Sat G cx ex ρ (σ₁ ++ (a, ao) :: σ₂) fz h) : ∃ o, h.get? a = some o ∧ RelO G fz ao o ∧ Sat G cx ex ρ (σ₁ ++ σ₂) ((a, o) :: fz) h := by
  obtain ⟨o, ho, r⟩ := S.live (a, ao) (by simp)
  have nd := S.nod
  have pm : (cx.mut (σ₁ ++ (a, ao) :: σ₂)).Perm (a :: cx.mut (σ₁ ++ σ₂)) := by
    unfold Cx.mut
    rw [List.map_append, List.map_append, List.map_cons]
    refine List.Perm.trans (List.Perm.cons _ ?_) (List.Perm.swap _ _ _)
    rw [← List.append_assoc]
    refine List.Perm.trans List.perm_middle ?_
    rw [List.append_assoc]
  have n3 := List.nodup_cons.mp (pm.nodup_iff.mp nd)
  refine ⟨o, ho, r, ?_⟩
  refine (S.sub (σ' := σ₁ ++ σ₂) (fun p hp => ?_) ?_).freeze ho n3.1 (S.apx a (pm.mem_iff.mpr List.mem_cons_self))
  · rcases List.mem_append.mp hp with hp | hp
    · exact List.mem_append_left _ hp
    · exact List.mem_append_right _ (List.mem_cons_of_mem _ hp)
  · have := n3.2
    unfold Cx.mut at this
    rw [← List.cons_append, List.nodup_append] at this
    exact this.2.1

/-- an object set aside for a while, and taken back -/
theorem Sat.park {G cx ex ρ σ fz h} {a : Addr} {o : Obj} (S : Sat G cx ex ρ σ fz h) (ho : h.get? a = some o) (hm : a ∉ cx.mut σ) (hf : a ∉ keys fz) : Sat G cx ((a, o) :: ex) ρ σ fz h :=
  ⟨S.ok, fun p hp => List.mem_cons_of_mem _ (S.clx p hp), S.base, S.stk, S.ownc, S.fzh, fun p hp => by
    rcases List.mem_cons.mp hp with rfl | hp
    · exact ho
    · exact S.exh p hp, S.live, S.loc, S.nod, S.new, S.apf, fun b hb hx => by
    rcases List.mem_cons.mp hx with rfl | hx
    · exact hm hb
    · exact S.apx b hb hx, fun b hb => by
    rcases List.mem_cons.mp hb with rfl | hb
    · exact hf
    · exact S.xf b hb⟩
theorem Sat.unpark {G cx ex ρ σ fz h} {a : Addr} {o : Obj} (S : Sat G cx ((a, o) :: ex) ρ σ fz h) (hcl : ∀ p ∈ cx.cl, p ∈ ex) : Sat G cx ex ρ σ fz h ∧ h.get? a = some o ∧ a ∉ cx.mut σ ∧ a ∉ keys fz :=
  ⟨⟨S.ok, hcl, S.base, S.stk, S.ownc, S.fzh, fun p hp => S.exh p (List.mem_cons_of_mem _ hp), S.live, S.loc, S.nod, S.new, S.apf, fun b hb hx => S.apx b hb (List.mem_cons_of_mem _ hx), fun b hb => S.xf b (List.mem_cons_of_mem _ hb)⟩,
    S.exh _ List.mem_cons_self, fun q => S.apx a q List.mem_cons_self, S.xf a List.mem_cons_self⟩

end Mine
namespace Mine
open PySem PySem.W PyProof.Rows PyProof.Rows.LCg PySem.Calls PySem.Spec

structure AX where
  c : Addr
  at_ : List (Str × AV)

/-- an exception in flight -/
noncomputable def XIs (G : Gr) (cx : Cx) (ex : Objs) (σ : AH) (fz : Objs) (h : Heap) (e : Addr) (x : AX) : Prop :=
  Off G cx ex σ fz e ∧ ∃ (o : Obj) (d : Addr) (od : Obj) (vs : Array Value) (kvs : Str → Option Value), h.get? e = some o ∧ o.cls = .ref x.c ∧ o.dict = some d ∧ o.data = .fields vs ∧ 6 ≤ vs.size ∧ (d, od) ∈ fz ∧ NsObj od kvs ∧ AtR G fz x.at_ kvs ∧
    (vs[1]? = some .none ∨ ∃ tb ot ts, vs[1]? = some (.ref tb) ∧ h.get? tb = some ot ∧ ot.data = .fields ts ∧ (ts[3]? = some .none ∨ ts[3]? = some (rawInt cx.env.locals)) ∧ Off G cx ex σ fz tb ∧ tb ≠ e)

noncomputable def Ret {α β : Type} (R : Gr → Objs → β → α → Prop) (G : Gr) (cx : Cx) (ex fz : Objs) (s : Shared) (Q : β → AE → AH → Prop) (QQ : α → Shared → Prop) : Prop :=
  ∀ b a ρ' σ' fz' h' tk', (∀ p ∈ fz, p ∈ fz') → Sat G cx ex ρ' σ' fz' h' → R G fz' b a → Q b ρ' σ' → QQ a { s with heap := h', toks := tk' }
noncomputable def Exn (G : Gr) (cx : Cx) (ex fz : Objs) (s : Shared) (EQ : AX → AE → AH → Prop) (EE : Value → Shared → Prop) : Prop :=
  ∀ x e ρ' σ' fz' h' tk', (∀ p ∈ fz, p ∈ fz') → Sat G cx ex ρ' σ' fz' h' → XIs G cx ex σ' fz' h' e x → EQ x ρ' σ' → EE (.ref e) { s with heap := h', toks := tk' }

theorem Ret.on {α β : Type} {R : Gr → Objs → β → α → Prop} {G cx ex fz fz₁ s h₁ t₁ Q QQ} (r : Ret R G cx ex fz s Q QQ) (k : ∀ p ∈ fz, p ∈ fz₁) : Ret R G cx ex fz₁ { s with heap := h₁, toks := t₁ } Q QQ :=
  fun b a ρ' σ' fz' h' tk' k' S rr q => r b a ρ' σ' fz' h' tk' (fun p hp => k' p (k p hp)) S rr q
theorem Exn.on {G cx ex fz fz₁ s h₁ t₁ EQ EE} (r : Exn G cx ex fz s EQ EE) (k : ∀ p ∈ fz, p ∈ fz₁) : Exn G cx ex fz₁ { s with heap := h₁, toks := t₁ } EQ EE :=
  fun x e ρ' σ' fz' h' tk' k' S rr q => r x e ρ' σ' fz' h' tk' (fun p hp => k' p (k p hp)) S rr q

noncomputable def JV {α β : Type} (R : Gr → Objs → β → α → Prop) (G : Gr) (cx : Cx) (ρ : AE) (σ : AH) (args : List AV) (t : List Value → Sem α) (Q : β → AE → AH → Prop) (EQ : AX → AE → AH → Prop) : Prop :=
  ∀ ex fz (s : Shared) Vs, GOk G → Sat G cx ex ρ σ fz s.heap → RelL G fz args Vs → ∀ QQ EE, Ret R G cx ex fz s Q QQ → Exn G cx ex fz s EQ EE → wpAny (model G.prog G.w) cx.A (t Vs) QQ EE s

/-- of an expression -/
noncomputable abbrev Ev (G : Gr) (cx : Cx) (ρ : AE) (σ : AH) (e : Expr) (Q : AV → AE → AH → Prop) (EQ : AX → AE → AH → Prop) : Prop := JV Rel G cx ρ σ [] (fun _ => eval e cx.env) Q EQ
noncomputable def RB (_ : Gr) (_ : Objs) (b a : Bool) : Prop := a = b
/-- of a test -/
noncomputable abbrev Ts (G : Gr) (cx : Cx) (ρ : AE) (σ : AH) (e : Expr) (Q : Bool → AE → AH → Prop) (EQ : AX → AE → AH → Prop) : Prop := JV RB G cx ρ σ [] (fun _ => isTrue e cx.env (eval e cx.env)) Q EQ

inductive AF where
  | next
  | ret (v : AV)
inductive RF (G : Gr) (fz : Objs) : AF → Flow → Prop
  | next : RF G fz .next .next
  | ret {v V} : Rel G fz v V → RF G fz (.ret v) (.ret V)
/-- of a suite -/
noncomputable abbrev Xs (G : Gr) (cx : Cx) (ρ : AE) (σ : AH) (b : List Stmt) (Q : AF → AE → AH → Prop) (EQ : AX → AE → AH → Prop) : Prop := JV RF G cx ρ σ [] (fun _ => execs b cx.env) Q EQ
noncomputable abbrev X1 (G : Gr) (cx : Cx) (ρ : AE) (σ : AH) (b : Stmt) (Q : AF → AE → AH → Prop) (EQ : AX → AE → AH → Prop) : Prop := JV RF G cx ρ σ [] (fun _ => exec b cx.env) Q EQ
noncomputable def RU (_ : Gr) (_ : Objs) (_ : Unit) (_ : Unit) : Prop := True

noncomputable def two {α : Type} (f : Value → Value → Sem α) : List Value → Sem α
  | [a, b] => f a b
  | _ => .unsupported ""
noncomputable def one {α : Type} (f : Value → Sem α) : List Value → Sem α
  | [a] => f a
  | _ => .unsupported ""

section
variable {G : Gr} {cx : Cx} {ρ : AE} {σ : AH} {Q : AV → AE → AH → Prop} {EQ : AX → AE → AH → Prop}

theorem JV.run {α β : Type} {R : Gr → Objs → β → α → Prop} {args t} {Q : β → AE → AH → Prop} (h : JV R G cx ρ σ args t Q EQ) {ex fz} {s : Shared} {Vs} (g : GOk G) (S : Sat G cx ex ρ σ fz s.heap) (r : RelL G fz args Vs)
    {QQ EE} (hQ : Ret R G cx ex fz s Q QQ) (hE : Exn G cx ex fz s EQ EE) : wpAny (model G.prog G.w) cx.A (t Vs) QQ EE s := h ex fz s Vs g S r QQ EE hQ hE

theorem JV.mono {α β : Type} {R : Gr → Objs → β → α → Prop} {args t} {Q Q' : β → AE → AH → Prop} {EQ' : AX → AE → AH → Prop} (h : JV R G cx ρ σ args t Q EQ) (hq : ∀ b ρ σ, Q b ρ σ → Q' b ρ σ) (he : ∀ x ρ σ, EQ x ρ σ → EQ' x ρ σ) : JV R G cx ρ σ args t Q' EQ' :=
  fun _ _ _ _ g S r _ _ hQ hE => h.run g S r (fun b a ρ' σ' fz' h' tk' k S' rr q => hQ b a ρ' σ' fz' h' tk' k S' rr (hq _ _ _ q)) (fun x e ρ' σ' fz' h' tk' k S' rr q => hE x e ρ' σ' fz' h' tk' k S' rr (he _ _ _ q))

theorem RelL.nil_inv {fz Vs} (h : RelL G fz [] Vs) : Vs = [] := by cases h; rfl
theorem RelL.cons_inv {fz v l Vs} (h : RelL G fz (v :: l) Vs) : ∃ V vs, Vs = V :: vs ∧ Rel G fz v V ∧ RelL G fz l vs := by
  cases h with
  | cons h r => exact ⟨_, _, rfl, h, r⟩
theorem RelL.one_inv {fz v Vs} (h : RelL G fz [v] Vs) : ∃ V, Vs = [V] ∧ Rel G fz v V := by
  cases h with
  | cons h r => cases r; exact ⟨_, rfl, h⟩
theorem RelL.two_inv {fz v u Vs} (h : RelL G fz [v, u] Vs) : ∃ V U, Vs = [V, U] ∧ Rel G fz v V ∧ Rel G fz u U := by
  cases h with
  | cons h r =>
    obtain ⟨U, rfl, hu⟩ := r.one_inv
    exact ⟨_, _, rfl, h, hu⟩

/-- what a step gives back without touching the state -/
theorem give {α β : Type} {R : Gr → Objs → β → α → Prop} {ex fz} {s : Shared} {Q : β → AE → AH → Prop} {QQ} (hQ : Ret R G cx ex fz s Q QQ) (S : Sat G cx ex ρ σ fz s.heap) {b a} (r : R G fz b a) (q : Q b ρ σ) {tk : Nat} : QQ a { s with toks := tk } :=
  hQ b a ρ σ fz s.heap tk (fun _ h => h) S r q

/-! names and constants -/
theorem ev_int {i : Int} {k pos} (q : Q (.int i) ρ σ) : Ev G cx ρ σ (.Constant (.int i) k pos) Q EQ :=
  fun _ _ _ _ _ S _ _ _ hQ _ => wpAny_Constant_int (give hQ S (.int _ _) q)
theorem ev_str {x : Str} {k pos} (q : Q (.str x) ρ σ) : Ev G cx ρ σ (.Constant (.str x) k pos) Q EQ :=
  fun _ _ _ _ _ S _ _ _ hQ _ => Calls.Constant_str (give hQ S (.str _ _) q)
theorem ev_bool {b : Bool} {k pos} (q : Q (.bool b) ρ σ) : Ev G cx ρ σ (.Constant (.bool b) k pos) Q EQ :=
  fun _ _ _ _ _ S _ _ _ hQ _ => Constant_bool (give hQ S (.bool _) q)

theorem loadVar {ex fz} {s : Shared} {x : Str} {v : AV} {QQ EE} (S : Sat G cx ex ρ σ fz s.heap) (hv : ρ x = some v) (hx : (x == ("__classdict__" : Str)) = false) (h : ∀ V, Rel G fz v V → QQ V s) : wpAny (model G.prog G.w) cx.A (loadName cx.env x) QQ EE s := by
  obtain ⟨m, hn, hm⟩ := S.loc
  rcases hm x v hv with ⟨hk, V, hV, r⟩ | ⟨hk, c, V, hc, _, hi, r⟩ | ⟨hk, c, o, V, hc, ho, hd, r⟩
  · exact wpAny_loadName_local S.ok.kf hk hn hV (h V r)
  · exact wpAny_loadName_cell S.ok.kf hk hc hi (h V r)
  · have hi : s.heap.IsCell c (some V) := ⟨o, S.exh _ (S.clx _ ho), hd⟩
    rcases hk with hk | hk
    · exact wpAny_loadName_free S.ok.kf hk hc hi (h V r) hx
    · exact wpAny_loadName_cell S.ok.kf hk hc hi (h V r)

theorem ev_name {x : Str} {pos} {v : AV} (hv : ρ x = some v) (q : Q v ρ σ) (hd : (x == ("__debug__" : Str)) = false := by decide) (hx : (x == ("__classdict__" : Str)) = false := by decide) : Ev G cx ρ σ (.Name x pos) Q EQ :=
  fun _ _ _ _ _ S _ _ _ hQ _ => wpAny_Name (loadVar S hv hx fun _ r => give hQ S r q) hd

theorem ev_global {x : Str} {pos} {V : Value} (hk : cx.env.kindOf x = some .globalImplicit) (e : nsIn G.K mainGlobals x = some (some V)) (q : Q (.val V) ρ σ) (hd : (x == ("__debug__" : Str)) = false := by decide) : Ev G cx ρ σ (.Name x pos) Q EQ :=
  fun _ _ _ _ g S _ _ _ hQ _ => Calls.Name_function_global S.ok.kf hk (Calls.loadGlobal_global (env := cx.env) (by rw [S.ok.gl.1]; exact g.TB.g.keeps S.base) (mg_of g.KB g.TB.g e) (give hQ S (.val _) q)) hd

theorem ev_builtin {x : Str} {pos} {V : Value} (hk : cx.env.kindOf x = some .globalImplicit) (e : nsIn G.K mainGlobals x = some none) (hv : bootBuiltins x = some V) (q : Q (.val V) ρ σ) (hn : x ≠ "__name__" := by decide) (hd : (x == ("__debug__" : Str)) = false := by decide) : Ev G cx ρ σ (.Name x pos) Q EQ :=
  fun _ _ _ _ g S _ _ _ hQ _ => Calls.Name_function_global S.ok.kf hk (Calls.loadGlobal_builtin (env := cx.env) (by rw [S.ok.gl.1]; exact g.TB.g.keeps S.base) (mg_none_of g.KB g.TB.g e) (by rw [S.ok.gl.2]; exact g.TB.b.keeps S.base) ((g.TB.builtins x hn).trans hv) (give hQ S (.val _) q)) hd

/-! two sub-expressions, then a step upon both -/
theorem ev_bin {l r : Expr} {op pos} (h : Ev G cx ρ σ l (fun v₁ ρ₁ σ₁ => Ev G cx ρ₁ σ₁ r (fun v₂ ρ₂ σ₂ => JV Rel G cx ρ₂ σ₂ [v₁, v₂] (two (binaryOp op)) Q EQ) EQ) EQ) : Ev G cx ρ σ (.BinOp l op r pos) Q EQ :=
  fun _ _ _ _ g S _ _ _ hQ hE => wpAny_BinOp (h.run g S .nil (fun _ _ _ _ _ _ _ k₁ S₁ r₁ q₁ => q₁.run g S₁ .nil (fun _ _ _ _ _ _ _ k₂ S₂ r₂ q₂ =>
    q₂.run g S₂ (.cons (r₁.mono k₂) (.cons r₂ .nil)) ((hQ.on k₁).on k₂) ((hE.on k₁).on k₂)) (hE.on k₁)) hE)
theorem ev_cmp {l r : Expr} {op pos} (h : Ev G cx ρ σ l (fun v₁ ρ₁ σ₁ => Ev G cx ρ₁ σ₁ r (fun v₂ ρ₂ σ₂ => JV Rel G cx ρ₂ σ₂ [v₁, v₂] (two (compareOp op)) Q EQ) EQ) EQ) (hb : behindInMarks op r = false := by rfl) : Ev G cx ρ σ (.Compare l [op] [r] pos) Q EQ :=
  fun _ _ _ _ g S _ _ _ hQ hE => wpAny_Compare1 (h.run g S .nil (fun _ _ _ _ _ _ _ k₁ S₁ r₁ q₁ => q₁.run g S₁ .nil (fun _ _ _ _ _ _ _ k₂ S₂ r₂ q₂ =>
    q₂.run g S₂ (.cons (r₁.mono k₂) (.cons r₂ .nil)) ((hQ.on k₁).on k₂) ((hE.on k₁).on k₂)) (hE.on k₁)) hE) hb
theorem ts_cmp {l r : Expr} {op pos} {Q : Bool → AE → AH → Prop} (h : Ev G cx ρ σ l (fun v₁ ρ₁ σ₁ => Ev G cx ρ₁ σ₁ r (fun v₂ ρ₂ σ₂ => JV Rel G cx ρ₂ σ₂ [v₁, v₂] (two (compareOp op)) (fun v ρ σ => ∃ b, v = .bool b ∧ Q b ρ σ) EQ) EQ) EQ) (hb : behindInMarks op r = false := by rfl) : Ts G cx ρ σ (.Compare l [op] [r] pos) Q EQ :=
  fun _ _ _ _ g S _ _ _ hQ hE => wpAny_isTrue_Compare1 (h.run g S .nil (fun _ _ _ _ _ _ _ k₁ S₁ r₁ q₁ => q₁.run g S₁ .nil (fun _ _ _ _ _ _ _ k₂ S₂ r₂ q₂ =>
    q₂.run g S₂ (.cons (r₁.mono k₂) (.cons r₂ .nil)) (fun v V ρ' σ' fz' h' tk' k' S' r' q' => by
      obtain ⟨b, rfl, q'⟩ := q'
      cases r'
      exact wpAny_truthy_bool (hQ b b ρ' σ' fz' h' tk' (fun p hp => k' p (k₂ p (k₁ p hp))) S' rfl q')) ((hE.on k₁).on k₂)) (hE.on k₁)) hE) hb

theorem ev_un {x : Expr} {op pos} (h : Ev G cx ρ σ x (fun v ρ₁ σ₁ => JV Rel G cx ρ₁ σ₁ [v] (one (unaryOp op)) Q EQ) EQ) : Ev G cx ρ σ (.UnaryOp op x pos) Q EQ :=
  fun _ _ _ _ g S _ _ _ hQ hE => UnaryOp_ (h.run g S .nil (fun _ _ _ _ _ _ _ k₁ S₁ r₁ q₁ => q₁.run g S₁ (.cons r₁ .nil) (hQ.on k₁) (hE.on k₁)) hE)

theorem sub_of {prog : Program} {w : World} {A : Around} {E : Value → Shared → Prop} {s : Shared} {value slice : Expr} {o i : Value} {T id : String} {Q : Value → Shared → Prop} (hT : s.TypeIs o T)
    (hl : typeLookup (.type T) "__getitem__" = pure (some (.builtin id))) (h : wpAny (model prog w) A (getItem o i) Q E s) (hs : subscripted slice false o i = operate [o, i] (getItem o i)) :
    wpAny (model prog w) A (subscriptTail value slice o i) Q E s := by
  unfold subscriptTail
  refine wpAny_bind ?_
  rw [getitemInPython_of_ne hT.not_modules]
  refine wpAny_bind (wpAny_specialOf hT hl ?_)
  have fin : wpAny (model prog w) A (subscripted slice false o i) (fun r s₃ => wpAny (model prog w) A (letTemporaryGo value o r >>= fun _ => pure r) Q E s₃) E s := by
    rw [hs]
    exact wpAny_operating (wpAny_mono h (fun r s₃ h₃ => wpAny_bind (wpAny_letTemporaryGo (wpAny_pure h₃))) fun _ _ x => x)
  first
    | exact wpAny_pure (wpAny_bind fin)
    | exact wpAny_bind (wpAny_pure (wpAny_bind fin))
    | exact wpAny_bind fin

theorem ev_sub {value slice : Expr} {pos} (h : Ev G cx ρ σ value (fun v₁ ρ₁ σ₁ => Ev G cx ρ₁ σ₁ slice (fun v₂ ρ₂ σ₂ => JV Rel G cx ρ₂ σ₂ [v₁, v₂] (two (subscriptTail value slice)) Q EQ) EQ) EQ) : Ev G cx ρ σ (.Subscript value slice pos) Q EQ :=
  fun _ _ _ _ g S _ _ _ hQ hE => Subscript_ (h.run g S .nil (fun _ _ _ _ _ _ _ k₁ S₁ r₁ q₁ => q₁.run g S₁ .nil (fun _ _ _ _ _ _ _ k₂ S₂ r₂ q₂ =>
    q₂.run g S₂ (.cons (r₁.mono k₂) (.cons r₂ .nil)) ((hQ.on k₁).on k₂) ((hE.on k₁).on k₂)) (hE.on k₁)) hE)

/-! arithmetic -/
theorem op_add {a b : Int} (q : Q (.int (a + b)) ρ σ) : JV Rel G cx ρ σ [.int a, .int b] (two (binaryOp .Add)) Q EQ := fun _ _ _ _ _ S r _ _ hQ _ => by
  obtain ⟨_, _, rfl, r1, r2⟩ := r.two_inv
  cases r1; cases r2
  exact add_int (give hQ S (.int _ _) q)
theorem op_sub {a b : Int} (q : Q (.int (a - b)) ρ σ) : JV Rel G cx ρ σ [.int a, .int b] (two (binaryOp .Sub)) Q EQ := fun _ _ _ _ _ S r _ _ hQ _ => by
  obtain ⟨_, _, rfl, r1, r2⟩ := r.two_inv
  cases r1; cases r2
  exact sub_int (give hQ S (.int _ _) q)
theorem op_or {a b : Int} (q : Q (.int (Builtin.bitOr a b)) ρ σ) : JV Rel G cx ρ σ [.int a, .int b] (two (binaryOp .BitOr)) Q EQ := fun _ _ _ _ _ S r _ _ hQ _ => by
  obtain ⟨_, _, rfl, r1, r2⟩ := r.two_inv
  cases r1; cases r2
  exact or_int (give hQ S (.int _ _) q)
theorem op_mod {a b : Int} (hb : b ≠ 0) (q : Q (.int (a.fmod b)) ρ σ) : JV Rel G cx ρ σ [.int a, .int b] (two (binaryOp .Mod)) Q EQ := fun _ _ _ _ _ S r _ _ hQ _ => by
  obtain ⟨_, _, rfl, r1, r2⟩ := r.two_inv
  cases r1; cases r2
  exact mod_int' hb (give hQ S (.int _ _) q)
theorem op_pow {a n : Int} (h0 : 0 ≤ n) (h1 : n ≤ 1000000) (ha : a.natAbs < 2 ^ 64) (q : Q (.int (a ^ n.toNat)) ρ σ) : JV Rel G cx ρ σ [.int a, .int n] (two (binaryOp .Pow)) Q EQ := fun _ _ _ _ _ S r _ _ hQ _ => by
  obtain ⟨_, _, rfl, r1, r2⟩ := r.two_inv
  cases r1; cases r2
  exact pow_int_small h0 h1 ha (give hQ S (.int _ _) q)
theorem op_neg {a : Int} (q : Q (.int (-a)) ρ σ) : JV Rel G cx ρ σ [.int a] (one (unaryOp .USub)) Q EQ := fun _ _ _ _ _ S r _ _ hQ _ => by
  obtain ⟨_, rfl, r1⟩ := r.one_inv
  cases r1
  exact neg_int (give hQ S (.int _ _) q)
theorem op_cat {a b : Str} (hz : a.length + b.length ≤ sizeLine) (q : Q (.str (a ++ b)) ρ σ) : JV Rel G cx ρ σ [.str a, .str b] (two (binaryOp .Add)) Q EQ := fun _ _ _ _ _ S r _ _ hQ _ => by
  obtain ⟨_, _, rfl, r1, r2⟩ := r.two_inv
  cases r1; cases r2
  exact add_str (fun t tk => give hQ S (.str _ t) q) hz

/-! comparisons -/
theorem op_eq_int {a b : Int} (q : Q (.bool (a == b)) ρ σ) : JV Rel G cx ρ σ [.int a, .int b] (two (compareOp .Eq)) Q EQ := fun _ _ _ _ _ S r _ _ hQ _ => by
  obtain ⟨_, _, rfl, r1, r2⟩ := r.two_inv
  cases r1; cases r2
  exact eq_int (give hQ S (.bool _) q)
theorem op_ne_int {a b : Int} (q : Q (.bool (a != b)) ρ σ) : JV Rel G cx ρ σ [.int a, .int b] (two (compareOp .NotEq)) Q EQ := fun _ _ _ _ _ S r _ _ hQ _ => by
  obtain ⟨_, _, rfl, r1, r2⟩ := r.two_inv
  cases r1; cases r2
  exact ne_int (give hQ S (.bool _) q)
theorem op_ge_int {a b : Int} (q : Q (.bool (decide (b ≤ a))) ρ σ) : JV Rel G cx ρ σ [.int a, .int b] (two (compareOp .GtE)) Q EQ := fun _ _ _ _ _ S r _ _ hQ _ => by
  obtain ⟨_, _, rfl, r1, r2⟩ := r.two_inv
  cases r1; cases r2
  exact ge_int (give hQ S (.bool _) q)
theorem op_ne_str {a b : Str} (q : Q (.bool (a != b)) ρ σ) : JV Rel G cx ρ σ [.str a, .str b] (two (compareOp .NotEq)) Q EQ := fun _ _ _ _ _ S r _ _ hQ _ => by
  obtain ⟨_, _, rfl, r1, r2⟩ := r.two_inv
  cases r1; cases r2
  exact ne_str (give hQ S (.bool _) q)
end
end Mine
namespace Mine
open PySem PySem.W PyProof.Rows PyProof.Rows.LCg PySem.Calls PySem.Spec

section
variable {G : Gr} {cx : Cx} {ρ : AE} {σ : AH} {ex fz : Objs} {h h' : Heap}

/-- frames may get their frame objects laid -/
theorem Sat.slots {S' : List Addr} (S : Sat G cx ex ρ σ fz h) (k : Heap.SlotsOnly S' h h') (hs : ∀ b ∈ S', b = cx.env.locals ∨ b ∈ cx.stk.map (·.1.locals)) : Sat G cx ex ρ σ fz h' := by
  have inm : ∀ b ∈ S', b ∈ cx.mut σ := fun b hb => by
    unfold Cx.mut
    rcases hs b hb with rfl | q
    · exact List.mem_cons_self
    · exact List.mem_cons_of_mem _ (List.mem_append_left _ (List.mem_append_left _ q))
  have keep : ∀ b o, b ∉ S' → h.get? b = some o → h'.get? b = some o := fun b o nb e => (k.2.1 b nb).trans e
  have nd := S.nod
  unfold Cx.mut at nd
  have ns : ∀ b, b ∈ cx.own ++ σ.map (·.1) → b ∉ S' := fun b hb q => by
    have n2 := nd
    rw [List.append_assoc, ← List.cons_append, List.nodup_append] at n2
    have : b ∈ cx.env.locals :: cx.stk.map (·.1.locals) := by
      rcases hs b q with rfl | q
      · exact List.mem_cons_self
      · exact List.mem_cons_of_mem _ q
    exact n2.2.2 b this b hb rfl
  have nsup : ∀ {a : Addr} {m : Str → Option Value}, h.Ns a m → h'.Ns a m := fun ⟨o, es, ep, ho, hd, r⟩ => by
    obtain ⟨sl, e⟩ := k.2.2 _ o ho
    exact ⟨_, es, ep, e, hd, r⟩
  have kcell : ∀ c ∈ cx.own, ∀ v, h.IsCell c v → h'.IsCell c v := fun c hc v ⟨o, ho, hd⟩ => ⟨o, keep c o (ns c (List.mem_append_left _ hc)) ho, hd⟩
  refine ⟨S.ok, S.clx, fun b o e => keep b o (fun q => ?_) (S.base b o e), fun p hp => nsup (S.stk p hp), fun c hc => ?_, fun p hp => keep _ _ (fun q => S.apf _ (inm _ q) (List.mem_map_of_mem hp)) (S.fzh p hp),
    fun p hp => keep _ _ (fun q => S.apx _ (inm _ q) (List.mem_map_of_mem hp)) (S.exh p hp), fun p hp => ?_, ?_, S.nod, S.new, S.apf, S.apx, S.xf⟩
  · have := (S.new b (inm b q)).1
    rw [e] at this; cases this
  · obtain ⟨v, hv⟩ := S.ownc c hc
    exact ⟨v, kcell c hc v hv⟩
  · obtain ⟨o, ho, r⟩ := S.live p hp
    exact ⟨o, keep _ o (ns _ (List.mem_append_right _ (List.mem_map_of_mem hp))) ho, r⟩
  · obtain ⟨m, hn, hv⟩ := S.loc
    exact ⟨m, nsup hn, fun x v e => (hv x v e).keep kcell⟩

theorem Off.not_frame {a : Addr} (O : Off G cx ex σ fz a) : ¬ (a = cx.env.locals ∨ a ∈ cx.stk.map (·.1.locals)) := fun q => O.m (by
  unfold Cx.mut
  rcases q with rfl | q
  · exact List.mem_cons_self
  · exact List.mem_cons_of_mem _ (List.mem_append_left _ (List.mem_append_left _ q)))

theorem frames_mem (ok : CxOk cx) (hc : cx.comp = false) : ∀ b ∈ cx.frames.filterMap (·.frame), b = cx.env.locals ∨ b ∈ cx.stk.map (·.1.locals) := fun b hb => by
  unfold Cx.frames at hb
  rw [hc] at hb
  obtain ⟨e, he, hf⟩ := List.mem_filterMap.mp hb
  rcases List.mem_cons.mp he with rfl | he
  · rw [ok.fr hc] at hf
    exact .inl (Option.some.inj hf).symm
  · obtain ⟨p, hp, rfl⟩ := List.mem_map.mp he
    rw [(ok.fs p hp).2] at hf
    exact .inr (List.mem_map.mpr ⟨p, hp, Option.some.inj hf⟩)

theorem Sat.funFrames (S : Sat G cx ex ρ σ fz h) (hc : cx.comp = false) : h.FunFrames G.hb (cx.env :: cx.stk.map (·.1)) := by
  have one : ∀ {e : Env} {m : Str → Option Value}, h.Ns e.locals m → e.scope.kind = .function → e.frame = some e.locals → G.hb.get? e.locals = none →
      e.scope.kind ≠ .module ∧ ∃ L o, e.frame = some L ∧ G.hb.get? L = none ∧ h.get? L = some o ∧ ∀ vs, o.data ≠ .fields vs := fun ⟨o, es, ep, ho, hd, _⟩ hk hf hn =>
    ⟨by rw [hk]; decide, _, o, hf, hn, ho, fun vs q => by rw [hd] at q; cases q⟩
  obtain ⟨m, hn, _⟩ := S.loc
  have h1 := one hn S.ok.kf (S.ok.fr hc) (S.new _ (by unfold Cx.mut; simp)).1
  refine ⟨h1.1, h1.2, ?_⟩
  have hs : ∀ p ∈ cx.stk, h.Ns p.1.locals p.2 ∧ p.1.scope.kind = .function ∧ p.1.frame = some p.1.locals ∧ G.hb.get? p.1.locals = none := fun p hp =>
    ⟨S.stk p hp, (S.ok.fs p hp).1, (S.ok.fs p hp).2, (S.new _ (by unfold Cx.mut; simp only [List.mem_cons, List.mem_append, List.mem_map]; exact .inr (.inl (.inl ⟨p, hp, rfl⟩)))).1⟩
  revert hs
  generalize cx.stk = l
  intro hs
  induction l with
  | nil => trivial
  | cons p l ih =>
    obtain ⟨a1, a2, a3, a4⟩ := hs p List.mem_cons_self
    have q := one a1 a2 a3 a4
    exact ⟨q.1, q.2, ih fun p hp => hs p (List.mem_cons_of_mem _ hp)⟩

/-- an exception that this frame has noted -/
noncomputable def XNo (G : Gr) (cx : Cx) (ex : Objs) (σ : AH) (fz : Objs) (h : Heap) (e : Addr) (x : AX) (fl : Value) : Prop :=
  Off G cx ex σ fz e ∧ ∃ (o : Obj) (d : Addr) (od : Obj) (vs : Array Value) (kvs : Str → Option Value), h.get? e = some o ∧ o.cls = .ref x.c ∧ o.dict = some d ∧ o.data = .fields vs ∧ 6 ≤ vs.size ∧ (d, od) ∈ fz ∧ NsObj od kvs ∧ AtR G fz x.at_ kvs ∧
    ∃ tb ot ts, vs[1]? = some (.ref tb) ∧ h.get? tb = some ot ∧ ot.data = .fields ts ∧ ts[3]? = some fl ∧ Off G cx ex σ fz tb ∧ tb ≠ e
theorem XNo.is {e : Addr} {x : AX} {fl : Value} (X : XNo G cx ex σ fz h e x fl) (hf : fl = .none ∨ fl = rawInt cx.env.locals) : XIs G cx ex σ fz h e x := by
  obtain ⟨O, o, d, od, vs, kvs, h1, h2, h3, h4, h5, h6, h7, h8, tb, ot, ts, t1, t2, t3, t4, t5, t6⟩ := X
  exact ⟨O, o, d, od, vs, kvs, h1, h2, h3, h4, h5, h6, h7, h8, .inr ⟨tb, ot, ts, t1, t2, t3, hf.imp (fun q => by rw [q] at t4; exact t4) (fun q => by rw [q] at t4; exact t4), t5, t6⟩⟩

theorem mapFields_dict (o : Obj) (f) : (o.mapFields f).dict = o.dict := by
  obtain ⟨c, d, dt, sl⟩ := o
  cases dt <;> rfl
theorem rawInt_ne (L : Addr) : ((Value.none : Value) == rawInt L) = false := by rfl
end

section
variable {G : Gr} {cx : Cx} {ρ : AE} {σ : AH} {ex fz : Objs} {s : Shared} {A : Around} {EE : Value → Shared → Prop} {e : Addr} {x : AX}

/-- the entry is made and hung on the exception -/
theorem entry_made {QQ : Unit → Shared → Prop} {o : Obj} {vs : Array Value} {head : Value} {hn : Bool} (hA : A.frames = some cx.frames) (hc : cx.comp = false) (S : Sat G cx ex ρ σ fz s.heap) (O : Off G cx ex σ fz e) (ho : s.heap.get? e = some o) (hd : o.data = .fields vs) (hz : 6 ≤ vs.size)
    (k : ∀ h' tb ot ts, Sat G cx ex ρ σ fz h' → h'.get? e = some (o.mapFields (·.setIfInBounds 1 (.ref tb))) → h'.get? tb = some ot → ot.data = .fields ts → ts[3]? = some (rawInt cx.env.locals) → Off G cx ex σ fz tb → tb ≠ e → QQ () { s with heap := h' }) :
    wpAny (model G.prog G.w) A (do let a ← frameOf cx.env; let pl ← entryPlaceOf cx.env.locals hn; let b ← EntryCells.newEntry head a .none (rawInt cx.env.locals) .none pl; setField (.ref e) 1 b) QQ EE s := by
  have hfr : A.frames = some (cx.env :: cx.stk.map (·.1)) := by rw [hA]; unfold Cx.frames; rw [hc]; rfl
  refine wpAny_bind (wpAny_frameOf_fun hfr (S.funFrames hc) (S.ok.fr hc) fun h₁ hs => ?_)
  have hfm := frames_mem S.ok hc
  have hfe : cx.frames = cx.env :: cx.stk.map (·.1) := by unfold Cx.frames; rw [hc]; rfl
  rw [hfe] at hfm
  have S₁ := S.slots hs hfm
  have he₁ : h₁.get? e = some o := (hs.2.1 e (fun q => O.not_frame (hfm e q))).trans ho
  refine wpAny_bind (wpAny_entryPlaceOf fun pl hpl => ?_)
  have hpz : pl.length = 0 ∨ pl.length = 6 := by
    rcases hpl with q | ⟨_, _, _, _, _, _, _, q⟩ <;> simp [q]
  unfold EntryCells.newEntry newFields
  refine wpAny_bind (wpAny_newObj_type ?_ (by
    show Array.size _ ≤ _
    have : sizeLine = 16777216 := rfl
    split <;> simp <;> omega))
  have S₂ := S₁.push { cls := .type "traceback", data := .fields ([head, .ref cx.env.locals, .none, rawInt cx.env.locals, .none] ++ if pl.isEmpty = true then List.replicate 6 Value.none else pl).toArray }
  have he₂ : (h₁.push { cls := .type "traceback", data := .fields ([head, .ref cx.env.locals, .none, rawInt cx.env.locals, .none] ++ if pl.isEmpty = true then List.replicate 6 Value.none else pl).toArray }).get? e = some o := Heap.get?_push_of_some _ he₁
  refine wpAny_setField he₂ hd (by omega) ?_
  have hte : h₁.objs.size ≠ e := Nat.ne_of_gt (Heap.lt_size he₁)
  refine k _ h₁.objs.size _ _ (S₂.but (Heap.SameBut.update ..).extBut O) (Heap.get?_update_self _ he₂ (Obj.isFreed_of_fields (Obj.data_mapFields hd _))) ((Heap.get?_update_ne _ _ _ _ hte).trans (Heap.get?_push_size _ rfl)) rfl (by simp) (S₁.size_off (Nat.le_refl _)) hte

theorem note_frame {QQ : Unit → Shared → Prop} (hA : A.frames = some cx.frames) (hc : cx.comp = false) (S : Sat G cx ex ρ σ fz s.heap) (X : XIs G cx ex σ fz s.heap e x)
    (k : ∀ h', Sat G cx ex ρ σ fz h' → XNo G cx ex σ fz h' e x (rawInt cx.env.locals) → QQ () { s with heap := h' }) : wpAny (model G.prog G.w) A (noteFrame (.ref e) cx.env) QQ EE s := by
  obtain ⟨O, o, d, od, vs, kvs, h1, h2, h3, h4, h5, h6, h7, h8, ht⟩ := X
  unfold noteFrame
  rw [S.ok.fr hc]
  have fin : ∀ h', Sat G cx ex ρ σ fz h' → h'.get? e = some o → ∀ head : Value, ∀ hn : Bool, wpAny (model G.prog G.w) A (do let a ← frameOf cx.env; let pl ← entryPlaceOf cx.env.locals hn; let b ← EntryCells.newEntry head a .none (rawInt cx.env.locals) .none pl; setField (.ref e) 1 b) QQ EE { s with heap := h' } := fun h' S' he head hn =>
    entry_made hA hc S' O he h4 h5 fun h'' tb ot ts S'' a1 a2 a3 a4 a5 a6 => k h'' S'' ⟨O, _, d, od, _, kvs, a1, (Obj.cls_mapFields ..).trans h2, (mapFields_dict ..).trans h3, Obj.data_mapFields h4 _, by rw [Array.size_setIfInBounds]; exact h5, h6, h7, h8, tb, ot, ts, by rw [Array.getElem?_setIfInBounds_self, if_pos (by omega)], a2, a3, a4, a5, a6⟩
  rcases ht with ht | ⟨tb, ot, ts, t1, t2, t3, t4, t5, t6⟩
  · refine wpAny_bind (wpAny_field h1 h4 ht ?_)
    rw [if_neg (by decide)]
    exact fin s.heap S h1 .none _
  · refine wpAny_bind (wpAny_field h1 h4 t1 ?_)
    rw [if_pos (by rfl)]
    rcases t4 with t4 | t4
    · refine wpAny_bind (wpAny_field t2 t3 t4 ?_)
      rw [if_neg (by rw [rawInt_ne]; decide)]
      have hz : 3 < ts.size := (Array.getElem?_eq_some_iff.mp t4).1
      refine wpAny_bind (wpAny_setField t2 t3 hz ?_)
      exact fin _ (S.but (Heap.SameBut.update ..).extBut t5) ((Heap.get?_update_ne _ _ _ _ t6.symm).trans h1) (.ref tb) _
    · refine wpAny_bind (wpAny_field t2 t3 t4 ?_)
      rw [if_pos (by simp)]
      exact wpAny_pure (k s.heap S ⟨O, o, d, od, vs, kvs, h1, h2, h3, h4, h5, h6, h7, h8, tb, ot, ts, t1, t2, t3, t4, t5, t6⟩)

theorem set_flight {QQ : Unit → Shared → Prop} {fl : Value} (f : Option Addr) (S : Sat G cx ex ρ σ fz s.heap) (X : XNo G cx ex σ fz s.heap e x fl)
    (k : ∀ h', Sat G cx ex ρ σ fz h' → XNo G cx ex σ fz h' e x (f.elim .none fun f => rawInt f) → QQ () { s with heap := h' }) : wpAny (model G.prog G.w) A (setFlight (.ref e) f) QQ EE s := by
  obtain ⟨O, o, d, od, vs, kvs, h1, h2, h3, h4, h5, h6, h7, h8, tb, ot, ts, t1, t2, t3, t4, t5, t6⟩ := X
  unfold setFlight
  refine wpAny_bind (wpAny_field h1 h4 t1 ?_)
  rw [if_pos (by rfl)]
  have hz : 3 < ts.size := (Array.getElem?_eq_some_iff.mp t4).1
  refine wpAny_setField t2 t3 hz (k _ (S.but (Heap.SameBut.update ..).extBut t5) ⟨O, o, d, od, vs, kvs, (Heap.get?_update_ne _ _ _ _ t6.symm).trans h1, h2, h3, h4, h5, h6, h7, h8, tb, _, _, t1, Heap.get?_update_self _ t2 (Obj.isFreed_of_fields (Obj.data_mapFields t3 _)), Obj.data_mapFields t3 _, by simp [hz], t5, t6⟩)

/-- an exception leaves the function -/
theorem leaves {QQ : Unit → Shared → Prop} (hA : A.frames = some cx.frames) (hc : cx.comp = false) (S : Sat G cx ex ρ σ fz s.heap) (X : XIs G cx ex σ fz s.heap e x)
    (k : ∀ h', Sat G cx ex ρ σ fz h' → XNo G cx ex σ fz h' e x .none → QQ () { s with heap := h' }) : wpAny (model G.prog G.w) A (leaving cx.env (.ref e)) QQ EE s := by
  unfold leaving
  exact wpAny_bind (note_frame hA hc S X fun h' S' X' => set_flight none S' X' fun h'' S'' X'' => k h'' S'' X'')

/-- an exception comes through a loop of this frame -/
theorem notes_back {QQ : Value → Shared → Prop} (hA : A.frames = some cx.frames) (hc : cx.comp = false) (S : Sat G cx ex ρ σ fz s.heap) (X : XIs G cx ex σ fz s.heap e x)
    (k : ∀ h', Sat G cx ex ρ σ fz h' → XIs G cx ex σ fz h' e x → QQ (.ref e) { s with heap := h' }) : notedBy (model G.prog G.w) A cx.env (cameBackBy (model G.prog G.w) A cx.env QQ) (.ref e) s := by
  unfold notedBy
  refine note_frame hA hc S X fun h' S' X' => ?_
  unfold cameBackBy
  obtain ⟨O, o, d, od, vs, kvs, h1, h2, h3, h4, h5, h6, h7, h8, tb, ot, ts, t1, t2, t3, t4, t5, t6⟩ := id X'
  refine wpAny_bind (wpAny_field h1 h4 t1 ?_)
  rw [if_neg (by intro q; cases q)]
  show wpAny _ _ (setFlight (.ref e) cx.env.frame) _ _ _
  refine set_flight _ S' X' fun h'' S'' X'' => k h'' S'' (X''.is ?_)
  rw [S.ok.fr hc]
  exact .inr rfl
end
end Mine
namespace Mine
open PySem PySem.W PyProof.Rows PyProof.Rows.LCg PySem.Calls PySem.Spec

theorem bindL_off {kind : Str → Option NameKind} {x : Str} : ∀ (l : List (Str × Value)) (m : Str → Option Value), x ∉ l.map (·.1) → bindL kind l m x = m x
  | [], _, _ => rfl
  | (n, v) :: r, m, h => by
    rw [bindL, bindL_off r _ (fun q => h (List.mem_cons_of_mem _ q))]
    split
    · exact if_neg (fun q => h (by rw [q]; exact List.mem_cons_self))
    · rfl
theorem bindC_off {kind : Str → Option NameKind} {x : Str} : ∀ (l : List (Str × Value)) (m : Str → Option Value), x ∉ l.map (·.1) → bindC kind l m x = m x
  | [], _, _ => rfl
  | (n, v) :: r, m, h => by
    rw [bindC, bindC_off r _ (fun q => h (List.mem_cons_of_mem _ q))]
    split
    · rfl
    · exact if_neg (fun q => h (by rw [q]; exact List.mem_cons_self))
theorem bind_at {G : Gr} {fz : Objs} {kind : Str → Option NameKind} {x : Str} {v : AV} : ∀ (names : List Str) (args : List AV) (Vs : List Value) (m : Str → Option Value), names.Nodup → RelL G fz args Vs → (names.zip args).lookup x = some v →
    ∃ V, Rel G fz v V ∧ (kind x = some .local → bindL kind (names.zip Vs) m x = some V) ∧ (kind x = some .cell → bindC kind (names.zip Vs) m x = some V) := by
  intro names
  induction names with
  | nil => exact fun _ _ _ _ _ e => nomatch e
  | cons n r ih =>
    intro args Vs0 m hn rr e
    cases args with
    | nil => exact nomatch e
    | cons a as =>
    obtain ⟨V, Vs, rfl, hr, rr⟩ := rr.cons_inv
    rw [List.zip_cons_cons, List.lookup_cons] at e
    have hn' := List.nodup_cons.mp hn
    cases hx : (x == n) with
    | true =>
      rw [hx] at e
      have hx' : x = n := by simpa using hx
      subst hx'
      cases e
      refine ⟨V, hr, fun hk => ?_, fun hk => ?_⟩
      · rw [List.zip_cons_cons, bindL, bindL_off, if_pos hk, if_pos rfl]
        exact fun q => hn'.1 (by
          obtain ⟨p, hp, rfl⟩ := List.mem_map.mp q
          exact (List.of_mem_zip hp).1)
      · rw [List.zip_cons_cons, bindC, bindC_off, if_neg (by rw [hk]; decide), if_pos rfl]
        exact fun q => hn'.1 (by
          obtain ⟨p, hp, rfl⟩ := List.mem_map.mp q
          exact (List.of_mem_zip hp).1)
    | false =>
      rw [hx] at e
      obtain ⟨V', h1, h2, h3⟩ := ih as Vs (if kind n = some .local then fun y => if y = n then some V else m y else m) hn'.2 rr e
      obtain ⟨V'', g1, g2, g3⟩ := ih as Vs (if kind n = some .local then m else fun y => if y = n then some V else m y) hn'.2 rr e
      by_cases hk : kind x = some .local
      · exact ⟨V', h1, fun _ => by rw [List.zip_cons_cons, bindL]; exact h2 hk, fun q => by rw [hk] at q; cases q⟩
      · exact ⟨V'', g1, fun q => absurd q hk, fun q => by rw [List.zip_cons_cons, bindC]; exact g3 q⟩

/-- the caller's own cells as objects -/
theorem own_objs {G : Gr} {cx : Cx} {ex : Objs} {ρ : AE} {σ : AH} {fz : Objs} {h : Heap} (S : Sat G cx ex ρ σ fz h) : ∃ l : Objs, keys l = cx.own ∧ Has l h := by
  have hs := S.ownc
  revert hs
  generalize cx.own = l
  intro hs
  induction l with
  | nil => exact ⟨[], rfl, fun _ hp => nomatch hp⟩
  | cons c r ih =>
    obtain ⟨v, o, ho, _⟩ := hs c List.mem_cons_self
    obtain ⟨l, hk, hh⟩ := ih fun c hc => hs c (List.mem_cons_of_mem _ hc)
    exact ⟨(c, o) :: l, by simp [keys] at hk ⊢; exact hk, fun p hp => by
      rcases List.mem_cons.mp hp with rfl | hp
      · exact ho
      · exact hh p hp⟩

/-- what a called frame keeps of its caller -/
structure Inner (G : Gr) (cx cx' : Cx) (ex ex' : Objs) (σ : AH) (h : Heap) (m : Str → Option Value) (ol : Objs) (oC : Obj) : Prop where
  stk : cx'.stk = if cx.comp then cx.stk else (cx.env, m) :: cx.stk
  ex : ex' = ol ++ ((if cx.comp then [(cx.env.locals, oC)] else []) ++ ex)
  olk : keys ol = cx.own
  ns : h.Ns cx.env.locals m
  oC : h.get? cx.env.locals = some oC
  has : Has ol h

section
variable {G : Gr} {cx cx' : Cx} {ex ex' : Objs} {ρ ρ' : AE} {σ σ' : AH} {fz fz' : Objs} {h h' : Heap} {m : Str → Option Value} {ol : Objs} {oC : Obj}

theorem Inner.off (I : Inner G cx cx' ex ex' σ h m ol oC) {a : Addr} (O : Off G cx' ex' σ' fz' a) : Off G cx ex σ' fz' a := by
  have hx : a ∉ keys ol ∧ a ∉ keys (if cx.comp then [(cx.env.locals, oC)] else []) ∧ a ∉ keys ex := by
    have := O.x
    rw [I.ex] at this
    unfold keys at this ⊢
    simp only [List.map_append, List.mem_append, not_or] at this
    exact this
  refine ⟨fun q => ?_, O.f, hx.2.2, O.b⟩
  unfold Cx.mut at q
  simp only [List.mem_cons, List.mem_append] at q
  have hm := O.m
  unfold Cx.mut at hm
  rw [I.stk] at hm
  simp only [List.mem_cons, List.mem_append, not_or] at hm
  rcases q with q | (q | q) | q
  · cases hc : cx.comp with
    | true =>
      have := hx.2.1
      rw [hc] at this
      exact this (by simp [keys, q])
    | false =>
      have := hm.2.1.1
      rw [hc] at this
      exact this (by simp [q])
  · have := hm.2.1.1
    cases hc : cx.comp with
    | true => rw [hc] at this; exact this (by simpa using q)
    | false => rw [hc] at this; exact this (by simp only [Bool.false_eq_true, if_false, List.map_cons]; exact List.mem_cons_of_mem _ q)
  · exact hx.1 (I.olk ▸ q)
  · exact hm.2.2 q

theorem Inner.back (I : Inner G cx cx' ex ex' σ h m ol oC) (S : Sat G cx ex ρ σ fz h) (S' : Sat G cx' ex' ρ' σ' fz' h') (k : ∀ p ∈ fz, p ∈ fz') (hv : ∀ x v, ρ x = some v → VarOk G cx fz m h x v) : Sat G cx ex ρ σ' fz' h' := by
  have hex : ∀ p, p ∈ ol ∨ p ∈ (if cx.comp then [(cx.env.locals, oC)] else []) ∨ p ∈ ex → p ∈ ex' := fun p hp => by
    rw [I.ex]; simp only [List.mem_append]; exact hp
  have hol : Has ol h' := fun p hp => S'.exh p (hex p (.inl hp))
  have kcell : ∀ c ∈ cx.own, ∀ v, h.IsCell c v → h'.IsCell c v := fun c hc v ⟨o, ho, hd⟩ => by
    rw [← I.olk] at hc
    obtain ⟨p, hp, rfl⟩ := List.mem_map.mp hc
    have := I.has p hp
    rw [ho] at this
    cases this
    exact ⟨_, hol p hp, hd⟩
  have nsL : h'.Ns cx.env.locals m := by
    cases hc : cx.comp with
    | true =>
      obtain ⟨o, es, ep, ho, r⟩ := I.ns
      rw [I.oC] at ho
      cases ho
      exact ⟨_, es, ep, S'.exh _ (hex (cx.env.locals, oC) (.inr (.inl (by rw [hc]; simp)))), r⟩
    | false =>
      exact S'.stk (cx.env, m) (by rw [I.stk, hc]; simp)
  have stkm : ∀ p ∈ cx.stk, p ∈ cx'.stk := fun p hp => by
    rw [I.stk]
    cases cx.comp with
    | true => exact hp
    | false => exact List.mem_cons_of_mem _ hp
  have m1 : ∀ a ∈ cx.stk.map (·.1.locals), a ∈ cx'.mut σ' := fun a ha => by
    obtain ⟨p, hp, rfl⟩ := List.mem_map.mp ha
    unfold Cx.mut
    simp only [List.mem_cons, List.mem_append, List.mem_map]
    exact .inr (.inl (.inl ⟨p, stkm p hp, rfl⟩))
  have m2 : ∀ a ∈ σ'.map (·.1), a ∈ cx'.mut σ' := fun a ha => by
    unfold Cx.mut
    simp only [List.mem_cons, List.mem_append]
    exact .inr (.inr ha)
  have x1 : ∀ a ∈ cx.own, a ∈ keys ex' := fun a ha => by
    rw [← I.olk] at ha
    obtain ⟨p, hp, rfl⟩ := List.mem_map.mp ha
    exact List.mem_map_of_mem (hex p (.inl hp))
  have L : cx.env.locals ∈ cx'.mut σ' ∧ cx.comp = false ∨ cx.env.locals ∈ keys ex' ∧ cx.comp = true := by
    cases hc : cx.comp with
    | true => exact .inr ⟨List.mem_map_of_mem (f := (·.1)) (hex (cx.env.locals, oC) (.inr (.inl (by rw [hc]; simp)))), rfl⟩
    | false =>
      refine .inl ⟨?_, rfl⟩
      unfold Cx.mut
      rw [I.stk, hc]
      simp
  have all : ∀ a ∈ cx.mut σ', a ∈ cx'.mut σ' ∨ a ∈ keys ex' := fun a ha => by
    unfold Cx.mut at ha
    simp only [List.mem_cons, List.mem_append] at ha
    rcases ha with rfl | (ha | ha) | ha
    · exact L.imp (·.1) (·.1)
    · exact .inl (m1 a ha)
    · exact .inr (x1 a ha)
    · exact .inl (m2 a ha)
  have nd := S.nod
  unfold Cx.mut at nd
  have nd' := S'.nod
  unfold Cx.mut at nd'
  rw [List.nodup_cons, List.nodup_append] at nd nd'
  refine ⟨S.ok, S.clx, S'.base, fun p hp => S'.stk p (stkm p hp), fun c hc => ?_, S'.fzh, fun p hp => S'.exh p (hex p (.inr (.inr hp))), S'.live, ⟨m, nsL, fun x v e => ((hv x v e).mono k).keep kcell⟩, ?_, fun a ha => ?_, fun a ha => ?_, fun a ha => ?_, fun a ha => S'.xf a ?_⟩
  · obtain ⟨v, hv⟩ := S.ownc c hc
    exact ⟨v, kcell c hc v hv⟩
  · unfold Cx.mut
    rw [List.nodup_cons, List.nodup_append]
    refine ⟨fun q => ?_, nd.2.1, nd'.2.2.1, fun a ha b hb q => ?_⟩
    · rcases List.mem_append.mp q with q | q
      · exact nd.1 (List.mem_append_left _ q)
      · rcases L with ⟨_, hc⟩ | ⟨L, _⟩
        · have : cx.env.locals ∈ cx'.stk.map (·.1.locals) := by rw [I.stk, hc]; simp
          exact nd'.2.2.2 _ (List.mem_append_left _ this) _ q rfl
        · exact S'.apx _ (m2 _ q) L
    · subst q
      rcases List.mem_append.mp ha with ha | ha
      · have : a ∈ cx'.stk.map (·.1.locals) := by
          obtain ⟨p, hp, rfl⟩ := List.mem_map.mp ha
          exact List.mem_map.mpr ⟨p, stkm p hp, rfl⟩
        exact nd'.2.2.2 _ (List.mem_append_left _ this) _ hb rfl
      · exact S'.apx _ (m2 _ hb) (x1 _ ha)
  · unfold Cx.mut at ha
    simp only [List.mem_cons, List.mem_append] at ha
    rcases ha with rfl | (ha | ha) | ha
    · exact S.new _ (by unfold Cx.mut; simp)
    · exact S'.new _ (m1 _ ha)
    · exact S.new _ (by unfold Cx.mut; simp [ha])
    · exact S'.new _ (m2 _ ha)
  · rcases all a ha with q | q
    · exact S'.apf a q
    · exact S'.xf a q
  · unfold Cx.mut at ha
    simp only [List.mem_cons, List.mem_append] at ha
    rcases ha with rfl | (ha | ha) | ha
    · exact S.apx _ (by unfold Cx.mut; simp)
    · exact S.apx _ (by unfold Cx.mut; simp only [List.mem_cons, List.mem_append]; exact .inr (.inl (.inl ha)))
    · exact S.apx _ (by unfold Cx.mut; simp [ha])
    · exact fun q => S'.apx _ (m2 _ ha) (by
        obtain ⟨p, hp, rfl⟩ := List.mem_map.mp q
        exact List.mem_map_of_mem (hex p (.inr (.inr hp))))
  · obtain ⟨p, hp, rfl⟩ := List.mem_map.mp ha
    exact List.mem_map_of_mem (hex p (.inr (.inr hp)))
end

theorem cells_above : ∀ (names : List (Str × NameKind)) (n : Nat) (acc : List (Str × Addr)) (x : Str) (c : Addr), (x, c) ∈ cellsFrom n names acc → (x, c) ∈ acc ∨ n ≤ c
  | [], _, _, _, _, h => .inl h
  | (y, k) :: r, n, acc, x, c, h => by
    unfold cellsFrom at h
    split at h
    · rcases cells_above r (n + 1) _ x c h with q | q
      · rcases List.mem_cons.mp q with q | q
        · injection q with _ q2
          exact .inr (Nat.le_of_eq q2.symm)
        · exact .inl q
      · exact .inr (Nat.le_of_succ_le q)
    · exact cells_above r n acc x c h

theorem lookup_mem {β : Type} {x : Str} {c : β} : ∀ {l : List (Str × β)}, l.lookup x = some c → (x, c) ∈ l
  | [], h => nomatch h
  | (y, d) :: r, h => by
    rw [List.lookup_cons] at h
    cases q : (x == y) with
    | true => rw [q] at h; cases h; rw [show x = y by simpa using q]; exact List.mem_cons_self
    | false => rw [q] at h; exact List.mem_cons_of_mem _ (lookup_mem h)

theorem pair_inj {l : List (Str × Addr)} (hp : l.Pairwise fun x y => x.2 ≠ y.2) {x y : Str} {c : Addr} (h1 : (x, c) ∈ l) (h2 : (y, c) ∈ l) : x = y := by
  induction l with
  | nil => cases h1
  | cons p r ih =>
    rw [List.pairwise_cons] at hp
    rcases List.mem_cons.mp h1 with q1 | q1 <;> rcases List.mem_cons.mp h2 with q2 | q2
    · rw [← q1] at q2; injection q2 with q2 _; exact q2.symm
    · exact absurd (by rw [← q1]) (hp.1 _ q2)
    · exact absurd (by rw [← q2]) (hp.1 _ q1)
    · exact ih hp.2 q1 q2

section
variable {G : Gr} {cx : Cx} {ρ : AE} {σ : AH} {Q : AV → AE → AH → Prop} {EQ : AX → AE → AH → Prop}

theorem kindOf_eq (env : Env) (x : Str) : env.kindOf x = env.scope.names.lookup x := rfl

/-- of a call, as code -/
noncomputable def JVC (G : Gr) (cx : Cx) (ρ : AE) (σ : AH) (args : List AV) (f : Addr) (Q : AV → AE → AH → Prop) (EQ : AX → AE → AH → Prop) : Prop :=
  ∀ ex fz (s : Shared) Vs, GOk G → Sat G cx ex ρ σ fz s.heap → RelL G fz args Vs → ∀ QQ EE, Ret Rel G cx ex fz s Q QQ → Exn G cx ex fz s EQ EE →
    codeAny (model G.prog G.w) cx.A (.call (.ref f) ⟨Vs, []⟩) (fun r s' => match r with | .ok (.ret v) => QQ v s' | .ok _ => False | .error e => EE e s') s
theorem JVC.jv {args : List AV} {f : Addr} (h : JVC G cx ρ σ args f Q EQ) : JV Rel G cx ρ σ args (fun Vs => call (.ref f) Vs) Q EQ := fun ex fz s Vs g S r QQ EE hQ hE => wpAny_call (h ex fz s Vs g S r QQ EE hQ hE)

end
end Mine
namespace Mine
open PySem PySem.W PyProof.Rows PyProof.Rows.LCg PySem.Calls PySem.Spec

section
variable {G : Gr} {cx : Cx} {ρ ρ' : AE} {σ : AH} {ex fz : Objs} {h h' : Heap}

theorem Sat.set_own (S : Sat G cx ex ρ σ fz h) {a : Addr} (ha : a ∈ cx.env.locals :: cx.own) (k : Heap.ExtBut a h h')
    (hn : ∃ m', h'.Ns cx.env.locals m' ∧ ∀ x v, ρ' x = some v → VarOk G cx fz m' h' x v) (hown : ∀ c ∈ cx.own, ∃ v, h'.IsCell c v) : Sat G cx ex ρ' σ fz h' := by
  have ham : a ∈ cx.mut σ := by
    unfold Cx.mut
    rcases List.mem_cons.mp ha with q | q
    · rw [q]; exact List.mem_cons_self
    · exact List.mem_cons_of_mem _ (List.mem_append_left _ (List.mem_append_right _ q))
  have nd := S.nod
  unfold Cx.mut at nd
  rw [List.nodup_cons, List.nodup_append, List.nodup_append] at nd
  have nstk : ∀ p ∈ cx.stk, p.1.locals ≠ a := fun p hp q => by
    have hm : p.1.locals ∈ cx.stk.map (·.1.locals) := List.mem_map.mpr ⟨p, hp, rfl⟩
    rcases List.mem_cons.mp ha with e | e
    · exact nd.1 (List.mem_append_left _ (List.mem_append_left _ (by rw [← e, ← q]; exact hm)))
    · exact nd.2.1.2.2 _ hm a e q
  have nσ : ∀ p ∈ σ, p.1 ≠ a := fun p hp q => by
    have hm : p.1 ∈ σ.map (·.1) := List.mem_map_of_mem hp
    rcases List.mem_cons.mp ha with e | e
    · exact nd.1 (List.mem_append_right _ (by rw [← e, ← q]; exact hm))
    · exact nd.2.2.2 a (List.mem_append_right _ e) _ hm q.symm
  refine ⟨S.ok, S.clx, fun b o e => k b o (fun q => by rw [q, (S.new a ham).1] at e; cases e) (S.base b o e), fun p hp => ?_, hown,
    fun p hp => k _ _ (fun q => S.apf a ham (q ▸ List.mem_map_of_mem hp)) (S.fzh p hp), fun p hp => k _ _ (fun q => S.apx a ham (q ▸ List.mem_map_of_mem hp)) (S.exh p hp),
    fun p hp => ?_, hn, S.nod, S.new, S.apf, S.apx, S.xf⟩
  · obtain ⟨o, es, ep, ho, r⟩ := S.stk p hp
    exact ⟨o, es, ep, k _ o (nstk p hp) ho, r⟩
  · obtain ⟨o, ho, r⟩ := S.live p hp
    exact ⟨o, k _ o (nσ p hp) ho, r⟩

/-- a name that this frame may store into -/
noncomputable def Own (cx : Cx) (x : Str) : Prop := cx.env.kindOf x = some .local ∨ (cx.env.kindOf x = some .cell ∧ ∀ c, cx.env.cells.lookup x = some c → c ∈ cx.own)

/-- the kinds of a frame's names -/
structure KN (cx : Cx) (names : List (Str × NameKind)) : Prop where
  kd : ∀ x k, names.lookup x = some k → k ≠ .free → cx.env.kindOf x = some k
  fr : ∀ x, names.lookup x = some .free → cx.env.kindOf x = some .free ∨ cx.env.kindOf x = some .cell
  own : ∀ x, names.lookup x = some .cell → ∀ c, cx.env.cells.lookup x = some c → c ∈ cx.own
theorem KN.mine {names} (K : KN cx names) {x : Str} (h : (names.lookup x == some .local || names.lookup x == some .cell) = true) : Own cx x := by
  rw [Bool.or_eq_true] at h
  rcases h with h | h
  · exact .inl (K.kd x _ (by simpa using h) (by decide))
  · have h' : names.lookup x = some .cell := by simpa using h
    exact .inr ⟨K.kd x _ h' (by decide), K.own x h'⟩
theorem KN.glob {names} (K : KN cx names) {x : Str} (h : names.lookup x = some .globalImplicit) : cx.env.kindOf x = some .globalImplicit := K.kd x _ h (by decide)

theorem Sat.own_ne (S : Sat G cx ex ρ σ fz h) {c : Addr} (hc : c ∈ cx.own) : c ≠ cx.env.locals := fun q => by
  have nd := S.nod
  unfold Cx.mut at nd
  exact (List.nodup_cons.mp nd).1 (List.mem_append_left _ (List.mem_append_right _ (q ▸ hc)))
end

section
variable {G : Gr} {cx : Cx} {ρ : AE} {σ : AH} {ex fz : Objs} {s : Shared} {A : Around} {E : Value → Shared → Prop}

theorem store_var {x : Str} {v : AV} {V : Value} {Q : Unit → Shared → Prop} (S : Sat G cx ex ρ σ fz s.heap) (r : Rel G fz v V) (hx : Own cx x)
    (h : ∀ h' tk', Sat G cx ex (upd ρ x v) σ fz h' → Q () { s with heap := h', toks := tk' }) : wpAny (model G.prog G.w) A (storeName cx.env x V) Q E s := by
  obtain ⟨m, hn, hv⟩ := S.loc
  rcases hx with hk | ⟨hk, hc⟩
  · refine wpAny_storeName_local hk hn (fun h' hn' hs' => h h' _ ?_) (by rw [S.ok.kf]; rfl)
    refine S.set_own (a := cx.env.locals) List.mem_cons_self hs'.extBut ⟨_, hn', fun y u e => ?_⟩ fun c hc => ?_
    · unfold upd at e
      by_cases hy : y = x
      · subst hy
        rw [if_pos rfl] at e
        cases e
        exact .inl ⟨hk, V, if_pos rfl, r⟩
      · rw [if_neg hy] at e
        rcases hv y u e with ⟨k1, V', hV, r'⟩ | ⟨k1, c, V', hc, ho, hi, r'⟩ | q
        · exact .inl ⟨k1, V', (if_neg hy).trans hV, r'⟩
        · obtain ⟨o, ho', hd⟩ := hi
          exact .inr (.inl ⟨k1, c, V', hc, ho, ⟨o, hs'.extBut _ _ (S.own_ne ho) ho', hd⟩, r'⟩)
        · exact .inr (.inr q)
    · obtain ⟨v, o, ho, hd⟩ := S.ownc c hc
      exact ⟨v, o, hs'.extBut _ _ (S.own_ne hc) ho, hd⟩
  · obtain ⟨c, hcl⟩ := S.ok.cs x (.inl hk)
    have hco := hc c hcl
    obtain ⟨v₀, hi₀⟩ := S.ownc c hco
    refine wpAny_storeName_cell S.ok.kf hk hcl hi₀ fun h' hi' hs' => h h' s.toks ?_
    refine S.set_own (a := c) (List.mem_cons_of_mem _ hco) hs'.extBut ⟨m, ?_, fun y u e => ?_⟩ fun c' hc' => ?_
    · obtain ⟨o, es, ep, ho, rr⟩ := hn
      exact ⟨o, es, ep, hs'.extBut _ _ (S.own_ne hco).symm ho, rr⟩
    · unfold upd at e
      by_cases hy : y = x
      · subst hy
        rw [if_pos rfl] at e
        cases e
        exact .inr (.inl ⟨hk, c, V, hcl, hco, hi', r⟩)
      · rw [if_neg hy] at e
        rcases hv y u e with q | ⟨k1, c', V', hc', ho, hi, r'⟩ | q
        · exact .inl q
        · obtain ⟨o, ho', hd⟩ := hi
          exact .inr (.inl ⟨k1, c', V', hc', ho, ⟨o, hs'.extBut _ _ (fun q => hy (S.ok.ci y x c hco (q ▸ hc') hcl)) ho', hd⟩, r'⟩)
        · exact .inr (.inr q)
    · by_cases q : c' = c
      · subst q; exact ⟨_, hi'⟩
      · obtain ⟨v, o, ho, hd⟩ := S.ownc c' hc'
        exact ⟨v, o, hs'.extBut _ _ q ho, hd⟩

/-! targets -/
inductive TB (cx : Cx) : Expr → AV → AE → AE → Prop
  | name {x pos v ρ} : Own cx x → TB cx (.Name x pos) v ρ (upd ρ x v)
  | two {x y px py k pos a b ρ} : Own cx x → Own cx y → TB cx (.Tuple [.Name x px, .Name y py] k pos) (.tup [a, b]) ρ (upd (upd ρ x a) y b)
  | three {x y z px py pz k pos a b c ρ} : Own cx x → Own cx y → Own cx z → TB cx (.Tuple [.Name x px, .Name y py, .Name z pz] k pos) (.tup [a, b, c]) ρ (upd (upd (upd ρ x a) y b) z c)
  | four {x y z u px py pz pu k pos a b c d ρ} : Own cx x → Own cx y → Own cx z → Own cx u → TB cx (.Tuple [.Name x px, .Name y py, .Name z pz, .Name u pu] k pos) (.tup [a, b, c, d]) ρ (upd (upd (upd (upd ρ x a) y b) z c) u d)

theorem RelL.three_inv {a b c Vs} (h : RelL G fz [a, b, c] Vs) : ∃ V U W, Vs = [V, U, W] ∧ Rel G fz a V ∧ Rel G fz b U ∧ Rel G fz c W := by
  cases h with
  | cons h r =>
    obtain ⟨U, W, rfl, hu, hw⟩ := r.two_inv
    exact ⟨_, _, _, rfl, h, hu, hw⟩
theorem RelL.four_inv {a b c d Vs} (h : RelL G fz [a, b, c, d] Vs) : ∃ V U W X, Vs = [V, U, W, X] ∧ Rel G fz a V ∧ Rel G fz b U ∧ Rel G fz c W ∧ Rel G fz d X := by
  cases h with
  | cons h r =>
    obtain ⟨U, W, X, rfl, hu, hw, hx⟩ := r.three_inv
    exact ⟨_, _, _, _, rfl, h, hu, hw, hx⟩

theorem Rel.tup_inv {l V} (r : Rel G fz (.tup l) V) : ∃ (a : Addr) (o : Obj) (vs : Array Value) (n : Nat), V = .ref a ∧ (a, o) ∈ fz ∧ o.cls = .type "tuple" ∧ o.data = .seq vs n ∧ RelL G fz l vs.toList := by
  cases r with
  | tup h1 h2 h3 h4 => exact ⟨_, _, _, _, rfl, h1, h2, h3, h4⟩
theorem Rel.lst_inv {l V} (r : Rel G fz (.lst l) V) : ∃ (a : Addr) (o : Obj) (vs : Array Value) (n : Nat), V = .ref a ∧ (a, o) ∈ fz ∧ o.cls = .type "list" ∧ o.data = .seq vs n ∧ RelL G fz l vs.toList := by
  cases r with
  | lst h1 h2 h3 h4 => exact ⟨_, _, _, _, rfl, h1, h2, h3, h4⟩
theorem Rel.dct_inv {l V} (r : Rel G fz (.dct l) V) : ∃ (a : Addr) (o : Obj) (kvs : List (Str × Value)), V = .ref a ∧ (a, o) ∈ fz ∧ (a == sysModules) = false ∧ o.IsDictOf (strKind G.prog G.w) kvs ∧ RelE G fz l kvs := by
  cases r with
  | dct h1 h2 h3 h4 => exact ⟨_, _, _, rfl, h1, h2, h3, h4⟩
theorem Rel.int_inv {i V} (r : Rel G fz (.int i) V) : ∃ t, V = .int i t := by cases r; exact ⟨_, rfl⟩
theorem Rel.str_inv {i V} (r : Rel G fz (.str i) V) : ∃ t, V = .str i t := by cases r; exact ⟨_, rfl⟩
theorem Rel.bool_inv {i V} (r : Rel G fz (.bool i) V) : V = .bool i := by cases r; rfl
theorem Rel.val_inv {i V} (r : Rel G fz (.val i) V) : V = i := by cases r; rfl
theorem Rel.ref_inv {i V} (r : Rel G fz (.ref i) V) : V = .ref i := by cases r; rfl
theorem Rel.none_inv {V} (r : Rel G fz .none V) : V = .none := by cases r; rfl
theorem Rel.rng_inv {lo hi V} (r : Rel G fz (.rng lo hi) V) : ∃ (a : Addr) (t u v : Tok), V = .ref a ∧ (a, ({ cls := .type "range", data := .fields #[.int lo t, .int hi u, .int 1 v] } : Obj)) ∈ fz := by
  cases r with
  | rng h1 => exact ⟨_, _, _, _, rfl, h1⟩

theorem assign_T {t : Expr} {v : AV} {V : Value} {ρ' : AE} {Q : Unit → Shared → Prop} (T : TB cx t v ρ ρ') (S : Sat G cx ex ρ σ fz s.heap) (hd : A.handled = none ∨ ∃ x p, t = .Name x p) (r : Rel G fz v V)
    (h : ∀ h' tk', Sat G cx ex ρ' σ fz h' → Q () { s with heap := h', toks := tk' }) : wpAny (model G.prog G.w) A (assign t cx.env V) Q E s := by
  cases T with
  | name hx => exact wpAny_assign_Name (store_var S r hx h)
  | two hx hy =>
    have hd' : A.handled = none := hd.resolve_right (fun ⟨_, _, q⟩ => nomatch q)
    obtain ⟨a, o, vs, n, rfl, hm, hc, hdt, hl⟩ := r.tup_inv
    obtain ⟨V1, V2, e, r1, r2⟩ := hl.two_inv
    have ev : vs = #[V1, V2] := by rw [← Array.toArray_toList (xs := vs), e]
    subst ev
    refine wpAny_assign_Tuple hd' ⟨o, S.fzh _ hm, hc, n, hdt⟩ rfl rfl fun h₁ k₁ => ?_
    have S₁ := S.but k₁ (S.size_off (Nat.le_refl _))
    refine wpAny_assignInOrder_more (wpAny_assign_Name (store_var S₁ r1 hx fun h₂ t₂ S₂ => ?_))
    refine wpAny_assignInOrder_more (wpAny_assign_Name (store_var S₂ r2 hy fun h₃ t₃ S₃ => ?_))
    exact wpAny_assignInOrder_none (h h₃ t₃ S₃)
  | three hx hy hz =>
    have hd' : A.handled = none := hd.resolve_right (fun ⟨_, _, q⟩ => nomatch q)
    obtain ⟨a, o, vs, n, rfl, hm, hc, hdt, hl⟩ := r.tup_inv
    obtain ⟨V1, V2, V3, e, r1, r2, r3⟩ := hl.three_inv
    have ev : vs = #[V1, V2, V3] := by rw [← Array.toArray_toList (xs := vs), e]
    subst ev
    refine wpAny_assign_Tuple hd' ⟨o, S.fzh _ hm, hc, n, hdt⟩ rfl rfl fun h₁ k₁ => ?_
    have S₁ := S.but k₁ (S.size_off (Nat.le_refl _))
    refine wpAny_assignInOrder_more (wpAny_assign_Name (store_var S₁ r1 hx fun h₂ t₂ S₂ => ?_))
    refine wpAny_assignInOrder_more (wpAny_assign_Name (store_var S₂ r2 hy fun h₃ t₃ S₃ => ?_))
    refine wpAny_assignInOrder_more (wpAny_assign_Name (store_var S₃ r3 hz fun h₄ t₄ S₄ => ?_))
    exact wpAny_assignInOrder_none (h h₄ t₄ S₄)
  | four hx hy hz hu =>
    have hd' : A.handled = none := hd.resolve_right (fun ⟨_, _, q⟩ => nomatch q)
    obtain ⟨a, o, vs, n, rfl, hm, hc, hdt, hl⟩ := r.tup_inv
    obtain ⟨V1, V2, V3, V4, e, r1, r2, r3, r4⟩ := hl.four_inv
    have ev : vs = #[V1, V2, V3, V4] := by rw [← Array.toArray_toList (xs := vs), e]
    subst ev
    refine wpAny_assign_Tuple hd' ⟨o, S.fzh _ hm, hc, n, hdt⟩ rfl rfl fun h₁ k₁ => ?_
    have S₁ := S.but k₁ (S.size_off (Nat.le_refl _))
    refine wpAny_assignInOrder_more (wpAny_assign_Name (store_var S₁ r1 hx fun h₂ t₂ S₂ => ?_))
    refine wpAny_assignInOrder_more (wpAny_assign_Name (store_var S₂ r2 hy fun h₃ t₃ S₃ => ?_))
    refine wpAny_assignInOrder_more (wpAny_assign_Name (store_var S₃ r3 hz fun h₄ t₄ S₄ => ?_))
    refine wpAny_assignInOrder_more (wpAny_assign_Name (store_var S₄ r4 hu fun h₅ t₅ S₅ => ?_))
    exact wpAny_assignInOrder_none (h h₅ t₅ S₅)
end

section
variable {G : Gr} {cx : Cx} {ρ : AE} {σ : AH} {EQ : AX → AE → AH → Prop}

/-! suites -/
theorem xs_nil {Q : AF → AE → AH → Prop} (q : Q .next ρ σ) : Xs G cx ρ σ [] Q EQ := fun _ _ _ _ _ S _ _ _ hQ _ => wpAny_execs_nil (give hQ S .next q)
theorem xs_cons {st : Stmt} {rest : List Stmt} {Q : AF → AE → AH → Prop} (h : X1 G cx ρ σ st (fun fl ρ' σ' => match fl with | .next => Xs G cx ρ' σ' rest Q EQ | .ret v => Q (.ret v) ρ' σ') EQ) : Xs G cx ρ σ (st :: rest) Q EQ :=
  fun _ _ _ _ g S _ _ _ hQ hE => wpAny_execs_cons (h.run g S .nil (fun _ _ _ _ _ _ _ k₁ S₁ r₁ q₁ => by
    cases r₁ with
    | next => exact q₁.run g S₁ .nil (hQ.on k₁) (hE.on k₁)
    | ret r => exact hQ (.ret _) _ _ _ _ _ _ k₁ S₁ (.ret r) q₁) hE)
theorem x_ret {e : Expr} {pos} {Q : AF → AE → AH → Prop} (h : Ev G cx ρ σ e (fun v ρ' σ' => Q (.ret v) ρ' σ') EQ) : X1 G cx ρ σ (.Return (some e) pos) Q EQ :=
  fun _ _ _ _ g S _ _ _ hQ hE => wpAny_Return_some (h.run g S .nil (fun _ _ _ _ _ _ _ k₁ S₁ r₁ q₁ => hQ _ _ _ _ _ _ _ k₁ S₁ (.ret r₁) q₁) hE)
theorem x_if {test : Expr} {body orelse pos} {Q : AF → AE → AH → Prop} (h : Ts G cx ρ σ test (fun b ρ' σ' => if b = true then Xs G cx ρ' σ' body Q EQ else Xs G cx ρ' σ' orelse Q EQ) EQ) : X1 G cx ρ σ (.If test body orelse pos) Q EQ :=
  fun _ _ _ _ g S _ _ _ hQ hE => wpAny_If (h.run g S .nil (fun b a _ _ _ _ _ k₁ S₁ r₁ q₁ => by
    cases r₁
    cases b with
    | true =>
      simp only [if_true] at q₁ ⊢
      exact JV.run q₁ g S₁ .nil (hQ.on k₁) (hE.on k₁)
    | false =>
      simp only [Bool.false_eq_true, if_false] at q₁ ⊢
      exact JV.run q₁ g S₁ .nil (hQ.on k₁) (hE.on k₁)) hE)
theorem x_assign {x : Str} {px pos : Pos} {e : Expr} {Q : AF → AE → AH → Prop} (h : Ev G cx ρ σ e (fun v ρ' σ' => Q .next (upd ρ' x v) σ') EQ) (hx : Own cx x) (hw : swapsWith e (some (.Name x px)) pos.line cx.env = pure false := by rfl) :
    X1 G cx ρ σ (.Assign [.Name x px] e pos) Q EQ :=
  fun _ _ _ _ g S _ _ _ hQ hE => wpAny_Assign_Name (h.run g S .nil (fun _ _ _ _ _ _ _ k₁ S₁ r₁ q₁ => store_var S₁ r₁ hx fun h' tk' S' => hQ .next .next _ _ _ _ _ k₁ S' .next q₁) hE) hw
theorem x_unpack {t : Expr} {pos : Pos} {e : Expr} {Q : AF → AE → AH → Prop} (hd : cx.hd = none) (h : Ev G cx ρ σ e (fun v ρ' σ' => ∃ ρ'', TB cx t v ρ' ρ'' ∧ Q .next ρ'' σ') EQ) (hw : swapsWithSole [t] e pos.line cx.env = pure false := by rfl) (hs : swappedStores [t] e cx.env = pure none := by rfl) :
    X1 G cx ρ σ (.Assign [t] e pos) Q EQ :=
  fun _ _ _ _ g S _ _ _ hQ hE => wpAny_Assign_stores (h.run g S .nil (fun _ _ _ _ _ _ _ k₁ S₁ r₁ q₁ => by
    obtain ⟨ρ'', T, q₁⟩ := q₁
    cases T with
    | name hx => exact assign_T (.name hx) S₁ (.inl (S₁.ok.hd.trans hd)) r₁ fun h' tk' S' => hQ .next .next _ _ _ _ _ k₁ S' .next q₁
    | two a b => exact assign_T (.two a b) S₁ (.inl (S₁.ok.hd.trans hd)) r₁ fun h' tk' S' => hQ .next .next _ _ _ _ _ k₁ S' .next q₁
    | three a b c => exact assign_T (.three a b c) S₁ (.inl (S₁.ok.hd.trans hd)) r₁ fun h' tk' S' => hQ .next .next _ _ _ _ _ k₁ S' .next q₁
    | four a b c d => exact assign_T (.four a b c d) S₁ (.inl (S₁.ok.hd.trans hd)) r₁ fun h' tk' S' => hQ .next .next _ _ _ _ _ k₁ S' .next q₁) hE) hw hs

/-- the store under a key -/
noncomputable def storeItem : List Value → Sem Unit
  | [v, o, i] => setItem o i v
  | _ => .unsupported ""
theorem x_setitem {o i : Expr} {pp pos : Pos} {e : Expr} {Q : AF → AE → AH → Prop}
    (h : Ev G cx ρ σ e (fun v ρ₁ σ₁ => Ev G cx ρ₁ σ₁ o (fun ov ρ₂ σ₂ => Ev G cx ρ₂ σ₂ i (fun iv ρ₃ σ₃ => JV RU G cx ρ₃ σ₃ [v, ov, iv] storeItem (fun _ ρ₄ σ₄ => Q .next ρ₄ σ₄) EQ) EQ) EQ) EQ)
    (hw : swapsWith e (some (.Subscript o i pp)) pos.line cx.env = pure false := by rfl) : X1 G cx ρ σ (.Assign [.Subscript o i pp] e pos) Q EQ :=
  fun _ _ _ _ g S _ _ _ hQ hE => wpAny_Assign_Subscript (h.run g S .nil (fun _ _ _ _ _ _ _ k₁ S₁ r₁ q₁ => q₁.run g S₁ .nil (fun _ _ _ _ _ _ _ k₂ S₂ r₂ q₂ => q₂.run g S₂ .nil (fun _ _ _ _ _ _ _ k₃ S₃ r₃ q₃ =>
    q₃.run g S₃ (.cons ((r₁.mono k₂).mono k₃) (.cons (r₂.mono k₃) (.cons r₃ .nil))) (fun _ _ _ _ _ _ _ k₄ S₄ _ q₄ => ((hQ.on k₁).on k₂).on k₃ .next .next _ _ _ _ _ k₄ S₄ .next q₄) (((hE.on k₁).on k₂).on k₃)) ((hE.on k₁).on k₂)) (hE.on k₁)) hE) hw
theorem x_expr {e : Expr} {pos : Pos} {Q : AF → AE → AH → Prop} (h : Ev G cx ρ σ e (fun v ρ' σ' => v = .none ∧ Q .next ρ' σ') EQ) (hi : ∀ env : Env, env.scope.kind = .function → interactive env = false := by intro env h; simp [interactive, h]) (hw : swapsWith e none pos.line cx.env = pure false := by rfl) : X1 G cx ρ σ (.Expr e pos) Q EQ :=
  fun _ _ _ _ g S _ _ _ hQ hE => wpAny_Expr (h.run g S .nil (fun _ _ _ _ _ _ _ k₁ S₁ r₁ q₁ => by
    obtain ⟨rfl, q⟩ := q₁
    cases r₁
    exact hQ .next .next _ _ _ _ _ k₁ S₁ .next q) hE) (hi _ S.ok.kf) hw
end
end Mine
namespace Mine
open PySem PySem.W PyProof.Rows PyProof.Rows.LCg PySem.Calls PySem.Spec

noncomputable def signs (s : Str) : List AV := s.cps.toList.map fun c => AV.str ⟨#[c]⟩
noncomputable def intsFrom (lo : Int) (n : Nat) : List AV := (List.range n).map fun (i : Nat) => AV.int (lo + (i : Int))
inductive Itr : AV → List AV → Prop
  | lst (l) : Itr (.lst l) l
  | tup (l) : Itr (.tup l) l
  | str (s) : Itr (.str s) (signs s)
  | dct (es) : Itr (.dct es) (es.map fun p => .str p.1)
  | rng (lo : Int) (n : Nat) : -(2 ^ 62) ≤ lo → lo + n < 2 ^ 62 → Itr (.rng lo (lo + n)) (intsFrom lo n)

noncomputable def owners : List String := ["enumerate", "zip", "dict_itemiterator", "dict_reverseitemiterator", "odict_iterator", "itertools.zip_longest", "itertools.pairwise"]
structure Iter (G : Gr) (A : Around) (fz : Objs) (xs : List AV) (I : Addr) (fp : List Addr) (P : Nat → Value → Prop) (St : Nat → Heap → Prop) : Prop where
  W : Walks G.prog G.w A I fp [I] xs.length P St
  fpk : ∀ b ∈ fp, b = I ∨ b ∈ keys fz
  val : ∀ i v, P i v → ∃ x, xs[i]? = some x ∧ Rel G fz x v
  obj : ∀ i h, St i h → ∃ o n, h.get? I = some o ∧ o.cls = .type n ∧ owners.contains n = false

section
variable {G : Gr} {cx : Cx} {ρ : AE} {σ : AH} {ex fz : Objs} {s : Shared} {A : Around} {E : Value → Shared → Prop}

theorem wpAny_ite_false {M : Model} {α : Type} {c : Prop} [Decidable c] {a b : Sem α} {Q : α → Shared → Prop} (hc : ¬ c) (h : wpAny M A b Q E s) : wpAny M A (if c then a else b) Q E s := by rw [if_neg hc]; exact h
theorem owned_none {t : Expr} {I : Addr} {v : Value} {o : Obj} {n : String} {Q : Unit → Shared → Prop} (ho : s.heap.get? I = some o) (hc : o.cls = .type n) (hn : owners.contains n = false) (h : Q () s) :
    wpAny (model G.prog G.w) A (letOwnedTupleGo t (.ref I) v) Q E s := by
  have key : ∀ a : Addr, wpAny (model G.prog G.w) A (do
      let o ← load I
      match o.cls, o.data with
      | .type n, .fields vs =>
        if (["enumerate", "zip", "dict_itemiterator", "dict_reverseitemiterator", "odict_iterator", "itertools.zip_longest", "itertools.pairwise"].contains n && vs[0]? == some (rawInt a)) = true then do
          rule "for.unpacks-the-owned-tuple"
          updateField I 0 .none
        else pure ()
      | _, _ => pure () : Sem Unit) Q E s := fun a => by
    refine wpAny_bind (wpAny_load ho ?_)
    rw [hc]
    cases o.data with
    | fields vs =>
      refine wpAny_ite_false (fun q => ?_) (wpAny_pure h)
      have hn' : (["enumerate", "zip", "dict_itemiterator", "dict_reverseitemiterator", "odict_iterator", "itertools.zip_longest", "itertools.pairwise"].contains n) = false := hn
      rw [hn', Bool.false_and] at q
      cases q
    | _ => exact wpAny_pure h
  cases t with
  | Tuple => cases v with
    | ref a => exact key a
    | _ => exact wpAny_pure h
  | List => cases v with
    | ref a => exact key a
    | _ => exact wpAny_pure h
  | _ => exact wpAny_pure h

theorem RelL.at_ {l : List AV} {vs : Array Value} (r : RelL G fz l vs.toList) {i : Nat} {v : Value} (e : vs[i]? = some v) : ∃ x, l[i]? = some x ∧ Rel G fz x v :=
  r.get' (by rw [Array.getElem?_toList]; exact e)

theorem RelE.keyAt {es : List (Str × AV)} {kvs : List (Str × Value)} (r : RelE G fz es kvs) {i : Nat} {k : Str} {x : Value} (e : kvs[i]? = some (k, x)) : (es.map fun p => AV.str p.1)[i]? = some (.str k) := by
  have hk := r.keys
  have : (kvs.map (·.1))[i]? = some k := by rw [List.getElem?_map, e]; rfl
  rw [hk, List.getElem?_map] at this
  rw [List.getElem?_map]
  cases q : es[i]? with
  | none => rw [q] at this; cases this
  | some p => rw [q] at this; simp at this; simp [this]

theorem iter_start {v : AV} {xs : List AV} {V : Value} {Q : Value → Shared → Prop} (S : Sat G cx ex ρ σ fz s.heap) (hd : A.handled = none) (I : Itr v xs) (r : Rel G fz v V)
    (h : ∀ o fp P St, Iter G A fz xs s.heap.objs.size fp P St → St 0 (s.heap.push o) → Q (.ref s.heap.objs.size) { s with heap := s.heap.push o }) :
    wpAny (model G.prog G.w) A (pyIter V) Q E s := by
  have ne : ∀ {a : Addr} {o : Obj}, (a, o) ∈ fz → a ≠ s.heap.objs.size := fun hm => Nat.ne_of_lt (Heap.lt_size (S.fzh _ hm))
  cases I with
  | lst l =>
    obtain ⟨a, o, vs, n, rfl, hm, hc, hdt, hl⟩ := r.lst_inv
    have hL : s.heap.IsList a vs := ⟨o, S.fzh _ hm, hc, n, hdt⟩
    have hlen : xs.length = vs.size := by rw [← hl.length, Array.length_toList]
    refine wpAny_pyIter_list hL (h _ [s.heap.objs.size, a] (fun i v => vs[i]? = some v) (fun i h => h.IsListIter s.heap.objs.size a i ∧ h.IsList a vs) ⟨?_, fun b hb => ?_, fun i v e => hl.at_ e, fun i h st => ?_⟩ ⟨⟨_, Heap.get?_push_size _ rfl, rfl, rfl⟩, hL.push _⟩)
    · rw [hlen]; exact Walks.list hd _ _ (ne hm) vs
    · simp at hb
      rcases hb with rfl | rfl
      · exact .inl rfl
      · exact .inr (List.mem_map_of_mem hm)
    · obtain ⟨o', ho', hc', _⟩ := st.1
      exact ⟨o', _, ho', hc', by decide⟩
  | tup l =>
    obtain ⟨a, o, vs, n, rfl, hm, hc, hdt, hl⟩ := r.tup_inv
    have hL : s.heap.IsTuple a vs := ⟨o, S.fzh _ hm, hc, n, hdt⟩
    have hlen : xs.length = vs.size := by rw [← hl.length, Array.length_toList]
    refine wpAny_pyIter_tuple hL (h _ [s.heap.objs.size, a] (fun i v => vs[i]? = some v) (fun i h => h.IsTupleIter s.heap.objs.size a i ∧ h.IsTuple a vs) ⟨?_, fun b hb => ?_, fun i v e => hl.at_ e, fun i h st => ?_⟩ ⟨⟨_, Heap.get?_push_size _ rfl, rfl, rfl⟩, hL.push _⟩)
    · rw [hlen]; exact Walks.tuple hd _ _ (ne hm) vs
    · simp at hb
      rcases hb with rfl | rfl
      · exact .inl rfl
      · exact .inr (List.mem_map_of_mem hm)
    · obtain ⟨o', ho', hc', _⟩ := st.1
      exact ⟨o', _, ho', hc', by decide⟩
  | dct es =>
    obtain ⟨a, o, kvs, rfl, hm, hsys, hdo, hl⟩ := r.dct_inv
    obtain ⟨des, ep, d1, d2, d3, d4, d5⟩ := hdo
    have hD : s.heap.DictAt (strKind G.prog G.w) a kvs ep := ⟨o, des, S.fzh _ hm, d1, d2, d3, d4, d5⟩
    refine wpAny_pyIter_dict hsys hD (h _ [s.heap.objs.size, a] (fun i v => ∃ k x, kvs[i]? = some (k, x) ∧ (strKind G.prog G.w).is k v = true) (fun i h => h.IsKeyIter s.heap.objs.size a i kvs.length ep ∧ h.DictAt (strKind G.prog G.w) a kvs ep) ⟨?_, fun b hb => ?_, fun i v e => ?_, fun i h st => ?_⟩ ⟨⟨_, Heap.get?_push_size _ rfl, rfl, rfl⟩, hD.at' fun o e => Heap.get?_push_of_some _ e⟩)
    · rw [List.length_map, ← hl.length]; exact Walks.dictKeys hd _ _ (ne hm) kvs ep
    · simp at hb
      rcases hb with rfl | rfl
      · exact .inl rfl
      · exact .inr (List.mem_map_of_mem hm)
    · obtain ⟨k, x, e1, e2⟩ := e
      obtain ⟨t, rfl⟩ := Value.isStrOf_shape e2
      exact ⟨_, hl.keyAt e1, .str k t⟩
    · obtain ⟨o', ho', hc', _⟩ := st.1
      exact ⟨o', _, ho', hc', by decide⟩
  | str x =>
    obtain ⟨t, rfl⟩ := r.str_inv
    have hlen : (signs x).length = x.cps.size := by unfold signs; rw [List.length_map, Array.length_toList]
    have hval : ∀ i v, SignAt x i v → ∃ y, (signs x)[i]? = some y ∧ Rel G fz y v := fun i v ⟨c, u, e, hv⟩ => ⟨.str ⟨#[c]⟩, by unfold signs; rw [List.getElem?_map, Array.getElem?_toList, e]; rfl, by rw [hv]; exact .str _ _⟩
    cases ha : x.cps.all (· < 128)
    · refine wpAny_pyIter_wide ha (h _ [s.heap.objs.size] (SignAt x) (fun i h => h.IsStrIter s.heap.objs.size "str_iterator" x t i) ⟨by rw [hlen]; exact Walks.strWide hd _ x t, fun b hb => .inl (by simpa using hb), hval, fun i h st => ?_⟩ ⟨_, Heap.get?_push_size _ rfl, rfl, rfl⟩)
      obtain ⟨o', ho', hc', _⟩ := st
      exact ⟨o', _, ho', hc', by decide⟩
    · refine wpAny_pyIter_ascii ha (h _ [s.heap.objs.size] (SignAt x) (fun i h => h.IsStrIter s.heap.objs.size "str_ascii_iterator" x t i) ⟨by rw [hlen]; exact Walks.strAscii hd _ x t, fun b hb => .inl (by simpa using hb), hval, fun i h st => ?_⟩ ⟨_, Heap.get?_push_size _ rfl, rfl, rfl⟩)
      obtain ⟨o', ho', hc', _⟩ := st
      exact ⟨o', _, ho', hc', by decide⟩
  | rng lo n h1 h2 =>
    obtain ⟨a, t, u, w, rfl, hm⟩ := r.rng_inv
    have hlen : (intsFrom lo n).length = n := by unfold intsFrom; rw [List.length_map, List.length_range]
    have hr : IsRange s.heap a lo (lo + n) 1 t u w := S.fzh _ hm
    refine wpAny_pyIter_range hr (small_one (by omega) (by omega) (by omega) (by omega)) ?_
    have hsz : Builtin.Range.rangeSize lo (lo + n) 1 = ((n : Nat) : Int) := by rw [rangeSize_nat]; omega
    refine h _ [s.heap.objs.size] (fun i v => i < n ∧ ∃ t, v = .int (lo + i * 1) t) (fun i h => IsRangeIter h s.heap.objs.size (lo + (i : Nat) * 1) ((n : Int) - (i : Nat)) 1) ⟨by rw [hlen]; exact (Walks.range hd _ lo 1 n).bound, fun b hb => .inl (by simpa using hb), fun i v ⟨hi, t, e⟩ => ⟨.int (lo + i), ?_, ?_⟩, fun i h st => ?_⟩ ?_
    · unfold intsFrom; rw [List.getElem?_map, List.getElem?_range hi]; rfl
    · rw [e, Int.mul_one]; exact .int _ _
    · exact ⟨_, _, st, rfl, by decide⟩
    · rw [hsz]
      show Heap.get? _ _ = _
      rw [Heap.get?_push_size _ rfl]
      simp

theorem Off.sub {I : Addr} {oI : Obj} {a : Addr} (O : Off G cx ((I, oI) :: ex) σ fz a) : Off G cx ex σ fz a := ⟨O.m, O.f, fun q => O.x (List.mem_cons_of_mem _ q), O.b⟩
theorem XIs.sub {I : Addr} {oI : Obj} {h : Heap} {e : Addr} {x : AX} (X : XIs G cx ((I, oI) :: ex) σ fz h e x) : XIs G cx ex σ fz h e x := by
  obtain ⟨O, o, d, od, vs, kvs, h1, h2, h3, h4, h5, h6, h7, h8, ht⟩ := X
  refine ⟨O.sub, o, d, od, vs, kvs, h1, h2, h3, h4, h5, h6, h7, h8, ht.imp id ?_⟩
  rintro ⟨tb, ot, ts, t1, t2, t3, t4, t5, t6⟩
  exact ⟨tb, ot, ts, t1, t2, t3, t4, t5.sub, t6⟩
end

section
variable {G : Gr} {cx : Cx} {EQ : AX → AE → AH → Prop}

/-- what a loop over these has to show -/
noncomputable def ForP (G : Gr) (cx : Cx) (t : Expr) (body : List Stmt) (Q : AF → AE → AH → Prop) (EQ : AX → AE → AH → Prop) : List AV → AE → AH → Prop
  | [], ρ, σ => Q .next ρ σ
  | x :: rest, ρ, σ => ∃ ρ', TB cx t x ρ ρ' ∧ Xs G cx ρ' σ body (fun fl ρ'' σ'' => match fl with | .next => ForP G cx t body Q EQ rest ρ'' σ'' | .ret v => Q (.ret v) ρ'' σ'') EQ

theorem drop_at {α : Type} {xs : List α} {i : Nat} {x : α} (e : xs[i]? = some x) : xs.drop i = x :: xs.drop (i + 1) := by
  obtain ⟨hi, he⟩ := List.getElem?_eq_some_iff.mp e
  rw [← he]
  exact List.drop_eq_getElem_cons hi

/-! the parts of a loop's turn -/
noncomputable def LErr (prog : Program) (w : World) (A : Around) (env : Env) (R : Result → Shared → Prop) : Value → Shared → Prop := notedBy (model prog w) A env fun e s' => R (.error e) s'
noncomputable def LFlow (R : Result → Shared → Prop) (I : Nat → Shared → Prop) (n : Nat) (f : Flow) (s : Shared) : Prop := match f with
  | .next | .cont => ∃ m, m < n ∧ I m s
  | .brk => R (.ok .next) s
  | .ret v => R (.ok (.ret v)) s
noncomputable def LItem (prog : Program) (w : World) (A : Around) (env : Env) (R : Result → Shared → Prop) (target : Expr) (body : List Stmt) (I : Nat → Shared → Prop) (n : Nat) (v : Value) (s : Shared) : Prop :=
  wpAny (model prog w) A (assign target env v) (fun _ s₂ => wpAny (model prog w) A (execs body env) (LFlow R I n) (LErr prog w A env R) s₂) (LErr prog w A env R) s
noncomputable def LTurn (prog : Program) (w : World) (A : Around) (env : Env) (R : Result → Shared → Prop) (target : Expr) (it : Value) (body : List Stmt) (I : Nat → Shared → Prop) (n : Nat) (r : Option Value) (s : Shared) : Prop := match r with
  | none => wpAny (model prog w) A (execs [] env) (fun f s₃ => R (.ok f) s₃) (LErr prog w A env R) s
  | some v => wpAny (model prog w) A (letOwnedTupleGo target it v) (fun _ s' => LItem prog w A env R target body I n v s') (LErr prog w A env R) s
theorem forLoop_any {prog : Program} {w : World} {A : Around} {s : Shared} {R : Result → Shared → Prop} {target : Expr} {it : Value} {body : List Stmt} {env : Env} (I : Nat → Shared → Prop)
    (turn : ∀ n s, I n s → wpAny (model prog w) A (pyNext it) (LTurn prog w A env R target it body I n) (LErr prog w A env R) s) (n : Nat) (h : I n s) : codeAny (model prog w) A (.forLoop target it body [] env) R s := by
  refine codeAny_forLoop_any I (fun n s hI => wpAny_mono (turn n s hI) (fun r s₁ q => ?_) fun _ _ q => q) n h
  cases r with
  | none => exact q
  | some v => exact wpAny_mono q (fun _ s' q => wpAny_mono q (fun _ s₂ q => wpAny_mono q (fun f s₃ q => by cases f <;> exact q) fun _ _ q => q) fun _ _ q => q) fun _ _ q => q
noncomputable def FInv (G : Gr) (cx : Cx) (t : Expr) (body : List Stmt) (Q : AF → AE → AH → Prop) (EQ : AX → AE → AH → Prop) (ex fz₁ : Objs) (s₁ : Shared) (xs : List AV) (St : Nat → Heap → Prop) (I : Addr) (n : Nat) (s' : Shared) : Prop :=
  ∃ i ρ σ fz' h' tk', s' = { s₁ with heap := h', toks := tk' } ∧ n = xs.length - i ∧ i ≤ xs.length ∧ Sat G cx ex ρ σ fz' h' ∧ St i h' ∧ Off G cx ex σ fz' I ∧ (∀ p ∈ fz₁, p ∈ fz') ∧ ForP G cx t body Q EQ (xs.drop i) ρ σ
theorem x_for {ρ : AE} {σ : AH} {t iter : Expr} {body : List Stmt} {pos : Pos} {Q : AF → AE → AH → Prop} (hd : cx.hd = none) (hc : cx.comp = false)
    (h : Ev G cx ρ σ iter (fun v ρ₁ σ₁ => ∃ xs, Itr v xs ∧ ForP G cx t body Q EQ xs ρ₁ σ₁) EQ) (hf : ∀ x, foldedSetIterable iter cx.env x = pure x := by intro _; rfl) :
    X1 G cx ρ σ (.For t iter body [] pos) Q EQ := fun ex fz s _ g S _ QQ EE hQ hE => by
  refine wpAny_For (h.run g S .nil (fun v V ρ₁ σ₁ fz₁ h₁ t₁ k₁ S₁ r₁ q₁ => ?_) hE) hf
  obtain ⟨xs, hI, hP⟩ := q₁
  have hA : cx.A.handled = none := S.ok.hd.trans hd
  have hQ₁ := hQ.on (h₁ := h₁) (t₁ := t₁) k₁
  have hE₁ := hE.on (h₁ := h₁) (t₁ := t₁) k₁
  clear hQ hE
  generalize hs₁ : ({ s with heap := h₁, toks := t₁ } : Shared) = s₁ at hQ₁ hE₁ ⊢
  have hh₁ : s₁.heap = h₁ := by rw [← hs₁]
  rw [← hh₁] at S₁
  clear hs₁ hh₁
  refine iter_start S₁ hA hI r₁ fun oI fp P St It st => ?_
  have off := S₁.size_off (Nat.le_refl s₁.heap.objs.size)
  generalize s₁.heap.objs.size = I at It st off ⊢
  refine forLoop_any (FInv G cx t body Q EQ ex fz₁ s₁ xs St I) ?_ xs.length
    ⟨0, ρ₁, σ₁, fz₁, _, _, rfl, rfl, Nat.zero_le _, S₁.push oI, st, off, fun _ h => h, hP⟩
  rintro n s' ⟨i, ρ, σ, fz', h', tk', rfl, rfl, hi, S', st', off', kk, hP'⟩
  have hQ' := hQ₁.on (h₁ := h') (t₁ := tk') kk
  have hE' := hE₁.on (h₁ := h') (t₁ := tk') kk
  rcases Nat.lt_or_ge i xs.length with hlt | hge
  · refine It.W.item i _ _ _ hlt st' fun v h₂ tk₂ hv st₂ k₂ => ?_
    have S₂ : Sat G cx ex ρ σ fz' h₂ := S'.keep fun b o nb e => k₂ b o (fun q => nb (by rw [List.mem_singleton.mp q]; exact off')) e
    obtain ⟨x, hx, rx⟩ := It.val i v hv
    rw [drop_at hx] at hP'
    obtain ⟨ρ', T, body'⟩ := hP'
    obtain ⟨oI₂, nI, hoI, hcI, hnI⟩ := It.obj _ _ st₂
    have S₃ := S₂.park hoI off'.m off'.f
    refine owned_none hoI hcI hnI ?_
    refine assign_T T S₃ (.inl hA) (rx.mono kk) fun h₃ tk₃ S₄ => ?_
    have back : ∀ {ρ'' σ'' fz'' h''}, (∀ p ∈ fz', p ∈ fz'') → Sat G cx ((I, oI₂) :: ex) ρ'' σ'' fz'' h'' → Sat G cx ex ρ'' σ'' fz'' h'' ∧ St (i + 1) h'' ∧ Off G cx ex σ'' fz'' I := fun k S'' => by
      obtain ⟨u1, u2, u3, u4⟩ := S''.unpark S₂.clx
      refine ⟨u1, It.W.frame _ _ _ st₂ fun b hb o e => ?_, u3, u4, off'.x, off'.b⟩
      rcases It.fpk b hb with rfl | hb
      · rw [hoI] at e; cases e; exact u2
      · obtain ⟨p, hp, rfl⟩ := List.mem_map.mp hb
        have := S₂.fzh p (kk p hp)
        rw [e] at this; cases this
        exact u1.fzh p (k p (kk p hp))
    refine body'.run g S₄ .nil (fun fl FL ρ'' σ'' fz'' h'' tk'' k S'' r'' q'' => ?_) (fun y e ρ'' σ'' fz'' h'' tk'' k S'' X'' q'' => ?_)
    · obtain ⟨b1, b2, b3⟩ := back k S''
      cases r'' with
      | next => exact ⟨xs.length - (i + 1), by omega, i + 1, ρ'', σ'', fz'', h'', tk'', rfl, rfl, hlt, b1, b2, b3, fun p hp => k p (kk p hp), q''⟩
      | ret rv => exact hQ' (.ret _) _ ρ'' σ'' fz'' h'' tk'' k b1 (.ret rv) q''
    · obtain ⟨b1, b2, b3⟩ := back k S''
      exact notes_back b1.ok.frames hc b1 X''.sub fun h₅ S₅ X₅ => hE' y e ρ'' σ'' fz'' h₅ tk'' k S₅ X₅ q''
  · have hi' : i = xs.length := Nat.le_antisymm hi hge
    subst hi'
    refine It.W.done _ _ _ st' fun h₂ tk₂ k₂ => ?_
    have S₂ : Sat G cx ex ρ σ fz' h₂ := S'.keep fun b o nb e => k₂ b o (fun q => nb (by rw [List.mem_singleton.mp q]; exact off')) e
    rw [List.drop_length] at hP'
    exact wpAny_execs_nil (hQ' .next .next ρ σ fz' h₂ tk₂ (fun _ h => h) S₂ .next hP')

end
end Mine
namespace Mine
open PySem PySem.W PyProof.Rows PyProof.Rows.LCg PySem.Calls PySem.Spec

theorem KN.of_scope {cx : Cx} {scope : Scope} (h : cx.env.scope = scope) (ho : ∀ x c, cx.env.cells.lookup x = some c → c ∈ cx.own) : KN cx scope.names where
  kd := fun x k e _ => by rw [kindOf_eq, h]; exact e
  fr := fun x e => .inl (by rw [kindOf_eq, h]; exact e)
  own := fun x _ c e => ho x c e

section
variable {G : Gr} {cx cx' : Cx} {ρ ρ' : AE} {σ : AH} {ex ex' fz : Objs} {h h₁ : Heap} {m : Str → Option Value} {ol : Objs} {oC : Obj}

/-- a new frame upon this one -/
theorem Sat.enter (S : Sat G cx ex ρ σ fz h) (hke : ∀ b o, h.get? b = some o → h₁.get? b = some o) (I : Inner G cx cx' ex ex' σ h m ol oC) (ok' : CxOk cx')
    (hL : h.objs.size ≤ cx'.env.locals) (hown : ∀ c ∈ cx'.own, h.objs.size ≤ c) (hLo : cx'.env.locals ∉ cx'.own) (hnd : cx'.own.Nodup) (hcell : ∀ c ∈ cx'.own, ∃ v, h₁.IsCell c v) (hclx : ∀ p ∈ cx'.cl, p ∈ ex')
    (hloc : ∃ m', h₁.Ns cx'.env.locals m' ∧ ∀ x v, ρ' x = some v → VarOk G cx' fz m' h₁ x v) : Sat G cx' ex' ρ' σ fz h₁ := by
  have olk := I.olk
  have stkin : ∀ p ∈ cx'.stk, h.Ns p.1.locals p.2 ∧ p.1.locals ∈ cx.mut σ := fun p hp => by
    rw [I.stk] at hp
    have old : p ∈ cx.stk → h.Ns p.1.locals p.2 ∧ p.1.locals ∈ cx.mut σ := fun q => ⟨S.stk p q, by
      unfold Cx.mut; simp only [List.mem_cons, List.mem_append, List.mem_map]; exact .inr (.inl (.inl ⟨p, q, rfl⟩))⟩
    cases hc : cx.comp with
    | true => rw [hc] at hp; exact old hp
    | false =>
      rw [hc] at hp
      rcases List.mem_cons.mp hp with rfl | hp
      · exact ⟨I.ns, by unfold Cx.mut; simp⟩
      · exact old hp
  have mlt : ∀ a ∈ cx.mut σ, a < h.objs.size := fun a ha => by obtain ⟨o, ho⟩ := S.mut_there ha; exact Heap.lt_size ho
  have exin : ∀ p ∈ ex', p ∈ ol ∨ (cx.comp = true ∧ p = (cx.env.locals, oC)) ∨ p ∈ ex := fun p hp => by
    rw [I.ex] at hp
    rcases List.mem_append.mp hp with hp | hp
    · exact .inl hp
    · rcases List.mem_append.mp hp with hp | hp
      · cases hc : cx.comp with
        | true => rw [hc] at hp; exact .inr (.inl ⟨rfl, by simpa using hp⟩)
        | false => rw [hc] at hp; simp at hp
      · exact .inr (.inr hp)
  have exh : ∀ p ∈ ex', h.get? p.1 = some p.2 := fun p hp => by
    rcases exin p hp with hp | ⟨_, rfl⟩ | hp
    · exact I.has p hp
    · exact I.oC
    · exact S.exh p hp
  have xlt : ∀ a ∈ keys ex', a < h.objs.size := fun a ha => by
    obtain ⟨p, hp, rfl⟩ := List.mem_map.mp ha
    exact Heap.lt_size (exh p hp)
  have mut' : ∀ a ∈ cx'.mut σ, (a = cx'.env.locals ∨ a ∈ cx'.own) ∨ (a ∈ cx'.stk.map (·.1.locals) ∨ a ∈ σ.map (·.1)) := fun a ha => by
    unfold Cx.mut at ha
    simp only [List.mem_cons, List.mem_append] at ha
    rcases ha with h | (h | h) | h
    · exact .inl (.inl h)
    · exact .inr (.inl h)
    · exact .inl (.inr h)
    · exact .inr (.inr h)
  have oldin : ∀ a, a ∈ cx'.stk.map (·.1.locals) ∨ a ∈ σ.map (·.1) → a ∈ cx.mut σ := fun a ha => by
    rcases ha with h | h
    · obtain ⟨p, hp, rfl⟩ := List.mem_map.mp h
      exact (stkin p hp).2
    · unfold Cx.mut; simp only [List.mem_cons, List.mem_append]; exact .inr (.inr h)
  have newge : ∀ a, a = cx'.env.locals ∨ a ∈ cx'.own → h.objs.size ≤ a := fun a ha => by
    rcases ha with rfl | h
    · exact hL
    · exact hown a h
  have newoff : ∀ a, a = cx'.env.locals ∨ a ∈ cx'.own → ∀ b, b < h.objs.size → a ≠ b := fun a ha b hb q => Nat.lt_irrefl _ (Nat.lt_of_lt_of_le (q ▸ hb) (newge a ha))
  have nd := S.nod
  unfold Cx.mut at nd
  rw [List.nodup_cons, List.nodup_append, List.nodup_append] at nd
  have hbs : G.hb.objs.size ≤ h.objs.size := Nat.le_trans (S.new _ (by unfold Cx.mut; exact List.mem_cons_self)).2 (Nat.le_of_lt (Heap.lt_size I.oC))
  refine ⟨ok', hclx, fun b o e => hke b o (S.base b o e), fun p hp => (stkin p hp).1.keeps hke, hcell, fun p hp => hke _ _ (S.fzh p hp), fun p hp => hke _ _ (exh p hp), fun p hp => ?_, hloc, ?_, fun a ha => ?_, fun a ha hf => ?_, fun a ha hx => ?_, fun a ha => ?_⟩
  · obtain ⟨o, ho, rr⟩ := S.live p hp
    exact ⟨o, hke _ _ ho, rr⟩
  · unfold Cx.mut
    rw [List.nodup_cons, List.nodup_append, List.nodup_append]
    refine ⟨fun q => ?_, ⟨?_, hnd, fun a ha b hb q => ?_⟩, nd.2.2.1, fun a ha b hb q => ?_⟩
    · have q' : cx'.env.locals ∈ cx'.own ∨ (cx'.env.locals ∈ cx'.stk.map (·.1.locals) ∨ cx'.env.locals ∈ σ.map (·.1)) := by
        simp only [List.mem_append] at q
        rcases q with (q | q) | q
        · exact .inr (.inl q)
        · exact .inl q
        · exact .inr (.inr q)
      rcases q' with q' | q'
      · exact hLo q'
      · exact newoff _ (.inl rfl) _ (mlt _ (oldin _ q')) rfl
    · rw [I.stk]
      cases hc : cx.comp with
      | true => exact nd.2.1.1
      | false =>
        simp only [Bool.false_eq_true, if_false, List.map_cons, List.nodup_cons]
        exact ⟨fun q => nd.1 (List.mem_append_left _ (List.mem_append_left _ q)), nd.2.1.1⟩
    · subst q
      exact newoff _ (.inr hb) _ (mlt _ (oldin _ (.inl ha))) rfl
    · subst q
      rcases List.mem_append.mp ha with ha | ha
      · rw [I.stk] at ha
        cases hc : cx.comp with
        | true =>
          rw [hc] at ha
          exact nd.2.2.2 a (List.mem_append_left _ ha) a hb rfl
        | false =>
          rw [hc] at ha
          simp only [Bool.false_eq_true, if_false, List.map_cons, List.mem_cons] at ha
          rcases ha with rfl | ha
          · exact nd.1 (List.mem_append_right _ hb)
          · exact nd.2.2.2 a (List.mem_append_left _ ha) a hb rfl
      · exact newoff _ (.inr ha) _ (mlt _ (oldin _ (.inr hb))) rfl
  · rcases mut' a ha with q | q
    · exact ⟨Heap.get?_none_of_le (Nat.le_trans hbs (newge a q)), Nat.le_trans hbs (newge a q)⟩
    · exact S.new a (oldin a q)
  · have flt : a < h.objs.size := by
      obtain ⟨p, hp, rfl⟩ := List.mem_map.mp hf
      exact Heap.lt_size (S.fzh p hp)
    rcases mut' a ha with q | q
    · exact newoff a q a flt rfl
    · exact S.apf a (oldin a q) hf
  · rcases mut' a ha with q | q
    · exact newoff a q a (xlt a hx) rfl
    · obtain ⟨p, hp, rfl⟩ := List.mem_map.mp hx
      have om := oldin _ q
      rcases exin p hp with hp | ⟨hc, rfl⟩ | hp
      · have ho : p.1 ∈ cx.own := olk ▸ List.mem_map_of_mem hp
        rcases q with q | q
        · rw [I.stk] at q
          cases hc : cx.comp with
          | true =>
            rw [hc] at q
            exact nd.2.1.2.2 _ q _ ho rfl
          | false =>
            rw [hc] at q
            simp only [Bool.false_eq_true, if_false, List.map_cons, List.mem_cons] at q
            rcases q with q | q
            · exact nd.1 (List.mem_append_left _ (List.mem_append_right _ (q ▸ ho)))
            · exact nd.2.1.2.2 _ q _ ho rfl
        · exact nd.2.2.2 _ (List.mem_append_right _ ho) _ q rfl
      · rcases q with q | q
        · rw [I.stk, hc] at q
          exact nd.1 (List.mem_append_left _ (List.mem_append_left _ q))
        · exact nd.1 (List.mem_append_right _ q)
      · exact S.apx _ om (List.mem_map_of_mem hp)
  · obtain ⟨p, hp, rfl⟩ := List.mem_map.mp ha
    rcases exin p hp with hp | ⟨hc, rfl⟩ | hp
    · exact S.apf _ (by unfold Cx.mut; have : p.1 ∈ cx.own := olk ▸ List.mem_map_of_mem hp; simp [this])
    · exact S.apf _ (by unfold Cx.mut; simp)
    · exact S.xf _ (List.mem_map_of_mem hp)
end

section
variable {G : Gr} {cx : Cx} {ρ : AE} {σ : AH} {Q : AV → AE → AH → Prop} {EQ : AX → AE → AH → Prop}
/-- a call of a def of the text -/
theorem call_fn {f : Addr} {oc : Value} {od : Option Addr} {osl : Array (Option Value)} {name qual : Str} {params : Arguments} {body : List Stmt} {scope : Scope} {dV kV doc pm cdv ct : Value} {an : Option Addr} {args : List AV} {names : List Str}
    (hK : G.K.lookup f = some ⟨oc, od, .func (fnOf name qual params body scope dV kV doc pm an cdv ct), osl⟩) (hcd : codeIn G.K cdv qual = true)
    (hbind : ∀ (Vs : List Value) (h : Heap), Vs.length = args.length → G.K.In h → Looks (model G.prog G.w) h (bindArgs (fnOf name qual params body scope dV kV doc pm an cdv ct) ⟨Vs, []⟩) (names.zip Vs))
    (hn : names.Nodup) (hl : args.length = names.length) (hkn : ∀ n ∈ names, scope.names.lookup n = some .local ∨ scope.names.lookup n = some .cell)
    (hkk : scope.names.all (fun p => p.2 != .free) = true) (hcn : ((cellsFrom 0 scope.names []).map (·.1)).Nodup) (hd : 1 ≤ cx.d)
    (hb : ∀ cx' : Cx, cx'.d + 1 = cx.d → cx'.hd = cx.hd → cx'.comp = false → cx'.env.scope = scope → (∀ x c, cx'.env.cells.lookup x = some c → c ∈ cx'.own) →
      Xs G cx' (fun x => (names.zip args).lookup x) σ body (fun fl _ σ' => Q (match fl with | .ret v => v | .next => .none) ρ σ') (fun x _ σ' => EQ x ρ σ'))
    (hco : scope.isCoroutine = false := by rfl) (hgen : scope.isGenerator = false := by rfl) (hk : scope.kind = .function := by rfl) :
    JVC G cx ρ σ args f Q EQ := by
  intro ex fz s Vs g S r QQ EE hQ hE
  obtain ⟨m, hns, hv⟩ := S.loc
  obtain ⟨oC, esC, epC, hoC, hCr⟩ := id hns
  obtain ⟨ol, hol, hOl⟩ := own_objs S
  have hVs := r.length
  refine codeAny_call_function (by have := S.ok.depth; show cx.A.depth < 1000; omega) (S.base _ _ (g.KB _ _ hK)) rfl hco hgen rfl (codeRec_of (fun a o e => S.base _ _ (g.KB a o e)) hcd) ?_
  refine (hbind Vs s.heap hVs (fun a o e => S.base _ _ (g.KB a o e))).here ?_
  have hkind : ∀ x ∈ names.zip Vs, scope.names.lookup x.1 = some .local ∨ (scope.names.lookup x.1 = some .cell ∧ ((cellsFrom (s.heap.objs.size + 1) scope.names []).lookup x.1).isSome = true) := fun x hx => by
    rcases hkn x.1 (List.of_mem_zip hx).1 with q | q
    · exact .inl q
    · exact .inr ⟨q, cellsFrom_some _ _ _ (.inl q)⟩
  refine wpAny_newFunctionEnv_cells hk hkind fun env' he s' X => ?_
  refine ⟨(g.TB.nolimit.keeps S.base).keeps X.toInCall.keep, codeAny_func ?_⟩
  obtain ⟨h₁, tk, rfl⟩ := X.toInCall.same
  have hke := X.toInCall.keep
  have hL : env'.locals = s.heap.objs.size := by rw [he]; rfl
  have hcells : env'.cells = cellsFrom (s.heap.objs.size + 1) scope.names [] := by rw [he]; rfl
  have hscope : env'.scope = scope := by rw [he]; rfl
  have cabove : ∀ x c, (x, c) ∈ env'.cells → s.heap.objs.size < c := fun x c hm => by
    rw [hcells] at hm
    rcases cells_above _ _ _ x c hm with q | q
    · cases q
    · exact q
  -- the frame
  let cx' : Cx := { A := cx.A.deeper env', d := cx.d - 1, hd := cx.hd, env := env', stk := if cx.comp then cx.stk else (cx.env, m) :: cx.stk, own := env'.cells.map (·.2), cl := [], comp := false }
  let ex' : Objs := ol ++ ((if cx.comp then [(cx.env.locals, oC)] else []) ++ ex)
  have I : Inner G cx cx' ex ex' σ s.heap m ol oC := ⟨rfl, rfl, hol, hns, hoC, hOl⟩
  have frs : cx.frames = (if cx.comp then cx.stk else (cx.env, m) :: cx.stk).map (·.1) := by
    unfold Cx.frames
    cases cx.comp <;> rfl
  have ok' : CxOk cx' := by
    refine ⟨?_, ?_, ?_, S.ok.hd, by show env'.scope.kind = _; rw [hscope]; exact hk, fun _ => by show env'.frame = some env'.locals; rw [hL, he]; rfl, fun p hp => ?_, ⟨by show env'.globals = _; rw [he]; rfl, by show env'.builtins = _; rw [he]; rfl⟩, fun x hx => ?_, fun x c h => .inl (List.mem_map_of_mem (f := (·.2)) (lookup_mem h)), fun x y c _ h1 h2 => ?_⟩
    · show cx.A.frames.map (env' :: ·) = some (env' :: _)
      rw [S.ok.frames, frs]; rfl
    · have := S.ok.depth; show cx.A.depth + 1 + (cx.d - 1) ≤ 900; omega
    · have := S.ok.units; show cx.A.units + 3 + 20 * (cx.d - 1) ≤ 9000; omega
    · have hp' : p ∈ (if cx.comp then cx.stk else (cx.env, m) :: cx.stk) := hp
      cases hc : cx.comp with
      | true => rw [hc] at hp'; exact S.ok.fs p hp'
      | false =>
        rw [hc] at hp'
        rcases List.mem_cons.mp hp' with rfl | hp'
        · exact ⟨S.ok.kf, S.ok.fr hc⟩
        · exact S.ok.fs p hp'
    · have hx' : scope.names.lookup x = some .cell ∨ scope.names.lookup x = some .free := by
        have : env'.scope.names.lookup x = some .cell ∨ env'.scope.names.lookup x = some .free := hx
        rwa [hscope] at this
      rcases hx' with q | q
      · have := cellsFrom_some (x := x) scope.names (s.heap.objs.size + 1) [] (.inl q)
        obtain ⟨c, hc⟩ := Option.isSome_iff_exists.mp this
        exact ⟨c, by show env'.cells.lookup x = _; rw [hcells]; exact hc⟩
      · have := List.all_eq_true.mp hkk _ (lookup_mem q)
        simp at this
    · exact pair_inj X.apart (lookup_mem h1) (lookup_mem h2)
  have Scal : Sat G cx' ex' (fun x => (names.zip args).lookup x) σ fz h₁ := by
    refine S.enter hke I ok' (by show _ ≤ env'.locals; rw [hL]; exact Nat.le_refl _) (fun c hc => ?_) (fun q => ?_) (List.pairwise_map.mpr X.apart) (fun c hc => ?_) (fun p hp => (nomatch hp)) ⟨_, X.toInCall.ns, fun x v hx => ?_⟩
    · obtain ⟨p, hp, rfl⟩ := List.mem_map.mp hc
      exact Nat.le_of_lt (cabove p.1 p.2 hp)
    · obtain ⟨p, hp, hq⟩ := List.mem_map.mp q
      have := X.above p.1 p.2 hp
      have hq' : p.2 = env'.locals := hq
      rw [hq'] at this
      exact Nat.lt_irrefl _ this
    · obtain ⟨p, hp, rfl⟩ := List.mem_map.mp hc
      have : env'.cells.lookup p.1 = some p.2 := by
        have hp' : (p.1, p.2) ∈ env'.cells := hp
        rw [hcells] at hp' ⊢
        exact lookup_of_mem_nodup (cellsFrom_names scope.names 0 (s.heap.objs.size + 1) [] [] rfl ▸ hcn) hp'
      exact ⟨_, X.cell p.1 p.2 this⟩
    · obtain ⟨V, rV, bl, bc⟩ := bind_at (kind := env'.kindOf) names args Vs (fun _ => none) hn r hx
      have hkx : env'.kindOf x = some .local ∨ env'.kindOf x = some .cell := by
        have : env'.kindOf x = scope.names.lookup x := by rw [kindOf_eq, hscope]
        rw [this]; exact hkn x (List.of_mem_zip (lookup_mem hx)).1
      rcases hkx with q | q
      · exact .inl ⟨q, V, bl q, rV⟩
      · obtain ⟨c, hc⟩ := ok'.cs x (.inl q)
        refine .inr (.inl ⟨q, c, V, hc, List.mem_map_of_mem (f := (·.2)) (lookup_mem hc), ?_, rV⟩)
        have := X.cell x c hc
        rw [bc q] at this
        exact this
  have hd' : cx'.d + 1 = cx.d := by show cx.d - 1 + 1 = cx.d; omega
  refine (hb cx' hd' rfl rfl hscope (fun x c h => List.mem_map_of_mem (f := (·.2)) (lookup_mem h))).run (s := { s with heap := h₁, toks := tk }) g Scal .nil (fun fl FL ρ' σ' fz' h' tk' k S' rf q => ?_) (fun x e ρ' σ' fz' h' tk' k S' X' q => ?_)
  · have Sb := I.back S S' k hv
    cases rf with
    | next => exact hQ .none .none ρ σ' fz' h' tk' k Sb .none q
    | ret rv => exact hQ _ _ ρ σ' fz' h' tk' k Sb rv q
  · refine leaves (cx := cx') (ok'.frames) rfl S' X' fun h'' S'' X'' => ?_
    have Sb := I.back S S'' k hv
    refine hE x e ρ σ' fz' h'' tk' k Sb ?_ q
    obtain ⟨O, o, d, od, vs, kvs, h1, h2, h3, h4, h5, h6, h7, h8, tb, ot, ts, t1, t2, t3, t4, t5, t6⟩ := X''
    exact ⟨I.off O, o, d, od, vs, kvs, h1, h2, h3, h4, h5, h6, h7, h8, .inr ⟨tb, ot, ts, t1, t2, t3, .inl t4, I.off t5, t6⟩⟩
end

/-! the scope of a comprehension -/
noncomputable def clOf (env : Env) : List (Str × NameKind) → List (Str × Addr) → List (Str × Addr)
  | [], acc => acc
  | (n, k) :: r, acc => if k == .free then clOf env r ((n, (env.cells.lookup n).getD 0) :: acc) else clOf env r acc

theorem closure_loop {env : Env} (f : Str × NameKind → List (Str × Addr) → Sem (ForInStep (List (Str × Addr))))
    (hf : ∀ n k cs, f (n, k) cs = if k == .free then (do let a ← cellOf env n; pure (.yield ((n, a) :: cs))) else pure (.yield cs)) :
    ∀ (names : List (Str × NameKind)) (acc : List (Str × Addr)), (∀ x, (x, NameKind.free) ∈ names → ∃ c, env.cells.lookup x = some c) → forIn names acc f = pure (clOf env names acc)
  | [], _, _ => rfl
  | (n, k) :: r, acc, h => by
    rw [List.forIn_cons, hf]
    unfold clOf
    cases hk : (k == NameKind.free) with
    | true =>
      obtain ⟨c, hc⟩ := h n (by rw [show k = NameKind.free by simpa using hk]; exact List.mem_cons_self)
      unfold cellOf
      simp only [hc, if_true, pure_bind, Option.getD_some]
      exact closure_loop f hf r _ fun x hx => h x (List.mem_cons_of_mem _ hx)
    | false =>
      simp only [Bool.false_eq_true, if_false, pure_bind]
      exact closure_loop f hf r _ fun x hx => h x (List.mem_cons_of_mem _ hx)
theorem closureFor_eq {scope : Scope} {env : Env} (h : ∀ x, (x, NameKind.free) ∈ scope.names → ∃ c, env.cells.lookup x = some c) : closureFor scope env = pure (clOf env scope.names []) := by
  refine (congrArg (fun y => y >>= fun s => pure s) (closure_loop (env := env) (fun x cs => match x with
    | (n, k) => if (k == NameKind.free) = true then do let a ← cellOf env n; pure (.yield ((n, a) :: cs)) else pure (.yield cs)) (fun _ _ _ => rfl) scope.names [] h)).trans ?_
  rw [pure_bind]

theorem clOf_some {env : Env} : ∀ (names : List (Str × NameKind)) (acc : List (Str × Addr)) (x : Str), (x, NameKind.free) ∈ names ∨ (acc.lookup x).isSome = true → ((clOf env names acc).lookup x).isSome = true
  | [], _, _, h => h.elim (fun q => by cases q) id
  | (n, k) :: r, acc, x, h => by
    unfold clOf
    split
    · refine clOf_some r _ x ?_
      rcases h with h | h
      · rcases List.mem_cons.mp h with e | h
        · injection e with e1 e2
          subst e1
          exact .inr (by simp [List.lookup_cons])
        · exact .inl h
      · refine .inr ?_
        rw [List.lookup_cons]
        cases hx : (x == n) with
        | true => rfl
        | false => exact h
    · rename_i hk
      refine clOf_some r _ x ?_
      rcases h with h | h
      · rcases List.mem_cons.mp h with e | h
        · injection e with e1 e2
          rw [← e2] at hk
          exact absurd rfl hk
        · exact .inl h
      · exact .inr h

theorem cellsFrom_split : ∀ (names : List (Str × NameKind)) (n : Nat) (acc : List (Str × Addr)), cellsFrom n names acc = cellsFrom n names [] ++ acc
  | [], _, _ => rfl
  | (name, k) :: r, n, acc => by
    unfold cellsFrom
    split
    · rw [cellsFrom_split r (n + 1) ((name, n) :: acc), cellsFrom_split r (n + 1) [(name, n)], List.append_assoc]; rfl
    · exact cellsFrom_split r n acc
theorem cellsFrom_kind : ∀ (names : List (Str × NameKind)) (n : Nat) (acc : List (Str × Addr)) (x : Str) (c : Addr), (x, c) ∈ cellsFrom n names acc → (x, c) ∈ acc ∨ (x, NameKind.cell) ∈ names
  | [], _, _, _, _, h => .inl h
  | (name, k) :: r, n, acc, x, c, h => by
    unfold cellsFrom at h
    split at h
    · rename_i hk
      rcases cellsFrom_kind r (n + 1) _ x c h with q | q
      · rcases List.mem_cons.mp q with q | q
        · injection q with q1 q2
          exact .inr (by rw [q1, show k = NameKind.cell by simpa using hk]; exact List.mem_cons_self)
        · exact .inl q
      · exact .inr (List.mem_cons_of_mem _ q)
    · rcases cellsFrom_kind r n _ x c h with q | q
      · exact .inl q
      · exact .inr (List.mem_cons_of_mem _ q)

theorem relabel_kind {env : Env} : ∀ {names : List (Str × NameKind)} {x : Str} {k : NameKind}, names.lookup x = some k →
    (names.map fun (n, k) => if (k == NameKind.free && env.scope.kind == .function && env.kindOf n == some .cell) then (n, NameKind.cell) else (n, k)).lookup x = some (if (k == NameKind.free && env.scope.kind == .function && env.kindOf x == some .cell) then .cell else k)
  | [], _, _, h => by cases h
  | (n, k') :: r, x, k, h => by
    have ih := @relabel_kind env r x k
    rw [List.lookup_cons] at h
    simp only [List.map_cons]
    cases hx : (x == n) with
    | true =>
      rw [hx] at h
      cases h
      have : x = n := by simpa using hx
      subst this
      split <;> simp [List.lookup_cons, *]
    | false =>
      rw [hx] at h
      split
      · rw [List.lookup_cons, hx]; exact ih h
      · rw [List.lookup_cons, hx]; exact ih h
theorem relabel_none {env : Env} : ∀ {names : List (Str × NameKind)} {x : Str}, names.lookup x = none →
    (names.map fun (n, k) => if (k == NameKind.free && env.scope.kind == .function && env.kindOf n == some .cell) then (n, NameKind.cell) else (n, k)).lookup x = none
  | [], _, _ => rfl
  | (n, k') :: r, x, h => by
    have ih := @relabel_none env r x
    rw [List.lookup_cons] at h
    simp only [List.map_cons]
    cases hx : (x == n) with
    | true => rw [hx] at h; cases h
    | false =>
      rw [hx] at h
      split
      · rw [List.lookup_cons, hx]; exact ih h
      · rw [List.lookup_cons, hx]; exact ih h
end Mine
namespace Mine
open PySem PySem.W PyProof.Rows PyProof.Rows.LCg PySem.Calls PySem.Spec

noncomputable def compEnv (scope : Scope) (env : Env) (C : Addr) : Env :=
  { scope := relabel scope env, locals := C, globals := env.globals, cells := cellsFrom (C + 1) scope.names (clOf env scope.names []), qual := env.qual, func := none, code := env.code, frame := env.frame, builtins := env.builtins }

theorem new_comp_env {M : Model} {A : Around} {E : Value → Shared → Prop} {s : Shared} {scope : Scope} {env : Env} {cl : List (Str × Addr)} {Q : Env → Shared → Prop}
    (h : ∀ h₁, (∀ b o, s.heap.get? b = some o → h₁.get? b = some o) → h₁.Ns s.heap.objs.size (fun _ => none) → (∀ x c, (x, c) ∈ cellsFrom (s.heap.objs.size + 1) scope.names [] → h₁.IsCell c none ∧ s.heap.objs.size + 1 ≤ c) →
      ((cellsFrom (s.heap.objs.size + 1) scope.names []).Pairwise fun x y => x.2 ≠ y.2) →
      Q (newEnv scope s.heap.objs.size env.globals (cellsFrom (s.heap.objs.size + 1) scope.names cl) env.qual none .none (some env) builtinsNs) { s with heap := h₁ }) :
    wpAny M A (newFunctionEnv scope env.globals cl [] env.qual none .none (some env)) Q E s := by
  simp only [newFunctionEnv, Option.isSome_some, if_true]
  refine wpAny_bind (wpAny_alloc ?_)
  refine wpAny_bind (wpAny_layCells _ (fun name kind cells => by cases hkc : kind == NameKind.cell <;> simp [hkc]) _ _ _ _ ?_)
  have ok := cellsFrom_ok scope.names (s.heap.push { cls := .type "dict", data := .dict #[] }) (s.heap.objs.size + 1) [] ⟨fun _ _ hm => (nomatch hm), List.Pairwise.nil⟩ (by rw [Heap.size_push]; exact Nat.le_refl _)
  rw [Heap.size_push] at ok
  rw [show ({ s with heap := s.heap.push { cls := .type "dict", data := .dict #[] } } : Shared).heap.objs.size = s.heap.objs.size + 1 from Heap.size_push ..]
  simp only [List.forIn_nil, pure_bind]
  exact wpAny_pure (h _ (fun b o e => pushCells_keeps _ _ b o (Heap.get?_push_of_some _ e)) ((Heap.Ns.new s.heap (.type "dict")).keeps (pushCells_keeps _ _)) ok.empty ok.apart)

theorem clOf_mem {env : Env} : ∀ (names : List (Str × NameKind)) (acc : List (Str × Addr)) (x : Str) (c : Addr), (x, c) ∈ clOf env names acc → ((x, NameKind.free) ∈ names ∧ c = (env.cells.lookup x).getD 0) ∨ (x, c) ∈ acc
  | [], _, _, _, h => .inr h
  | (n, k) :: r, acc, x, c, h => by
    unfold clOf at h
    split at h
    · rename_i hk
      rcases clOf_mem r _ x c h with ⟨q, e⟩ | q
      · exact .inl ⟨List.mem_cons_of_mem _ q, e⟩
      · rcases List.mem_cons.mp q with q | q
        · injection q with q1 q2
          subst q1
          exact .inl ⟨by rw [show k = NameKind.free by simpa using hk]; exact List.mem_cons_self, q2⟩
        · exact .inr q
    · rcases clOf_mem r _ x c h with ⟨q, e⟩ | q
      · exact .inl ⟨List.mem_cons_of_mem _ q, e⟩
      · exact .inr q

structure CIn (cx cxc : Cx) (scope : Scope) : Prop where
  d : cxc.d = cx.d
  hd : cxc.hd = cx.hd
  comp : cxc.comp = true
  A : cxc.A = cx.A
  kn : KN cxc scope.names
noncomputable def inρ (scope : Scope) (ρ : AE) : AE := fun x => if scope.names.lookup x = some .free then ρ x else none

theorem lookup_nodup {β : Type} : ∀ {l : List (Str × β)}, (l.map (·.1)).Nodup → ∀ {x : Str} {c d : β}, (x, c) ∈ l → (x, d) ∈ l → c = d
  | [], _, _, _, _, h, _ => nomatch h
  | p :: r, hn, x, c, d, h1, h2 => by
    rw [List.map_cons, List.nodup_cons] at hn
    rcases List.mem_cons.mp h1 with q1 | q1 <;> rcases List.mem_cons.mp h2 with q2 | q2
    · rw [← q1] at q2; injection q2 with _ q2; exact q2.symm
    · exact absurd (by rw [← q1]; exact List.mem_map.mpr ⟨(x, d), q2, rfl⟩) hn.1
    · exact absurd (by rw [← q2]; exact List.mem_map.mpr ⟨(x, c), q1, rfl⟩) hn.1
    · exact lookup_nodup hn.2 q1 q2
theorem lookup_of_mem' {β : Type} : ∀ {l : List (Str × β)}, (l.map (·.1)).Nodup → ∀ {x : Str} {c : β}, (x, c) ∈ l → l.lookup x = some c
  | [], _, _, _, h => nomatch h
  | p :: r, hn, x, c, h1 => by
    rw [List.map_cons, List.nodup_cons] at hn
    obtain ⟨y, d⟩ := p
    rw [List.lookup_cons]
    cases hx : (x == y) with
    | true =>
      have : x = y := by simpa using hx
      subst this
      rcases List.mem_cons.mp h1 with q | q
      · injection q with _ q; rw [q]
      · exact absurd (List.mem_map_of_mem q) hn.1
    | false =>
      rcases List.mem_cons.mp h1 with q | q
      · injection q with q _; rw [q] at hx; simp at hx
      · exact lookup_of_mem' hn.2 q

section
variable {G : Gr} {cx : Cx} {ρ : AE} {σ : AH} {ex fz : Objs} {s : Shared} {A : Around} {E : Value → Shared → Prop}

theorem comp_enter {scope : Scope} {Q : Env → Shared → Prop} (S : Sat G cx ex ρ σ fz s.heap) (hkind : scope.kind = .function) (hnd : (scope.names.map (·.1)).Nodup)
    (hfree : ∀ x, (x, NameKind.free) ∈ scope.names → cx.env.kindOf x = some .free ∨ cx.env.kindOf x = some .cell)
    (h : ∀ cxc exc m ol oC h₁, CIn cx cxc scope → cxc.env = compEnv scope cx.env s.heap.objs.size → Inner G cx cxc ex exc σ s.heap m ol oC → Sat G cxc exc (inρ scope ρ) σ fz h₁ → (∀ x v, ρ x = some v → VarOk G cx fz m s.heap x v) →
      (∀ b o, s.heap.get? b = some o → h₁.get? b = some o) → (∀ c ∈ cxc.own, s.heap.objs.size < c) →
      Q (newEnv scope s.heap.objs.size cx.env.globals (cellsFrom (s.heap.objs.size + 1) scope.names (clOf cx.env scope.names [])) cx.env.qual none .none (some cx.env) builtinsNs) { s with heap := h₁ }) :
    wpAny (model G.prog G.w) A (newFunctionEnv scope cx.env.globals (clOf cx.env scope.names []) [] cx.env.qual none .none (some cx.env)) Q E s := by
  refine new_comp_env fun h₁ hke hns hcell hap => ?_
  obtain ⟨m, hnsm, hv⟩ := S.loc
  obtain ⟨oC, esC, epC, hoC, hCr⟩ := id hnsm
  obtain ⟨ol, hol, hOl⟩ := own_objs S
  generalize hCs : s.heap.objs.size = C at hns hcell hap ⊢
  let own := (cellsFrom (C + 1) scope.names []).map (·.2)
  let cxc : Cx := { A := cx.A, d := cx.d, hd := cx.hd, env := compEnv scope cx.env C, stk := if cx.comp then cx.stk else (cx.env, m) :: cx.stk, own := own, cl := ol ++ cx.cl, comp := true }
  let exc : Objs := ol ++ ((if cx.comp then [(cx.env.locals, oC)] else []) ++ ex)
  have I : Inner G cx cxc ex exc σ s.heap m ol oC := ⟨rfl, rfl, hol, hnsm, hoC, hOl⟩
  have freeNo : ∀ x, (x, NameKind.free) ∈ scope.names → (x, NameKind.cell) ∉ scope.names := fun x a b => by have := lookup_nodup hnd a b; cases this
  have freeCell : ∀ x, (x, NameKind.free) ∈ scope.names → ∃ c, cx.env.cells.lookup x = some c := fun x hx => S.ok.cs x (hfree x hx).symm
  have hlt : ∀ x c, cx.env.cells.lookup x = some c → c < C := fun x c hc => by
    rcases S.ok.ca x c hc with q | q
    · obtain ⟨v, o, ho, _⟩ := S.ownc c q
      exact hCs ▸ Heap.lt_size ho
    · obtain ⟨p, hp, rfl⟩ := List.mem_map.mp q
      exact hCs ▸ Heap.lt_size (S.exh p (S.clx p hp))
  have cl_old : ∀ x c, (x, c) ∈ clOf cx.env scope.names [] → (x, NameKind.free) ∈ scope.names ∧ cx.env.cells.lookup x = some c ∧ c < C := fun x c hm => by
    rcases clOf_mem _ _ x c hm with ⟨q, e⟩ | q
    · obtain ⟨c', hc'⟩ := freeCell x q
      rw [hc'] at e
      have e' : c = c' := e
      subst e'
      refine ⟨q, hc', ?_⟩
      exact hlt x _ hc'
    · cases q
  have hmemc : ∀ x c, (x, c) ∈ (compEnv scope cx.env C).cells → (x, c) ∈ cellsFrom (C + 1) scope.names [] ∨ (x, c) ∈ clOf cx.env scope.names [] := fun x c hm => by
    have hm' : (x, c) ∈ cellsFrom (C + 1) scope.names (clOf cx.env scope.names []) := hm
    rw [cellsFrom_split] at hm'
    exact List.mem_append.mp hm'
  have hnew : ∀ x c, (x, c) ∈ cellsFrom (C + 1) scope.names [] → (x, NameKind.cell) ∈ scope.names := fun x c hm => (cellsFrom_kind _ _ _ x c hm).resolve_left (fun q => nomatch q)
  have hkindOf : ∀ x, (compEnv scope cx.env C).kindOf x = (relabel scope cx.env).names.lookup x := fun _ => rfl
  have kn : KN cxc scope.names := by
    refine ⟨fun x k e hk => ?_, fun x e => ?_, fun x e c hc => ?_⟩
    · show (relabel scope cx.env).names.lookup x = _
      refine (relabel_kind e).trans ?_
      rw [if_neg]
      intro q
      simp only [Bool.and_eq_true, beq_iff_eq] at q
      exact hk q.1.1
    · show (relabel scope cx.env).names.lookup x = _ ∨ (relabel scope cx.env).names.lookup x = _
      rw [show (relabel scope cx.env).names.lookup x = _ from relabel_kind e]
      split
      · exact .inr rfl
      · exact .inl rfl
    · rcases hmemc x c (lookup_mem hc) with q | q
      · exact List.mem_map_of_mem (f := (·.2)) q
      · exact absurd (lookup_mem e) (freeNo x (cl_old x c q).1)
  have ok' : CxOk cxc := by
    refine ⟨?_, S.ok.depth, S.ok.units, S.ok.hd, hkind, (fun q => nomatch q), fun p hp => ?_, S.ok.gl, fun x hx => ?_, fun x c hc => ?_, fun x y c ho h1 h2 => ?_⟩
    · show cx.A.frames = some ((if cx.comp then cx.stk else (cx.env, m) :: cx.stk).map (·.1))
      rw [S.ok.frames]
      unfold Cx.frames
      cases cx.comp <;> rfl
    · have hp' : p ∈ (if cx.comp then cx.stk else (cx.env, m) :: cx.stk) := hp
      cases hc : cx.comp with
      | true => rw [hc] at hp'; exact S.ok.fs p hp'
      | false =>
        rw [hc] at hp'
        rcases List.mem_cons.mp hp' with rfl | hp'
        · exact ⟨S.ok.kf, S.ok.fr hc⟩
        · exact S.ok.fs p hp'
    · have hx' : (relabel scope cx.env).names.lookup x = some .cell ∨ (relabel scope cx.env).names.lookup x = some .free := hx
      refine Option.isSome_iff_exists.mp ?_
      show ((cellsFrom (C + 1) scope.names (clOf cx.env scope.names [])).lookup x).isSome = true
      cases e : scope.names.lookup x with
      | none =>
        rw [show (relabel scope cx.env).names.lookup x = _ from relabel_none e] at hx'
        rcases hx' with q | q <;> cases q
      | some k =>
        rw [show (relabel scope cx.env).names.lookup x = _ from relabel_kind e] at hx'
        by_cases hk : k = .free
        · subst hk
          exact cellsFrom_some _ _ _ (.inr (clOf_some _ _ _ (.inl (lookup_mem e))))
        · rw [if_neg (by
            intro q
            simp only [Bool.and_eq_true, beq_iff_eq] at q
            exact hk q.1.1)] at hx'
          rcases hx' with q | q
          · exact cellsFrom_some _ _ _ (.inl (e.trans q))
          · cases q; exact absurd rfl hk
    · rcases hmemc x c (lookup_mem hc) with q | q
      · exact .inl (List.mem_map_of_mem (f := (·.2)) q)
      · refine .inr ?_
        show c ∈ (ol ++ cx.cl).map (·.1)
        rw [List.map_append, List.mem_append]
        rcases S.ok.ca x c (cl_old x c q).2.1 with r | r
        · rw [← hol] at r; exact .inl r
        · exact .inr r
    · obtain ⟨p, hp, rfl⟩ := List.mem_map.mp ho
      have big := (hcell p.1 p.2 hp).2
      rcases hmemc x _ (lookup_mem h1) with q1 | q1
      · rcases hmemc y _ (lookup_mem h2) with q2 | q2
        · exact pair_inj hap q1 q2
        · exact (Nat.lt_asymm (cl_old _ _ q2).2.2 big).elim
      · exact (Nat.lt_asymm (cl_old _ _ q1).2.2 big).elim
  have hgt : ∀ c ∈ cxc.own, C < c := fun c hc => by
    obtain ⟨p, hp, rfl⟩ := List.mem_map.mp hc
    exact (hcell p.1 p.2 hp).2
  subst hCs
  refine h cxc exc m ol oC h₁ ⟨rfl, rfl, rfl, rfl, kn⟩ rfl I ?_ hv hke hgt
  refine S.enter hke I ok' (Nat.le_refl _) (fun c hc => Nat.le_of_lt (hgt c hc)) (fun q => Nat.lt_irrefl _ (hgt _ q)) (List.pairwise_map.mpr hap) (fun c hc => ?_) (fun p hp => ?_) ⟨fun _ => none, hns, fun x v e => ?_⟩
  · obtain ⟨p, hp, rfl⟩ := List.mem_map.mp hc
    exact ⟨_, (hcell p.1 p.2 hp).1⟩
  · rcases List.mem_append.mp hp with hp | hp
    · exact List.mem_append_left _ hp
    · exact List.mem_append_right _ (List.mem_append_right _ (S.clx p hp))
  · unfold inρ at e
    split at e
    · rename_i hxf
      have hxm := lookup_mem hxf
      obtain ⟨c, hc⟩ := Option.isSome_iff_exists.mp (cellsFrom_some (x := x) scope.names (s.heap.objs.size + 1) (clOf cx.env scope.names []) (.inr (clOf_some _ _ _ (.inl hxm))))
      have hcc : cx.env.cells.lookup x = some c := by
        rcases hmemc x c (lookup_mem hc) with q | q
        · exact absurd (hnew x c q) (freeNo x hxm)
        · exact (cl_old x c q).2.1
      refine .inr (.inr ⟨kn.fr x hxf, c, ?_⟩)
      rcases hv x v e with ⟨k1, _⟩ | ⟨k1, c', V', hc', ho, ⟨o, hio, hid⟩, r'⟩ | ⟨k1, c', o, V', hc', ho, hd, r'⟩
      · rcases hfree x hxm with q | q <;> rw [k1] at q <;> cases q
      · rw [hcc] at hc'
        cases hc'
        rw [← hol] at ho
        obtain ⟨p, hp, hpe⟩ := List.mem_map.mp ho
        have := hOl p hp
        rw [hpe, hio] at this
        cases this
        exact ⟨p.2, V', hc, by rw [← hpe]; exact List.mem_append_left _ hp, hid, r'⟩
      · rw [hcc] at hc'
        cases hc'
        exact ⟨o, V', hc, List.mem_append_right _ ho, hd, r'⟩
    · cases e

/-- what is off the caller's state is off the comprehension's -/
theorem Inner.off_in {cxc : Cx} {exc : Objs} {h : Heap} {m : Str → Option Value} {ol : Objs} {oC : Obj} (I : Inner G cx cxc ex exc σ h m ol oC) {a : Addr} (O : Off G cx ex σ fz a) (hL : a ≠ cxc.env.locals) (ho : a ∉ cxc.own) : Off G cxc exc σ fz a := by
  have hm := O.m
  unfold Cx.mut at hm
  simp only [List.mem_cons, List.mem_append, not_or] at hm
  refine ⟨fun q => ?_, O.f, fun q => ?_, O.b⟩
  · unfold Cx.mut at q
    simp only [List.mem_cons, List.mem_append] at q
    rcases q with q | (q | q) | q
    · exact hL q
    · rw [I.stk] at q
      cases hc : cx.comp with
      | true => rw [hc] at q; exact hm.2.1.1 q
      | false =>
        rw [hc] at q
        simp only [Bool.false_eq_true, if_false, List.map_cons, List.mem_cons] at q
        rcases q with q | q
        · exact hm.1 q
        · exact hm.2.1.1 q
    · exact ho q
    · exact hm.2.2 q
  · rw [I.ex] at q
    unfold keys at q
    rw [List.map_append, List.map_append, List.mem_append, List.mem_append] at q
    rcases q with q | q | q
    · exact hm.2.1.2 (I.olk ▸ q)
    · cases hc : cx.comp with
      | true => rw [hc] at q; exact hm.1 (by simpa using q)
      | false => rw [hc] at q; simp at q
    · exact O.x q

/-- the comprehension's own names are off the caller's state -/
theorem Inner.locals_off {cxc : Cx} {exc fz' : Objs} {σ' : AH} {h h' : Heap} {ρ' : AE} {m : Str → Option Value} {ol : Objs} {oC : Obj} (I : Inner G cx cxc ex exc σ h m ol oC) (S : Sat G cx ex ρ σ fz h) (S' : Sat G cxc exc ρ' σ' fz' h') (hL : h.objs.size ≤ cxc.env.locals) : Off G cx ex σ' fz' cxc.env.locals := by
  have nd := S'.nod
  unfold Cx.mut at nd
  rw [List.nodup_cons] at nd
  have hm : cxc.env.locals ∈ cxc.mut σ' := by unfold Cx.mut; exact List.mem_cons_self
  have old : ∀ a ∈ cx.mut σ, a ≠ cxc.env.locals := fun a ha q => by
    obtain ⟨o, ho⟩ := S.mut_there ha
    exact Nat.lt_irrefl _ (Nat.lt_of_lt_of_le (q ▸ Heap.lt_size ho) hL)
  refine ⟨fun q => ?_, S'.apf _ hm, fun q => ?_, (S'.new _ hm).1⟩
  · unfold Cx.mut at q
    simp only [List.mem_cons, List.mem_append] at q
    rcases q with q | q | q
    · exact old _ (by unfold Cx.mut; exact List.mem_cons_self) q.symm
    · exact old _ (by unfold Cx.mut; simp only [List.mem_cons, List.mem_append]; exact .inr (.inl q)) rfl
    · exact nd.1 (List.mem_append_right _ q)
  · obtain ⟨p, hp, e⟩ := List.mem_map.mp q
    exact Nat.lt_irrefl _ (Nat.lt_of_lt_of_le (e ▸ Heap.lt_size (S.exh p hp)) hL)
end
end Mine
namespace Mine
open PySem PySem.W PyProof.Rows PyProof.Rows.LCg PySem.Calls PySem.Spec

theorem isStr_refl (x : Str) (t : Tok) : Value.isStrOf x (.str x t) = true := by simp [Value.isStrOf]

noncomputable def nameOf : Expr → List Str
  | .Name x _ => [x]
  | _ => []
noncomputable def tNames : Expr → List Str
  | .Tuple es _ _ => es.flatMap nameOf
  | e => nameOf e
theorem upd_keep {ρ ρ₀ : AE} {x : Str} {v : AV} (h : ρ₀ x = none) (k : ∀ y u, ρ₀ y = some u → ρ y = some u) : ∀ y u, ρ₀ y = some u → upd ρ x v y = some u := fun y u e => by
  unfold upd
  by_cases hy : y = x
  · subst hy; rw [h] at e; cases e
  · rw [if_neg hy]; exact k y u e
theorem TB.keep {cx : Cx} {t v ρ ρ'} (T : TB cx t v ρ ρ') (h : ∀ y ∈ tNames t, ρ y = none) : ∀ x u, ρ x = some u → ρ' x = some u := by
  cases T with
  | name a => exact upd_keep (h _ List.mem_cons_self) fun _ _ e => e
  | two a b => exact upd_keep (h _ (.tail _ (.head _))) (upd_keep (h _ (.head _)) fun _ _ e => e)
  | three a b c => exact upd_keep (h _ (.tail _ (.tail _ (.head _)))) (upd_keep (h _ (.tail _ (.head _))) (upd_keep (h _ (.head _)) fun _ _ e => e))
  | four a b c d => exact upd_keep (h _ (.tail _ (.tail _ (.tail _ (.head _))))) (upd_keep (h _ (.tail _ (.tail _ (.head _)))) (upd_keep (h _ (.tail _ (.head _))) (upd_keep (h _ (.head _)) fun _ _ e => e)))
theorem Sat.forget {G cx ex σ fz h} {ρ ρ' : AE} (S : Sat G cx ex ρ' σ fz h) (k : ∀ x v, ρ x = some v → ρ' x = some v) : Sat G cx ex ρ σ fz h := by
  obtain ⟨m, hn, hv⟩ := S.loc
  exact ⟨S.ok, S.clx, S.base, S.stk, S.ownc, S.fzh, S.exh, S.live, ⟨m, hn, fun x v e => hv x v (k x v e)⟩, S.nod, S.new, S.apf, S.apx, S.xf⟩

section
variable {prog : Program} {w : World} {A : Around} {E : Value → Shared → Prop} {R : Result → Shared → Prop} {s : Shared}
/-! the parts of a comprehension's turn -/
noncomputable def CErr (prog : Program) (w : World) (A : Around) (env : Env) (R : Result → Shared → Prop) : Value → Shared → Prop := notedBy (model prog w) A env fun e s' => R (.error e) s'
noncomputable def CNext (I : Nat → Shared → Prop) (n : Nat) (s : Shared) : Prop := ∃ m, m < n ∧ I m s
noncomputable def CElt (prog : Program) (w : World) (A : Around) (env : Env) (R : Result → Shared → Prop) (elt : Expr) (acc : Value) (I : Nat → Shared → Prop) (n : Nat) (s₃ : Shared) : Prop :=
  wpAny (model prog w) A (eval elt env) (fun x s₄ => wpAny (model prog w) A (call (.builtin "list.append") [acc, x]) (fun _ s₅ => CNext I n s₅) (CErr prog w A env R) s₄) (CErr prog w A env R) s₃
noncomputable def CTest (prog : Program) (w : World) (A : Around) (env : Env) (R : Result → Shared → Prop) (elt : Expr) (ifs : List Expr) (acc : Value) (I : Nat → Shared → Prop) (n : Nat) (s₂ : Shared) : Prop :=
  wpAny (model prog w) A (forIn ifs true fun c r => if r = true then do let ok ← isTrue c env (eval c env); pure (ForInStep.yield ok) else pure (ForInStep.yield r)) (fun ok s₃ => if ok = true then CElt prog w A env R elt acc I n s₃ else CNext I n s₃) (CErr prog w A env R) s₂
noncomputable def CItem (prog : Program) (w : World) (A : Around) (env : Env) (R : Result → Shared → Prop) (elt target : Expr) (ifs : List Expr) (acc : Value) (I : Nat → Shared → Prop) (n : Nat) (v : Value) (s₁ : Shared) : Prop :=
  wpAny (model prog w) A (assign target env v) (fun _ s₂ => CTest prog w A env R elt ifs acc I n s₂) (CErr prog w A env R) s₁
noncomputable def CTurn (prog : Program) (w : World) (A : Around) (env : Env) (R : Result → Shared → Prop) (elt target : Expr) (ifs : List Expr) (it acc : Value) (I : Nat → Shared → Prop) (n : Nat) (r : Option Value) (s₁ : Shared) : Prop :=
  match r with
  | none => R (.ok .next) s₁
  | some v => wpAny (model prog w) A (letOwnedTupleGo target it v) (fun _ s₁' => CItem prog w A env R elt target ifs acc I n v s₁') (CErr prog w A env R) s₁
theorem compLoop_any {elt target iter : Expr} {ifs : List Expr} {scope : Scope} {pos : Pos} {it acc : Value} {env : Env} (I : Nat → Shared → Prop)
    (turn : ∀ n s, I n s → wpAny (model prog w) A (pyNext it) (CTurn prog w A env R elt target ifs it acc I n) (CErr prog w A env R) s)
    (n : Nat) (h : I n s) :
    codeAny (model prog w) A (.compLoop (.ListComp elt [⟨target, iter, ifs, 0⟩] scope pos) 0 it acc env) R s := by
  refine codeAny_loop rfl I (fun n s hI => ?_) n h
  show wpAny _ A ((compTurn (.ListComp elt [⟨target, iter, ifs, 0⟩] scope pos) 0 it acc env).onRaise (fun x => do noteFrame x env; theTreesLotGoes x)) _ _ s
  refine wpAny_noted ?_
  rw [compTurn_list]
  refine wpAny_bind (wpAny_standAt (wpAny_bind (wpAny_mono (turn n s hI) (fun r s₁ h₁ => ?_) fun _ _ h' => h')))
  cases r with
  | none => exact wpAny_pure h₁
  | some v =>
    refine wpAny_bind (wpAny_mono h₁ (fun _ s₁' h₁' => ?_) fun _ _ h' => h')
    refine wpAny_bind (wpAny_mono h₁' (fun _ s₂ h₂ => wpAny_bind (wpAny_mono h₂ (fun ok s₃ h₃ => ?_) fun _ _ h' => h')) fun _ _ h' => h')
    cases ok with
    | false => exact wpAny_pure ⟨rfl, h₃⟩
    | true =>
      exact wpAny_bind (wpAny_bind (wpAny_mono h₃ (fun x s₄ h₄ => wpAny_bind (wpAny_mono h₄ (fun _ s₅ h₅ => wpAny_pure (wpAny_pure ⟨rfl, h₅⟩)) fun _ _ h' => h')) fun _ _ h' => h'))
end

noncomputable def ElT (G : Gr) (cx : Cx) (σ : AH) (elt : Expr) (ρ : AE) (y : AV) : Prop := Ev G cx ρ σ elt (fun v ρ' σ' => v = y ∧ ρ' = ρ ∧ σ' = σ) (fun _ _ _ => False)
noncomputable def CoT {β : Type} (G : Gr) (cx : Cx) (ρ₀ : AE) (σ : AH) (t : Expr) (ifs : List Expr) (K : AE → β → Prop) (x : AV) (r : Option β) : Prop :=
  ∃ ρ', TB cx t x ρ₀ ρ' ∧ match ifs with
    | [] => ∃ y, r = some y ∧ K ρ' y
    | [c] => ∃ b, Ts G cx ρ' σ c (fun b' ρ'' σ'' => b' = b ∧ ρ'' = ρ' ∧ σ'' = σ) (fun _ _ _ => False) ∧ (if b = true then ∃ y, r = some y ∧ K ρ' y else r = none)
    | _ => False
theorem coT0 {β : Type} {G cx ρ₀ ρ' σ t} {K : AE → β → Prop} {x : AV} {y : β} (T : TB cx t x ρ₀ ρ') (k : K ρ' y) : CoT G cx ρ₀ σ t [] K x (some y) := ⟨ρ', T, y, rfl, k⟩
theorem coT1 {β : Type} {G cx ρ₀ ρ' σ t c b} {K : AE → β → Prop} {x : AV} {y : β} (T : TB cx t x ρ₀ ρ') (h : Ts G cx ρ' σ c (fun b' ρ'' σ'' => b' = b ∧ ρ'' = ρ' ∧ σ'' = σ) (fun _ _ _ => False)) (k : b = true → K ρ' y) :
    CoT G cx ρ₀ σ t [c] K x (if b = true then some y else none) := ⟨ρ', T, b, h, by
  cases b with
  | true => exact ⟨y, rfl, k rfl⟩
  | false => rfl⟩

section
variable {G : Gr} {cx : Cx} {ρ : AE} {σ : AH} {ex fz : Objs} {s : Shared} {A : Around} {E : Value → Shared → Prop} {R : Result → Shared → Prop}

/-- the test of a turn -/
theorem turn_tests {β : Type} {ifs : List Expr} {K : AE → β → Prop} {r : Option β} {ρ' : AE} {Q : Bool → Shared → Prop} {EE : Value → Shared → Prop} (g : GOk G) (S : Sat G cx ex ρ' σ fz s.heap)
    (h : match ifs with
      | [] => ∃ y, r = some y ∧ K ρ' y
      | [c] => ∃ b, Ts G cx ρ' σ c (fun b' ρ'' σ'' => b' = b ∧ ρ'' = ρ' ∧ σ'' = σ) (fun _ _ _ => False) ∧ (if b = true then ∃ y, r = some y ∧ K ρ' y else r = none)
      | _ => False)
    (k : ∀ b fz' h' tk', (∀ p ∈ fz, p ∈ fz') → Sat G cx ex ρ' σ fz' h' → (if b = true then ∃ y, r = some y ∧ K ρ' y else r = none) → Q b { s with heap := h', toks := tk' }) :
    wpAny (model G.prog G.w) cx.A (forIn ifs true fun c r => if r = true then do let ok ← isTrue c cx.env (eval c cx.env); pure (ForInStep.yield ok) else pure (ForInStep.yield r)) Q EE s := by
  match ifs, h with
  | [], h => exact wpAny_tests_nil (k true fz s.heap s.toks (fun _ h => h) S h)
  | [c], ⟨b, hT, hb⟩ =>
    refine wpAny_tests_one (hT.run g S .nil (fun b' a ρ'' σ'' fz' h' tk' k' S' r' q' => ?_) (fun _ _ _ _ _ _ _ _ _ _ q => q.elim))
    obtain ⟨rfl, rfl, rfl⟩ := q'
    cases r'
    exact k _ _ _ _ k' S' hb

noncomputable def CInv {α : Type} (G : Gr) (cx : Cx) (ex : Objs) (ρ : AE) (σ : AH) (fz : Objs) (s : Shared) (l : List α) (hx : α → Option AV) (St : Nat → Heap → Prop) (I D : Addr) (n : Nat) (s' : Shared) : Prop :=
  ∃ i fz' h' tk' vs n', s' = { s with heap := h', toks := tk' } ∧ n = l.length - i ∧ i ≤ l.length ∧ Sat G cx ex ρ σ fz' h' ∧ St i h' ∧ Off G cx ex σ fz' I ∧ Off G cx ex σ fz' D ∧ (∀ p ∈ fz, p ∈ fz') ∧
      h'.get? D = some { cls := .type "list", data := .seq vs n' } ∧ RelL G fz' ((l.take i).filterMap hx) vs.toList
theorem comp_list_loop {α : Type} {elt t iter : Expr} {ifs : List Expr} {scope : Scope} {pos : Pos} {I D : Addr} {fp : List Addr} {P : Nat → Value → Prop} {St : Nat → Heap → Prop} (l : List α) (gx : α → AV) (hx : α → Option AV) {n₀ : Nat}
    (g : GOk G) (turns : ∀ a ∈ l, CoT G cx ρ σ t ifs (ElT G cx σ elt) (gx a) (hx a)) (hρ : ∀ y ∈ tNames t, ρ y = none) (hd : cx.A.handled = none) (hlen : l.length ≤ 16000000)
    (It : Iter G cx.A fz (l.map gx) I fp P St) (S : Sat G cx ex ρ σ fz s.heap) (st : St 0 s.heap) (oI : Off G cx ex σ fz I) (oD : Off G cx ex σ fz D) (hne : D ≠ I) (hD : s.heap.get? D = some { cls := .type "list", data := .seq #[] n₀ })
    (fin : ∀ h' tk' fz' vs n, (∀ p ∈ fz, p ∈ fz') → Sat G cx ex ρ σ fz' h' → Off G cx ex σ fz' D → h'.get? D = some { cls := .type "list", data := .seq vs n } → RelL G fz' (l.filterMap hx) vs.toList → R (.ok .next) { s with heap := h', toks := tk' }) :
    codeAny (model G.prog G.w) cx.A (.compLoop (.ListComp elt [⟨t, iter, ifs, 0⟩] scope pos) 0 (.ref I) (.ref D) cx.env) R s := by
  refine compLoop_any (CInv G cx ex ρ σ fz s l hx St I D) ?_ l.length
    ⟨0, fz, s.heap, s.toks, #[], n₀, rfl, rfl, Nat.zero_le _, S, st, oI, oD, fun _ h => h, hD, .nil⟩
  rintro n s' ⟨i, fz', h', tk', vs, n', rfl, rfl, hi, S', st', oI', oD', kk, hD', rl⟩
  have lenx : (l.map gx).length = l.length := List.length_map ..
  rcases Nat.lt_or_ge i l.length with hlt | hge
  · refine It.W.item i _ _ _ (by rw [lenx]; exact hlt) st' fun v h₂ tk₂ hv st₂ k₂ => ?_
    have S₂ : Sat G cx ex ρ σ fz' h₂ := S'.keep fun b o nb e => k₂ b o (fun q => nb (by rw [List.mem_singleton.mp q]; exact oI')) e
    obtain ⟨x, hxe, rx⟩ := It.val i v hv
    have ha : l[i]? = some l[i] := List.getElem?_eq_getElem hlt
    have hxx : x = gx l[i] := by rw [List.getElem?_map, ha] at hxe; cases hxe; rfl
    subst hxx
    obtain ⟨ρ', T, hT⟩ := turns l[i] (List.getElem_mem hlt)
    obtain ⟨oI₂, nI, hoI, hcI, hnI⟩ := It.obj _ _ st₂
    have hD₂ : h₂.get? D = some { cls := .type "list", data := .seq vs n' } := k₂ D _ (fun q => hne (List.mem_singleton.mp q)) hD'
    have S₃ := (S₂.park hoI oI'.m oI'.f).park hD₂ oD'.m oD'.f
    refine owned_none hoI hcI hnI ?_
    refine assign_T T S₃ (.inl hd) (rx.mono kk) fun h₃ tk₃ S₄ => ?_
    have back : ∀ {fz'' h''}, (∀ p ∈ fz', p ∈ fz'') → Sat G cx ((D, { cls := .type "list", data := .seq vs n' }) :: (I, oI₂) :: ex) ρ' σ fz'' h'' →
        Sat G cx ex ρ σ fz'' h'' ∧ St (i + 1) h'' ∧ Off G cx ex σ fz'' I ∧ Off G cx ex σ fz'' D ∧ h''.get? D = some { cls := .type "list", data := .seq vs n' } := fun k S'' => by
      obtain ⟨v1, v2, v3, v4⟩ := S''.unpark (fun p hp => List.mem_cons_of_mem _ (S₂.clx p hp))
      obtain ⟨u1, u2, u3, u4⟩ := v1.unpark S₂.clx
      refine ⟨u1.forget (T.keep hρ), It.W.frame _ _ _ st₂ fun b hb o e => ?_, ⟨u3, u4, oI'.x, oI'.b⟩, ⟨v3, v4, oD'.x, oD'.b⟩, v2⟩
      rcases It.fpk b hb with rfl | hb
      · rw [hoI] at e; cases e; exact u2
      · obtain ⟨p, hp, rfl⟩ := List.mem_map.mp hb
        have := S₂.fzh p (kk p hp)
        rw [e] at this; cases this
        exact u1.fzh p (k p (kk p hp))
    have take : (l.take (i + 1)).filterMap hx = (l.take i).filterMap hx ++ (hx l[i]).toList := by
      rw [List.take_add_one, ha, List.filterMap_append]
      cases e : hx l[i] <;> simp [e]
    have hvs : vs.size ≤ 16000000 := by
      have e1 := rl.length
      have e2 := List.length_filterMap_le hx (l.take i)
      rw [Array.length_toList] at e1
      rw [List.length_take] at e2
      omega
    refine turn_tests g S₄ hT fun b fz₅ h₅ tk₅ k₅ S₅ hb => ?_
    cases b with
    | true =>
      simp only [if_true] at hb ⊢
      obtain ⟨y, hy, hel⟩ := hb
      refine hel.run g S₅ .nil (fun v' V' ρ₆ σ₆ fz₆ h₆ tk₆ k₆ S₆ r₆ q₆ => ?_) (fun _ _ _ _ _ _ _ _ _ _ q => q.elim)
      obtain ⟨rfl, rfl, rfl⟩ := q₆
      obtain ⟨b1, b2, b3, b4, b5⟩ := back (fun p hp => k₆ p (k₅ p hp)) S₆
      refine append_at b5 (fun h₇ hs₇ hD₇ => ?_) (by have : sizeLine = 16777216 := rfl; omega)
      refine ⟨l.length - (i + 1), by omega, i + 1, fz₆, h₇, tk₆, vs.push V', n' + 1, rfl, rfl, hlt, b1.but hs₇.extBut b4, It.W.frame _ _ _ b2 fun b hb o e => hs₇.extBut b o (fun q => ?_) e, b3, b4, fun p hp => k₆ p (k₅ p (kk p hp)), hD₇, ?_⟩
      · subst q
        rcases It.fpk b hb with q | q
        · exact hne q
        · obtain ⟨p, hp, e⟩ := List.mem_map.mp q
          exact b4.f (List.mem_map.mpr ⟨p, k₆ p (k₅ p (kk p hp)), e⟩)
      · rw [take, hy, Array.toList_push]
        exact (rl.mono fun p hp => k₆ p (k₅ p hp)).append (.one r₆)
    | false =>
      simp only [Bool.false_eq_true, if_false] at hb ⊢
      obtain ⟨b1, b2, b3, b4, b5⟩ := back k₅ S₅
      refine ⟨l.length - (i + 1), by omega, i + 1, fz₅, h₅, tk₅, vs, n', rfl, rfl, hlt, b1, b2, b3, b4, fun p hp => k₅ p (kk p hp), b5, ?_⟩
      rw [take, hb]
      simpa using rl.mono k₅
  · have hi' : i = l.length := Nat.le_antisymm hi hge
    subst hi'
    rw [← lenx] at st'
    refine It.W.done _ _ _ st' fun h₂ tk₂ k₂ => ?_
    have S₂ : Sat G cx ex ρ σ fz' h₂ := S'.keep fun b o nb e => k₂ b o (fun q => nb (by rw [List.mem_singleton.mp q]; exact oI')) e
    refine fin h₂ tk₂ fz' vs n' kk S₂ oD' (k₂ D _ (fun q => hne (List.mem_singleton.mp q)) hD') ?_
    rwa [List.take_length] at rl

/-! the same for a table -/
noncomputable def put (es : List (Str × AV)) (k : Str) (v : AV) : List (Str × AV) := if es.any (fun e => e.1 = k) then es.map (fun e => if e.1 = k then (e.1, v) else e) else es ++ [(k, v)]
theorem RelE.any {fz es kvs} (r : RelE G fz es kvs) (p : Str → Bool) : kvs.any (fun e => p e.1) = es.any (fun e => p e.1) :=
  RelE.ind (P := fun (es : List (Str × AV)) (kvs : List (Str × Value)) => kvs.any (fun e => p e.1) = es.any (fun e => p e.1)) rfl (fun {k} _ _ _ _ _ _ ih => congrArg (p k || ·) ih) r
theorem RelE.map_put {fz es kvs} {k : Str} {v : AV} {V : Value} (hv : Rel G fz v V) (r : RelE G fz es kvs) : RelE G fz (es.map fun e => if e.1 = k then (e.1, v) else e) (kvs.map fun e => if e.1 = k then (e.1, V) else e) :=
  RelE.ind (P := fun (es : List (Str × AV)) (kvs : List (Str × Value)) => RelE G fz (es.map fun e => if e.1 = k then (e.1, v) else e) (kvs.map fun e => if e.1 = k then (e.1, V) else e)) .nil (fun {k'} _ _ _ _ h _ ih => by
    rw [List.map_cons, List.map_cons]
    by_cases hk : k' = k
    · rw [if_pos hk, if_pos hk]; exact .cons hv ih
    · rw [if_neg hk, if_neg hk]; exact .cons h ih) r
theorem RelE.append {fz es kvs es' kvs'} (r : RelE G fz es kvs) (r' : RelE G fz es' kvs') : RelE G fz (es ++ es') (kvs ++ kvs') := RelE.ind (P := fun es kvs => RelE G fz (es ++ es') (kvs ++ kvs')) r' (fun h _ ih => .cons h ih) r
theorem RelE.put {fz es kvs} {k : Str} {v : AV} {V : Value} (r : RelE G fz es kvs) (hv : Rel G fz v V) : RelE G fz (put es k v) (stored kvs k V) := by
  unfold Mine.put stored
  have e := r.any fun x => decide (x = k)
  rw [e]
  split
  · exact RelE.map_put hv r
  · exact r.append (.cons hv .nil)
theorem froze {h' : Heap} {fz' : Objs} {D C : Addr} {vs : Array Value} {n : Nat} {l : List AV} (S' : Sat G cx ex ρ σ fz' h') (oD : Off G cx ex σ fz' D) (hD : h'.get? D = some { cls := .type "list", data := .seq vs n }) (rl : RelL G fz' l vs.toList) (oC : Off G cx ex σ fz' C) (hCD : C ≠ D) :
    Sat G cx ex ρ σ ((D, { cls := .type "list", data := .seq vs n }) :: fz') h' ∧ Rel G ((D, { cls := .type "list", data := .seq vs n }) :: fz') (.lst l) (.ref D) ∧ Off G cx ex σ ((D, { cls := .type "list", data := .seq vs n }) :: fz') C :=
  ⟨S'.freeze hD oD.m oD.x, .lst List.mem_cons_self rfl rfl (rl.mono fun p hp => List.mem_cons_of_mem _ hp), ⟨oC.m, fun q => by
    rcases List.mem_cons.mp q with q | q
    · exact hCD q
    · exact oC.f q, oC.x, oC.b⟩⟩

/-- a comprehension that makes a list -/
theorem comp_list {use : Option (Value → Sem Unit)} {α : Type} {elt t iter : Expr} {ifs : List Expr} {scope : Scope} {pos fpos : Pos} {EQ : AX → AE → AH → Prop} {QQ : Value → Shared → Prop} {EE : Value → Shared → Prop} (l : List α) (gx : α → AV) (hx : α → Option AV)
    {names : List (Str × NameKind)} (K : KN cx names) (hd : cx.hd = none) (hkind : (scope.kind == .function && decide (scope.names.map (·.1)).Nodup) = true)
    (hfree : (scope.names.all fun p => p.2 != .free || (names.lookup p.1 == some .free || names.lookup p.1 == some .cell)) = true) (htn : ((tNames t).all fun y => !(scope.names.lookup y == some .free)) = true)
    (hlen : l.length ≤ 16000000) (hs : ∀ x, foldedSetIterable iter cx.env x = pure x)
    (g : GOk G) (S : Sat G cx ex ρ σ fz s.heap)
    (h : Ev G cx ρ σ iter (fun v ρ₁ σ₁ => Itr v (l.map gx) ∧ ρ₁ = ρ ∧ σ₁ = σ ∧ ∀ cxc, CIn cx cxc scope → ∀ a ∈ l, CoT G cxc (inρ scope ρ) σ t ifs (ElT G cxc σ elt) (gx a) (hx a)) EQ)
    (hE : Exn G cx ex fz s EQ EE)
    (fin : ∀ h' tk' fz' D C oC m vs n, (∀ p ∈ fz, p ∈ fz') → Sat G cx ex ρ σ fz' h' → Off G cx ex σ fz' D → G.hb.objs.size ≤ D → h'.get? D = some { cls := .type "list", data := .seq vs n } → RelL G fz' (l.filterMap hx) vs.toList → h'.get? C = some oC → h'.Ns C m → Off G cx ex σ fz' C → C ≠ D →
      compPost (model G.prog G.w) cx.A EE use QQ (.ref D) C (.ok .next) { s with heap := h', toks := tk' }) :
    wpAny (model G.prog G.w) cx.A (comprehension (.ListComp elt [⟨t, iter, ifs, 0⟩] scope pos) scope cx.env fpos (newList []) false (eval iter cx.env) use) QQ EE s := by
  rw [Bool.and_eq_true, decide_eq_true_iff] at hkind
  obtain ⟨hk1, hk2⟩ := hkind
  have hk1 : scope.kind = .function := by simpa using hk1
  have hA : cx.A.handled = none := S.ok.hd.trans hd
  have hfree' : ∀ x, (x, NameKind.free) ∈ scope.names → cx.env.kindOf x = some .free ∨ cx.env.kindOf x = some .cell := fun x hx => by
    have := List.all_eq_true.mp hfree _ hx
    simp only [bne_self_eq_false, Bool.false_or, Bool.or_eq_true, beq_iff_eq] at this
    rcases this with q | q
    · exact K.fr x q
    · exact .inr (K.kd x _ q (by decide))
  have hclos : closureFor scope cx.env = pure (clOf cx.env scope.names []) := closureFor_eq fun x hx => S.ok.cs x (hfree' x hx).symm
  refine wpAny_comprehension_free (use := use) rfl hs hclos hk1 (fun x hx he => lookup_of_mem' hk2 (he ▸ hx)) ?_
  refine h.run g S .nil (fun v V ρ₁ σ₁ fz₁ h₁ t₁ k₁ S₁ r₁ q₁ => ?_) hE
  obtain ⟨hI, rfl, rfl, turns⟩ := q₁
  generalize hs₁ : ({ s with heap := h₁, toks := t₁ } : Shared) = s₁
  have hh₁ : s₁.heap = h₁ := by rw [← hs₁]
  rw [← hh₁] at S₁
  refine iter_start S₁ hA hI r₁ fun oI fp P St It st => ?_
  have offI := S₁.size_off (Nat.le_refl s₁.heap.objs.size)
  have S₂ := S₁.push oI
  have hIlt : s₁.heap.objs.size < (s₁.heap.push oI).objs.size := by rw [Heap.size_push]; exact Nat.lt_succ_self _
  generalize s₁.heap.objs.size = I at It st offI hIlt ⊢
  generalize s₁.heap.push oI = H₂ at st S₂ hIlt ⊢
  refine wpAny_newObj_type ?_
  have offD := S₂.size_off (Nat.le_refl H₂.objs.size)
  have S₃ := S₂.push { cls := .type "list", data := .seq ([] : List Value).toArray }
  have hD : (H₂.push { cls := .type "list", data := .seq ([] : List Value).toArray }).get? H₂.objs.size = some { cls := .type "list", data := .seq ([] : List Value).toArray } := Heap.get?_push_size _ rfl
  have hDlt : H₂.objs.size < (H₂.push { cls := .type "list", data := .seq ([] : List Value).toArray }).objs.size := by rw [Heap.size_push]; exact Nat.lt_succ_self _
  have st₃ : St 0 (H₂.push { cls := .type "list", data := .seq ([] : List Value).toArray }) := It.W.frame _ _ _ st fun b _ o e => Heap.get?_push_of_some _ e
  generalize H₂.push { cls := .type "list", data := .seq ([] : List Value).toArray } = H₃ at S₃ hD hDlt st₃ ⊢
  have hDI : H₂.objs.size ≠ I := (Nat.ne_of_gt hIlt)
  have hIlt₃ : I < H₃.objs.size := Nat.lt_trans hIlt hDlt
  have hDbig : G.hb.objs.size ≤ H₂.objs.size := by
    obtain ⟨o, ho⟩ := S₂.mut_there (a := cx.env.locals) (by unfold Cx.mut; exact List.mem_cons_self)
    exact Nat.le_trans (S₂.new _ (by unfold Cx.mut; exact List.mem_cons_self)).2 (Nat.le_of_lt (Heap.lt_size ho))
  generalize H₂.objs.size = D at offD hD hDlt hDI hDbig ⊢
  refine comp_enter (s := { s₁ with heap := H₃ }) S₃ hk1 hk2 hfree' fun cxc exc m ol oC h₄ ci he In S₄ hv hke hgt => ?_
  have hL : cxc.env.locals = H₃.objs.size := by rw [he]; rfl
  have inI := In.off_in offI (by rw [hL]; exact Nat.ne_of_lt hIlt₃) (fun q => Nat.lt_asymm (hgt _ q) hIlt₃)
  have inD := In.off_in offD (by rw [hL]; exact Nat.ne_of_lt hDlt) (fun q => Nat.lt_asymm (hgt _ q) hDlt)
  have hAc : cxc.A.handled = none := by rw [ci.A]; exact hA
  have It' : Iter G cxc.A fz₁ (l.map gx) I fp P St := by rw [ci.A]; exact It
  have st₄ : St 0 h₄ := It.W.frame _ _ _ st₃ fun b _ o e => hke b o e
  have henv : ({ (newEnv scope H₃.objs.size cx.env.globals (cellsFrom (H₃.objs.size + 1) scope.names (clOf cx.env scope.names [])) cx.env.qual none .none (some cx.env) builtinsNs) with scope := relabel scope cx.env } : Env) = cxc.env := by rw [he]; rfl
  have hloc : (newEnv scope H₃.objs.size cx.env.globals (cellsFrom (H₃.objs.size + 1) scope.names (clOf cx.env scope.names [])) cx.env.qual none .none (some cx.env) builtinsNs).locals = cxc.env.locals := by rw [hL]; rfl
  show codeAny (model G.prog G.w) cx.A (.compStart _ 0 (.ref I) (.ref D) ({ (newEnv scope H₃.objs.size cx.env.globals (cellsFrom (H₃.objs.size + 1) scope.names (clOf cx.env scope.names [])) cx.env.qual none .none (some cx.env) builtinsNs) with scope := relabel scope cx.env } : Env)) (compPost _ _ _ _ _ _ (newEnv scope H₃.objs.size cx.env.globals (cellsFrom (H₃.objs.size + 1) scope.names (clOf cx.env scope.names [])) cx.env.qual none .none (some cx.env) builtinsNs).locals) _
  rw [henv, hloc]
  have loop : codeAny (model G.prog G.w) cxc.A (.compLoop (.ListComp elt [⟨t, iter, ifs, 0⟩] scope pos) 0 (.ref I) (.ref D) cxc.env) (compPost (model G.prog G.w) cx.A EE use QQ (.ref D) cxc.env.locals) { s₁ with heap := h₄ } := by
    refine comp_list_loop (s := { s₁ with heap := h₄ }) l gx hx g (turns cxc ci) (fun y hy => ?_) hAc hlen It' S₄ st₄ inI inD hDI (hke _ _ hD) fun h₅ tk₅ fz₅ vs n k₅ S₅ oD₅ hD₅ rl₅ => ?_
    · have := List.all_eq_true.mp htn y hy
      unfold inρ
      rw [if_neg (by simpa using this)]
    · have Sb := In.back S₃ S₅ k₅ hv
      have oDc := In.off oD₅
      have oCc := In.locals_off S₃ S₅ (by rw [hL]; exact Nat.le_refl _)
      obtain ⟨m₅, ⟨oC₅, es₅, ep₅, hoC₅, r₅⟩, _⟩ := S₅.loc
      have hCD : cxc.env.locals ≠ D := by rw [hL]; exact Nat.ne_of_gt hDlt
      have := fin h₅ tk₅ fz₅ D cxc.env.locals oC₅ m₅ vs n (fun p hp => k₅ p (k₁ p hp)) Sb oDc hDbig hD₅ rl₅ hoC₅ ⟨oC₅, es₅, ep₅, hoC₅, r₅⟩ oCc hCD
      rw [← hs₁]
      exact this
  rw [ci.A] at loop
  exact codeAny_compStart_list loop (It.W.self 0 _ _ _ st₄ loop)

variable {EQ : AX → AE → AH → Prop}
theorem ev_listcomp {α : Type} {elt t iter : Expr} {ifs : List Expr} {scope : Scope} {pos : Pos} {Q : AV → AE → AH → Prop} (l : List α) (gx : α → AV) (hx : α → Option AV)
    {names : List (Str × NameKind)} (K : KN cx names) (hd : cx.hd = none) (hlen : l.length ≤ 16000000)
    (h : Ev G cx ρ σ iter (fun v ρ₁ σ₁ => Itr v (l.map gx) ∧ ρ₁ = ρ ∧ σ₁ = σ ∧ ∀ cxc, CIn cx cxc scope → ∀ a ∈ l, CoT G cxc (inρ scope ρ) σ t ifs (ElT G cxc σ elt) (gx a) (hx a)) EQ)
    (q : Q (.lst (l.filterMap hx)) ρ σ)
    (hkind : (scope.kind == .function && decide (scope.names.map (·.1)).Nodup) = true := by rfl)
    (hfree : (scope.names.all fun p => p.2 != .free || (names.lookup p.1 == some .free || names.lookup p.1 == some .cell)) = true := by rfl) (htn : ((tNames t).all fun y => !(scope.names.lookup y == some .free)) = true := by rfl)
    (hs : ∀ x, foldedSetIterable iter cx.env x = pure x := by intro _; rfl) :
    Ev G cx ρ σ (.ListComp elt [⟨t, iter, ifs, 0⟩] scope pos) Q EQ := fun ex fz s _ g S _ QQ EE hQ hE => by
  show wpAny _ _ (eval _ _) _ _ _
  rw [eval_ListComp]
  refine comp_list (use := none) l gx hx K hd hkind hfree htn hlen hs g S h hE fun h' tk' fz' D C oC m vs n k S' oD hDb hD rl hC hn oC' hCD => ?_
  obtain ⟨Sf, r, oCf⟩ := froze S' oD hD rl oC' hCD
  exact ⟨m, hn, fun h'' hs'' => hQ _ _ ρ σ _ h'' tk' (fun p hp => List.mem_cons_of_mem _ (k p hp)) (Sf.but hs''.extBut oCf) r q⟩

/-- a list comprehension at once stored in a name -/
theorem x_listcomp {α : Type} {elt t iter : Expr} {ifs : List Expr} {scope : Scope} {pos spos py : Pos} {y : Str} {Q : AF → AE → AH → Prop} (l : List α) (gx : α → AV) (hx : α → Option AV)
    {names : List (Str × NameKind)} (K : KN cx names) (hd : cx.hd = none) (hlen : l.length ≤ 16000000)
    (h : Ev G cx ρ σ iter (fun v ρ₁ σ₁ => Itr v (l.map gx) ∧ ρ₁ = ρ ∧ σ₁ = σ ∧ ∀ cxc, CIn cx cxc scope → ∀ a ∈ l, CoT G cxc (inρ scope ρ) σ t ifs (ElT G cxc σ elt) (gx a) (hx a)) EQ)
    (q : Q .next (upd ρ y (.lst (l.filterMap hx))) σ)
    (hy : (names.lookup y == some .local || names.lookup y == some .cell) = true := by rfl)
    (hkind : (scope.kind == .function && decide (scope.names.map (·.1)).Nodup) = true := by rfl)
    (hfree : (scope.names.all fun p => p.2 != .free || (names.lookup p.1 == some .free || names.lookup p.1 == some .cell)) = true := by rfl) (htn : ((tNames t).all fun y => !(scope.names.lookup y == some .free)) = true := by rfl)
    (hs : ∀ x, foldedSetIterable iter cx.env x = pure x := by intro _; rfl) :
    X1 G cx ρ σ (.Assign [.Name y py] (.ListComp elt [⟨t, iter, ifs, 0⟩] scope pos) spos) Q EQ := fun ex fz s _ g S _ QQ EE hQ hE => by
  have hsw : swapsWith (.ListComp elt [⟨t, iter, ifs, 0⟩] scope pos) (some (.Name y py)) spos.line cx.env = pure true ∨ swapsWith (.ListComp elt [⟨t, iter, ifs, 0⟩] scope pos) (some (.Name y py)) spos.line cx.env = pure false := by
    unfold swapsWith
    simp only [pure_bind]
    generalize (cx.env.blockKind == .function && cx.env.kindOf y == some .local && py.line == (Expr.ListComp elt [⟨t, iter, ifs, 0⟩] scope pos).pos.line && !(scope.names.any fun (n, k) => n == y && (k == .local || k == .cell))) = b
    cases b
    · exact .inr rfl
    · exact .inl rfl
  rcases hsw with hsw | hsw
  · show wpAny _ _ (exec _ _) _ _ _
    rw [exec_Assign_Name_used _ _ _ _ hsw]
    refine wpAny_bind (wpAny_standAt (wpAny_bind ?_))
    show wpAny _ cx.A (do let _ ← comprehension (.ListComp elt [⟨t, iter, ifs, 0⟩] scope pos) scope cx.env _ (newList []) false (eval iter cx.env) (some (assign (.Name y py) cx.env))) _ _ s
    refine wpAny_bind (wpAny_mono (comp_list (QQ := fun _ s' => QQ .next s') (use := some (assign (.Name y py) cx.env)) l gx hx K hd hkind hfree htn hlen hs g S h hE fun h' tk' fz' D C oC m vs n k S₀ oD hDb hD rl hC hn oC₀ hCD => ?_) (fun _ s' hq => wpAny_pure (wpAny_pure hq)) fun _ _ e => e)
    show wpAny _ _ (assign _ _ _) _ _ _
    obtain ⟨S', r, oC'⟩ := froze S₀ oD hD rl oC₀ hCD
    have Sp := S'.park hC oC'.m oC'.f
    refine wpAny_assign_Name (store_var (s := { s with heap := h', toks := tk' }) Sp r (K.mine hy) fun h₂ tk₂ S₂ => ?_)
    obtain ⟨u1, u2, u3, u4⟩ := S₂.unpark S'.clx
    refine ⟨m, ?_, fun h₃ hs₃ => hQ .next .next _ σ _ h₃ tk₂ (fun p hp => List.mem_cons_of_mem _ (k p hp)) (u1.but hs₃.extBut ⟨u3, u4, oC'.x, oC'.b⟩) .next q⟩
    obtain ⟨o, es, ep, ho, rr⟩ := hn
    rw [hC] at ho
    cases ho
    exact ⟨oC, es, ep, u2, rr⟩
  · exact (x_assign (ev_listcomp (Q := fun v ρ' σ' => Q .next (upd ρ' y v) σ') l gx hx K hd hlen h q hkind hfree htn hs) (K.mine hy) hsw).run g S .nil hQ hE
end
end Mine
namespace Mine
open PySem PySem.W PyProof.Rows PyProof.Rows.LCg PySem.Calls PySem.Spec

theorem dict_new {prog : Program} {w : World} : ({ cls := .type "dict", data := .dict #[] } : Obj).IsDictOf (PySem.strKind prog w) [] := by
  obtain ⟨o, ho, r⟩ := Heap.dictOf_iff.mp (Heap.DictOf.new (knd := PySem.strKind prog w) ({ objs := #[] } : Heap))
  rw [Heap.get?_push_size _ rfl] at ho
  cases ho
  exact r

section
variable {G : Gr} {cx : Cx} {ρ : AE} {σ : AH} {ex fz : Objs} {s : Shared} {A : Around} {E : Value → Shared → Prop} {R : Result → Shared → Prop}
variable {EQ : AX → AE → AH → Prop}
end
end Mine
namespace Mine
open PySem PySem.W PyProof.Rows PyProof.Rows.LCg PySem.Calls PySem.Spec
open Builtin Builtin.ObjectAttr

theorem nsSet_b {M : Model} {A : Around} {E : Value → Shared → Prop} {s : Shared} {a : Addr} {o : Obj} {m : Str → Option Value} {n : Nat} {name : Str} {v : Value} {Q : Unit → Shared → Prop} (ho : s.heap.get? a = some o) (hb : NsB o m n)
    (h : ∀ h' o', h'.get? a = some o' → NsB o' (fun x => if x = name then some v else m x) (n + 1) → o'.cls = o.cls → Heap.SameBut a s.heap h' → Q () { s with heap := h', toks := s.toks + 1 }) : wpAny M A (nsSet a name v) Q E s := by
  obtain ⟨es, ep, hd, hk, hm, hz⟩ := hb
  unfold nsSet
  refine wpAny_bind (wpAny_bind (wpAny_askSetting (wpAny_pure (wpAny_bind (wpAny_mkText (wpAny_bind (wpAny_loadPart ho ?_)))))))
  have hany : es.any (·.refKey) = false := by
    rw [Array.any_eq_false']; intro e he; obtain ⟨n, t, h⟩ := hk e he; simp [DictEntry.refKey, h]
  rw [hd]
  dsimp only
  rw [aRefKeyMayBeTheName_eq]
  unfold aRefKeyMayBeTheNameByArray
  rw [hany, Bool.and_false]
  refine wpAny_updatePart ho ?_
  obtain ⟨c, d, dt, sl⟩ := o
  subst hd
  cases hi : es.findIdx? (·.key.isStr name) with
  | some i =>
    refine h _ _ (Heap.get?_update_self _ ho (by simp only [Obj.putName_eq, Obj.putNameByArray, hi]; rfl)) ⟨_, ep, by simp only [Obj.putName_eq, Obj.putNameByArray, hi]; rfl, hk.modify _ _, fun x => ?_, ?_⟩ (by simp only [Obj.putName_eq, Obj.putNameByArray, hi]) (Heap.SameBut.update ..)
    · show _ = if x = name then some v else m x
      rw [← hm]; exact findBy_modify (fun n v => v.isStr n) Value.isStr_inj es name x v i hi
    · rw [Array.size_modify]; exact Nat.le_succ_of_le hz
  | none =>
    refine h _ _ (Heap.get?_update_self _ ho (by simp only [Obj.putName_eq, Obj.putNameByArray, hi]; rfl)) ⟨_, ep + 1, by simp only [Obj.putName_eq, Obj.putNameByArray, hi]; rfl, hk.push _ _ _ _, fun x => ?_, ?_⟩ (by simp only [Obj.putName_eq, Obj.putNameByArray, hi]) (Heap.SameBut.update ..)
    · show _ = if x = name then some v else m x
      rw [← hm]
      exact findBy_push (fun n v => v.isStr n) es name x _ _ v (fun y => by
        show (name == y) = decide (y = name)
        by_cases hy : y = name
        · subst hy; simp
        · simp [hy]; exact fun q => hy q.symm) hi
    · rw [Array.size_push]; exact Nat.succ_le_succ hz

/-- an exception class of the text, under OSError, with an __init__ of its own -/
structure ECls (K : Frag) (C fI : Addr) : Prop where
  obj : ∃ od cd sl, K.lookup C = some ⟨.type "type", od, .cls cd, sl⟩ ∧ cd.abstract = false ∧ cd.hasDel = false ∧ cd.hasDict = true ∧ cd.mro.isEmpty = false ∧ cd.mro.contains (.ref C) = true ∧ cd.mro.contains (.type "OSError") = true ∧
    cd.mro.contains (.type "BaseException") = true ∧ cd.mro.contains (.type "object") = true ∧ (sl.toList[4]?).join = some (.builtin "OSError.__new__") ∧ (∀ self, refuseLoop self "__setattr__" cd.mro = pure ())
  call : specialIn K (.ref C) "__call__" = some (some (.builtin "type.__call__"))
  typ : instIn K (.ref C) (.type "type") = some true
  init : findIn K (.ref C) "__init__" = some (some (.ref fI))
  fn : typeIn K (.ref fI) = some (.type "function")
  sa : findIn K (.ref C) "__setattr__" = some (some (.builtin "object.__setattr__"))
  ga : findIn K (.ref C) "__getattribute__" = some (some (.builtin "BaseException.__getattribute__"))
  gh : findIn K (.ref C) "__getattr__" = some none
  args : takerIn K C "args" = some (some (.builtin "BaseException.args"))
end Mine
namespace Mine
open PySem PySem.W PyProof.Rows PyProof.Rows.LCg PySem.Calls PySem.Spec
open Builtin Builtin.ObjectAttr Builtin.OSError

theorem osn_kind : builtinKind "OSError.__new__" = some .builtinFn := by decide +kernel
theorem osn_split : splitId "OSError.__new__" = some ("OSError", "__new__") := by decide +kernel
theorem osn_entry : entryFor table "OSError.__new__" = some Builtin.«OSError.__new__» := entryFor_of_tree (by kernel_rfl)
theorem osn_row : Manifest.signature? "OSError.__new__" = some ⟨.constructor, "*", "OSError", .cls, [⟨"args", .varPos, false⟩]⟩ := by kernel_rfl
structure EFacts (M : Model) (K : Frag) (h : Heap) (C fI : Addr) : Prop where
  obj : ∃ od cd sl, h.get? C = some ⟨.type "type", od, .cls cd, sl⟩ ∧ cd.abstract = false ∧ cd.hasDel = false ∧ cd.hasDict = true ∧ cd.mro.isEmpty = false ∧ Looks M h (mroOf (.ref C)) cd.mro ∧ (∀ self, refuseLoop self "__setattr__" cd.mro = pure ()) ∧ clsIn K C = some cd
  made : Looks M h (Bind.madeBy (.ref C)) (some "OSError.__new__")
  base : Looks M h (Bind.staticBase (.ref C)) (.ref C)
  self : Looks M h (isSubtype (.ref C) (.ref C)) true
  os : Looks M h (isSubtype (.ref C) (.type "OSError")) true
  bexc : Looks M h (isSubtype (.ref C) (.type "BaseException")) true
  top : Looks M h (isSubtype (.ref C) (.type "object")) true
  call : Looks M h (specialOf (.ref C) "__call__") (some (.builtin "type.__call__"))
  typ : Looks M h (isInstance (.ref C) (.type "type")) true
  init : Looks M h (typeLookup (.ref C) "__init__") (some (.ref fI))
  bind : ∀ self, Looks M h (bindSpecial (.ref fI) self) (.ref fI, [self])
theorem efacts {M : Model} {K : Frag} {h : Heap} {C fI : Addr} (X : K.In h) (EC : ECls K C fI) : EFacts M K h C fI := by
  obtain ⟨od, cd, sl, ho, e1, e2, e3, e4, e5, e6, e7, e8, e9, e10⟩ := EC.obj
  have hc : clsIn K C = some cd := by unfold clsIn; rw [ho]
  have hm : Looks M h (mroOf (.ref C)) cd.mro := (looks_clsIn X hc).andThen .now
  have hsub : ∀ base, cd.mro.contains base = true → Looks M h (isSubtype (.ref C) base) true := fun base hb => looks_mroIn X (by unfold mroIn; rw [hc, Option.bind_some, if_neg (by rw [e4]; decide), hb])
  obtain ⟨c, l, hl⟩ : ∃ c l, cd.mro = c :: l := by cases q : cd.mro with | nil => rw [q] at e4; cases e4 | cons c l => exact ⟨c, l, rfl⟩
  have made : Looks M h (Bind.madeBy (.ref C)) (some "OSError.__new__") := by
    intro A Q E s k q
    unfold Bind.madeBy
    refine wpAny_bind (hm A _ E s k ?_)
    rw [hl, List.forIn_cons]
    refine wpAny_bind (wpAny_bind (wpAny_bind (wpAny_bind (wpAny_loadPart (k _ _ (X _ _ ho)) (wpAny_pure ?_)))))
    dsimp only
    rw [← Array.getElem?_toList, e9]
    exact wpAny_pure (wpAny_pure (wpAny_pure q))
  refine ⟨⟨od, cd, sl, X _ _ ho, e1, e2, e3, e4, hm, e10, hc⟩, made, ?_, hsub _ e5, hsub _ e6, hsub _ e7, hsub _ e8, looks_specialIn X EC.call, looks_instIn X EC.typ, looks_findIn X EC.init, fun self => bind_fn X self EC.fn⟩
  intro A Q E s k q
  unfold Bind.staticBase
  refine wpAny_bind (hm A _ E s k ?_)
  rw [hl, List.forIn_cons]
  exact wpAny_bind (wpAny_bind (wpAny_bind (made A _ E s k (wpAny_pure (wpAny_pure (wpAny_pure q))))))

noncomputable abbrev excObj (C t : Addr) : Obj := { cls := .ref C, data := .fields #[.ref t, .none, .none, .none, .bool false, .none, osUnset, osUnset, osUnset, osUnset, rawInt (-1)] }
noncomputable abbrev tup0 : Obj := { cls := .type "tuple", data := .seq #[] }

section
variable {prog : Program} {w : World} {A : Around} {K : Frag} {C fI : Addr} {R : Result → Shared → Prop} {h : Heap} {g : Array GenState} {d : Drawn} {t : Nat} {os : OsState}
theorem os_reads {M : Model} (Y : EFacts M K h C fI) : Looks M h (osReadsInInit (.ref C)) true := by
  obtain ⟨_, made, base, self, hos, bexc, top, call, typ, init, bind⟩ := Y
  unfold osReadsInInit
  refine init.andThen ?_
  dsimp only
  refine made.andThen ?_
  refine Looks.of_pure ?_
  kernel_rfl

theorem osn_check {rest : List Value} {Q : Unit → Shared → Prop} {E : Value → Shared → Prop} {s : Shared} (made : Looks (model prog w) s.heap (Bind.madeBy (.ref C)) (some "OSError.__new__")) (base : Looks (model prog w) s.heap (Bind.staticBase (.ref C)) (.ref C)) (self : Looks (model prog w) s.heap (isSubtype (.ref C) (.ref C)) true) (os : Looks (model prog w) s.heap (isSubtype (.ref C) (.type "OSError")) true)
    (hC : ∃ od cd sl, s.heap.get? C = some ⟨.type "type", od, .cls cd, sl⟩) (hq : Q () s) : wpAny (model prog w) A (checkBuiltinCall "OSError.__new__" ⟨.ref C :: rest, []⟩) Q E s := by
  obtain ⟨od, cd, sl, hC⟩ := hC
  unfold checkBuiltinCall
  rw [osn_kind, osn_split, osn_row]
  dsimp only
  repeat (first | lk | rw [if_neg (by decide)])
  rw [if_neg (by intro q; rw [Bool.and_eq_true] at q; exact absurd q.2 (by decide))]
  exact wpAny_pure hq
theorem osn_body {rest : List Value} {Q : Fin → Shared → Prop} {E : Value → Shared → Prop} (Y : EFacts (model prog w) K h C fI)
    (hq : Q (.done (.ret (.ref (h.objs.size + 1)))) ⟨(h.push tup0).push (excObj C h.objs.size), g, d, t, os⟩) : wpAny (model prog w) A (Builtin.«OSError.__new__» ⟨.ref C :: rest, []⟩) Q E ⟨h, g, d, t, os⟩ := by
  have reads := os_reads Y
  obtain ⟨_, _, _, hC, _, e2, _, _, _, _, _⟩ := Y.obj
  have made := Y.made
  have base := Y.base
  have self := Y.self
  have hos := Y.os
  have bexc := Y.bexc
  have top := Y.top
  have typ := Y.typ
  have init := Y.init
  unfold Builtin.«OSError.__new__»
  repeat (first | lk | rw [if_neg (by decide)])
  refine nd_load (Heap.get?_push_of_some _ (Heap.get?_push_of_some _ hC)) (nd_pure ?_)
  dsimp only
  refine wpAny_pure ?_
  rw [e2]
  refine wpAny_pure (wpAny_pure ?_)
  show Q _ _
  rw [Heap.size_push]
  exact hq
theorem os_new {rest : List Value} (Y : EFacts (model prog w) K h C fI)
    (hq : R (.ok (.ret (.ref (h.objs.size + 1)))) ⟨(h.push tup0).push (excObj C h.objs.size), g, d, t, os⟩) :
    codeAny (model prog w) A (.call (.builtin "OSError.__new__") ⟨.ref C :: rest, []⟩) R ⟨h, g, d, t, os⟩ := by
  obtain ⟨_, _, _, hC, _⟩ := Y.obj
  exact codeAny_call_builtin_code (Code.quiet_builtin _ (by decide +kernel)) (osn_check Y.made Y.base Y.self Y.os ⟨_, _, _, hC⟩ (codeAny_builtin osn_entry (osn_body Y hq)))

theorem exc_make {rest : List Value} (Y : EFacts (model prog w) K h C fI)
    (hq : codeAny (model prog w) (A.under (.builtin "type.__call__" ⟨.ref C :: rest, []⟩)) (.call (.ref fI) ⟨.ref (h.objs.size + 1) :: rest, []⟩) (InitBack (h.objs.size + 1) R) ⟨(h.push tup0).push (excObj C h.objs.size), g, d, t, os⟩) :
    codeAny (model prog w) A (.call (.ref C) ⟨rest, []⟩) R ⟨h, g, d, t, os⟩ := by
  have Y' := Y
  obtain ⟨_, _, _, hC, _, _, _, e4, _, _, _⟩ := Y.obj
  have made := Y.made
  have base := Y.base
  have self := Y.self
  have hos := Y.os
  have bexc := Y.bexc
  have top := Y.top
  have typ := Y.typ
  have init := Y.init
  refine codeAny_of_tree ?_
  show wpAny _ _ (callAny (.ref C) _) _ _ _
  refine nd_load hC ?_
  show wpAny _ _ (callAny.viaDunder (.ref C) _) _ _ _
  unfold callAny.viaDunder
  refine wpAny_bind (Y.call.at ?_)
  dsimp only
  rw [tc_bind]
  refine wpAny_bind (wpAny_pure (wpAny_bind (wpAny_pure ?_)))
  refine wpAny_pure (a := Fin.again (.call (.builtin "type.__call__") ⟨.ref C :: rest, []⟩)) (And.intro rfl ?_)
  refine codeAny_call_builtin_at (Code.quiet_builtin _ (by decide +kernel)) entry_typeCall (check_slot tc_kind tc_split Y.typ (tc_args _ _ _) ?_)
  unfold Builtin.«type.__call__»
  repeat (first | with_reducible refine wpAny_call ?_ | lk | rw [e4, if_neg (by decide)])
  refine os_new Y' ?_
  have k : ∀ b o, h.get? b = some o → ((h.push tup0).push (excObj C h.objs.size)).get? b = some o := fun b o e => Heap.get?_push_of_some _ (Heap.get?_push_of_some _ e)
  have hx : ((h.push tup0).push (excObj C h.objs.size)).get? (h.objs.size + 1) = some (excObj C h.objs.size) := by heap_get
  have t1 : Looks (model prog w) ((h.push tup0).push (excObj C h.objs.size)) (typeOf (.ref (h.objs.size + 1))) (.ref C) := (Looks.ld hx).andThen .now
  have s1 := Y.self.keeps k
  have i1 := Y.init.keeps k
  have b1 := (Y.bind (.ref (h.objs.size + 1))).keeps k
  unfold isInstance callSpecial? specialOf
  repeat (first | with_reducible refine wpAny_call ?_ | lk)
  refine codeAny_mono hq fun r s' z => ?_
  rcases r with e | (v | _ | _ | _) <;> first | exact z | exact z.elim | skip
  obtain ⟨rfl, z⟩ := z
  exact wpAny_pure (wpAny_pure z)
end
end Mine
namespace Mine
open PySem PySem.W PyProof.Rows PyProof.Rows.LCg PySem.Calls PySem.Spec
open Builtin Builtin.ObjectAttr Builtin.OSError Builtin.Getset_descriptor Builtin.BaseException

section
variable {prog : Program} {w : World} {A : Around} {E : Value → Shared → Prop} {K : Frag} {C fI x : Addr} {ox : Obj} {od : Option Obj} {R : Result → Shared → Prop} {s : Shared}

theorem es_open {name : Str} {tk : Tok} {v : Value} {r : Option Value} (X : K.In s.heap) (EC : ECls K C fI) (I : InstAt s.heap x ox C od) (ht : takerIn K C name = some r)
    (h : ∀ b, wpAny (model prog w) A.in1 (match r with | some a => setByDescriptor a (.ref x) v | none => storeInOwnDict (.ref x) (.ref C) (.str name tk) name v b)
      (fun fin s' => match fin with | .done f => R (.ok f) s' | .again c' => c'.quiet = true ∧ codeAny (model prog w) A c' R s') (fun e s' => R (.error e) s') s) :
    codeAny (model prog w) A (.call (.builtin "object.__setattr__") ⟨[.ref x, .str name tk, v], []⟩) R s := by
  have SF := PySem.F.store_object
  have Y := efacts (M := model prog w) X EC
  obtain ⟨_, _, _, _, _, _, _, _, hm, hrf, _⟩ := Y.obj
  have sub : Looks (model prog w) s.heap (isInstance (.ref x) (.type "object")) true := I.type.andThen Y.top
  refine codeAny_call_builtin SF.slot.plain SF.entry (@check_slot (model prog w) _ _ s "object.__setattr__" "object" "__setattr__" (.ref x) [.str name tk, v] [] _ SF.kind SF.split sub (SF.args (.ref x) (.str name tk) v) ?_)
  obtain ⟨attr, ha, hr⟩ := Option.bind_eq_some_iff.mp ht
  have L3 : Looks (model prog w) s.heap (storeTaker? attr) r := by
    cases attr with
    | none => cases hr; exact .now
    | some a =>
      obtain ⟨b, hb, rfl⟩ := Option.map_eq_some_iff.mp hr
      refine (looks_takesIn X hb).andThen ?_
      cases b <;> exact .now
  rw [osa_eq, refuse_eq]
  refine wpAny_bind (wpAny_bind (I.type.here (wpAny_bind (hm.here ?_))))
  rw [hrf]
  refine wpAny_pure (wpAny_bind (I.type.here (wpAny_bind ((looks_findIn X ha).here (wpAny_bind (L3.here ?_))))))
  exact h _

theorem es_first {name : Str} {tk : Tok} {v : Value} {b : Bool} {Q : Fin → Shared → Prop} (X : K.In s.heap) (EC : ECls K C fI) (ho : s.heap.get? x = some ox) (hcl : ox.cls = .ref C) (hd : ox.dict = none) {vs : Array Value} (hdt : ox.data = .fields vs)
    (h : ∀ h' oD, h'.get? s.heap.objs.size = some oD → NsB oD (fun y => if y = name then some v else none) 1 → h'.get? x = some { ox with dict := some s.heap.objs.size } →
      (∀ c o, c ≠ x → s.heap.get? c = some o → h'.get? c = some o) → Q (.done (.ret .none)) { s with heap := h', toks := s.toks + 1 }) :
    wpAny (model prog w) A (storeInOwnDict (.ref x) (.ref C) (.str name tk) name v b) Q E s := by
  have Y := efacts (M := model prog w) X EC
  obtain ⟨_, _, _, _, _, _, e3, _, _, _, hc⟩ := Y.obj
  obtain ⟨oc, odi, oda, osl⟩ := ox
  dsimp only at hcl hd hdt
  subst hcl hd hdt
  unfold storeInOwnDict
  refine wpAny_bind (wpAny_pure (wpAny_bind ?_))
  show wpAny _ _ (instanceDict x true) _ _ _
  unfold instanceDict
  refine wpAny_bind (wpAny_loadPart ho ?_)
  dsimp only
  refine wpAny_bind ((looks_clsIn X hc).here ?_)
  rw [e3]
  refine wpAny_bind (wpAny_alloc ?_)
  have hx₁ : (s.heap.push { cls := .type "dict", data := .dict #[] }).get? x = some _ := Heap.get?_push_of_some _ ho
  have hxs : x ≠ s.heap.objs.size := Nat.ne_of_lt (Heap.lt_size ho)
  refine wpAny_bind (wpAny_update hx₁ ?_)
  refine wpAny_pure ?_
  dsimp only
  unfold storeInDict newKeyGuard
  have hgd : ((s.heap.push { cls := .type "dict", data := .dict #[] }).update x fun o => { o with dict := some s.heap.objs.size }).get? s.heap.objs.size = some { cls := .type "dict", data := .dict #[] } :=
    (Heap.get?_update_ne _ _ _ _ hxs.symm).trans (Heap.get?_push_at rfl rfl)
  refine wpAny_bind (wpAny_pure (wpAny_bind (nsSet_b hgd (m := fun _ => none) (n := 0) ⟨#[], 0, rfl, fun e he => absurd he (by simp), fun _ => rfl, Nat.le_refl _⟩ fun h' oD hoD hbD _ hs => ?_)))
  obtain ⟨es', ep', d1, d2, d3, d4⟩ := id hbD
  refine wpAny_bind (wpAny_lookBehind hoD (by rw [d1]; exact pastItsLine_dict (by rw [sizeLine_eq]; omega)) ?_)
  refine wpAny_pure (h h' oD hoD hbD ?_ fun c o hc' e => ?_)
  · exact (hs.2 x hxs).trans (Heap.get?_update_self _ hx₁ rfl)
  · exact (hs.2 c (Nat.ne_of_lt (Heap.lt_size e))).trans ((Heap.get?_update_ne _ _ _ _ hc').trans (Heap.get?_push_of_some _ e))

theorem es_next {name : Str} {tk : Tok} {v : Value} {b : Bool} {D : Addr} {oD : Obj} {m : Str → Option Value} {n : Nat} {Q : Fin → Shared → Prop} (X : K.In s.heap) (EC : ECls K C fI) (ho : s.heap.get? x = some ox) (hcl : ox.cls = .ref C) (hd : ox.dict = some D) {vs : Array Value} (hdt : ox.data = .fields vs)
    (hoD : s.heap.get? D = some oD) (hb : NsB oD m n) (hn : n ≤ 1000)
    (h : ∀ h' oD', h'.get? D = some oD' → NsB oD' (fun y => if y = name then some v else m y) (n + 1) → Heap.SameBut D s.heap h' → Q (.done (.ret .none)) { s with heap := h', toks := s.toks + 1 }) :
    wpAny (model prog w) A (storeInOwnDict (.ref x) (.ref C) (.str name tk) name v b) Q E s := by
  have Y := efacts (M := model prog w) X EC
  obtain ⟨_, _, _, _, _, _, e3, _, _, _, hc⟩ := Y.obj
  obtain ⟨oc, odi, oda, osl⟩ := ox
  dsimp only at hcl hd hdt
  subst hcl hd hdt
  unfold storeInOwnDict
  refine wpAny_bind (wpAny_pure (wpAny_bind ?_))
  show wpAny _ _ (instanceDict x true) _ _ _
  unfold instanceDict
  refine wpAny_bind (wpAny_loadPart ho ?_)
  dsimp only
  refine wpAny_bind ((looks_clsIn X hc).here ?_)
  rw [e3]
  refine wpAny_pure ?_
  dsimp only
  unfold storeInDict newKeyGuard
  refine wpAny_bind (wpAny_pure (wpAny_bind (nsSet_b hoD hb fun h' oD' hoD' hbD' _ hs => ?_)))
  obtain ⟨es', ep', d1, d2, d3, d4⟩ := id hbD'
  refine wpAny_bind (wpAny_lookBehind hoD' (by rw [d1]; exact pastItsLine_dict (by rw [sizeLine_eq]; omega)) ?_)
  exact wpAny_pure (h h' oD' hoD' hbD' hs)

theorem gs_set_entry : entryFor table "getset_descriptor.__set__" = some Builtin.«getset_descriptor.__set__» := entryFor_of_tree (by kernel_rfl)
theorem gs_set_args (a b c : Value) : argsOk "getset_descriptor.__set__" ⟨[a, b, c], []⟩ := by unfold argsOk; kernel_rfl
theorem be_args_set_entry : entryFor table "BaseException.args#set" = some Builtin.«BaseException.args#set» := entryFor_of_tree (by kernel_rfl)
theorem owner_bexc_args' : descrOwnerAndName "BaseException.args" = ("BaseException", "args") := by kernel_rfl

theorem es_args {v : Addr} {ov : Obj} {items : Array Value} {nv : Nat} {t0 : Addr} {vs : Array Value} {Q : Fin → Shared → Prop} (X : K.In s.heap) (EC : ECls K C fI) (ho : s.heap.get? x = some ox) (hcl : ox.cls = .ref C) (hdt : ox.data = .fields vs) (h0 : vs[0]? = some (.ref t0))
    (hv : s.heap.get? v = some ov) (hvc : ov.cls = .type "tuple") (hvd : ov.data = .seq items nv)
    (h : Q (.done (.ret .none)) { s with heap := s.heap.update x (Obj.mapFields (·.setIfInBounds 0 (.ref v))) }) :
    wpAny (model prog w) A (setByDescriptor (.builtin "BaseException.args") (.ref x) (.ref v)) Q E s := by
  have Y := efacts (M := model prog w) X EC
  obtain ⟨hh, g, d, tk, os⟩ := s
  have hT5 : (⟨hh, g, d, tk, os⟩ : Shared).TypeIs (.builtin "BaseException.args") "getset_descriptor" := F.typeOf_bexc_args
  have tx : Looks (model prog w) hh (typeOf (.ref x)) (.ref C) := hcl ▸ (Looks.ld ho).andThen .now
  unfold setByDescriptor
  refine wpAny_bind (wpAny_rule (wpAny_bind (wpAny_holding (wpAny_bind (wpAny_bind ((Looks.of_pure F.typeOf_bexc_args).at ((Looks.of_pure F.slot_gs_set.lookup).at (wpAny_holding ?_))))))))
  rw [F.slot_gs_set.bind]
  refine wpAny_bind (wpAny_pure (wpAny_bind (wpAny_call ?_)))
  refine codeAny_call_builtin F.slot_gs_set.plain gs_set_entry (F.slot_gs_set.check _ _ _ _ _ _ _ _ hT5 (gs_set_args _ _ _) ?_)
  have ib : Looks (model prog w) hh (isInstance (.ref x) (.type "BaseException")) true := tx.andThen Y.bexc
  show wpAny _ _ (descrStoreThrough "getset" (.builtin "BaseException.args") (.ref x) (some (.ref v))) _ _ _
  unfold descrStoreThrough descrCheckInstance descrNameAndClass
  dsimp only
  rw [owner_bexc_args']
  dsimp only
  repeat lk
  have es : "BaseException.args" ++ "#set" = "BaseException.args#set" := by decide +kernel
  rw [es]
  have hz : 0 < vs.size := (Array.getElem?_eq_some_iff.mp h0).1
  refine ⟨Code.quiet_builtin _ (by decide +kernel), codeAny_builtin be_args_set_entry ?_⟩
  show wpAny _ _ ((PySem.call (.type "tuple") [.ref v] >>= fun r => bexcPut (.ref x) 0 r >>= fun _ => ret .none : Sem PySem.Fin)) _ _ _
  refine wpAny_bind (call_tuple_same ⟨ov, hv, hvc, nv, hvd⟩ (wpAny_bind ?_))
  unfold bexcPut
  refine wpAny_bind (wpAny_field ho hdt h0 (wpAny_bind (wpAny_setField ho hdt hz ?_)))
  refine wpAny_letGo (wpAny_pure ?_)
  exact wpAny_pure (wpAny_pure h)

theorem set_exc {name : Str} {v : Value} {Q : Unit → Shared → Prop} (X : K.In s.heap) (EC : ECls K C fI) (I : InstAt s.heap x ox C od) {r : Option Value} (ht : takerIn K C name = some r)
    (h : ∀ tk b, wpAny (model prog w) A.in1 (match r with | some a => setByDescriptor a (.ref x) v | none => storeInOwnDict (.ref x) (.ref C) (.str name tk) name v b)
      (fun fin s' => match fin with | .done (.ret _) => Q () s' | _ => False) E { s with toks := s.toks + 1 }) :
    wpAny (model prog w) A (setAttr (.ref x) name v) Q E s :=
  set_plain X I EC.sa (es_open (s := { s with toks := s.toks + 1 }) X EC I ht fun b => wpAny_mono (h _ b) (fun fin s' z => by
    rcases fin with (_ | _ | _ | _) | _ <;> first | exact z | exact z.elim) fun _ _ z => z)
end

section
variable {G : Gr} {cx : Cx} {ρ : AE} {σ : AH} {C fI x : Addr} {EQ : AX → AE → AH → Prop}

theorem GOk.at (g : GOk G) {ex fz h} (S : Sat G cx ex ρ σ fz h) : G.K.In h := fun a o e => S.base _ _ (g.KB a o e)

/-- the store of an attribute: what is stored, into whom -/
theorem x_attr {e : Expr} {self : Str} {ps pp pos : Pos} {name : Str} {Q : AF → AE → AH → Prop} (EC : ECls G.K C fI) (ht : takerIn G.K C name = some none)
    (h : Ev G cx ρ σ e (fun v ρ₁ σ₁ => ρ₁ self = some (.ref x) ∧ ((∃ σ₂, σ₁ = (x, .ins C none) :: σ₂ ∧ ∀ D, Q .next ρ₁ ((D, .ns [(name, v)]) :: (x, .ins C (some D)) :: σ₂)) ∨
      (∃ D es σ₂, σ₁ = (D, .ns es) :: (x, .ins C (some D)) :: σ₂ ∧ es.length ≤ 100 ∧ Q .next ρ₁ ((D, .ns ((name, v) :: es)) :: (x, .ins C (some D)) :: σ₂)))) EQ)
    (hd : (self == ("__debug__" : Str)) = false := by decide) (hc : (self == ("__classdict__" : Str)) = false := by decide) (hw : swapsWith e (some (.Attribute (.Name self ps) name pp)) pos.line cx.env = pure false := by rfl) :
    X1 G cx ρ σ (.Assign [.Attribute (.Name self ps) name pp] e pos) Q EQ := fun ex fz s _ g S _ QQ EE hQ hE => by
  refine plainObj_wpAny_Assign_Attribute (h.run g S .nil (fun v V ρ₁ σ₁ fz₁ h₁ t₁ k₁ S₁ r₁ q₁ => ?_) hE) hw
  obtain ⟨hs, q₁⟩ := q₁
  refine wpAny_Name (loadVar (s := { s with heap := h₁, toks := t₁ }) S₁ hs hc fun V' r' => ?_) hd
  rw [r'.ref_inv]
  have hQ₁ := hQ.on (h₁ := h₁) (t₁ := t₁) k₁
  rcases q₁ with ⟨σ₂, rfl, q₁⟩ | ⟨D, es, σ₂, rfl, hes, q₁⟩
  · obtain ⟨ox, hox, hcl, hdi, vs, hdt, hz, h0, h1⟩ := S₁.live (x, .ins C none) List.mem_cons_self
    have I : InstAt h₁ x ox C none := ⟨hox, hcl, by unfold notCls; rw [hdt], by rw [hdi]; trivial⟩
    refine set_exc (s := { s with heap := h₁, toks := t₁ }) (od := none) (g.at S₁) EC I ht fun tk b => es_first (s := { s with heap := h₁, toks := t₁ + 1 }) (g.at S₁) EC hox hcl hdi hdt fun h₂ oD hoD hbD hx₂ hk => ?_
    have hxm : x ∈ cx.mut ((x, AO.ins C none) :: σ₂) := by unfold Cx.mut; simp
    have hDoff := S₁.size_off (Nat.le_refl h₁.objs.size)
    have hDx : h₁.objs.size ≠ x := Nat.ne_of_gt (Heap.lt_size hox)
    have S₂ : Sat G cx ex ρ₁ ((x, .ins C (some h₁.objs.size)) :: σ₂) fz₁ h₂ := S₁.live_set (σ₁ := []) (fun b o hb e => hk b o hb e) hx₂ ⟨hcl, rfl, vs, hdt, hz, h0, h1⟩
    have hDoff' : Off G cx ex ((x, .ins C (some h₁.objs.size)) :: σ₂) fz₁ h₁.objs.size := ⟨fun q => hDoff.m (by unfold Cx.mut at q ⊢; simpa using q), hDoff.f, hDoff.x, hDoff.b⟩
    have hbs : G.hb.objs.size ≤ h₁.objs.size := Nat.le_trans (S₁.new x hxm).2 (Nat.le_of_lt (Heap.lt_size hox))
    have S₃ := S₂.live_new (ao := .ns [(name, v)]) hoD hDoff' hbs ⟨_, hbD, fun y u e => ?_⟩
    · exact hQ₁ .next .next ρ₁ _ fz₁ h₂ _ (fun _ h => h) S₃ .next (q₁ _)
    · rw [List.lookup_cons] at e
      cases hy : (y == name) with
      | true => rw [hy] at e; cases e; exact ⟨V, if_pos (by simpa using hy), r₁⟩
      | false => rw [hy] at e; cases e
  · obtain ⟨ox, hox, hcl, hdi, vs, hdt, hz, h0, h1⟩ := S₁.live (x, .ins C (some D)) (by simp)
    obtain ⟨oD, hoD, m, hbD, hat⟩ := S₁.live (D, .ns es) List.mem_cons_self
    have I : InstAt h₁ x ox C (some oD) := ⟨hox, hcl, by unfold notCls; rw [hdt], by rw [hdi]; exact hoD⟩
    refine set_exc (s := { s with heap := h₁, toks := t₁ }) (od := some oD) (g.at S₁) EC I ht fun tk b => es_next (s := { s with heap := h₁, toks := t₁ + 1 }) (g.at S₁) EC hox hcl hdi hdt hoD hbD (by omega) fun h₂ oD' hoD' hbD' hk => ?_
    have S₂ : Sat G cx ex ρ₁ ((D, .ns ((name, v) :: es)) :: (x, .ins C (some D)) :: σ₂) fz₁ h₂ := S₁.live_set (σ₁ := []) hk.extBut hoD' ⟨_, hbD', fun y u e => ?_⟩
    · exact hQ₁ .next .next ρ₁ _ fz₁ h₂ _ (fun _ h => h) S₂ .next q₁
    · rw [List.lookup_cons] at e
      cases hy : (y == name) with
      | true => rw [hy] at e; cases e; exact ⟨V, if_pos (by simpa using hy), r₁⟩
      | false =>
        rw [hy] at e
        obtain ⟨W, hW, rW⟩ := hat y u e
        exact ⟨W, (if_neg (by simpa using hy)).trans hW, rW⟩

/-- self.args = (..) -/
theorem x_args {e : Expr} {self : Str} {ps pp pos : Pos} {Q : AF → AE → AH → Prop} {d : Option Addr} (EC : ECls G.K C fI)
    (h : Ev G cx ρ σ e (fun v ρ₁ σ₁ => ρ₁ self = some (.ref x) ∧ (∃ l, v = .tup l) ∧ (∃ d σ₀ σ₂, σ₁ = σ₀ ++ (x, .ins C d) :: σ₂ ∧ (∀ D, d = some D → ∃ es, (D, AO.ns es) ∈ σ₁)) ∧ Q .next ρ₁ σ₁) EQ)
    (hd : (self == ("__debug__" : Str)) = false := by decide) (hc : (self == ("__classdict__" : Str)) = false := by decide) (hw : swapsWith e (some (.Attribute (.Name self ps) "args" pp)) pos.line cx.env = pure false := by rfl) :
    X1 G cx ρ σ (.Assign [.Attribute (.Name self ps) "args" pp] e pos) Q EQ := fun ex fz s _ g S _ QQ EE hQ hE => by
  refine plainObj_wpAny_Assign_Attribute (h.run g S .nil (fun v V ρ₁ σ₁ fz₁ h₁ t₁ k₁ S₁ r₁ q₁ => ?_) hE) hw
  obtain ⟨hs, ⟨l, rfl⟩, ⟨d, σ₀, σ₂, rfl, hD⟩, q₁⟩ := q₁
  refine wpAny_Name (loadVar (s := { s with heap := h₁, toks := t₁ }) S₁ hs hc fun V' r' => ?_) hd
  rw [r'.ref_inv]
  obtain ⟨va, vo, vvs, vn, rfl, vm, vc, vd, vl⟩ := r₁.tup_inv
  obtain ⟨ox, hox, hcl, hdi, vs, hdt, hz, ⟨t0, h0⟩, h1⟩ := S₁.live (x, .ins C d) (by simp)
  obtain ⟨od, I⟩ : ∃ od, InstAt h₁ x ox C od := by
    cases d with
    | none => exact ⟨none, hox, hcl, by unfold notCls; rw [hdt], by rw [hdi]; trivial⟩
    | some D =>
      obtain ⟨es, he⟩ := hD D rfl
      obtain ⟨oD, hoD, _⟩ := S₁.live _ he
      exact ⟨some oD, hox, hcl, by unfold notCls; rw [hdt], by rw [hdi]; exact hoD⟩
  have hQ₁ := hQ.on (h₁ := h₁) (t₁ := t₁) k₁
  refine set_exc (s := { s with heap := h₁, toks := t₁ }) (g.at S₁) EC I EC.args fun tk b => es_args (s := { s with heap := h₁, toks := t₁ + 1 }) (g.at S₁) EC hox hcl hdt h0 (S₁.fzh _ vm) vc vd ?_
  have S₂ : Sat G cx ex ρ₁ (σ₀ ++ (x, .ins C d) :: σ₂) fz₁ _ := S₁.live_set (Heap.SameBut.update h₁ x (Obj.mapFields (·.setIfInBounds 0 (.ref va)))).extBut (Heap.get?_update_self _ hox (Obj.isFreed_of_fields (Obj.data_mapFields hdt _)))
    ⟨(Obj.cls_mapFields ..).trans hcl, (mapFields_dict ..).trans hdi, _, Obj.data_mapFields hdt _, by simp [hz], ⟨va, by simp [hz]⟩, by simp [h1]⟩
  exact hQ₁ .next .next ρ₁ _ fz₁ _ _ (fun _ h => h) S₂ .next q₁
end
end Mine
namespace Mine
open PySem PySem.W PyProof.Rows PyProof.Rows.LCg PySem.Calls PySem.Spec
open Builtin Builtin.ObjectAttr Builtin.OSError Builtin.Getset_descriptor Builtin.BaseException

/-- the same frame, elsewhere on the stack -/
noncomputable def Cx.on (cx : Cx) (A : Around) (d : Nat) (hd : Option Value) : Cx := { cx with A := A, d := d, hd := hd }
section
variable {G : Gr} {cx : Cx} {ρ : AE} {σ : AH} {ex fz : Objs} {h : Heap} {A : Around} {d : Nat} {hd : Option Value}
theorem Sat.on (S : Sat G cx ex ρ σ fz h) (hf : A.frames = cx.A.frames) (h1 : A.depth + d ≤ 900) (h2 : A.units + 20 * d ≤ 9000) (h3 : A.handled = hd) : Sat G (cx.on A d hd) ex ρ σ fz h :=
  ⟨⟨hf.trans S.ok.frames, h1, h2, h3, S.ok.kf, S.ok.fr, S.ok.fs, S.ok.gl, S.ok.cs, S.ok.ca, S.ok.ci⟩, S.clx, S.base, S.stk, S.ownc, S.fzh, S.exh, S.live, S.loc, S.nod, S.new, S.apf, S.apx, S.xf⟩
theorem Sat.off_on (S : Sat G (cx.on A d hd) ex ρ σ fz h) (ok : CxOk cx) : Sat G cx ex ρ σ fz h :=
  ⟨ok, S.clx, S.base, S.stk, S.ownc, S.fzh, S.exh, S.live, S.loc, S.nod, S.new, S.apf, S.apx, S.xf⟩
theorem Off.off_on {a : Addr} (O : Off G (cx.on A d hd) ex σ fz a) : Off G cx ex σ fz a := ⟨O.m, O.f, O.x, O.b⟩
theorem XIs.off_on {e : Addr} {x : AX} (X : XIs G (cx.on A d hd) ex σ fz h e x) : XIs G cx ex σ fz h e x := by
  obtain ⟨O, o, d, od, vs, kvs, h1, h2, h3, h4, h5, h6, h7, h8, ht⟩ := X
  refine ⟨O.off_on, o, d, od, vs, kvs, h1, h2, h3, h4, h5, h6, h7, h8, ht.imp id ?_⟩
  rintro ⟨tb, ot, ts, t1, t2, t3, t4, t5, t6⟩
  exact ⟨tb, ot, ts, t1, t2, t3, t4, t5.off_on, t6⟩
theorem Sat.drop {a : Addr} {ao : AO} (S : Sat G cx ex ρ ((a, ao) :: σ) fz h) : Sat G cx ex ρ σ fz h ∧ Off G cx ex σ fz a := by
  have hm : a ∈ cx.mut ((a, ao) :: σ) := by unfold Cx.mut; simp
  have nd := S.nod
  unfold Cx.mut at nd
  rw [List.map_cons, List.nodup_cons, List.nodup_append, List.nodup_cons] at nd
  refine ⟨S.sub (fun p hp => List.mem_cons_of_mem _ hp) nd.2.2.1.2, fun q => ?_, S.apf a hm, S.apx a hm, (S.new a hm).1⟩
  unfold Cx.mut at q
  rcases List.mem_cons.mp q with q | q
  · exact nd.1 (List.mem_append_right _ (by rw [← q]; exact List.mem_cons_self))
  · rcases List.mem_append.mp q with q | q
    · exact nd.2.2.2 a q a List.mem_cons_self rfl
    · exact nd.2.2.1.1 q
theorem KN.on {names} (K : KN cx names) : KN (cx.on A d hd) names := ⟨K.kd, K.fr, K.own⟩
end

section
variable {G : Gr} {cx : Cx} {ρ : AE} {σ : AH} {C fI : Addr} {EQ : AX → AE → AH → Prop}

/-- a call of an exception class of the text -/
theorem call_exc {args : List AV} {Q : AV → AE → AH → Prop} (EC : ECls G.K C fI) (hd : 1 ≤ cx.d)
    (hi : ∀ x cx', cx'.d + 1 = cx.d → cx'.hd = cx.hd → JVC G cx' ρ ((x, .ins C none) :: σ) (.ref x :: args) fI (fun v ρ' σ' => v = .none ∧ Q (.ref x) ρ' σ') EQ) :
    JV Rel G cx ρ σ args (fun Vs => call (.ref C) Vs) Q EQ := fun ex fz s Vs g S r QQ EE hQ hE => by
  refine wpAny_call ?_
  obtain ⟨hh, gg, dd, tk, os⟩ := s
  have X : G.K.In hh := fun a o e => S.base _ _ (g.KB a o e)
  refine exc_make (efacts X EC) ?_
  have hbs : G.hb.objs.size ≤ hh.objs.size := Nat.le_trans (S.new _ (by unfold Cx.mut; exact List.mem_cons_self)).2 (by
    obtain ⟨o, ho⟩ := S.mut_there (a := cx.env.locals) (by unfold Cx.mut; exact List.mem_cons_self)
    exact Nat.le_of_lt (Heap.lt_size ho))
  have S₁ := S.push tup0
  have hx : ((hh.push tup0).push (excObj C hh.objs.size)).get? (hh.objs.size + 1) = some (excObj C hh.objs.size) := by heap_get
  have ho := S₁.size_off (Nat.le_refl (hh.push tup0).objs.size)
  rw [Heap.size_push] at ho
  have S₂ := (S₁.push (excObj C hh.objs.size)).live_new (ao := .ins C none) hx ho (Nat.le_succ_of_le hbs) ⟨rfl, rfl, _, rfl, rfl, ⟨_, rfl⟩, rfl⟩
  have S₃ := S₂.on (A := cx.A.under (.builtin "type.__call__" ⟨.ref C :: Vs, []⟩)) (d := cx.d - 1) (hd := cx.hd) rfl
    (by have := S.ok.depth; show cx.A.depth + 1 + (cx.d - 1) ≤ 900; omega) (by have := S.ok.units; show cx.A.units + 1 + 20 * (cx.d - 1) ≤ 9000; omega) S.ok.hd
  refine codeAny_mono (hi (hh.objs.size + 1) (cx.on (cx.A.under (.builtin "type.__call__" ⟨.ref C :: Vs, []⟩)) (cx.d - 1) cx.hd) (by show cx.d - 1 + 1 = cx.d; omega) rfl ex fz _ (.ref (hh.objs.size + 1) :: Vs) g S₃ (.cons (.ref _) r)
    (fun v s' => v = .none ∧ QQ (.ref (hh.objs.size + 1)) s') EE (fun v V ρ' σ' fz' h' tk' k S' r' q' => ?_) (fun y e ρ' σ' fz' h' tk' k S' X' q' => ?_)) fun r s' z => ?_
  · obtain ⟨rfl, q'⟩ := q'
    exact ⟨r'.none_inv, hQ _ _ ρ' σ' fz' h' tk' k (S'.off_on S.ok) (.ref _) q'⟩
  · exact hE y e ρ' σ' fz' h' tk' k (S'.off_on S.ok) X'.off_on q'
  · rcases r with e | (v | _ | _ | _) <;> exact z

/-- raising an exception of the text's own -/
theorem x_raise {e : Expr} {pos : Pos} {Q : AF → AE → AH → Prop} (EC : ECls G.K C fI) (hd : cx.hd = none)
    (h : Ev G cx ρ σ e (fun v ρ₁ σ₁ => ∃ x D es σ₂, v = .ref x ∧ σ₁ = (D, .ns es) :: (x, .ins C (some D)) :: σ₂ ∧ EQ ⟨C, es⟩ ρ₁ σ₂) EQ) : X1 G cx ρ σ (.Raise (some e) none pos) Q EQ := fun ex fz s _ g S _ QQ EE hQ hE => by
  have hA : cx.A.handled = none := S.ok.hd.trans hd
  show wpAny _ _ (exec _ _) _ _ _
  rw [arm_exec_Raise]
  refine wpAny_bind (wpAny_standAt ?_)
  show wpAny _ _ (raiseStmt cx.env (some (do let v ← eval e cx.env; standAt pos; pure v)) none) _ _ _
  unfold raiseStmt
  dsimp only
  refine wpAny_bind (wpAny_bind (h.run g S .nil (fun v V ρ₁ σ₁ fz₁ h₁ t₁ k₁ S₁ r₁ q₁ => ?_) hE))
  obtain ⟨x, D, es, σ₂, rfl, rfl, q₁⟩ := q₁
  obtain rfl := r₁.ref_inv
  refine wpAny_bind (wpAny_standAt (wpAny_pure (wpAny_bind (wpAny_pure ?_))))
  obtain ⟨ox, hox, hcl, hdi, vs, hdt, hz, ⟨t0, h0⟩, h1⟩ := S₁.live (x, .ins C (some D)) (by simp)
  have Y := efacts (M := model G.prog G.w) (g.at S₁) EC
  obtain ⟨_, _, _, hC, _, _, _, _, _, _, _⟩ := Y.obj
  have tx : Looks (model G.prog G.w) h₁ (typeOf (.ref x)) (.ref C) := hcl ▸ (Looks.ld hox).andThen .now
  have tC : Looks (model G.prog G.w) h₁ (typeOf (.ref C)) (.type "type") := (Looks.ld hC).andThen .now
  have ib : Looks (model G.prog G.w) h₁ (isInstance (.ref x) (.type "BaseException")) true := tx.andThen Y.bexc
  have nt : Looks (model G.prog G.w) h₁ (isType (.ref x)) false := by
    refine (Looks.ld hox).andThen ?_
    rw [hdt]
    exact .now
  have ne : Looks (model G.prog G.w) h₁ (isExcClass (.ref x)) false := nt.andThen .now
  refine wpAny_bind ?_
  unfold excFromValue
  refine wpAny_holding (wpAny_bind (ne.at ?_))
  rw [if_neg (by decide)]
  refine wpAny_bind (ib.at ?_)
  rw [if_pos rfl]
  refine wpAny_pure ?_
  dsimp only
  refine wpAny_bind (nt.at ?_)
  rw [if_neg (by decide)]
  unfold raisedInstance
  refine wpAny_bind (wpAny_bind (tx.at (wpAny_bind (tC.at ?_))))
  rw [if_pos (by rfl)]
  refine wpAny_pure ?_
  unfold setFlight
  refine wpAny_bind (wpAny_bind (wpAny_field hox hdt h1 ?_))
  rw [if_neg (by decide)]
  refine wpAny_pure ?_
  refine wpAny_raiseNew_none hA ?_
  obtain ⟨oD, hoD, ⟨m, hbD, hat⟩, S₂⟩ := S₁.settle (σ₁ := [])
  obtain ⟨S₃, O₃⟩ := Sat.drop S₂
  exact hE ⟨C, es⟩ x ρ₁ σ₂ ((D, oD) :: fz₁) h₁ t₁ (fun p hp => List.mem_cons_of_mem _ (k₁ p hp)) S₃ ⟨O₃, ox, D, oD, vs, m, hox, hcl, hdi, hdt, by omega, List.mem_cons_self, hbD.obj, hat.mono fun p hp => List.mem_cons_of_mem _ hp, .inl h1⟩ q₁

noncomputable def plainAV : AV → Bool
  | .val _ => false
  | _ => true
theorem handed_plain {fz : Objs} {v : AV} {V : Value} (r : Rel G fz v V) (h : plainAV v = true) : handedIn V = true := by
  cases r <;> first | rfl | (cases h)

theorem bga_kind : builtinKind "BaseException.__getattribute__" = some .slot := by decide +kernel
theorem bga_split : splitId "BaseException.__getattribute__" = some ("BaseException", "__getattribute__") := by decide +kernel
theorem ga_open {M : Model} {A : Around} {x : Addr} {name : Str} {E : Value → Shared → Prop} {s : Shared} {K : Frag} {ox : Obj} {od : Option Obj} {V : Value} {Q : Value → Shared → Prop} {prog : Program} {w : World} (hM : M = model prog w) (X : K.In s.heap) (EC : ECls K C fI) (I : InstAt s.heap x ox C od)
    (hf : findObj K C od name = some (.value V)) (hh : handedIn V = true) (h : Q V { s with toks := s.toks + 1 }) : wpAny M A (getAttr (.ref x) name true) Q E s := by
  subst hM
  obtain ⟨hp, g, d, t, os⟩ := s
  have Y := efacts (M := model prog w) X EC
  have L0 := I.type (M := model prog w)
  have L1 := looks_findIn (M := model prog w) X EC.ga
  have L2 := looks_find (M := model prog w) X I hf
  have L3 := looks_findIn (M := model prog w) X EC.gh
  have ib : Looks (model prog w) hp (isInstance (.ref x) (.type "BaseException")) true := L0.andThen Y.bexc
  unfold getAttr getAttrBy
  refine wpAny_bind (wpAny_mkText (wpAny_holding (wpAny_bind (L0.at (wpAny_bind (L1.at ?_))))))
  show wpAny _ _ (getAttrByItsOwn _ _ _ _ _ _) _ _ _
  unfold getAttrByItsOwn
  have FX := PySem.F.excAttr_ValueError
  refine wpAny_bind (m := hookBefore _) (L3.at (wpAny_bind (wpAny_attempt (wpAny_holding ?_))))
  show wpAny _ _ (boundAndCalled (.builtin "BaseException.__getattribute__") (.ref x) (.str name t)) _ _ _
  unfold boundAndCalled
  rw [FX.ga.bind]
  refine wpAny_bind (wpAny_pure ?_)
  dsimp only
  refine wpAny_call (codeAny_call_builtin FX.ga.plain PySem.F.entry_bexc_ga (@check_slot (model prog w) _ _ ⟨hp, g, d, t + 1, os⟩ "BaseException.__getattribute__" "BaseException" "__getattribute__" (.ref x) [.str name t] [] _ bga_kind bga_split ib (PySem.F.args_bexc_ga (.ref x) (.str name t)) ?_))
  unfold Builtin.«object.__getattribute__»
  repeat lk
  show wpAny _ _ (handedOut V) _ _ _
  rw [handedOut_of hh]
  exact wpAny_pure h

theorem Rel.exc_inv {fz : Objs} {es V} (r : Rel G fz (.exc C es) V) : ∃ (a d : Addr) (o od : Obj) (vs : Array Value) (m : Str → Option Value), V = .ref a ∧ (a, o) ∈ fz ∧ o.cls = .ref C ∧ o.dict = some d ∧ o.data = .fields vs ∧ (d, od) ∈ fz ∧ NsObj od m ∧ AtR G fz es m := by
  cases r with
  | exc h1 h2 h3 h4 h5 h6 h7 h8 => exact ⟨_, _, _, _, _, _, rfl, h1, h2, h3, h4, h5, h6, fun x v e => ⟨_, h7 x v e, h8 x v e⟩⟩

theorem lookIn_of {od : Obj} {m : Str → Option Value} {name : Str} {V : Value} (h : NsObj od m) (e : m name = some V) : lookIn name od = some (some V) := by
  obtain ⟨es, ep, hd, hk, hm⟩ := h
  unfold lookIn
  rw [hd]
  dsimp only
  have := hm name
  rw [e] at this
  unfold nsFind findBy at this
  rw [← Array.find?_toList] at this
  obtain ⟨en, he, hv⟩ := Option.map_eq_some_iff.mp this
  rw [he, ← hv]

/-- reading an attribute of a caught exception -/
theorem ev_attr {n attr : Str} {np pos : Pos} {es : List (Str × AV)} {v : AV} {Q : AV → AE → AH → Prop} (EC : ECls G.K C fI) (hρ : ρ n = some (.exc C es)) (ha : es.lookup attr = some v) (hf : findIn G.K (.ref C) attr = some none) (hp : plainAV v = true) (q : Q v ρ σ)
    (hd : (n == ("__debug__" : Str)) = false := by decide) (hc : (n == ("__classdict__" : Str)) = false := by decide) : Ev G cx ρ σ (.Attribute (.Name n np) attr pos) Q EQ := fun ex fz s _ g S _ QQ EE hQ hE => by
  refine Attribute_name (wpAny_Name (loadVar S hρ hc fun V r => ?_) hd)
  obtain ⟨a, d, o, od, vs, m, rfl, hm, hcl, hdi, hdt, hmd, hns, hat⟩ := r.exc_inv
  obtain ⟨W, hW, rW⟩ := hat attr v ha
  have I : InstAt s.heap a o C (some od) := ⟨S.fzh _ hm, hcl, by unfold notCls; rw [hdt], by rw [hdi]; exact S.fzh _ hmd⟩
  refine ga_open rfl (g.at S) EC I ?_ (handed_plain rW hp) (give hQ S rW q)
  obtain ⟨od', cd, sl, ho, e1, e2, e3, _⟩ := EC.obj
  have hc : clsIn G.K C = some cd := by unfold clsIn; rw [ho]
  unfold findObj
  rw [hc, Option.bind_some, hf, Option.bind_some]
  show (PySem.W.ownOf cd (some od) attr).bind _ = _
  unfold PySem.W.ownOf
  rw [e3, if_pos rfl]
  dsimp only
  rw [lookIn_of hns hW]
  rfl
end
end Mine
namespace Mine
open PySem PySem.W PyProof.Rows PyProof.Rows.LCg PySem.Calls PySem.Spec

noncomputable def del (ρ : AE) (x : Str) : AE := fun y => if y = x then none else ρ y
section
variable {G : Gr} {cx : Cx} {ρ : AE} {σ : AH} {ex fz : Objs} {h : Heap} {s : Shared}

theorem XNo.frozen {e : Addr} {x : AX} {fl : Value} (S : Sat G cx ex ρ σ fz h) (X : XNo G cx ex σ fz h e x fl) : ∃ o, Sat G cx ex ρ σ ((e, o) :: fz) h ∧ Rel G ((e, o) :: fz) (.exc x.c x.at_) (.ref e) := by
  obtain ⟨O, o, d, od, vs, m, h1, h2, h3, h4, h5, h6, h7, h8, _⟩ := X
  have W : ∀ y, ∃ V, ∀ v, x.at_.lookup y = some v → m y = some V ∧ Rel G fz v V := fun y => by
    cases e : x.at_.lookup y with
    | none => exact ⟨.none, fun v q => by cases q⟩
    | some v =>
      obtain ⟨V, a, b⟩ := h8 y v e
      exact ⟨V, fun v' q => by cases q; exact ⟨a, b⟩⟩
  refine ⟨o, S.freeze h1 O.m O.x, .exc (W := fun y => (W y).choose) List.mem_cons_self h2 h3 h4 (List.mem_cons_of_mem _ h6) h7 (fun y v q => ((W y).choose_spec v q).1) fun y v q => ((W y).choose_spec v q).2.mono fun p hp => List.mem_cons_of_mem _ hp⟩

theorem name_goes {A : Around} {E : Value → Shared → Prop} {n : Str} {pos : Pos} {Q : Unit → Shared → Prop} (S : Sat G cx ex ρ σ fz s.heap) (hk : cx.env.kindOf n = some .local)
    (k : ∀ h' tk', Sat G cx ex (del ρ n) σ fz h' → Q () { s with heap := h', toks := tk' }) : wpAny (model G.prog G.w) A (do bindName cx.env n .none; unbindBehindTheSuite cx.env n pos) Q E s := by
  obtain ⟨m, hn, hv⟩ := S.loc
  refine wpAny_nameGoes_keeps hk hn (by rw [S.ok.kf]; rfl) fun h' v hn' hs' => k h' _ ?_
  refine S.set_own (a := cx.env.locals) List.mem_cons_self hs'.extBut ⟨_, hn', fun y u e => ?_⟩ fun c hc => ?_
  · unfold del at e
    by_cases hy : y = n
    · rw [if_pos hy] at e; cases e
    · rw [if_neg hy] at e
      rcases hv y u e with ⟨k1, V', hV, r'⟩ | ⟨k1, c, V', hc, ho, hi, r'⟩ | q
      · exact .inl ⟨k1, V', (if_neg hy).trans hV, r'⟩
      · obtain ⟨o, ho', hd⟩ := hi
        exact .inr (.inl ⟨k1, c, V', hc, ho, ⟨o, hs'.extBut _ _ (S.own_ne ho) ho', hd⟩, r'⟩)
      · exact .inr (.inr q)
  · obtain ⟨v, o, ho, hd⟩ := S.ownc c hc
    exact ⟨v, o, hs'.extBut _ _ (S.own_ne hc) ho, hd⟩
end

section
variable {G : Gr} {cx : Cx} {ρ : AE} {σ : AH} {EQ : AX → AE → AH → Prop}

/-- how a frame stands in a handler -/
noncomputable def Cx.mk' (cx : Cx) (e : Addr) : Cx := cx.on (cx.A.mark (some (.ref e))) cx.d (some (.ref e))

theorem x_try_as {body hbody : List Stmt} {b₀ : Stmt} {n t : Str} {tp hp pos : Pos} {C : Addr} {Q : AF → AE → AH → Prop} {names : List (Str × NameKind)} (K : KN cx names) (hc : cx.comp = false) (hdn : cx.hd = none)
    (ht : names.lookup t = some .globalImplicit) (hg : nsIn G.K mainGlobals t = some (some (.ref C))) (hn : names.lookup n = some .local)
    (h : Xs G cx ρ σ body Q (fun x ρ' σ' => exmOne G.K (.ref x.c) (.ref C) = some true ∧ ∀ e, Xs G (cx.mk' e) (upd ρ' n (.exc x.c x.at_)) σ' (b₀ :: hbody) (fun fl ρ'' σ'' => Q fl (del ρ'' n) σ'') (fun _ _ _ => False)))
    (hd : (t == ("__debug__" : Str)) = false := by decide) :
    X1 G cx ρ σ (.Try body [.ExceptHandler (some (.Name t tp)) (some n) (b₀ :: hbody) hp] [] [] pos) Q EQ := fun ex fz s _ g S _ QQ EE hQ hE => by
  refine wpAny_Try_except (h.run g S .nil (fun fl FL ρ' σ' fz' h' tk' k S' r' q' => ?_) (fun x e ρ' σ' fz' h' tk' k S' X' q' => ?_))
  · cases r' with
    | next => exact wpAny_execs_nil (hQ .next .next ρ' σ' fz' h' tk' k S' .next q')
    | ret rv => exact hQ (.ret _) _ ρ' σ' fz' h' tk' k S' (.ret rv) q'
  obtain ⟨hm, hb⟩ := q'
  have hQ' := hQ.on (h₁ := h') (t₁ := tk') k
  refine note_frame (s := { s with heap := h', toks := tk' }) S'.ok.frames hc S' X' fun h₁ S₁ X₁ => ?_
  refine set_flight (s := { s with heap := h₁, toks := tk' }) none S₁ X₁ fun h₂ S₂ X₂ => ?_
  refine wpAny_handleBy_cons (codeAny_handlers_test ?_) (by intro q; cases q)
  refine Calls.Name_function_global S₂.ok.kf (K.glob ht) (Calls.loadGlobal_global (s := { s with heap := h₂, toks := tk' }) (env := cx.env) (by rw [S₂.ok.gl.1]; exact g.TB.g.keeps S₂.base) (mg_of g.KB g.TB.g hg) ?_) hd
  obtain ⟨O₂, o₂, d₂, od₂, vs₂, m₂, e1, e2, _⟩ := id X₂
  refine (exm_one (g.at S₂) (show Looks (model G.prog G.w) h₂ (typeOf (.ref e)) (.ref x.c) from e2 ▸ (Looks.ld e1).andThen .now) hm).here ?_
  dsimp only
  rw [if_pos rfl]
  refine codeAny_handlers_suite_as ?_
  refine set_flight (s := { s with heap := h₂, toks := tk' }) none S₂ X₂ fun h₃ S₃ X₃ => ?_
  obtain ⟨o₃, S₄, rE⟩ := X₃.frozen S₃
  refine store_var (s := { s with heap := h₃, toks := tk' }) S₄ rE (.inl (K.kd n _ hn (by decide))) fun h₅ tk₅ S₅ => ?_
  have S₆ : Sat G (cx.mk' e) ex (upd ρ' n (.exc x.c x.at_)) σ' ((e, o₃) :: fz') h₅ := S₅.on rfl S₅.ok.depth S₅.ok.units (by
    show (some (Value.ref e)).or cx.A.handled = _
    rw [S₅.ok.hd, hdn]; rfl)
  refine (hb e).run (s := { s with heap := h₅, toks := tk₅ }) g S₆ .nil (fun fl FL ρ₇ σ₇ fz₇ h₇ tk₇ k₇ S₇ r₇ q₇ => ?_) (fun _ _ _ _ _ _ _ _ _ _ q => q.elim)
  have S₈ := S₇.off_on S.ok
  refine name_goes (s := { s with heap := h₇, toks := tk₇ }) S₈ (K.kd n _ hn (by decide)) fun h₉ tk₉ S₉ => ?_
  exact hQ' fl FL _ σ₇ fz₇ h₉ tk₉ (fun p hp => k₇ p (List.mem_cons_of_mem _ hp)) S₉ r₇ q₇

/-- a clause for all -/
theorem x_try_bare {body hbody : List Stmt} {b₀ : Stmt} {hp pos : Pos} {Q : AF → AE → AH → Prop} (hc : cx.comp = false) (hdn : cx.hd = none)
    (h : Xs G cx ρ σ body Q (fun x ρ' σ' => ∀ e, Xs G (cx.mk' e) ρ' σ' (b₀ :: hbody) Q (fun _ _ _ => False))) :
    X1 G cx ρ σ (.Try body [.ExceptHandler none none (b₀ :: hbody) hp] [] [] pos) Q EQ := fun ex fz s _ g S _ QQ EE hQ hE => by
  refine wpAny_Try_except (h.run g S .nil (fun fl FL ρ' σ' fz' h' tk' k S' r' q' => ?_) (fun x e ρ' σ' fz' h' tk' k S' X' hb => ?_))
  · cases r' with
    | next => exact wpAny_execs_nil (hQ .next .next ρ' σ' fz' h' tk' k S' .next q')
    | ret rv => exact hQ (.ret _) _ ρ' σ' fz' h' tk' k S' (.ret rv) q'
  have hQ' := hQ.on (h₁ := h') (t₁ := tk') k
  refine note_frame (s := { s with heap := h', toks := tk' }) S'.ok.frames hc S' X' fun h₁ S₁ X₁ => ?_
  refine set_flight (s := { s with heap := h₁, toks := tk' }) none S₁ X₁ fun h₂ S₂ X₂ => ?_
  refine handleBy_bare (by intro q; cases q) ?_
  refine set_flight (s := { s with heap := h₂, toks := tk' }) none S₂ X₂ fun h₃ S₃ X₃ => ?_
  have S₆ : Sat G (cx.mk' e) ex ρ' σ' fz' h₃ := S₃.on rfl S₃.ok.depth S₃.ok.units (by
    show (some (Value.ref e)).or cx.A.handled = _
    rw [S₃.ok.hd, hdn]; rfl)
  refine (hb e).run (s := { s with heap := h₃, toks := tk' }) g S₆ .nil (fun fl FL ρ₇ σ₇ fz₇ h₇ tk₇ k₇ S₇ r₇ q₇ => ?_) (fun _ _ _ _ _ _ _ _ _ _ q => q.elim)
  exact hQ' fl FL _ σ₇ fz₇ h₇ tk₇ k₇ (S₇.off_on S.ok) r₇ q₇
end
end Mine
namespace Mine
open PySem PySem.W PyProof.Rows PyProof.Rows.LCg PySem.Calls PySem.Spec

section
variable {G : Gr} {cx : Cx} {ρ : AE} {σ : AH} {EQ : AX → AE → AH → Prop}

/-! arguments -/
noncomputable abbrev Args (G : Gr) (cx : Cx) (ρ : AE) (σ : AH) (pos : Pos) (elts : List Expr) (Q : List AV → AE → AH → Prop) (EQ : AX → AE → AH → Prop) : Prop := JV (fun G fz => RelL G fz) G cx ρ σ [] (fun _ => spliced (backTo pos (starEach elts cx.env))) Q EQ
theorem as_nil {pos : Pos} {Q : List AV → AE → AH → Prop} (q : Q [] ρ σ) : Args G cx ρ σ pos [] Q EQ := fun _ _ _ _ _ S _ _ _ hQ _ => Calls.spliced_nil (give hQ S .nil q)
theorem as_cons {pos : Pos} {e : Expr} {rest : List Expr} {Q : List AV → AE → AH → Prop} (h : Ev G cx ρ σ e (fun v ρ₁ σ₁ => Args G cx ρ₁ σ₁ pos rest (fun vs ρ₂ σ₂ => Q (v :: vs) ρ₂ σ₂) EQ) EQ) (he : starEach (e :: rest) cx.env = (false, eval e cx.env) :: starEach rest cx.env := by rfl) : Args G cx ρ σ pos (e :: rest) Q EQ :=
  fun _ _ _ _ g S _ _ _ hQ hE => spliced_more (h.run g S .nil (fun _ _ _ _ _ _ _ k₁ S₁ r₁ q₁ => q₁.run g S₁ .nil (fun vs Vs _ _ _ _ _ k₂ S₂ r₂ q₂ => (hQ.on k₁) _ _ _ _ _ _ _ k₂ S₂ (.cons (r₁.mono k₂) r₂) q₂) (hE.on k₁)) hE) he
theorem as_one {pos : Pos} {e : Expr} {Q : List AV → AE → AH → Prop} (h : Ev G cx ρ σ e (fun v ρ₁ σ₁ => Q [v] ρ₁ σ₁) EQ) (he : starEach [e] cx.env = (false, eval e cx.env) :: starEach [] cx.env := by rfl) : Args G cx ρ σ pos [e] Q EQ :=
  as_cons (h.mono (fun _ _ _ q => as_nil q) fun _ _ _ q => q) he

/-! displays -/
theorem big_le {h : Heap} {ex fz : Objs} (S : Sat G cx ex ρ σ fz h) : G.hb.objs.size ≤ h.objs.size := by
  obtain ⟨o, ho⟩ := S.mut_there (a := cx.env.locals) (by unfold Cx.mut; exact List.mem_cons_self)
  exact Nat.le_trans (S.new _ (by unfold Cx.mut; exact List.mem_cons_self)).2 (Nat.le_of_lt (Heap.lt_size ho))
theorem ev_tuple {elts : List Expr} {k : Nat} {pos : Pos} {Q : AV → AE → AH → Prop} (h : Args G cx ρ σ pos elts (fun vs ρ' σ' => vs.length ≤ 1000 ∧ Q (.tup vs) ρ' σ') EQ) : Ev G cx ρ σ (.Tuple elts k pos) Q EQ :=
  fun ex fz s _ g S _ QQ EE hQ hE => Tuple_ (h.run g S .nil (fun vs Vs ρ₁ σ₁ fz₁ h₁ t₁ k₁ S₁ r₁ q₁ => wpAny_newTuple (hQ _ _ ρ₁ σ₁ _ _ t₁ (fun p hp => List.mem_cons_of_mem _ (k₁ p hp)) (S₁.alloc { cls := .type "tuple", data := .seq Vs.toArray })
    (.tup List.mem_cons_self rfl rfl (r₁.mono fun p hp => List.mem_cons_of_mem _ hp)) q₁.2) (by rw [RelL.length r₁, sizeLine_eq]; have := q₁.1; omega)) hE)
theorem ev_list {elts : List Expr} {pos : Pos} {Q : AV → AE → AH → Prop} (h : Args G cx ρ σ pos elts (fun vs ρ' σ' => vs.length ≤ 1000 ∧ Q (.lst vs) ρ' σ') EQ) : Ev G cx ρ σ (.List elts pos) Q EQ :=
  fun ex fz s _ g S _ QQ EE hQ hE => List_ (h.run g S .nil (fun vs Vs ρ₁ σ₁ fz₁ h₁ t₁ k₁ S₁ r₁ q₁ => wpAny_newList (hQ _ _ ρ₁ σ₁ _ _ t₁ (fun p hp => List.mem_cons_of_mem _ (k₁ p hp)) (S₁.alloc { cls := .type "list", data := .seq Vs.toArray })
    (.lst List.mem_cons_self rfl rfl (r₁.mono fun p hp => List.mem_cons_of_mem _ hp)) q₁.2) (by rw [RelL.length r₁, sizeLine_eq]; have := q₁.1; omega)) hE)
theorem ev_list_live {elts : List Expr} {pos : Pos} {Q : AV → AE → AH → Prop} (h : Args G cx ρ σ pos elts (fun vs ρ' σ' => vs.length ≤ 1000 ∧ ∀ a, Q (.ref a) ρ' ((a, .lst vs) :: σ')) EQ) : Ev G cx ρ σ (.List elts pos) Q EQ :=
  fun ex fz s _ g S _ QQ EE hQ hE => List_ (h.run g S .nil (fun vs Vs ρ₁ σ₁ fz₁ h₁ t₁ k₁ S₁ r₁ q₁ => wpAny_newList (hQ (.ref _) _ ρ₁ _ fz₁ _ t₁ k₁
    ((S₁.push { cls := .type "list", data := .seq Vs.toArray }).live_new (ao := .lst vs) (Heap.get?_push_size _ rfl) (S₁.size_off (Nat.le_refl _)) (big_le S₁) ⟨_, _, rfl, r₁⟩)
    (.ref _) (q₁.2 _)) (by rw [RelL.length r₁, sizeLine_eq]; have := q₁.1; omega)) hE)
theorem ev_dict0 {pos : Pos} {Q : AV → AE → AH → Prop} (q : ∀ a, Q (.ref a) ρ ((a, .dct []) :: σ)) : Ev G cx ρ σ (.Dict [] [] pos) Q EQ :=
  fun ex fz s _ g S _ QQ EE hQ hE => wpAny_Dict_empty (hQ (.ref _) _ ρ _ fz _ s.toks (fun _ h => h)
    ((S.push { cls := .type "dict", data := .dict #[] }).live_new (ao := .dct []) (Heap.get?_push_size _ rfl) (S.size_off (Nat.le_refl _)) (big_le S) ⟨[], dict_new, .nil⟩) (.ref _) (q _))

/-! calls -/
theorem ev_call {x : Str} {p pos : Pos} {e : Expr} {rest : List Expr} {Q : AV → AE → AH → Prop} {f : Addr} {oc : Value} {od : Option Addr} {osl : Array (Option Value)} {fd : FuncData}
    (hf : Ev G cx ρ σ (.Name x p) (fun v ρ₁ σ₁ => v = .val (.ref f) ∧ Args G cx ρ₁ σ₁ pos (e :: rest) (fun vs ρ₂ σ₂ => JV Rel G cx ρ₂ σ₂ vs (fun Vs => call (.ref f) Vs) Q EQ) EQ) EQ)
    (hK : G.K.lookup f = some ⟨oc, od, .func fd, osl⟩) (he : starEach (e :: rest) cx.env = (false, eval e cx.env) :: starEach rest cx.env := by rfl) : Ev G cx ρ σ (.Call (.Name x p) (e :: rest) [] pos) Q EQ :=
  fun ex fz s _ g S _ QQ EE hQ hE => Call_Name rfl (hf.run g S .nil (fun v V ρ₁ σ₁ fz₁ h₁ t₁ k₁ S₁ r₁ q₁ => by
    obtain ⟨rfl, q₁⟩ := q₁
    obtain rfl := r₁.val_inv
    refine callWith_meth (h₀ := G.hb) rfl (g.KB _ _ hK) (q₁.run g S₁ .nil (fun vs Vs ρ₂ σ₂ fz₂ h₂ t₂ k₂ S₂ r₂ q₂ => ⟨S₂.base, q₂.run g S₂ r₂ ((hQ.on k₁).on k₂) ((hE.on k₁).on k₂)⟩) (hE.on k₁)) he) hE)

theorem callWith_ecls {K : Frag} {C fI : Addr} {prog : Program} {w : World} {A : Around} {E : Value → Shared → Prop} {s : Shared} {env : Env} {pos : Pos} {e : Expr} {rest : List Expr} {Q : Value → Shared → Prop} (EC : ECls K C fI)
    (h : wpAny (model prog w) A (spliced (backTo pos (starEach (e :: rest) env))) (fun vs s₁ => K.In s₁.heap ∧ wpAny (model prog w) A (call (.ref C) vs) Q E s₁) E s)
    (he : starEach (e :: rest) env = (false, eval e env) :: starEach rest env := by rfl)
    (hplain : (backTo pos (starEach rest env)).any (·.1) = false := by rfl) :
    wpAny (model prog w) A (callWith pos (.ref C) [] (backTo pos (starEach (e :: rest) env)) []) Q E s := by
  rw [he] at h ⊢
  have hst : ((backTo pos ((false, eval e env) :: starEach rest env)).any (fun x => x.fst) || ([] : List (Option Str × Sem Value)).any fun x => x.fst.isNone) = false := by
    show ((false || (backTo pos (starEach rest env)).any (·.1)) || false) = false
    rw [hplain]; rfl
  unfold callWith
  refine wpAny_bind (wpAny_holding (Calls.evalArgs_plain (wpAny_mono h (fun vs s₁ h₁ => ?_) fun _ _ x => x)))
  obtain ⟨⟨od, cd, sl, hC, _⟩, _, _, _, _, _, _, call, _⟩ := efacts (M := model prog w) h₁.1 EC
  refine wpAny_bind (wpAny_standAt ?_)
  show wpAny _ _ (keeperOf (.ref C) >>= _) _ _ _
  unfold keeperOf
  refine wpAny_bind (wpAny_bind (wpAny_load hC ?_))
  dsimp only
  refine wpAny_bind (call.here ?_)
  rw [if_pos (by rfl)]
  refine wpAny_pure ?_
  rw [hst]
  exact wpAny_bind (wpAny_mono h₁.2 (fun r s' hr => wpAny_bind (wpAny_holding (wpAny_point (wpAny_pure hr)))) fun _ _ x => x)

theorem ev_callexc {x : Str} {p pos : Pos} {e : Expr} {rest : List Expr} {Q : AV → AE → AH → Prop} {C fI : Addr} (EC : ECls G.K C fI)
    (hf : Ev G cx ρ σ (.Name x p) (fun v ρ₁ σ₁ => v = .val (.ref C) ∧ Args G cx ρ₁ σ₁ pos (e :: rest) (fun vs ρ₂ σ₂ => JV Rel G cx ρ₂ σ₂ vs (fun Vs => call (.ref C) Vs) Q EQ) EQ) EQ)
    (he : starEach (e :: rest) cx.env = (false, eval e cx.env) :: starEach rest cx.env := by rfl) (hplain : (backTo pos (starEach rest cx.env)).any (·.1) = false := by rfl) : Ev G cx ρ σ (.Call (.Name x p) (e :: rest) [] pos) Q EQ :=
  fun ex fz s _ g S _ QQ EE hQ hE => Call_Name rfl (hf.run g S .nil (fun v V ρ₁ σ₁ fz₁ h₁ t₁ k₁ S₁ r₁ q₁ => by
    obtain ⟨rfl, q₁⟩ := q₁
    obtain rfl := r₁.val_inv
    refine callWith_ecls EC (q₁.run g S₁ .nil (fun vs Vs ρ₂ σ₂ fz₂ h₂ t₂ k₂ S₂ r₂ q₂ => ⟨g.at S₂, q₂.run g S₂ r₂ ((hQ.on k₁).on k₂) ((hE.on k₁).on k₂)⟩) (hE.on k₁)) he hplain) hE)

/-- of a builtin function or type, with one argument or more -/
theorem ev_callb {x : Str} {p pos : Pos} {e : Expr} {rest : List Expr} {Q : AV → AE → AH → Prop} {id : String}
    (hf : Ev G cx ρ σ (.Name x p) (fun v ρ₁ σ₁ => v = .val (.builtin id) ∧ Args G cx ρ₁ σ₁ pos (e :: rest) (fun vs ρ₂ σ₂ => JV Rel G cx ρ₂ σ₂ vs (fun Vs => call (.builtin id) Vs) Q EQ) EQ) EQ)
    (he : starEach (e :: rest) cx.env = (false, eval e cx.env) :: starEach rest cx.env := by rfl) (hplain : (backTo pos (starEach rest cx.env)).any (·.1) = false := by rfl) : Ev G cx ρ σ (.Call (.Name x p) (e :: rest) [] pos) Q EQ :=
  fun ex fz s _ g S _ QQ EE hQ hE => Call_Name rfl (hf.run g S .nil (fun v V ρ₁ σ₁ fz₁ h₁ t₁ k₁ S₁ r₁ q₁ => by
    obtain ⟨rfl, q₁⟩ := q₁
    obtain rfl := r₁.val_inv
    have := q₁.run (s := { s with heap := h₁, toks := t₁ }) g S₁ .nil (QQ := fun Vs s' => wpAny (model G.prog G.w) cx.A (call (.builtin id) Vs) QQ EE s') (fun vs Vs ρ₂ σ₂ fz₂ h₂ t₂ k₂ S₂ r₂ q₂ => q₂.run g S₂ r₂ ((hQ.on k₁).on k₂) ((hE.on k₁).on k₂)) (hE.on k₁)
    exact callWith_method1 (first := []) this he hplain) hE)
theorem ev_callt {x : Str} {p pos : Pos} {e : Expr} {rest : List Expr} {Q : AV → AE → AH → Prop} {T : String}
    (hf : Ev G cx ρ σ (.Name x p) (fun v ρ₁ σ₁ => v = .val (.type T) ∧ Args G cx ρ₁ σ₁ pos (e :: rest) (fun vs ρ₂ σ₂ => JV Rel G cx ρ₂ σ₂ vs (fun Vs => call (.type T) Vs) Q EQ) EQ) EQ)
    (he : starEach (e :: rest) cx.env = (false, eval e cx.env) :: starEach rest cx.env := by rfl) (hplain : (backTo pos (starEach rest cx.env)).any (·.1) = false := by rfl) : Ev G cx ρ σ (.Call (.Name x p) (e :: rest) [] pos) Q EQ :=
  fun ex fz s _ g S _ QQ EE hQ hE => Call_Name rfl (hf.run g S .nil (fun v V ρ₁ σ₁ fz₁ h₁ t₁ k₁ S₁ r₁ q₁ => by
    obtain ⟨rfl, q₁⟩ := q₁
    obtain rfl := r₁.val_inv
    exact PyProof.Rows.callWith_type1 (q₁.run g S₁ .nil (fun vs Vs ρ₂ σ₂ fz₂ h₂ t₂ k₂ S₂ r₂ q₂ => q₂.run g S₂ r₂ ((hQ.on k₁).on k₂) ((hE.on k₁).on k₂)) (hE.on k₁)) he hplain) hE)

/-! items -/
theorem RelE.value {fz : Objs} {es : List (Str × AV)} {kvs : List (Str × Value)} {k : Str} (r : RelE G fz es kvs) : (∀ v, es.lookup k = some v → ∃ V, valueAt kvs k = some V ∧ Rel G fz v V) ∧ (es.lookup k = none → valueAt kvs k = none) := by
  match r with
  | .nil => exact ⟨(fun v e => nomatch e), fun _ => rfl⟩
  | .cons (k := k') h r =>
    have ih := RelE.value (k := k) r
    unfold valueAt at ih ⊢
    simp only [List.lookup_cons, List.find?_cons]
    by_cases hk : k' = k
    · subst hk
      simp only [beq_self_eq_true, decide_true]
      exact ⟨(fun v e => by cases e; exact ⟨_, rfl, h⟩), (fun e => by cases e)⟩
    · have h1 : (k == k') = false := by simpa using fun q : k = k' => hk q.symm
      simp only [h1, hk, decide_false]
      exact ih

variable {Q : AV → AE → AH → Prop} {value slice : Expr}
theorem it_lst {l : List AV} {i : Int} {v : AV} (h0 : 0 ≤ i) (h1 : l[i.toNat]? = some v) (hb : i < 2 ^ 62) (q : Q v ρ σ) (hs : ∀ o i, subscripted slice false o i = operate [o, i] (getItem o i) := by intro _ _; rfl) : JV Rel G cx ρ σ [.lst l, .int i] (two (subscriptTail value slice)) Q EQ := fun ex fz s _ g S r QQ EE hQ hE => by
  obtain ⟨_, _, rfl, r1, r2⟩ := r.two_inv
  obtain ⟨a, o, vs, n, rfl, hm, hc, hdt, hl⟩ := r1.lst_inv
  obtain ⟨t, rfl⟩ := r2.int_inv
  obtain ⟨V, hV, rV⟩ := hl.get h1
  have hL : s.heap.IsList a vs := ⟨o, S.fzh _ hm, hc, n, hdt⟩
  exact sub_of hL.typeIs slot_list_getitem.lookup (wpAny_getItem_list hL h0 (by omega) (by rw [← Array.getElem?_toList]; exact hV) (give hQ S rV q (tk := s.toks))) (hs _ _)
theorem it_dct {es : List (Str × AV)} {k : Str} {v : AV} (h1 : es.lookup k = some v) (q : Q v ρ σ) (hs : ∀ o i, subscripted slice false o i = operate [o, i] (getItem o i) := by intro _ _; rfl) : JV Rel G cx ρ σ [.dct es, .str k] (two (subscriptTail value slice)) Q EQ := fun ex fz s _ g S r QQ EE hQ hE => by
  obtain ⟨_, _, rfl, r1, r2⟩ := r.two_inv
  obtain ⟨a, o, kvs, rfl, hm, hsys, hd, hl⟩ := r1.dct_inv
  obtain ⟨t, rfl⟩ := r2.str_inv
  obtain ⟨V, hV, rV⟩ := hl.value.1 v h1
  have hD : s.heap.DictOf (PySem.strKind G.prog G.w) a kvs := Heap.dictOf_iff.mpr ⟨o, S.fzh _ hm, hd⟩
  have hT : s.TypeIs (.ref a) "dict" := ⟨o, S.fzh _ hm, by obtain ⟨_, _, h, _⟩ := hd; exact h.1⟩
  exact sub_of hT F.slot_dict_getitem.lookup (wpAny_getItem_of (isStr_refl k t) hD.mapOf hV (give hQ S rV q)) (hs _ _)
theorem it_ldct {a : Addr} {σ₁ σ₂ : AH} {es : List (Str × AV)} {k : Str} {v : AV} (hσ : σ = σ₁ ++ (a, .dct es) :: σ₂) (h1 : es.lookup k = some v) (q : Q v ρ σ) (hs : ∀ o i, subscripted slice false o i = operate [o, i] (getItem o i) := by intro _ _; rfl) : JV Rel G cx ρ σ [.ref a, .str k] (two (subscriptTail value slice)) Q EQ := fun ex fz s _ g S r QQ EE hQ hE => by
  obtain ⟨_, _, rfl, r1, r2⟩ := r.two_inv
  obtain rfl := r1.ref_inv
  obtain ⟨t, rfl⟩ := r2.str_inv
  obtain ⟨o, ho, kvs, hd, hl⟩ := S.live (a, .dct es) (by rw [hσ]; simp)
  obtain ⟨V, hV, rV⟩ := hl.value.1 v h1
  have hD : s.heap.DictOf (PySem.strKind G.prog G.w) a kvs := Heap.dictOf_iff.mpr ⟨o, ho, hd⟩
  have hT : s.TypeIs (.ref a) "dict" := ⟨o, ho, by obtain ⟨_, _, h, _⟩ := hd; exact h.1⟩
  exact sub_of hT F.slot_dict_getitem.lookup (wpAny_getItem_of (isStr_refl k t) hD.mapOf hV (give hQ S rV q)) (hs _ _)
theorem it_llst {a : Addr} {σ₁ σ₂ : AH} {l : List AV} {i : Int} {v : AV} (hσ : σ = σ₁ ++ (a, .lst l) :: σ₂) (h0 : 0 ≤ i) (h1 : l[i.toNat]? = some v) (hb : i < 2 ^ 62) (q : Q v ρ σ) (hs : ∀ o i, subscripted slice false o i = operate [o, i] (getItem o i) := by intro _ _; rfl) : JV Rel G cx ρ σ [.ref a, .int i] (two (subscriptTail value slice)) Q EQ := fun ex fz s _ g S r QQ EE hQ hE => by
  obtain ⟨_, _, rfl, r1, r2⟩ := r.two_inv
  obtain rfl := r1.ref_inv
  obtain ⟨t, rfl⟩ := r2.int_inv
  obtain ⟨o, ho, vs, n, rfl, hl⟩ := S.live (a, .lst l) (by rw [hσ]; simp)
  obtain ⟨V, hV, rV⟩ := hl.get h1
  have hL : s.heap.IsList a vs := ⟨_, ho, rfl, n, rfl⟩
  exact sub_of hL.typeIs slot_list_getitem.lookup (wpAny_getItem_list hL h0 (by omega) (by rw [← Array.getElem?_toList]; exact hV) (give hQ S rV q (tk := s.toks))) (hs _ _)

/-! membership -/
theorem op_notin_ldct {a : Addr} {σ₁ σ₂ : AH} {es : List (Str × AV)} {k : Str} (hσ : σ = σ₁ ++ (a, .dct es) :: σ₂) (q : Q (.bool !(es.lookup k).isSome) ρ σ) : JV Rel G cx ρ σ [.str k, .ref a] (two (compareOp .NotIn)) Q EQ := fun ex fz s _ g S r QQ EE hQ hE => by
  obtain ⟨_, _, rfl, r1, r2⟩ := r.two_inv
  obtain ⟨t, rfl⟩ := r1.str_inv
  obtain rfl := r2.ref_inv
  obtain ⟨o, ho, kvs, hd, hl⟩ := S.live (a, .dct es) (by rw [hσ]; simp)
  have hsys : (a == sysModules) = false := beq_eq_false_iff_ne.mpr (Nat.ne_of_gt (Nat.lt_of_lt_of_le g.big (S.new a (by unfold Cx.mut; rw [hσ]; simp)).2))
  have hD : s.heap.DictOf (PySem.strKind G.prog G.w) a kvs := Heap.dictOf_iff.mpr ⟨o, ho, hd⟩
  refine wpAny_notIn_of (isStr_refl k t) hsys hD.mapOf (give hQ S ?_ q)
  have h2 := hl.value (k := k)
  cases e : es.lookup k with
  | none => rw [h2.2 e]; exact .bool _
  | some v => obtain ⟨V, hV, _⟩ := h2.1 v e; rw [hV]; exact .bool _
end
end Mine
namespace Mine
open PySem PySem.W PyProof.Rows PyProof.Rows.LCg PySem.Calls PySem.Spec

section
variable {G : Gr} {cx : Cx} {ρ : AE} {σ : AH} {ex fz : Objs} {h : Heap}

/-- the state in the kit's own words -/
theorem Sat.news (S : Sat G cx ex ρ σ fz h) : ∃ m news, Fr G.hb cx.env.locals h m ∧ News G.hb cx.env.locals h news ∧ (∀ p ∈ fz, p.1 ∉ (cx.env.locals :: []) → G.hb.get? p.1 = none → p ∈ news) ∧ ((∀ q ∈ news, q.1 < h.objs.size) ∧ ∀ D, (∀ q ∈ news, q.1 < D) → D ≠ cx.env.locals → G.hb.get? D = none → Off G cx ex σ fz D) ∧
    ∀ h', Fr G.hb cx.env.locals h' m → News G.hb cx.env.locals h' news → Sat G cx ex ρ σ fz h' := by
  obtain ⟨m, hn, hv⟩ := S.loc
  have hL : cx.env.locals ∈ cx.mut σ := by unfold Cx.mut; exact List.mem_cons_self
  let as : List Addr := (cx.stk.map (·.1.locals) ++ cx.own ++ σ.map (·.1)) ++ (keys fz ++ keys ex)
  let news : Objs := as.filterMap fun a => if G.hb.get? a = none ∧ a ≠ cx.env.locals then (h.get? a).map fun o => (a, o) else none
  have nin : ∀ a o, a ∈ as → G.hb.get? a = none → a ≠ cx.env.locals → h.get? a = some o → (a, o) ∈ news := fun a o ha hb hne ho =>
    List.mem_filterMap.mpr ⟨a, ha, by rw [if_pos ⟨hb, hne⟩, ho]; rfl⟩
  have nout : ∀ p ∈ news, G.hb.get? p.1 = none ∧ p.1 ≠ cx.env.locals ∧ h.get? p.1 = some p.2 := fun p hp => by
    obtain ⟨a, ha, he⟩ := List.mem_filterMap.mp hp
    split at he
    · rename_i hc
      obtain ⟨o, ho, rfl⟩ := Option.map_eq_some_iff.mp he
      exact ⟨hc.1, hc.2, ho⟩
    · cases he
  have fzne : ∀ p ∈ fz, p.1 ≠ cx.env.locals := fun p hp q => S.apf _ hL (q ▸ List.mem_map_of_mem hp)
  have exne : ∀ p ∈ ex, p.1 ≠ cx.env.locals := fun p hp q => S.apx _ hL (q ▸ List.mem_map_of_mem hp)
  refine ⟨m, news, ⟨hn, S.base, (S.new _ hL).2⟩, fun p hp => ⟨(nout p hp).2.2, (nout p hp).2.1, (nout p hp).1⟩, fun p hp _ hb => nin p.1 p.2 (by show p.1 ∈ as; simp only [as, List.mem_append]; exact .inr (.inl (List.mem_map_of_mem hp))) hb (fzne p hp) (S.fzh p hp), ⟨fun q hq => Heap.lt_size (nout q hq).2.2, fun D hD hne hb => ?_⟩, fun h' F' N' => ?_⟩
  · have key : ∀ o, D ∈ as → h.get? D = some o → False := fun o ha ho => absurd (hD _ (nin D o ha hb hne ho)) (Nat.lt_irrefl _)
    refine ⟨fun q => ?_, fun q => ?_, fun q => ?_, hb⟩
    · obtain ⟨o, ho⟩ := S.mut_there q
      refine key o ?_ ho
      unfold Cx.mut at q
      rcases List.mem_cons.mp q with q | q
      · exact absurd q hne
      · simp only [as, List.mem_append] at q ⊢; exact .inl q
    · obtain ⟨p, hp, rfl⟩ := List.mem_map.mp q
      exact key _ (by simp only [as, List.mem_append]; exact .inr (.inl q)) (S.fzh p hp)
    · obtain ⟨p, hp, rfl⟩ := List.mem_map.mp q
      exact key _ (by simp only [as, List.mem_append]; exact .inr (.inr q)) (S.exh p hp)
  have kp : ∀ a o, a ∈ as → a ≠ cx.env.locals → h.get? a = some o → h'.get? a = some o := fun a o ha hne ho => by
    cases hb : G.hb.get? a with
    | none => exact (N' (a, o) (nin a o ha hb hne ho)).1
    | some o' =>
      have := S.base a o' hb
      rw [ho] at this; cases this
      exact F'.keep a o hb
  have nd := S.nod
  unfold Cx.mut at nd
  rw [List.nodup_cons] at nd
  have mne : ∀ a ∈ cx.stk.map (·.1.locals) ++ cx.own ++ σ.map (·.1), a ∈ as ∧ a ≠ cx.env.locals := fun a ha => ⟨by simp only [as, List.mem_append] at ha ⊢; exact .inl ha, fun q => nd.1 (q ▸ ha)⟩
  have kcell : ∀ c ∈ cx.own, ∀ v, h.IsCell c v → h'.IsCell c v := fun c hc v ⟨o, ho, hd⟩ => by
    have := mne c (by simp [hc])
    exact ⟨o, kp c o this.1 this.2 ho, hd⟩
  refine ⟨S.ok, S.clx, F'.keep, fun p hp => ?_, fun c hc => ?_, fun p hp => kp _ _ (by simp only [as, List.mem_append]; exact .inr (.inl (List.mem_map_of_mem hp))) (fzne p hp) (S.fzh p hp),
    fun p hp => kp _ _ (by simp only [as, List.mem_append]; exact .inr (.inr (List.mem_map_of_mem hp))) (exne p hp) (S.exh p hp), fun p hp => ?_, ⟨m, F'.ns, fun x v e => (hv x v e).keep kcell⟩, S.nod, S.new, S.apf, S.apx, S.xf⟩
  · obtain ⟨o, es, ep, ho, r⟩ := S.stk p hp
    have := mne p.1.locals (by simp only [List.mem_append, List.mem_map]; exact .inl (.inl ⟨p, hp, rfl⟩))
    exact ⟨o, es, ep, kp _ o this.1 this.2 ho, r⟩
  · obtain ⟨v, hv⟩ := S.ownc c hc
    exact ⟨v, kcell c hc v hv⟩
  · obtain ⟨o, ho, r⟩ := S.live p hp
    have := mne p.1 (by simp only [List.mem_append, List.mem_map]; exact .inr ⟨p, hp, rfl⟩)
    exact ⟨o, kp _ o this.1 this.2 ho, r⟩
end

section
variable {G : Gr} {cx : Cx} {ρ : AE} {σ : AH} {EQ : AX → AE → AH → Prop}

/-! tests -/
theorem ts_val {e : Expr} {Q : Bool → AE → AH → Prop} (h : Ev G cx ρ σ e (fun v ρ' σ' => ∃ b, v = .bool b ∧ Q b ρ' σ') EQ) (he : isTrue e cx.env (eval e cx.env) = (do let v ← eval e cx.env; standAt e.pos; holding [v] (truthy v)) := by rfl) : Ts G cx ρ σ e Q EQ :=
  fun ex fz s _ g S _ QQ EE hQ hE => isTrue_plain (h.run g S .nil (fun v V ρ₁ σ₁ fz₁ h₁ t₁ k₁ S₁ r₁ q₁ => by
    obtain ⟨b, rfl, q₁⟩ := q₁
    rw [r₁.bool_inv]
    exact wpAny_truthy_bool (hQ b b ρ₁ σ₁ fz₁ h₁ t₁ k₁ S₁ rfl q₁)) hE) he
theorem ts_not {x : Expr} {pos : Pos} {Q : Bool → AE → AH → Prop} (h : Ts G cx ρ σ x (fun b ρ' σ' => Q (!b) ρ' σ') EQ) : Ts G cx ρ σ (.UnaryOp .Not x pos) Q EQ :=
  fun ex fz s _ g S _ QQ EE hQ hE => isTrue_not (h.run g S .nil (fun b a ρ₁ σ₁ fz₁ h₁ t₁ k₁ S₁ r₁ q₁ => by
    cases r₁
    exact hQ (!b) (!b) ρ₁ σ₁ fz₁ h₁ t₁ k₁ S₁ rfl q₁) hE)
theorem ts_and {x y : Expr} {pos : Pos} {Q : Bool → AE → AH → Prop} (h : Ts G cx ρ σ x (fun b ρ' σ' => if b = true then Ts G cx ρ' σ' y Q EQ else Q false ρ' σ') EQ) : Ts G cx ρ σ (.BoolOp .And [x, y] pos) Q EQ :=
  fun ex fz s _ g S _ QQ EE hQ hE => isTrue_and (h.run g S .nil (fun b a ρ₁ σ₁ fz₁ h₁ t₁ k₁ S₁ r₁ q₁ => by
    cases r₁
    cases b with
    | true =>
      simp only [if_true] at q₁ ⊢
      refine isTrue_and (JV.run q₁ g S₁ .nil (fun b' a' ρ₂ σ₂ fz₂ h₂ t₂ k₂ S₂ r₂ q₂ => ?_) (hE.on k₁))
      cases r₂
      cases b' with
      | true => simp only [if_true]; exact isTrue_and_nil ((hQ.on k₁) true true ρ₂ σ₂ fz₂ h₂ t₂ k₂ S₂ rfl q₂)
      | false => simp only [Bool.false_eq_true, if_false]; exact (hQ.on k₁) false false ρ₂ σ₂ fz₂ h₂ t₂ k₂ S₂ rfl q₂
    | false =>
      simp only [Bool.false_eq_true, if_false] at q₁ ⊢
      exact hQ false false ρ₁ σ₁ fz₁ h₁ t₁ k₁ S₁ rfl q₁) hE)
theorem ts_or {x y : Expr} {pos : Pos} {Q : Bool → AE → AH → Prop} (h : Ts G cx ρ σ x (fun b ρ' σ' => if b = true then Q true ρ' σ' else Ts G cx ρ' σ' y Q EQ) EQ) : Ts G cx ρ σ (.BoolOp .Or [x, y] pos) Q EQ :=
  fun ex fz s _ g S _ QQ EE hQ hE => isTrue_or (h.run g S .nil (fun b a ρ₁ σ₁ fz₁ h₁ t₁ k₁ S₁ r₁ q₁ => by
    cases r₁
    cases b with
    | false =>
      simp only [Bool.false_eq_true, if_false] at q₁ ⊢
      refine isTrue_or (JV.run q₁ g S₁ .nil (fun b' a' ρ₂ σ₂ fz₂ h₂ t₂ k₂ S₂ r₂ q₂ => ?_) (hE.on k₁))
      cases r₂
      cases b' with
      | true => simp only [if_true]; exact (hQ.on k₁) true true ρ₂ σ₂ fz₂ h₂ t₂ k₂ S₂ rfl q₂
      | false => simp only [Bool.false_eq_true, if_false]; exact isTrue_or_nil ((hQ.on k₁) false false ρ₂ σ₂ fz₂ h₂ t₂ k₂ S₂ rfl q₂)
    | true =>
      simp only [if_true] at q₁ ⊢
      exact hQ true true ρ₁ σ₁ fz₁ h₁ t₁ k₁ S₁ rfl q₁) hE)
end
end Mine
namespace Mine
open PySem PySem.W PyProof.Rows PyProof.Rows.LCg PySem.Calls PySem.Spec

section
variable {G : Gr} {cx : Cx} {ρ : AE} {σ : AH} {ex fz : Objs} {EQ : AX → AE → AH → Prop}

theorem Sat.made {h h' : Heap} {a : Addr} {o : Obj} (S : Sat G cx ex ρ σ fz h) (S' : Sat G cx ex ρ σ fz h') (ha : h.objs.size ≤ a) (ho : h'.get? a = some o) : Sat G cx ex ρ σ ((a, o) :: fz) h' :=
  S'.freeze ho (S.size_off ha).m (S.size_off ha).x
theorem RelL.ints {ns : List Int} {vs : List Value} (r : RelL G fz (ns.map .int) vs) : IntsAre vs ns := by
  induction ns generalizing vs with
  | nil => cases r; exact .nil
  | cons n ns ih =>
    cases r with
    | cons h r => obtain ⟨t, rfl⟩ := h.int_inv; exact .cons n t (ih r)
theorem RelL.of_ints {ns : List Int} {vs : List Value} (h : IntsAre vs ns) : RelL G fz (ns.map .int) vs := by
  induction h with
  | nil => exact .nil
  | cons n t _ ih => exact .cons (.int _ _) ih
theorem RelL.strs {ns : List Str} {vs : List Value} (r : RelL G fz (ns.map .str) vs) : StrsAre vs ns := by
  induction ns generalizing vs with
  | nil => cases r; exact .nil
  | cons n ns ih =>
    cases r with
    | cons h r => obtain ⟨t, rfl⟩ := h.str_inv; exact .cons n t (ih r)
theorem RelL.of_strs {ns : List Str} {vs : List Value} (h : StrsAre vs ns) : RelL G fz (ns.map .str) vs := by
  induction h with
  | nil => exact .nil
  | cons n t _ ih => exact .cons (.str _ _) ih

/-! and, or, if in an expression -/
theorem ev_and {x y : Expr} {pos : Pos} {Q : AV → AE → AH → Prop} (h : Ev G cx ρ σ x (fun v ρ' σ' => ∃ b, v = .bool b ∧ if b = true then Ev G cx ρ' σ' y Q EQ else Q (.bool false) ρ' σ') EQ) : Ev G cx ρ σ (.BoolOp .And [x, y] pos) Q EQ :=
  fun ex fz s _ g S _ QQ EE hQ hE => BoolOp_and (h.run g S .nil (fun v V ρ₁ σ₁ fz₁ h₁ t₁ k₁ S₁ r₁ q₁ => by
    obtain ⟨b, rfl, q₁⟩ := q₁
    rw [r₁.bool_inv]
    refine wpAny_truthy_bool ?_
    cases b with
    | true => simp only [if_true] at q₁ ⊢; exact BoolOp_one (JV.run q₁ g S₁ .nil (hQ.on k₁) (hE.on k₁))
    | false => simp only [Bool.false_eq_true, if_false] at q₁ ⊢; exact hQ _ _ ρ₁ σ₁ fz₁ h₁ t₁ k₁ S₁ (.bool _) q₁) hE)
variable {Q : AV → AE → AH → Prop}
/-! len, sum, min, max, range, dict -/
theorem op_len_lst {l : List AV} (hl : l.length < 2 ^ 62) (q : Q (.int l.length) ρ σ) : JV Rel G cx ρ σ [.lst l] (fun Vs => call (.builtin "len") Vs) Q EQ := fun ex fz s _ g S r QQ EE hQ hE => by
  obtain ⟨_, rfl, r1⟩ := r.one_inv
  obtain ⟨a, o, vs, n, rfl, hm, hc, hdt, rl⟩ := r1.lst_inv
  have e : vs.size = l.length := by rw [← rl.length, Array.length_toList]
  refine len_list (items := vs) ⟨o, S.fzh _ hm, hc, n, hdt⟩ (by rw [e]; omega) ?_
  rw [e]
  exact give hQ S (.int _ _) q
theorem op_len_dct {l : List (Str × AV)} (hl : l.length < 2 ^ 62) (q : Q (.int l.length) ρ σ) : JV Rel G cx ρ σ [.dct l] (fun Vs => call (.builtin "len") Vs) Q EQ := fun ex fz s _ g S r QQ EE hQ hE => by
  obtain ⟨_, rfl, r1⟩ := r.one_inv
  obtain ⟨a, o, kvs, rfl, hm, hsys, hd, rl⟩ := r1.dct_inv
  refine call_len_dict (knd := PySem.strKind G.prog G.w) hsys (Heap.dictOf_iff.mpr ⟨o, S.fzh _ hm, hd⟩) (by rw [rl.length]; omega) ?_
  rw [rl.length]
  exact give hQ S (.int _ _) q
theorem op_sum {l : List Int} (hd : cx.hd = none) (q : Q (.int l.sum) ρ σ) : JV Rel G cx ρ σ [.lst (l.map .int)] (fun Vs => call (.builtin "sum") Vs) Q EQ := fun ex fz s _ g S r QQ EE hQ hE => by
  obtain ⟨_, rfl, r1⟩ := r.one_inv
  obtain ⟨a, o, vs, n, rfl, hm, hc, hdt, rl⟩ := r1.lst_inv
  obtain ⟨m, news, F, N, _, _, back⟩ := S.news
  refine LSm.sum_ints F N (S.ok.hd.trans hd) (vs := vs.toList) (by rw [Array.toArray_toList]; exact ⟨o, S.fzh _ hm, hc, n, hdt⟩) rl.ints fun h' tk t' F' N' => ?_
  exact hQ _ _ ρ σ fz h' tk (fun _ h => h) (back h' F' N') (.int _ _) q
theorem op_min {l : List Int} (hd : cx.hd = none) (hne : 0 < l.length) (q : ∀ M, M ∈ l → (∀ a ∈ l, M ≤ a) → Q (.int M) ρ σ) : JV Rel G cx ρ σ [.lst (l.map .int)] (fun Vs => call (.builtin "min") Vs) Q EQ := fun ex fz s _ g S r QQ EE hQ hE => by
  obtain ⟨_, rfl, r1⟩ := r.one_inv
  obtain ⟨a, o, vs, n, rfl, hm, hc, hdt, rl⟩ := r1.lst_inv
  obtain ⟨m, news, F, N, _, _, back⟩ := S.news
  refine min_list_N (S.ok.hd.trans hd) F N (vs := vs.toList) (by rw [Array.toArray_toList]; exact ⟨o, S.fzh _ hm, hc, n, hdt⟩) rl.ints hne fun h' M t tk F' N' h1 h2 => ?_
  exact hQ _ _ ρ σ fz h' tk (fun _ h => h) (back h' F' N') (.int _ _) (q M h1 h2)
theorem op_max {l : List Int} (hd : cx.hd = none) (hne : 0 < l.length) (q : ∀ M, M ∈ l → (∀ a ∈ l, a ≤ M) → Q (.int M) ρ σ) : JV Rel G cx ρ σ [.lst (l.map .int)] (fun Vs => call (.builtin "max") Vs) Q EQ := fun ex fz s _ g S r QQ EE hQ hE => by
  obtain ⟨_, rfl, r1⟩ := r.one_inv
  obtain ⟨a, o, vs, n, rfl, hm, hc, hdt, rl⟩ := r1.lst_inv
  obtain ⟨m, news, F, N, _, _, back⟩ := S.news
  refine max_list_N (S.ok.hd.trans hd) F N (vs := vs.toList) (by rw [Array.toArray_toList]; exact ⟨o, S.fzh _ hm, hc, n, hdt⟩) rl.ints hne fun h' M t tk F' N' h1 h2 => ?_
  exact hQ _ _ ρ σ fz h' tk (fun _ h => h) (back h' F' N') (.int _ _) (q M h1 h2)
theorem op_range {n : Int} (q : Q (.rng 0 n) ρ σ) : JV Rel G cx ρ σ [.int n] (fun Vs => call (.type "range") Vs) Q EQ := fun ex fz s _ g S r QQ EE hQ hE => by
  obtain ⟨_, rfl, r1⟩ := r.one_inv
  obtain ⟨t, rfl⟩ := r1.int_inv
  exact call_range_1 (hQ _ _ ρ σ _ _ _ (fun p hp => List.mem_cons_of_mem _ hp) (S.alloc _) (.rng List.mem_cons_self) q)
theorem new_sys {h : Heap} (g : GOk G) (S : Sat G cx ex ρ σ fz h) : (h.objs.size == sysModules) = false :=
  beq_eq_false_iff_ne.mpr (Nat.ne_of_gt (Nat.lt_of_lt_of_le g.big (big_le S)))
theorem op_dict {a : Addr} {σ₁ σ₂ : AH} {es : List (Str × AV)} (hσ : σ = σ₁ ++ (a, .dct es) :: σ₂) (hl : es.length ≤ 1000) (q : Q (.dct es) ρ σ) : JV Rel G cx ρ σ [.ref a] (fun Vs => call (.type "dict") Vs) Q EQ := fun ex fz s _ g S r QQ EE hQ hE => by
  obtain ⟨_, rfl, r1⟩ := r.one_inv
  obtain rfl := r1.ref_inv
  obtain ⟨o, ho, kvs, hd, rl⟩ := S.live (a, .dct es) (by rw [hσ]; simp)
  have hsys : (a == sysModules) = false := beq_eq_false_iff_ne.mpr (Nat.ne_of_gt (Nat.lt_of_lt_of_le g.big (S.new a (by unfold Cx.mut; rw [hσ]; simp)).2))
  refine PySem.kt_call_dict hsys (Heap.dictOf_iff.mpr ⟨o, ho, hd⟩) (by rw [rl.length, sizeLine_eq]; omega) fun h' hd' hs' => ?_
  obtain ⟨o', ho', hdo'⟩ := Heap.dictOf_iff.mp hd'
  have S' := (S.push { cls := .type "dict", data := .dict #[] }).but hs'.extBut (S.size_off (Nat.le_refl _))
  exact hQ _ _ ρ σ _ h' s.toks (fun p hp => List.mem_cons_of_mem _ hp) (S.made S' (Nat.le_refl _) ho') (.dct List.mem_cons_self (new_sys g S) hdo' (rl.mono fun p hp => List.mem_cons_of_mem _ hp)) q

/-! sums of sequences -/
theorem op_addlst {l k : List AV} (hl : l.length + k.length ≤ 1000) (q : Q (.lst (l ++ k)) ρ σ) : JV Rel G cx ρ σ [.lst l, .lst k] (two (binaryOp .Add)) Q EQ := fun ex fz s _ g S r QQ EE hQ hE => by
  obtain ⟨_, _, rfl, r1, r2⟩ := r.two_inv
  obtain ⟨a, o, vs, n, rfl, hm, hc, hdt, rl⟩ := r1.lst_inv
  obtain ⟨a', o', vs', n', rfl, hm', hc', hdt', rl'⟩ := r2.lst_inv
  obtain ⟨m, news, F, N, _, _, back⟩ := S.news
  have e1 := rl.length
  have e2 := rl'.length
  refine add_lists F N (vs := vs.toList) (ws := vs'.toList) (by rw [Array.toArray_toList]; exact ⟨o, S.fzh _ hm, hc, n, hdt⟩) (by rw [Array.toArray_toList]; exact ⟨o', S.fzh _ hm', hc', n', hdt'⟩) (fun h' F' N' => ?_) (by rw [e1, e2, sizeLine_eq]; omega)
  have S' := back h' F' fun p hp => N' p (List.mem_cons_of_mem _ hp)
  exact hQ _ _ ρ σ _ h' s.toks (fun p hp => List.mem_cons_of_mem _ hp) (S.made S' (Nat.le_refl _) (N' _ List.mem_cons_self).1) (.lst List.mem_cons_self rfl rfl ((rl.append rl').mono fun p hp => List.mem_cons_of_mem _ hp)) q
theorem op_fdiv {a b : Int} (hb : b ≠ 0) (hs : b.natAbs < 1073741824) (q : Q (.int (a.fdiv b)) ρ σ) : JV Rel G cx ρ σ [.int a, .int b] (two (binaryOp .FloorDiv)) Q EQ := fun ex fz s _ g S r QQ EE hQ hE => by
  obtain ⟨_, _, rfl, r1, r2⟩ := r.two_inv
  obtain ⟨t, rfl⟩ := r1.int_inv
  obtain ⟨u, rfl⟩ := r2.int_inv
  exact floordiv_int hb (give hQ S (.int _ _) q) (.inl (PyProof.noPylong_small hs))
/-! methods -/
theorem meth_shape {o e : Expr} {name : Str} {apos pos : Pos} {env : Env} (hb : attributeBase o name env (eval o env) = eval o env) (hp : (apos.endLine == pos.line) = true) (he : starEach [e] env = (false, eval e env) :: starEach [] env) :
    ∃ pl, eval (.Call (.Attribute o name apos) [e] [] pos) env = (do
      let ov ← eval o env
      standAt apos.atName
      let (f, first) ← holding [ov] (getMethod ov name pl)
      callWith pos f first (backTo pos (starEach [e] env)) []) := by
  refine ⟨(do return (← importBound o env).getD true), ?_⟩
  show (do
    let ov ← attributeBase o name env (eval o env)
    standAt apos.atName
    methodCall o name apos pos env ov 1 (backTo pos (starEach [e] env)) []) = _
  rw [hb]
  have hf : methodCallForm 1 (backTo pos (starEach [e] env)) [] = true := by rw [he]; rfl
  unfold methodCall
  rw [hf]
  unfold methodCallPos calleeOf
  simp only [hp, Bool.not_true, Bool.false_or, if_true, pure_bind]
theorem ev_meth {o : Expr} {name : Str} {apos pos : Pos} {e : Expr} {rest : List Expr} {id : String} (hty : typeOf (.builtin id) = pure (.type "method_descriptor"))
    (h : Ev G cx ρ σ o (fun v ρ₁ σ₁ => (∀ ex₁ fz₁ (s₁ : Shared) V, Sat G cx ex₁ ρ₁ σ₁ fz₁ s₁.heap → Rel G fz₁ v V → ∃ T, s₁.TypeIs V T ∧ PlainAttrs T ∧ Slot T name id ∧ (∀ a, V = .ref a → ∃ o, s₁.heap.get? a = some o ∧ o.dict = none)) ∧
      Args G cx ρ₁ σ₁ pos (e :: rest) (fun vs ρ₂ σ₂ => JV Rel G cx ρ₂ σ₂ (v :: vs) (fun Vs => call (.builtin id) Vs) Q EQ) EQ) EQ)
    (he : starEach (e :: rest) cx.env = (false, eval e cx.env) :: starEach rest cx.env := by rfl) (hplain : (backTo pos (starEach rest cx.env)).any (·.1) = false := by rfl)
    (hm : ∃ pl, eval (.Call (.Attribute o name apos) (e :: rest) [] pos) cx.env = (do
      let ov ← eval o cx.env
      standAt apos.atName
      let (f, first) ← holding [ov] (getMethod ov name pl)
      callWith pos f first (backTo pos (starEach (e :: rest) cx.env)) [])) : Ev G cx ρ σ (.Call (.Attribute o name apos) (e :: rest) [] pos) Q EQ := fun ex fz s _ g S _ QQ EE hQ hE => by
  obtain ⟨pl, hm⟩ := hm
  refine MethodCall_ (h.run g S .nil (fun v V ρ₁ σ₁ fz₁ h₁ t₁ k₁ S₁ r₁ q₁ => ?_) hE) hm
  obtain ⟨T, hT, pa, slot, hd⟩ := q₁.1 ex fz₁ { s with heap := h₁, toks := t₁ } V S₁ r₁
  refine getMethod_builtin hT pa slot hty hd ?_
  have := q₁.2.run (s := { s with heap := h₁, toks := t₁ }) g S₁ .nil (QQ := fun Vs s' => wpAny (model G.prog G.w) cx.A (call (.builtin id) (V :: Vs)) QQ EE s') (fun vs Vs ρ₂ σ₂ fz₂ h₂ t₂ k₂ S₂ r₂ q₂ => q₂.run g S₂ (.cons (r₁.mono k₂) r₂) ((hQ.on k₁).on k₂) ((hE.on k₁).on k₂)) (hE.on k₁)
  exact callWith_method1 this he hplain
end
end Mine
namespace Mine
open PySem PySem.W PyProof.Rows PyProof.Rows.LCg PySem.Calls PySem.Spec

theorem strValues_of {vs : List Value} {ss : List Str} (h : StrsAre vs ss) : ∃ l : List (Str × Tok), vs = strValues l ∧ l.map (·.1) = ss := by
  induction h with
  | nil => exact ⟨[], rfl, rfl⟩
  | cons y t _ ih => obtain ⟨l, e1, e2⟩ := ih; exact ⟨(y, t) :: l, by rw [e1]; rfl, by rw [← e2]; rfl⟩

section
variable {prog : Program} {w : World} {A : Around} {E : Value → Shared → Prop} {s : Shared}
end

section
variable {G : Gr} {cx : Cx} {ρ : AE} {σ : AH} {ex fz : Objs} {EQ : AX → AE → AH → Prop} {Q : AV → AE → AH → Prop}

theorem op_join {x : Str} {l : List Str} (hok : JoinOk x l = true) (q : Q (.str (Txt.join x l)) ρ σ) : JV Rel G cx ρ σ [.str x, .lst (l.map .str)] (fun Vs => call (.builtin "str.join") Vs) Q EQ := fun ex fz s _ g S r QQ EE hQ hE => by
  obtain ⟨_, _, rfl, r1, r2⟩ := r.two_inv
  obtain ⟨t, rfl⟩ := r1.str_inv
  obtain ⟨a, o, vs, n, rfl, hm, hc, hdt, rl⟩ := r2.lst_inv
  obtain ⟨L, e1, e2⟩ := strValues_of rl.strs
  exact SC.join (l := L) (by rw [← e1, Array.toArray_toList]; exact ⟨o, S.fzh _ hm, hc, n, hdt⟩) e2 hok fun t' k => give hQ S (.str _ _) q
theorem op_index {x y : Str} {i : Nat} {rest : List Nat} (ho : Builtin.Str.occurrences x y 0 x.length 1 = i :: rest) (q : Q (.int i) ρ σ) : JV Rel G cx ρ σ [.str x, .str y] (fun Vs => call (.builtin "str.index") Vs) Q EQ := fun ex fz s _ g S r QQ EE hQ hE => by
  obtain ⟨_, _, rfl, r1, r2⟩ := r.two_inv
  obtain ⟨t, rfl⟩ := r1.str_inv
  obtain ⟨u, rfl⟩ := r2.str_inv
  exact SC.index ho (give hQ S (.int _ _) q)
theorem op_append {a : Addr} {σ₁ σ₂ : AH} {l : List AV} {v : AV} (hσ : σ = σ₁ ++ (a, .lst l) :: σ₂) (hl : l.length ≤ 1000) (q : Q .none ρ (σ₁ ++ (a, .lst (l ++ [v])) :: σ₂)) : JV Rel G cx ρ σ [.ref a, v] (fun Vs => call (.builtin "list.append") Vs) Q EQ := fun ex fz s _ g S r QQ EE hQ hE => by
  subst hσ
  obtain ⟨_, V, rfl, r1, r2⟩ := r.two_inv
  obtain rfl := r1.ref_inv
  obtain ⟨o, ho, vs, n, rfl, rl⟩ := S.live (a, .lst l) (by simp)
  have e := rl.length
  rw [Array.length_toList] at e
  refine append_at ho (fun h' hs' ho' => ?_) (by rw [e, sizeLine_eq]; omega)
  exact hQ _ _ ρ _ fz h' s.toks (fun _ h => h) (S.live_set (ao' := .lst (l ++ [v])) hs'.extBut ho' ⟨_, _, rfl, by rw [Array.toList_push]; exact rl.append (.one r2)⟩) .none q

/-! stores under a key -/
theorem st_dct {a : Addr} {σ₁ σ₂ : AH} {es : List (Str × AV)} {v : AV} {k : Str} {Q : Unit → AE → AH → Prop} (hσ : σ = σ₁ ++ (a, .dct es) :: σ₂) (hl : es.length ≤ 1000) (q : Q () ρ (σ₁ ++ (a, .dct (put es k v)) :: σ₂)) : JV RU G cx ρ σ [v, .ref a, .str k] storeItem Q EQ := fun ex fz s _ g S r QQ EE hQ hE => by
  subst hσ
  obtain ⟨V, _, _, rfl, r0, r1, r2⟩ := r.three_inv
  obtain rfl := r1.ref_inv
  obtain ⟨t, rfl⟩ := r2.str_inv
  obtain ⟨o, ho, kvs, hd, rl⟩ := S.live (a, .dct es) (by simp)
  refine wpAny_setItem_pairs (isStr_refl k t) (Heap.dictOf_iff.mpr ⟨o, ho, hd⟩) (fun h' hd' hs' => ?_) (by rw [rl.length, sizeLine_eq]; omega)
  obtain ⟨o', ho', hdo'⟩ := Heap.dictOf_iff.mp hd'
  exact hQ () () ρ _ fz h' _ (fun _ h => h) (S.live_set (ao' := .dct (put es k v)) hs'.extBut ho' ⟨_, hdo', rl.put r0⟩) trivial q
/-! method calls, each kind -/
theorem ev_join {x : Str} {k : Nat} {cp apos pos : Pos} {e : Expr} (h : Ev G cx ρ σ e (fun v ρ₁ σ₁ => ∃ l : List Str, v = .lst (l.map .str) ∧ JoinOk x l = true ∧ Q (.str (Txt.join x l)) ρ₁ σ₁) EQ)
    (he : starEach [e] cx.env = (false, eval e cx.env) :: starEach [] cx.env := by rfl) (hp : (apos.endLine == pos.line) = true := by rfl) : Ev G cx ρ σ (.Call (.Attribute (.Constant (.str x) k cp) "join" apos) [e] [] pos) Q EQ := by
  refine ev_meth (id := "str.join") PySem.F.type_str_join (ev_str ⟨fun ex₁ fz₁ s₁ V S₁ r => ?_, as_one (h.mono (fun v ρ₁ σ₁ q => ?_) fun _ _ _ q => q) he⟩) he rfl (meth_shape rfl hp he)
  · obtain ⟨t, rfl⟩ := r.str_inv
    exact ⟨"str", typeIs_str _ _ _, PySem.F.plainAttrs_str, PySem.F.slot_str_join, fun a e => by cases e⟩
  · obtain ⟨l, rfl, hok, q⟩ := q
    exact op_join hok q
theorem ev_index {x : Str} {k : Nat} {cp apos pos : Pos} {e : Expr} (h : Ev G cx ρ σ e (fun v ρ₁ σ₁ => ∃ (y : Str) (i : Nat) (rest : List Nat), v = .str y ∧ Builtin.Str.occurrences x y 0 x.length 1 = i :: rest ∧ Q (.int i) ρ₁ σ₁) EQ)
    (he : starEach [e] cx.env = (false, eval e cx.env) :: starEach [] cx.env := by rfl) (hp : (apos.endLine == pos.line) = true := by rfl) : Ev G cx ρ σ (.Call (.Attribute (.Constant (.str x) k cp) "index" apos) [e] [] pos) Q EQ := by
  refine ev_meth (id := "str.index") PySem.F.type_str_index (ev_str ⟨fun ex₁ fz₁ s₁ V S₁ r => ?_, as_one (h.mono (fun v ρ₁ σ₁ q => ?_) fun _ _ _ q => q) he⟩) he rfl (meth_shape rfl hp he)
  · obtain ⟨t, rfl⟩ := r.str_inv
    exact ⟨"str", typeIs_str _ _ _, PySem.F.plainAttrs_str, PySem.F.slot_str_index, fun a e => by cases e⟩
  · obtain ⟨y, i, rest, rfl, ho, q⟩ := q
    exact op_index ho q
theorem ev_append {n : Str} {a : Addr} {cp apos pos : Pos} {e : Expr} (hn : ρ n = some (.ref a)) (hσ : ∃ σ₁ l σ₂, σ = σ₁ ++ (a, .lst l) :: σ₂) (h : Ev G cx ρ σ e (fun v ρ₁ σ₁ => ∃ σa l σb, σ₁ = σa ++ (a, .lst l) :: σb ∧ l.length ≤ 1000 ∧ Q .none ρ₁ (σa ++ (a, .lst (l ++ [v])) :: σb)) EQ)
    (he : starEach [e] cx.env = (false, eval e cx.env) :: starEach [] cx.env := by rfl) (hd : (n == ("__debug__" : Str)) = false := by decide) (hc : (n == ("__classdict__" : Str)) = false := by decide) (hp : (apos.endLine == pos.line) = true := by rfl) : Ev G cx ρ σ (.Call (.Attribute (.Name n cp) "append" apos) [e] [] pos) Q EQ := by
  refine ev_meth (id := "list.append") type_list_append (ev_name hn ⟨fun ex₁ fz₁ s₁ V S₁ r => ?_, as_one (h.mono (fun v ρ₁ σ₁ q => ?_) fun _ _ _ q => q) he⟩ hd hc) he rfl (meth_shape rfl hp he)
  · obtain rfl := r.ref_inv
    obtain ⟨σ₁, l, σ₂, rfl⟩ := hσ
    obtain ⟨o, ho, vs, n, rfl, rl⟩ := S₁.live (a, .lst l) (by simp)
    exact ⟨"list", ⟨_, ho, rfl⟩, PySem.F.plainAttrs_list, slot_list_append, fun a e => by cases e; exact ⟨_, ho, rfl⟩⟩
  · obtain ⟨σa, l, σb, rfl, hl, q⟩ := q
    exact op_append rfl hl q
end
end Mine
namespace Mine
open PySem PySem.W PyProof.Rows PyProof.Rows.LCg PySem.Calls PySem.Spec

noncomputable def cutStr (x : Str) (lo hi : Int) : Str :=
  if ((Builtin.Str.strSliceIndices (some lo) (some hi) 1 x.length).length == x.length) = true then x else ⟨((Builtin.Str.strSliceIndices (some lo) (some hi) 1 x.length).filterMap (x.cps[·]?)).toArray⟩
noncomputable def pickL {α : Type} (l : List α) (lo hi st : Option Int) : List α :=
  (sliceRange (sliceBounds lo hi st l.length).1 (sliceBounds lo hi st l.length).2.1 (sliceBounds lo hi st l.length).2.2).filterMap (l[·]?)

section
variable {G : Gr} {cx : Cx} {ρ : AE} {σ : AH} {ex fz : Objs} {EQ : AX → AE → AH → Prop} {Q : AV → AE → AH → Prop}

theorem RelL.picks {l : List AV} {vs : List Value} (r : RelL G fz l vs) : ∀ (is : List Nat), RelL G fz (is.filterMap (l[·]?)) (is.filterMap (vs[·]?))
  | [] => .nil
  | i :: is => by
    have ih := r.picks is
    cases e : l[i]? with
    | none =>
      have e' : vs[i]? = none := by rw [List.getElem?_eq_none_iff, r.length]; exact List.getElem?_eq_none_iff.mp e
      simp only [List.filterMap_cons, e, e']; exact ih
    | some v =>
      obtain ⟨V, e', hr⟩ := r.get e
      simp only [List.filterMap_cons, e, e']; exact .cons hr ih
theorem RelL.pick {l : List AV} {vs : Array Value} (r : RelL G fz l vs.toList) (lo hi st : Option Int) : RelL G fz (pickL l lo hi st) (slicePick vs lo hi st).toList := by
  have e : vs.size = l.length := by rw [← r.length, Array.length_toList]
  unfold pickL slicePick
  rw [e]
  have := r.picks (sliceRange (sliceBounds lo hi st l.length).1 (sliceBounds lo hi st l.length).2.1 (sliceBounds lo hi st l.length).2.2)
  simp only [Array.getElem?_toList] at this
  exact this

theorem sub_ofs {prog : Program} {w : World} {A : Around} {E : Value → Shared → Prop} {s : Shared} {value slice : Expr} {o i : Value} {l : List Value} {T id : String} {Q : Value → Shared → Prop} (hT : s.TypeIs o T)
    (hl : typeLookup (.type T) "__getitem__" = pure (some (.builtin id))) (h : wpAny (model prog w) A (getItem o i) Q E s) (hs : subscripted slice false o i = operate l (getItem o i)) :
    wpAny (model prog w) A (subscriptTail value slice o i) Q E s := by
  unfold subscriptTail
  refine wpAny_bind ?_
  rw [getitemInPython_of_ne hT.not_modules]
  refine wpAny_bind (wpAny_specialOf hT hl ?_)
  have fin : wpAny (model prog w) A (subscripted slice false o i) (fun r s₃ => wpAny (model prog w) A (letTemporaryGo value o r >>= fun _ => pure r) Q E s₃) E s := by
    rw [hs]
    exact wpAny_operating (wpAny_mono h (fun r s₃ h₃ => wpAny_bind (wpAny_letTemporaryGo (wpAny_pure h₃))) fun _ _ x => x)
  first
    | exact wpAny_pure (wpAny_bind fin)
    | exact wpAny_bind (wpAny_pure (wpAny_bind fin))
    | exact wpAny_bind fin

theorem ev_strslice {value : Expr} {p pos : Pos} {lo hi : Expr}
    (h : Ev G cx ρ σ value (fun v ρ₀ σ₀ => ∃ x, v = .str x ∧ Ev G cx ρ₀ σ₀ lo (fun v ρ₁ σ₁ => ∃ i, v = .int i ∧ Ev G cx ρ₁ σ₁ hi (fun u ρ₂ σ₂ => ∃ j, u = .int j ∧ (cutStr x i j).length ≤ 1000 ∧ Q (.str (cutStr x i j)) ρ₂ σ₂) EQ) EQ) EQ) :
    Ev G cx ρ σ (.Subscript value (.Slice (some lo) (some hi) none p) pos) Q EQ := fun ex fz s _ g S _ QQ EE hQ hE => by
  refine Subscript_ (h.run g S .nil (fun v V ρ₀ σ₀ fz₀ h₀ t₀ k₀ S₀ r₀ q₀ => wpAny_Slice (evalPart_some_step ?_)) hE)
  obtain ⟨x, rfl, q₀⟩ := q₀
  obtain ⟨tx, rfl⟩ := r₀.str_inv
  refine q₀.run (s := { s with heap := h₀, toks := t₀ }) g S₀ .nil (fun v V ρ₁ σ₁ fz₁ h₁ t₁ k₁ S₁ r₁ q₁ => ?_) (hE.on k₀)
  obtain ⟨i, rfl, q₁⟩ := q₁
  obtain ⟨ti, rfl⟩ := r₁.int_inv
  refine evalPart_some_step (q₁.run (s := { s with heap := h₁, toks := t₁ }) g S₁ .nil (fun v V ρ₂ σ₂ fz₂ h₂ t₂ k₂ S₂ r₂ q₂ => ?_) ((hE.on k₀).on k₁))
  obtain ⟨j, rfl, hz, q₂⟩ := q₂
  obtain ⟨tj, rfl⟩ := r₂.int_inv
  rw [evalPart_none]
  refine wpAny_pure ?_
  have S₃ := S₂.push { cls := .type "slice", data := .fields #[.int i ti, .int j tj, .none] }
  refine sub_ofs (l := [.ref h₂.objs.size, .str x tx]) (typeIs_str _ _ _) PySem.F.slot_str_getitem.lookup (wpAny_getItem_str_slice (l := some (i, ti)) (u := some (j, tj)) (st := none) ⟨_, Heap.get?_push_size _ rfl, rfl, rfl⟩ rfl ?_) (by rfl)
  unfold sliceMade slicePicked
  unfold cutStr at q₂ hz
  simp only [Option.map_some, Option.map_none, Option.getD_none, beq_self_eq_true, Bool.true_and]
  split at q₂
  · rename_i hc
    rw [if_pos hc]
    exact hQ _ _ ρ₂ σ₂ fz₂ _ t₂ (fun p hp => k₂ p (k₁ p (k₀ p hp))) S₃ (.str _ _) q₂
  · rename_i hc
    rw [if_neg hc]
    rw [if_neg hc] at hz
    exact ⟨by rw [sizeLine_eq]; omega, hQ _ _ ρ₂ σ₂ fz₂ _ (t₂ + 1) (fun p hp => k₂ p (k₁ p (k₀ p hp))) S₃ (.str _ _) q₂⟩

/-- l[:n] -/
theorem ev_upto {value hi : Expr} {p pos : Pos}
    (h : Ev G cx ρ σ value (fun v ρ₁ σ₁ => ∃ l, v = .lst l ∧ l.length ≤ 1000 ∧ Ev G cx ρ₁ σ₁ hi (fun u ρ₂ σ₂ => ∃ j, u = .int j ∧ Q (.lst (pickL l none (some j) none)) ρ₂ σ₂) EQ) EQ) :
    Ev G cx ρ σ (.Subscript value (.Slice none (some hi) none p) pos) Q EQ := fun ex fz s _ g S _ QQ EE hQ hE => by
  refine Subscript_ (h.run g S .nil (fun v V ρ₁ σ₁ fz₁ h₁ t₁ k₁ S₁ r₁ q₁ => wpAny_Slice (evalPart_none_step ?_)) hE)
  obtain ⟨l, rfl, hl, q₁⟩ := q₁
  refine evalPart_some_step (q₁.run (s := { s with heap := h₁, toks := t₁ }) g S₁ .nil (fun v V ρ₂ σ₂ fz₂ h₂ t₂ k₂ S₂ r₂ q₂ => ?_) (hE.on k₁))
  obtain ⟨j, rfl, q₂⟩ := q₂
  obtain ⟨tj, rfl⟩ := r₂.int_inv
  obtain ⟨a, o, vs, n, rfl, hm, hc, hdt, rl⟩ := (r₁.mono k₂).lst_inv
  have e : vs.size = l.length := by rw [← rl.length, Array.length_toList]
  rw [evalPart_none]
  refine wpAny_pure ?_
  have S₃ := S₂.push { cls := .type "slice", data := .fields #[.none, .int j tj, .none] }
  have hL : (h₂.push { cls := .type "slice", data := .fields #[.none, .int j tj, .none] }).IsList a vs := ⟨o, S₃.fzh _ hm, hc, n, hdt⟩
  refine sub_ofs (l := [.ref h₂.objs.size, .ref a]) hL.typeIs list_getitem_lookup (wpAny_getItem_list_slice hL (Heap.IsSliceOf.new ..) .none (.int _ _) .none (by simp) ?_ (by rw [e, sizeLine_eq]; omega)) (by rfl)
  have S₄ := S₃.alloc { cls := .type "list", data := .seq (slicePick vs none (some j) none) }
  exact hQ _ _ ρ₂ σ₂ _ _ t₂ (fun p hp => List.mem_cons_of_mem _ (k₂ p (k₁ p hp))) S₄ (.lst List.mem_cons_self rfl rfl ((rl.pick none (some j) none).mono fun p hp => List.mem_cons_of_mem _ hp)) q₂

/-- l[k::m] -/
theorem ev_step {value lo st : Expr} {p pos : Pos}
    (h : Ev G cx ρ σ value (fun v ρ₁ σ₁ => ∃ l, v = .lst l ∧ l.length ≤ 1000 ∧ Ev G cx ρ₁ σ₁ lo (fun u ρ₂ σ₂ => ∃ i, u = .int i ∧ Ev G cx ρ₂ σ₂ st (fun u ρ₃ σ₃ => ∃ m, u = .int m ∧ m ≠ 0 ∧ Q (.lst (pickL l (some i) none (some m))) ρ₃ σ₃) EQ) EQ) EQ) :
    Ev G cx ρ σ (.Subscript value (.Slice (some lo) none (some st) p) pos) Q EQ := fun ex fz s _ g S _ QQ EE hQ hE => by
  refine Subscript_ (h.run g S .nil (fun v V ρ₁ σ₁ fz₁ h₁ t₁ k₁ S₁ r₁ q₁ => wpAny_Slice (evalPart_some_step ?_)) hE)
  obtain ⟨l, rfl, hl, q₁⟩ := q₁
  refine q₁.run (s := { s with heap := h₁, toks := t₁ }) g S₁ .nil (fun v V ρ₂ σ₂ fz₂ h₂ t₂ k₂ S₂ r₂ q₂ => ?_) (hE.on k₁)
  obtain ⟨i, rfl, q₂⟩ := q₂
  obtain ⟨ti, rfl⟩ := r₂.int_inv
  refine evalPart_none_step (evalPart_some_step (q₂.run (s := { s with heap := h₂, toks := t₂ }) g S₂ .nil (fun v V ρ₃ σ₃ fz₃ h₃ t₃ k₃ S₃ r₃ q₃ => ?_) ((hE.on k₁).on k₂)))
  obtain ⟨m, rfl, hm0, q₃⟩ := q₃
  obtain ⟨tm, rfl⟩ := r₃.int_inv
  obtain ⟨a, o, vs, n, rfl, hm, hc, hdt, rl⟩ := ((r₁.mono k₂).mono k₃).lst_inv
  have e : vs.size = l.length := by rw [← rl.length, Array.length_toList]
  have S₄ := S₃.push { cls := .type "slice", data := .fields #[.int i ti, .none, .int m tm] }
  have hL : (h₃.push { cls := .type "slice", data := .fields #[.int i ti, .none, .int m tm] }).IsList a vs := ⟨o, S₄.fzh _ hm, hc, n, hdt⟩
  refine sub_ofs (l := [.ref a, .ref h₃.objs.size]) hL.typeIs list_getitem_lookup (wpAny_getItem_list_slice hL (Heap.IsSliceOf.new ..) (.int _ _) .none (.int _ _) (by simpa using hm0) ?_ (by rw [e, sizeLine_eq]; omega)) (by rfl)
  have S₅ := S₄.alloc { cls := .type "list", data := .seq (slicePick vs (some i) none (some m)) }
  exact hQ _ _ ρ₃ σ₃ _ _ t₃ (fun p hp => List.mem_cons_of_mem _ (k₃ p (k₂ p (k₁ p hp)))) S₅ (.lst List.mem_cons_self rfl rfl ((rl.pick (some i) none (some m)).mono fun p hp => List.mem_cons_of_mem _ hp)) q₃
end
end Mine
namespace Mine
open PySem PySem.W PyProof.Rows PyProof.Rows.LCg PySem.Calls PySem.Spec

/-! strings of single signs -/
noncomputable def oneS (c : Nat) : Str := ⟨#[c]⟩
noncomputable def mkS (l : List Nat) : Str := ⟨l.toArray⟩
theorem Str.ext' {a b : Str} (h : a.cps = b.cps) : a = b := by cases a; cases b; cases h; rfl
theorem join_empty : ∀ l : List Nat, Str.join "" (l.map oneS) = mkS l
  | [] => rfl
  | [c] => rfl
  | c :: d :: l => by
    have ih := join_empty (d :: l)
    show oneS c ++ ("" : Str) ++ Str.join "" ((d :: l).map oneS) = _
    rw [ih]
    refine Str.ext' ?_
    show (#[c] ++ (#[] : Array Nat)) ++ (d :: l).toArray = _
    simp [mkS]
theorem join_ones (l : List Nat) : Txt.join "" (l.map oneS) = mkS l := (StrLaws.glued_eq_join "" _).trans (join_empty l)
theorem joinOk_ones (l : List Nat) (h : l.length ≤ 10000) : JoinOk "" (l.map oneS) = true := by
  unfold JoinOk
  have key : ∀ (l : List Nat) (acc : Nat), (l.map oneS).foldl (fun a (x : Str) => a + x.length + ("" : Str).length) acc = acc + l.length := by
    intro l
    induction l with
    | nil => intro acc; rfl
    | cons c l ih =>
      intro acc
      rw [List.map_cons, List.foldl_cons, ih]
      show acc + 1 + 0 + l.length = acc + (l.length + 1)
      omega
  rw [List.foldl_toArray, key]
  unfold Builtin.Str.tooLong
  rw [sizeLine_eq]
  simp
  omega
theorem signs_mkS (l : List Nat) : signs (mkS l) = l.map fun c => AV.str (oneS c) := rfl
end Mine
namespace Mine
open PySem PySem.W PyProof.Rows PyProof.Rows.LCg PySem.Calls PySem.Spec
open Builtin Builtin.ObjectAttr Builtin.Getset_descriptor

theorem fn_ga : Slot "function" "__getattribute__" "object.__getattribute__" :=
  .of (owner := "object") (n := "__getattribute__") (by rw [typeLookup_type, builtinLookup_eq_fast]; kernel_rfl) (by decide +kernel) (by decide +kernel) (by decide +kernel)
    (by first | exact .inl (by decide +kernel) | exact .inr (by decide +kernel)) (by rw [isSubtype_type]; kernel_rfl)
theorem fn_ga_entry : entryFor table "object.__getattribute__" = some Builtin.«object.__getattribute__» := entryFor_of_tree (by kernel_rfl)
theorem fn_ga_args (a b : Value) : argsOk "object.__getattribute__" ⟨[a, b], []⟩ := by unfold argsOk; kernel_rfl
theorem fn_lk : typeLookup (.type "function") "__name__" = pure (some (.builtin "function.__name__")) := by rw [typeLookup_type, builtinLookup_eq_fast]; kernel_rfl
theorem fn_ty : typeOf (.builtin "function.__name__") = pure (.type "getset_descriptor") := by kernel_rfl
theorem fn_entry : entryFor table "function.__name__" = some Builtin.«function.__name__» := entryFor_of_tree (by kernel_rfl)
theorem fn_owner : descrOwnerAndName "function.__name__" = ("function", "__name__") := by kernel_rfl
theorem fn_sub : isSubtype (.type "function") (.type "function") = pure true := by rw [isSubtype_type]; kernel_rfl

section
variable {prog : Program} {w : World} {A : Around} {E : Value → Shared → Prop} {h : Heap} {g : Array GenState} {d : Drawn} {t : Nat} {os : OsState} {a : Addr} {o : Obj} {fd : FuncData}
theorem fn_get {R : Result → Shared → Prop} (hx : h.get? a = some o) (hc : o.cls = .type "function") (hd : o.data = .func fd) (hz : fd.name.length ≤ sizeLine) (hq : R (.ok (.ret (.str fd.name t))) ⟨h, g, d, t + 1, os⟩) :
    codeAny (model prog w) A (.call (.builtin "getset_descriptor.__get__") ⟨[.builtin "function.__name__", .ref a, .type "function"], []⟩) R ⟨h, g, d, t, os⟩ := by
  have hT : (⟨h, g, d, t, os⟩ : Shared).TypeIs (.ref a) "function" := ⟨_, hx, hc⟩
  have hT5 : (⟨h, g, d, t, os⟩ : Shared).TypeIs (.builtin "function.__name__") "getset_descriptor" := fn_ty
  have L0 : Looks (model prog w) h (isInstance (.ref a) (.type "function")) true := (hc ▸ (Looks.ld hx).andThen .now : Looks (model prog w) h (typeOf (.ref a)) (.type "function")).andThen (Looks.of_pure fn_sub)
  refine codeAny_call_builtin F.slot_gs_get.plain F.entry_gs_get (F.slot_gs_get.check _ _ _ _ _ _ _ _ hT5 (F.args_gs_get _ _ _) ?_)
  show wpAny _ _ (descrGetter (.builtin "function.__name__") (some (.ref a))) _ _ _
  unfold descrGetter descrCheckInstance descrNameAndClass
  dsimp only
  rw [fn_owner]
  dsimp only
  repeat lk
  refine ⟨Code.quiet_builtin _ (by decide +kernel), codeAny_builtin fn_entry ?_⟩
  unfold Builtin.«function.__name__»
  show wpAny _ _ (funcData (.ref a) >>= _) _ _ _
  unfold funcData
  refine wpAny_bind (wpAny_bind (wpAny_load hx ?_))
  rw [hd]
  refine wpAny_pure ?_
  unfold retStr
  exact wpAny_bind (wpAny_mkStr (wpAny_pure hq) hz)

theorem fn_name {Q : Value → Shared → Prop} (hx : h.get? a = some o) (hc : o.cls = .type "function") (hd : o.data = .func fd) (hz : fd.name.length ≤ sizeLine) (hq : Q (.str fd.name (t + 1)) ⟨h, g, d, t + 2, os⟩) :
    wpAny (model prog w) A (getAttr (.ref a) "__name__" true) Q E ⟨h, g, d, t, os⟩ := by
  have hT : (⟨h, g, d, t + 1, os⟩ : Shared).TypeIs (.ref a) "function" := ⟨_, hx, hc⟩
  have L0 : Looks (model prog w) h (typeOf (.ref a)) (.type "function") := hc ▸ (Looks.ld hx).andThen .now
  have L1 : Looks (model prog w) h (typeLookup (.type "function") "__getattribute__") (some (.builtin "object.__getattribute__")) := Looks.of_pure fn_ga.lookup
  unfold getAttr getAttrBy
  refine wpAny_bind (wpAny_mkText (wpAny_holding (wpAny_bind (L0.at (wpAny_bind (L1.at ?_))))))
  show wpAny _ _ (getAttrByItsOwn _ _ _ _ _ _) _ _ _
  unfold getAttrByItsOwn
  refine wpAny_bind (m := hookBefore _) (wpAny_pure (wpAny_bind (wpAny_attempt (wpAny_holding ?_))))
  show wpAny _ _ (boundAndCalled (.builtin "object.__getattribute__") (.ref a) (.str "__name__" t)) _ _ _
  unfold boundAndCalled
  rw [fn_ga.bind]
  refine wpAny_bind (wpAny_pure ?_)
  dsimp only
  refine wpAny_call (codeAny_call_builtin fn_ga.plain fn_ga_entry (fn_ga.check _ _ _ _ _ _ _ _ hT (fn_ga_args _ _) ?_))
  have f4 := fn_lk
  have L2 : Looks (model prog w) h (find (.ref a) (.type "function") "__name__") (.bind (.builtin "getset_descriptor.__get__") (.builtin "function.__name__")) := by
    unfold find
    refine (Looks.of_pure fn_lk).andThen (((Looks.of_pure fn_ty).andThen (Looks.of_pure F.slot_gs_get.lookup) : Looks (model prog w) h (getOf (some (.builtin "function.__name__"))) _).andThen ?_)
    refine (show Looks (model prog w) h (dataDescriptor? (some (.builtin "function.__name__")) (some (.builtin "getset_descriptor.__get__"))) (some (.builtin "getset_descriptor.__get__", .builtin "function.__name__")) from ?_).andThen (Looks.tag .now)
    refine (show Looks (model prog w) h (takesStores (.builtin "function.__name__")) true from ?_).andThen .now
    exact ((Looks.of_pure fn_ty).andThen (Looks.of_pure F.slot_gs_set.lookup)).andThen .now
  unfold Builtin.«object.__getattribute__»
  repeat (first | with_reducible refine wpAny_call ?_ | lk)
  refine fn_get hx hc hd hz ?_
  refine wpAny_pure ?_
  refine wpAny_pure ?_
  exact hq
end
end Mine
namespace Mine
open PySem PySem.W PyProof.Rows PyProof.Rows.LCg PySem.Calls PySem.Spec

section
variable {G : Gr} {cx : Cx} {ρ : AE} {σ : AH} {EQ : AX → AE → AH → Prop} {Q : AV → AE → AH → Prop}

/-- parts of a text -/
noncomputable abbrev Jn (G : Gr) (cx : Cx) (ρ : AE) (σ : AH) (out : Str) (es : List Expr) (Q : AV → AE → AH → Prop) (EQ : AX → AE → AH → Prop) : Prop := JV Rel G cx ρ σ [] (fun _ => joinParts out (evalEach es cx.env)) Q EQ
theorem jn_nil {out : Str} (hz : out.length ≤ 10000) (q : Q (.str out) ρ σ) : Jn G cx ρ σ out [] Q EQ := fun ex fz s _ g S _ QQ EE hQ hE => joinParts_nil (give hQ S (.str _ _) q) (by rw [sizeLine_eq]; omega)
theorem jn_cons {out : Str} {e : Expr} {es : List Expr} (h : Ev G cx ρ σ e (fun v ρ₁ σ₁ => ∃ y, v = .str y ∧ (out ++ y).length ≤ 10000 ∧ Jn G cx ρ₁ σ₁ (out ++ y) es Q EQ) EQ) : Jn G cx ρ σ out (e :: es) Q EQ := fun ex fz s _ g S _ QQ EE hQ hE => by
  refine joinParts_cons (h.run g S .nil (fun v V ρ₁ σ₁ fz₁ h₁ t₁ k₁ S₁ r₁ q₁ => ?_) hE)
  obtain ⟨y, rfl, hz, q₁⟩ := q₁
  obtain ⟨t, rfl⟩ := r₁.str_inv
  exact ⟨by rw [sizeLine_eq]; omega, q₁.run (s := { s with heap := h₁, toks := t₁ }) g S₁ .nil (hQ.on k₁) (hE.on k₁)⟩
theorem ev_fstr {e₁ e₂ : Expr} {es : List Expr} {pos : Pos} (h : Jn G cx ρ σ Str.empty (e₁ :: e₂ :: es) Q EQ) : Ev G cx ρ σ (.JoinedStr (e₁ :: e₂ :: es) pos) Q EQ := fun ex fz s _ g S _ QQ EE hQ hE => JoinedStr_many (h.run g S .nil hQ hE)
theorem ev_fval {e : Expr} {pos : Pos} (h : Ev G cx ρ σ e (fun v ρ₁ σ₁ => ∃ y, v = .str y ∧ y.length ≤ 10000 ∧ Q (.str y) ρ₁ σ₁) EQ) : Ev G cx ρ σ (.FormattedValue e (-1) none pos) Q EQ := fun ex fz s _ g S _ QQ EE hQ hE => by
  refine FormattedValue_plain (h.run g S .nil (fun v V ρ₁ σ₁ fz₁ h₁ t₁ k₁ S₁ r₁ q₁ => ?_) hE)
  obtain ⟨y, rfl, hz, q₁⟩ := q₁
  obtain ⟨t, rfl⟩ := r₁.str_inv
  exact formatField_str (fun t' tk => (hQ.on k₁) _ _ ρ₁ σ₁ fz₁ h₁ tk (fun _ h => h) S₁ (.str _ _) q₁) (by rw [sizeLine_eq]; omega)
theorem ev_fname {n : Str} {np pos : Pos} {f : Addr} {od : Option Addr} {osl : Array (Option Value)} {fd : FuncData} (hn : ρ n = some (.val (.ref f))) (hK : G.K.lookup f = some ⟨.type "function", od, .func fd, osl⟩) (hz : fd.name.length ≤ 1000) (q : Q (.str fd.name) ρ σ)
    (hd : (n == ("__debug__" : Str)) = false := by decide) (hc : (n == ("__classdict__" : Str)) = false := by decide) : Ev G cx ρ σ (.Attribute (.Name n np) "__name__" pos) Q EQ := fun ex fz s _ g S _ QQ EE hQ hE => by
  refine Attribute_name (wpAny_Name (loadVar S hn hc fun V r => ?_) hd)
  obtain rfl := r.val_inv
  obtain ⟨hh, gg, d, t, os⟩ := s
  exact fn_name (S.base _ _ (g.KB _ _ hK)) rfl rfl (by rw [sizeLine_eq]; omega) (give hQ S (.str _ _) q)

/-- what the helper says of a failure -/
noncomputable def failed (what name : Str) : Str := Str.empty ++ "<" ++ what ++ " " ++ name ++ "() failed>"
end
end Mine
namespace Mine
open PySem PySem.W PyProof.Rows PyProof.Rows.LCg PySem.Calls PySem.Spec

mutual
inductive AD : AV → PyData → Prop
  | none : AD .none .none
  | bool (b) : AD (.bool b) (.bool b)
  | int (i) : AD (.int i) (.int i)
  | str (s) : AD (.str s) (.str s)
  | tup {l ds} : ADL l ds → AD (.tup l) (.tuple ds)
  | lst {l ds} : ADL l ds → AD (.lst l) (.list ds)
inductive ADL : List AV → List PyData → Prop
  | nil : ADL [] []
  | cons {v d l ds} : AD v d → ADL l ds → ADL (v :: l) (d :: ds)
end
theorem ADL.ofMap {α : Type} {f : α → AV} {g : α → PyData} (h : ∀ a, AD (f a) (g a)) : ∀ l : List α, ADL (l.map f) (l.map g)
  | [] => .nil
  | a :: l => .cons (h a) (ADL.ofMap h l)

theorem AD.reads {G : Gr} {fz : Objs} {h : Heap} (hh : Has fz h) {v d} (a : AD v d) : ∀ {V}, Rel G fz v V → ∃ as, Reads h V d as :=
  AD.rec (motive_1 := fun v d _ => ∀ {V}, Rel G fz v V → ∃ as, Reads h V d as) (motive_2 := fun l ds _ => ∀ vs, RelL G fz l vs → ∃ as, ReadsAll h vs ds as)
    (fun r => by rw [r.none_inv]; exact ⟨_, .none⟩) (fun b _ r => by rw [r.bool_inv]; exact ⟨_, .bool b⟩) (fun i _ r => by obtain ⟨t, rfl⟩ := r.int_inv; exact ⟨_, .int i t⟩) (fun i _ r => by obtain ⟨t, rfl⟩ := r.str_inv; exact ⟨_, .str i t⟩)
    (fun _ ih _ r => by
      obtain ⟨a, o, vs, n, rfl, hm, hc, hd, hr⟩ := r.tup_inv
      obtain ⟨as, e⟩ := ih _ hr
      exact ⟨_, .tuple (hh _ hm) hc hd e⟩)
    (fun _ ih _ r => by
      obtain ⟨a, o, vs, n, rfl, hm, hc, hd, hr⟩ := r.lst_inv
      obtain ⟨as, e⟩ := ih _ hr
      exact ⟨_, .list (hh _ hm) hc hd e⟩)
    (fun _ r => by rw [r.nil_inv]; exact ⟨_, .nil⟩)
    (fun _ _ i1 i2 _ r => by
      obtain ⟨V, vs', rfl, r1, r2⟩ := r.cons_inv
      obtain ⟨as, e⟩ := i1 r1
      obtain ⟨bs, e'⟩ := i2 _ r2
      exact ⟨_, .cons e e'⟩) a

section
variable {G : Gr} {cx : Cx} {ρ : AE} {σ : AH} {Q : AV → AE → AH → Prop} {EQ : AX → AE → AH → Prop}
theorem CxOk.room (ok : CxOk cx) : cx.A.units + 64 < cLine := by
  have := ok.units
  show _ < 9900
  omega
theorem op_eq_data {v u : AV} {da db : PyData} (h1 : AD v da) (h2 : AD u db) (s1 : SeqAt.shaped da = true) (s2 : SeqAt.shaped db = true) (q : Q (.bool (PyData.eqv da db)) ρ σ) : JV Rel G cx ρ σ [v, u] (two (compareOp .Eq)) Q EQ := fun ex fz s _ g S r QQ EE hQ hE => by
  obtain ⟨V, U, rfl, r1, r2⟩ := r.two_inv
  obtain ⟨as, e1⟩ := h1.reads S.fzh r1
  obtain ⟨bs, e2⟩ := h2.reads S.fzh r2
  exact eq_dataH e1 e2 s1 s2 S.ok.room (give hQ S (.bool _) q)
theorem op_ne_data {v u : AV} {da db : PyData} (h1 : AD v da) (h2 : AD u db) (s1 : SeqAt.shaped da = true) (s2 : SeqAt.shaped db = true) (q : Q (.bool (!PyData.eqv da db)) ρ σ) : JV Rel G cx ρ σ [v, u] (two (compareOp .NotEq)) Q EQ := fun ex fz s _ g S r QQ EE hQ hE => by
  obtain ⟨V, U, rfl, r1, r2⟩ := r.two_inv
  obtain ⟨as, e1⟩ := h1.reads S.fzh r1
  obtain ⟨bs, e2⟩ := h2.reads S.fzh r2
  exact ne_dataH e1 e2 s1 s2 S.ok.room (give hQ S (.bool _) q)
theorem op_ne_is {a : Int} {b : Str} (q : Q (.bool true) ρ σ) : JV Rel G cx ρ σ [.int a, .str b] (two (compareOp .NotEq)) Q EQ := fun ex fz s _ g S r QQ EE hQ hE => by
  obtain ⟨V, U, rfl, r1, r2⟩ := r.two_inv
  obtain ⟨_, rfl⟩ := r1.int_inv
  obtain ⟨_, rfl⟩ := r2.str_inv
  exact PySem.EqMixed.ne_int_str (give hQ S (.bool _) q)
end

/-! the shapes that the laws compare -/
theorem eqvAll_eq {α : Type} [DecidableEq α] {g : α → PyData} (h : ∀ a b, PyData.eqv (g a) (g b) = decide (a = b)) : ∀ l m : List α, PyData.eqvAll (l.map g) (m.map g) = decide (l = m)
  | [], [] => by simp [PyData.eqvAll]
  | [], _ :: _ => by simp [PyData.eqvAll]
  | _ :: _, [] => by simp [PyData.eqvAll]
  | a :: l, b :: m => by
    simp only [List.map_cons, PyData.eqvAll, h, eqvAll_eq h l m]
    by_cases e : a = b <;> simp [e]
theorem canLayAll_map {α : Type} {g : α → PyData} : ∀ (l : List α), (∀ a ∈ l, (g a).canLay0 = true) → PyData.canLayAll0 (l.map g) = true
  | [], _ => by simp [PyData.canLayAll0]
  | a :: l, h => by
    simp only [List.map_cons, PyData.canLayAll0, Bool.and_eq_true]
    exact ⟨h a List.mem_cons_self, canLayAll_map l fun b hb => h b (List.mem_cons_of_mem _ hb)⟩
theorem depthAll_map {α : Type} {g : α → PyData} {n : Nat} : ∀ (l : List α), (∀ a ∈ l, (g a).depth ≤ n) → PyData.depthAll (l.map g) ≤ n
  | [], _ => by simp [PyData.depthAll]
  | a :: l, h => by
    have h1 := h a List.mem_cons_self
    have h2 := depthAll_map l fun b hb => h b (List.mem_cons_of_mem _ hb)
    simp only [List.map_cons, PyData.depthAll]
    omega
theorem shaped_list {α : Type} {g : α → PyData} {n : Nat} (hn : n ≤ 60) (l : List α) (h : ∀ a ∈ l, (g a).canLay0 = true ∧ (g a).depth ≤ n) : SeqAt.shaped (.list (l.map g)) = true := by
  have h1 := depthAll_map l fun a ha => (h a ha).2
  have h2 : PyData.depth (.list (l.map g)) ≤ 64 := by simp only [PyData.depth]; omega
  show (PyData.canLay0 (.list (l.map g)) && decide (PyData.depth (.list (l.map g)) ≤ 64)) = true
  rw [Bool.and_eq_true]
  exact ⟨by simp only [PyData.canLay0]; exact canLayAll_map l fun a ha => (h a ha).1, decide_eq_true h2⟩
end Mine
namespace Mine
open PySem PySem.W PyProof.Rows PyProof.Rows.LCg PySem.Calls PySem.Spec

theorem strsAre_at : ∀ (ss : List Str) (vs : List Value), vs.length = ss.length → (∀ (j : Nat) (v : Value), vs[j]? = some v → ∃ (x : Str) (t : Tok), ss[j]? = some x ∧ v = Value.str x t) → StrsAre vs ss
  | [], [], _, _ => PyProof.Rows.StrsAre.nil
  | [], _ :: _, h, _ => nomatch h
  | _ :: _, [], h, _ => nomatch h
  | x :: ss, v :: vs, h, k => by
    obtain ⟨y, t, e, rfl⟩ := k 0 v rfl
    cases e
    exact PyProof.Rows.StrsAre.cons x t (strsAre_at ss vs (by simpa using h) fun j u e => k (j + 1) u (by simpa using e))

section
variable {prog : Program} {w : World} {A : Around} {E : Value → Shared → Prop} {s : Shared}
theorem sorted_collected {V : Value} {ss : List Str} {Q : Value → Shared → Prop} (h64 : ss.length < 64)
    (hcol : ∀ R E', (∀ h' tk vs, (∀ b o, s.heap.get? b = some o → h'.get? b = some o) → StrsAre vs ss → R vs { s with heap := h', toks := tk }) → wpAny (model prog w) A.in1 (collect V) R E' s)
    (h : ∀ (h₁ h' : Heap) tk vs' ss' e, (∀ b o, s.heap.get? b = some o → h₁.get? b = some o) → (∀ b o, h₁.get? b = some o → h'.get? b = some o) → h'.get? h₁.objs.size = some (seqObj "list" vs'.toArray e) → StrsAre vs' ss' → ss'.Perm ss → sortedS ss' = true → Q (.ref h₁.objs.size) { s with heap := h', toks := tk }) :
    wpAny (model prog w) A (call (.builtin "sorted") [V]) Q E s := by
  refine call_function_entry kind_sorted plain_sorted entry_sorted (by
    have := args_sorted1 V
    exact this) ?_
  unfold Builtin.«sorted»
  refine wpAny_bind (m := checkCount "sorted" 1 1 _) (wpAny_pure ?_)
  refine wpAny_bind (hcol _ _ fun h₁ tk vs k₁ hS => ?_)
  have hlen := StrsAre.length hS
  refine wpAny_bind (wpAny_newList ?_ (by rw [sizeLine_eq]; omega))
  have hoL : (h₁.push (seqObj "list" vs.toArray 0)).get? h₁.objs.size = some (seqObj "list" vs.toArray 0) := Heap.get?_push_size _ rfl
  refine wpAny_bind (wpAny_holding (wpAny_call_entry slot_list_sort ⟨_, hoL, rfl⟩ entry_list_sort (list_sort_treeK strKind_oneLt hoL hS.keysOf (fun v₁ v₂ rest e => keyKind_strs (by rw [← e]; exact hS)) (by omega) fun st' hp hs => ⟨_, rfl, ?_⟩) (args_list_sort _)))
  obtain ⟨ss', h1, h2, h3⟩ := sorted_out_str hS hp hs
  obtain ⟨e, he⟩ := sortedHeap_at (out := (arrOf st').map (·.2)) hoL
  refine wpAny_pure ⟨_, rfl, h h₁ _ tk ((arrOf st').map (·.2)).toList ss' e k₁ (fun b o q => ?_) he h1 h2 h3⟩
  have hb := Heap.lt_size q
  rw [sortedHeap_old (Nat.ne_of_lt hb) (by rw [Heap.size_push]; exact Nat.lt_succ_of_lt hb)]
  exact Heap.get?_push_of_some _ q
end

section
variable {G : Gr} {cx : Cx} {ρ : AE} {σ : AH} {EQ : AX → AE → AH → Prop} {Q : AV → AE → AH → Prop}
theorem sorted_end {ex fz : Objs} {s : Shared} {QQ : Value → Shared → Prop} {ss : List Str} (S : Sat G cx ex ρ σ fz s.heap) (hQ : Ret Rel G cx ex fz s Q QQ) (q : ∀ ss' : List Str, ss'.Perm ss → sortedS ss' = true → Q (.lst (ss'.map .str)) ρ σ)
    (h₁ h' : Heap) (tk : Nat) (vs' : List Value) (ss' : List Str) (e : Nat) (k1 : ∀ b o, s.heap.get? b = some o → h₁.get? b = some o) (k2 : ∀ b o, h₁.get? b = some o → h'.get? b = some o) (hg : h'.get? h₁.objs.size = some (seqObj "list" vs'.toArray e))
    (hS : StrsAre vs' ss') (hp : ss'.Perm ss) (hs : sortedS ss' = true) : QQ (.ref h₁.objs.size) { s with heap := h', toks := tk } := by
  have S₁ := S.ext k1
  have S₂ := S₁.ext k2
  exact hQ _ _ ρ σ _ h' tk (fun p hp => List.mem_cons_of_mem _ hp) (S₁.made S₂ (Nat.le_refl _) hg) (.lst List.mem_cons_self rfl rfl (RelL.of_strs (by simpa using hS))) (q ss' hp hs)
theorem op_sorted_keys {es : List (Str × AV)} (hd : cx.hd = none) (h64 : es.length < 64) (q : ∀ ss' : List Str, ss'.Perm (es.map (·.1)) → sortedS ss' = true → Q (.lst (ss'.map .str)) ρ σ) : JV Rel G cx ρ σ [.dct es] (fun Vs => call (.builtin "sorted") Vs) Q EQ := fun ex fz s _ g S r QQ EE hQ hE => by
  obtain ⟨_, rfl, r1⟩ := r.one_inv
  obtain ⟨a, o, kvs, rfl, hm, hsys, hdo, hl⟩ := r1.dct_inv
  obtain ⟨des, ep, d1, d2, d3, d4, d5⟩ := hdo
  have hD : s.heap.DictAt (strKind G.prog G.w) a kvs ep := ⟨o, des, S.fzh _ hm, d1, d2, d3, d4, d5⟩
  have e1 := hl.length
  refine sorted_collected (ss := es.map (·.1)) (by rw [List.length_map]; exact h64) (fun R E' hR => kdu_collect (A := cx.A.in1) (kdl_dict (knd := strKind G.prog G.w) (kvs := kvs) (ep := ep) hsys) (S.ok.hd.trans hd) hD (by rw [sizeLine_eq]; omega) fun h' tk acc k hacc => hR h' tk acc.toList k (strsAre_at _ _ ?_ fun j v e => ?_)) (sorted_end S hQ q)
  · rw [Array.length_toList, hacc.1, e1, List.length_map]
  · obtain ⟨k', x, e2, e3⟩ := hacc.2 j v (by rw [← Array.getElem?_toList]; exact e)
    obtain ⟨t, rfl⟩ := Value.isStrOf_shape e3
    refine ⟨k', t, ?_, rfl⟩
    rw [← hl.keys, List.getElem?_map, e2]
    rfl
theorem op_sorted_ints {ns : List Int} (h64 : ns.length < 64) (q : ∀ ns' : List Int, ns'.Perm ns → ns'.Pairwise (· ≤ ·) → Q (.lst (ns'.map .int)) ρ σ) : JV Rel G cx ρ σ [.lst (ns.map .int)] (fun Vs => call (.builtin "sorted") Vs) Q EQ := fun ex fz s _ g S r QQ EE hQ hE => by
  obtain ⟨_, rfl, r1⟩ := r.one_inv
  obtain ⟨a, o, vs, n, rfl, hm, hc, hdt, rl⟩ := r1.lst_inv
  have e1 := rl.length
  rw [List.length_map] at e1
  obtain ⟨m, news, F, N, _, _, back⟩ := S.news
  refine sorted_N F N (vs := vs.toList) (by rw [Array.toArray_toList]; exact ⟨o, S.fzh _ hm, hc, n, hdt⟩) rl.ints (by omega) fun h' vs' ns' e F' N' a1 a2 a3 => ?_
  have S' := back h' F' fun p hp => N' p (List.mem_cons_of_mem _ hp)
  exact hQ _ _ ρ σ _ h' s.toks (fun p hp => List.mem_cons_of_mem _ hp) (S.made S' (Nat.le_succ _) (N' _ List.mem_cons_self).1) (.lst List.mem_cons_self rfl rfl (RelL.of_ints (by simpa using a1))) (q ns' a2 a3)
end
end Mine
namespace Mine
open PySem PySem.W PyProof.Rows PyProof.Rows.LCg PySem.Calls PySem.Spec

noncomputable def runT {α : Type} (lt : Nat → Nat → Bool) : KasT α → α
  | .ret a => a
  | .ask i j k => runT lt (k (lt i j))
noncomputable def okT {α : Type} (n : Nat) (lt : Nat → Nat → Bool) : KasT α → Bool
  | .ret _ => true
  | .ask i j k => decide (i < n) && (decide (j < n) && okT n lt (k (lt i j)))
theorem kasWp_of {α : Type} {n : Nat} {lt : Nat → Nat → Bool} {cmp : Nat → Nat → (Bool → Shared → Prop) → Shared → Prop} {Q : α → Shared → Prop} {s : Shared} (hc : ∀ i j C, i < n → j < n → C (lt i j) s → cmp i j C s) :
    ∀ t : KasT α, okT n lt t = true → Q (runT lt t) s → t.kasWp cmp Q s
  | .ret a, _, h => h
  | .ask i j k, e, h => by
    have e' : (decide (i < n) && (decide (j < n) && okT n lt (k (lt i j)))) = true := e
    rw [Bool.and_eq_true, Bool.and_eq_true, decide_eq_true_eq, decide_eq_true_eq] at e'
    exact hc i j _ e'.1 e'.2.1 (kasWp_of hc (k (lt i j)) e'.2.2 h)

noncomputable def ltOf (t : List Nat) (i j : Nat) : Bool := decide (t.idxOf i < t.idxOf j)
noncomputable def tree (n : Nat) (t : List Nat) : Bool := okT n (ltOf t) (kas_sort n) && (runT (ltOf t) (kas_sort n)).toList == t
theorem tree2 : ∀ a < 2, ∀ b < 2, [a, b].Nodup → tree 2 [a, b] = true := by decide +kernel
theorem tree3 : ∀ a < 3, ∀ b < 3, ∀ c < 3, [a, b, c].Nodup → tree 3 [a, b, c] = true := by decide +kernel
theorem tree4 : ∀ a < 4, ∀ b < 4, ∀ c < 4, ∀ d < 4, [a, b, c, d].Nodup → tree 4 [a, b, c, d] = true := by decide +kernel
noncomputable def q5 (t : List Nat) : Bool := !decide t.Nodup || tree 5 t
noncomputable def tree5b (a b : Nat) : Bool := (List.range 5).all fun c => (List.range 5).all fun d => (List.range 5).all fun e => q5 [a, b, c, d, e]
theorem tree5a : ∀ a < 5, ∀ b < 5, tree5b a b = true := by decide +kernel
theorem tree5 : ∀ a < 5, ∀ b < 5, ∀ c < 5, ∀ d < 5, ∀ e < 5, [a, b, c, d, e].Nodup → tree 5 [a, b, c, d, e] = true := fun a ha b hb c hc d hd e he hn => by
  have h := tree5a a ha b hb
  unfold tree5b at h
  have h1 := List.all_eq_true.mp h c (List.mem_range.mpr hc)
  have h2 := List.all_eq_true.mp h1 d (List.mem_range.mpr hd)
  have h3 := List.all_eq_true.mp h2 e (List.mem_range.mpr he)
  unfold q5 at h3
  rw [decide_eq_true hn] at h3
  exact h3
theorem tree_ok {n : Nat} {t : List Nat} (h2 : 2 ≤ n) (h5 : n ≤ 5) (hl : t.length = n) (hb : ∀ x ∈ t, x < n) (hn : t.Nodup) : tree n t = true := by
  subst hl
  match t, h2, h5, hb, hn with
  | [a, b], _, _, hb, hn => exact tree2 a (hb a (by simp)) b (hb b (by simp)) hn
  | [a, b, c], _, _, hb, hn => exact tree3 a (hb a (by simp)) b (hb b (by simp)) c (hb c (by simp)) hn
  | [a, b, c, d], _, _, hb, hn => exact tree4 a (hb a (by simp)) b (hb b (by simp)) c (hb c (by simp)) d (hb d (by simp)) hn
  | [a, b, c, d, e], _, _, hb, hn => exact tree5 a (hb a (by simp)) b (hb b (by simp)) c (hb c (by simp)) d (hb d (by simp)) e (hb e (by simp)) hn
  | [], h, _, _, _ => exact absurd h (by simp)
  | [_], h, _, _, _ => exact absurd h (by simp)
  | _ :: _ :: _ :: _ :: _ :: _ :: _, _, h, _, _ => exact absurd h (by simp)
end Mine
namespace Mine
open PySem PySem.W PyProof.Rows PyProof.Rows.LCg PySem.Calls PySem.Spec

theorem idxOf_get {α : Type} [BEq α] [LawfulBEq α] {l : List α} (hn : l.Nodup) {i : Nat} {a : α} (h : l[i]? = some a) : l.idxOf a = i := by
  obtain ⟨hi, e⟩ := List.getElem?_eq_some_iff.mp h
  rw [← e]
  exact hn.idxOf_getElem i hi

theorem sort_idx {α : Type} [BEq α] [LawfulBEq α] {lt : α → α → Bool} (irr : ∀ a, lt a a = false) {ps t : List α} (hp : t.Perm ps) (hs : t.Pairwise fun a b => lt a b = true ∧ lt b a = false) :
    (t.map (ps.idxOf ·)).length = ps.length ∧ (∀ x ∈ t.map (ps.idxOf ·), x < ps.length) ∧ (t.map (ps.idxOf ·)).Nodup ∧ (∀ i j a b, ps[i]? = some a → ps[j]? = some b → lt a b = ltOf (t.map (ps.idxOf ·)) i j) ∧ ∀ k : Nat, (t.map (ps.idxOf ·))[k]?.bind (fun i => ps[i]?) = t[k]? := by
  have hnt : t.Nodup := hs.imp fun {a b} h e => by subst e; rw [irr] at h; exact absurd h.1 (by decide)
  have hnp : ps.Nodup := hp.nodup hnt
  have inj : ∀ a ∈ t, ∀ b ∈ t, ps.idxOf a = ps.idxOf b → a = b := fun a ha b hb e => by
    have h1 := List.idxOf_lt_length_iff.mpr (hp.mem_iff.mp ha)
    have h2 := List.idxOf_lt_length_iff.mpr (hp.mem_iff.mp hb)
    rw [← List.getElem_idxOf h1, ← List.getElem_idxOf h2]
    simp only [e]
  have hnI : (t.map (ps.idxOf ·)).Nodup := by
    rw [List.Nodup, List.pairwise_map]
    exact List.Pairwise.imp_of_mem (fun {a b} ha hb h e => h (inj a ha b hb e)) hnt
  refine ⟨by rw [List.length_map, hp.length_eq], fun x hx => ?_, hnI, fun i j a b hi hj => ?_, fun k => ?_⟩
  · obtain ⟨a, ha, rfl⟩ := List.mem_map.mp hx
    exact List.idxOf_lt_length_iff.mpr (hp.mem_iff.mp ha)
  · have at_ : ∀ {i : Nat} {a : α}, ps[i]? = some a → ∃ p : Nat, t[p]? = some a ∧ (t.map (ps.idxOf ·)).idxOf i = p := fun {i a} h => by
      have ha : a ∈ t := hp.mem_iff.mpr (List.mem_of_getElem? h)
      obtain ⟨p, hp1, hp2⟩ := List.getElem_of_mem ha
      refine ⟨p, by rw [List.getElem?_eq_getElem hp1, hp2], idxOf_get hnI ?_⟩
      rw [List.getElem?_map, List.getElem?_eq_getElem hp1, hp2]
      exact congrArg some (idxOf_get hnp h)
    obtain ⟨p, hp1, hp2⟩ := at_ hi
    obtain ⟨q, hq1, hq2⟩ := at_ hj
    unfold ltOf
    rw [hp2, hq2]
    obtain ⟨lp, ep⟩ := List.getElem?_eq_some_iff.mp hp1
    obtain ⟨lq, eq⟩ := List.getElem?_eq_some_iff.mp hq1
    have hs' := List.pairwise_iff_getElem.mp hs
    rcases Nat.lt_trichotomy p q with h | h | h
    · rw [decide_eq_true h, ← ep, ← eq]
      exact (hs' p q lp lq h).1
    · subst h
      rw [hp1] at hq1
      cases hq1
      rw [irr, decide_eq_false (Nat.lt_irrefl _)]
    · rw [decide_eq_false (Nat.lt_asymm h), ← ep, ← eq]
      exact (hs' q p lq lp h).2
  · rw [List.getElem?_map]
    cases e : t[k]? with
    | none => rfl
    | some a =>
      have h1 := List.idxOf_lt_length_iff.mpr (hp.mem_iff.mp (List.mem_of_getElem? e))
      show ps[ps.idxOf a]? = some a
      rw [List.getElem?_eq_getElem h1, List.getElem_idxOf h1]

noncomputable def lexB (a b : Int × Int) : Bool := if (a.1 == b.1) = true then decide (a.2 < b.2) else decide (a.1 < b.1)
theorem lexB_irr (a : Int × Int) : lexB a a = false := by unfold lexB; simp
noncomputable def pairV (p : Int × Int) : AV := .tup [.int p.1, .int p.2]

section
variable {prog : Program} {w : World} {A : Around} {E : Value → Shared → Prop} {s : Shared} {G : Gr} {fz : Objs}
theorem pair_obj {p : Int × Int} {V : Value} (hh : Has fz s.heap) (r : Rel G fz (pairV p) V) : ∃ (a : Addr) (o : Obj) (t u : Tok) (n : Nat), V = .ref a ∧ s.heap.get? a = some o ∧ o.cls = .type "tuple" ∧ o.data = .seq #[.int p.1 t, .int p.2 u] n := by
  obtain ⟨a, o, vs, n, rfl, hm, hc, hd, hl⟩ := r.tup_inv
  obtain ⟨V1, V2, e, r1, r2⟩ := hl.two_inv
  obtain ⟨t, rfl⟩ := r1.int_inv
  obtain ⟨u, rfl⟩ := r2.int_inv
  have ev : vs = #[.int p.1 t, .int p.2 u] := by rw [← Array.toArray_toList (xs := vs), e]
  subst ev
  exact ⟨a, o, t, u, n, rfl, hh _ hm, hc, hd⟩
theorem ask_pair {p q : Int × Int} {V U : Value} {C : Bool → Shared → Prop} (hh : Has fz s.heap) (r1 : Rel G fz (pairV p) V) (r2 : Rel G fz (pairV q) U) (h : C (lexB p q) s) : wpAny (model prog w) A (keyLt' (tuples' true) V U) C E s := by
  obtain ⟨a, o, t, u, n, rfl, ho, hc, hd⟩ := pair_obj hh r1
  obtain ⟨a', o', t', u', n', rfl, ho', hc', hd'⟩ := pair_obj hh r2
  refine kat_lt ho hd ho' hd' (kat_cons (wpAny_eqBool_int ?_))
  unfold lexB at h
  cases e : (p.1 == q.1) with
  | true =>
    rw [e, if_pos rfl] at h
    refine kat_yes (kat_cons (wpAny_eqBool_int ?_))
    cases e2 : (p.2 == q.2) with
    | true =>
      refine kat_yes (kat_nil ?_)
      have : p.2 = q.2 := by simpa using e2
      rw [this, decide_eq_false (Int.lt_irrefl _)] at h
      exact h
    | false => exact kat_no (kat_one _ _ (PyProof.Rows.lt_int h))
  | false =>
    rw [e] at h
    refine kat_no ?_
    have : (true && (0 : Nat) == 0) = true := rfl
    rw [this]
    exact oneLt_int h
theorem pairs_kind : ∀ (ps : List (Int × Int)) (vs : List Value), Has fz s.heap → RelL G fz (ps.map pairV) vs → ∃ fs : List Value, KatTups s.heap vs fs ∧ fs.length = ps.length ∧ ∀ v ∈ fs, ∃ i t, v = .int i t
  | [], _, _, r => by cases r; exact ⟨[], KatTups.nil, rfl, fun _ h => nomatch h⟩
  | p :: ps, _, hh, r => by
    cases r with
    | cons r1 r2 =>
      obtain ⟨fs, h1, h2, h3⟩ := pairs_kind ps _ hh r2
      obtain ⟨a, o, t, u, n, rfl, ho, hc, hd⟩ := pair_obj hh r1
      refine ⟨.int p.1 t :: fs, KatTups.cons ho hc hd rfl h1, by simp [h2], fun v hv => ?_⟩
      rcases List.mem_cons.mp hv with rfl | hv
      · exact ⟨_, _, rfl⟩
      · exact h3 v hv
theorem pairs_sort {ps t : List (Int × Int)} {vs : List Value} {C : Array Nat → Shared → Prop} (h2 : 2 ≤ ps.length) (h5 : ps.length ≤ 5) (hh : Has fz s.heap) (r : RelL G fz (ps.map pairV) vs) (hp : t.Perm ps) (hs : t.Pairwise fun a b => lexB a b = true ∧ lexB b a = false)
    (h : C (t.map (ps.idxOf ·)).toArray s) : wpAny (model prog w) A (keyKind' vs.toArray) (fun κ s' => (kas_sort ps.length).kasWp (kas_ask prog w A κ vs) C s') (fun _ _ => False) s := by
  obtain ⟨fs, k1, k2, k3⟩ := pairs_kind ps vs hh r
  refine kat_kind (T := .type "int") k1 (by omega) (fun v hv => ?_) (by rfl) ?_
  · obtain ⟨i, t, rfl⟩ := k3 v hv
    exact Looks.of_pure rfl
  obtain ⟨i1, i2, i3, i4, i5⟩ := sort_idx lexB_irr hp hs
  have T := tree_ok h2 h5 i1 i2 i3
  unfold tree at T
  rw [Bool.and_eq_true] at T
  have hr := r.length
  rw [List.length_map] at hr
  refine kasWp_of (n := ps.length) (lt := ltOf (t.map (ps.idxOf ·))) (fun i j C hi hj hC => ?_) _ T.1 ?_
  · unfold kas_ask
    obtain ⟨V, e1, r1⟩ := r.get (i := i) (v := pairV ps[i]) (by rw [List.getElem?_map, List.getElem?_eq_getElem hi]; rfl)
    obtain ⟨U, e2, r2⟩ := r.get (i := j) (v := pairV ps[j]) (by rw [List.getElem?_map, List.getElem?_eq_getElem hj]; rfl)
    rw [List.getD_eq_getElem?_getD, List.getD_eq_getElem?_getD, e1, e2]
    refine ask_pair hh r1 r2 ?_
    rw [i4 i j _ _ (List.getElem?_eq_getElem hi) (List.getElem?_eq_getElem hj)]
    exact hC
  · have e : runT (ltOf (t.map (ps.idxOf ·))) (kas_sort ps.length) = (t.map (ps.idxOf ·)).toArray := by
      exact (Array.toArray_toList (xs := runT (ltOf (t.map (ps.idxOf ·))) (kas_sort ps.length))).symm.trans (congrArg List.toArray (beq_iff_eq.mp T.2))
    rw [e]
    exact h
theorem picked {l : List AV} {vs : List Value} (r : RelL G fz l vs) : ∀ (I : List Nat) (m : List AV), I.length = m.length → (∀ (k : Nat) (i : Nat), I[k]? = some i → ∃ x, l[i]? = some x ∧ m[k]? = some x) → RelL G fz m (I.map fun i => vs.getD i Value.none)
  | [], [], _, _ => .nil
  | [], _ :: _, h, _ => nomatch h
  | _ :: _, [], h, _ => nomatch h
  | i :: I, x :: m, h, k => by
    obtain ⟨y, e1, e2⟩ := k 0 i rfl
    cases e2
    obtain ⟨V, e3, r3⟩ := r.get e1
    refine .cons ?_ (picked r I m (by simpa using h) fun n j e => k (n + 1) j (by simpa using e))
    show Rel G fz x (vs.getD i Value.none)
    rw [List.getD_eq_getElem?_getD, e3]
    exact r3
end

section
variable {G : Gr} {cx : Cx} {ρ : AE} {σ : AH} {EQ : AX → AE → AH → Prop} {Q : AV → AE → AH → Prop}
theorem op_sorted_pairs {ps t : List (Int × Int)} (h2 : 2 ≤ ps.length) (h5 : ps.length ≤ 5) (hp : t.Perm ps) (hs : t.Pairwise fun a b => lexB a b = true ∧ lexB b a = false) (q : Q (.lst (t.map pairV)) ρ σ) :
    JV Rel G cx ρ σ [.lst (ps.map pairV)] (fun Vs => call (.builtin "sorted") Vs) Q EQ := fun ex fz s _ g S r QQ EE hQ hE => by
  obtain ⟨_, rfl, r1⟩ := r.one_inv
  obtain ⟨a, o, vs, n, rfl, hm, hc, hdt, rl⟩ := r1.lst_inv
  have e1 := rl.length
  rw [List.length_map] at e1
  obtain ⟨m, news, F, N, _, ⟨_, off⟩, back⟩ := S.news
  obtain ⟨i1, i2, i3, i4, i5⟩ := sort_idx lexB_irr hp hs
  refine kat_sorted F N (vs := vs.toList) (by rw [Array.toArray_toList]; exact ⟨o, S.fzh _ hm, hc, n, hdt⟩) (by omega) (by omega) fun D e₁ h' F' N' hD => ?_
  have S₁ := back h' F' fun p hp => N' p (List.mem_cons_of_mem _ hp)
  rw [e1]
  refine pairs_sort h2 h5 S₁.fzh rl hp hs ?_
  refine KasFin.intro F' N' (.head fun p hp => Nat.ne_of_lt (hD p hp)) fun h'' c F'' N'' => ?_
  have S₂ := back h'' F'' fun p hp => N'' p (List.mem_cons_of_mem _ hp)
  have nD := N'' _ List.mem_cons_self
  have O := off D hD nD.2.1 nD.2.2
  refine hQ _ _ ρ σ _ h'' s.toks (fun p hp => List.mem_cons_of_mem _ hp) (S₂.freeze nD.1 O.m O.x) (.lst List.mem_cons_self rfl rfl ?_) q
  have := picked rl (t.map (ps.idxOf ·)) (t.map pairV) (by rw [List.length_map, List.length_map]) fun k i hi => ?_
  · exact this.mono fun p hp => List.mem_cons_of_mem _ hp
  · have h5 := i5 k
    rw [hi] at h5
    have h6 : ps[i]? = t[k]? := h5
    cases e : t[k]? with
    | none =>
      rw [List.getElem?_map, e] at hi
      cases hi
    | some a =>
      rw [e] at h6
      exact ⟨pairV a, by rw [List.getElem?_map, h6]; rfl, by rw [List.getElem?_map, e]; rfl⟩
end
end Mine
namespace Mine
open PySem PySem.W PyProof.Rows PyProof.Rows.LCg PySem.Calls PySem.Spec

section
variable {prog : Program} {w : World} {A : Around} {E : Value → Shared → Prop} {s : Shared}
theorem sort_one {a : Addr} {V : Value} {n : Nat} {P : PySem.Fin → Shared → Prop} (ho : s.heap.get? a = some (seqObj "list" #[V] n))
    (h : P (.done (.ret .none)) { s with heap := sortedHeap s.heap a [V] #[V] }) :
    wpAny (model prog w) A (Builtin.«list.sort» ⟨[.ref a], []⟩) P E s := by
  rw [list_sort_plain]
  have ha : a < s.heap.objs.size := Heap.lt_size ho
  refine wpAny_bind (listItems_at ho rfl ?_)
  refine wpAny_bind (listUpdate_at ho rfl ?_)
  obtain ⟨e1, ho1⟩ : ∃ e1, (s.heap.update a (Obj.mapSeq fun _ => #[])).get? a = some (seqObj "list" #[] e1) := ⟨_, get?_update_seq ho (fun _ => #[])⟩
  refine wpAny_bind (seqEpoch_at ho1 rfl ?_)
  refine wpAny_bind (wpAny_newTuple ?_)
  refine wpAny_bind (wpAny_newList ?_)
  refine wpAny_holding ?_
  have ho6 : (((s.heap.update a (Obj.mapSeq fun _ => #[])).push (seqObj "tuple" #[V] 0)).push (seqObj "list" #[] 0)).get? a = some (seqObj "list" #[] e1) := by
    rw [Heap.get?_push_ne _ _ _ (by rw [size_push', Heap.size_update]; exact Nat.ne_of_lt (Nat.lt_succ_of_lt ha)), Heap.get?_push_ne _ _ _ (by rw [Heap.size_update]; exact Nat.ne_of_lt ha)]
    exact ho1
  show wpAny (model prog w) A _ P E { s with heap := ((s.heap.update a (Obj.mapSeq fun _ => #[])).push (seqObj "tuple" #[V] 0)).push (seqObj "list" #[] 0) }
  dsimp only
  have h2 : #[V].size < 2 := by simp
  rw [if_pos h2, if_pos h2]
  refine wpAny_bind (wpAny_pure ?_)
  rw [StateT.run_pure]
  refine wpAny_bind (wpAny_pure ?_)
  dsimp only
  have e : Array.map (fun x => x.2) (arrOf (SortSt.mk' general' (#[V].zip #[V]) #[] 7 none)) = #[V] := by
    show Array.map _ (#[V].zip #[V]) = _
    simp
  rw [e]
  refine wpAny_bind (seqEpoch_at ho6 rfl ?_)
  refine wpAny_bind (listUpdate_at ho6 rfl ?_ (hsz2 := by rw [sizeLine_eq]; show 1 ≤ _; omega))
  simp only [bne_self_eq_false, Bool.false_eq_true, if_false]
  exact wpAny_pure h
end
section
variable {G : Gr} {cx : Cx} {ρ : AE} {σ : AH} {EQ : AX → AE → AH → Prop} {Q : AV → AE → AH → Prop}
theorem op_sorted_one {v : AV} (q : Q (.lst [v]) ρ σ) : JV Rel G cx ρ σ [.lst [v]] (fun Vs => call (.builtin "sorted") Vs) Q EQ := fun ex fz s _ g S r QQ EE hQ hE => by
  obtain ⟨_, rfl, r1⟩ := r.one_inv
  obtain ⟨a, o, vs, n, rfl, hm, hc, hdt, rl⟩ := r1.lst_inv
  obtain ⟨V, e1, r2⟩ := rl.one_inv
  refine Calls.call_function_entry kind_sorted plain_sorted entry_sorted (args_sorted1 _) ?_
  unfold Builtin.«sorted»
  refine wpAny_bind (m := checkCount "sorted" 1 1 _) (wpAny_pure ?_)
  refine wpAny_bind (collect_list (vs := vs.toList) (by rw [Array.toArray_toList]; exact ⟨o, S.fzh _ hm, hc, n, hdt⟩) ?_ (by rw [e1, sizeLine_eq]; show 1 ≤ _; omega))
  rw [e1]
  generalize hH : (s.heap.push (seqObj "list" #[] 0)).update s.heap.objs.size (Obj.mapSeq (· ++ [V].toArray)) = H
  have k1 : ∀ b o, s.heap.get? b = some o → H.get? b = some o := fun b o e => by
    have hb := Heap.lt_size e
    rw [← hH, Heap.get?_update_ne _ _ _ _ (Nat.ne_of_lt hb)]
    exact Heap.get?_push_of_some _ e
  refine wpAny_bind (wpAny_newList ?_ (by rw [sizeLine_eq]; show 1 ≤ _; omega))
  have hoL : (H.push (seqObj "list" #[V] 0)).get? H.objs.size = some (seqObj "list" #[V] 0) := Heap.get?_push_size _ rfl
  obtain ⟨e, he⟩ := sortedHeap_at (vs := [V]) (out := #[V]) hoL
  refine wpAny_bind (wpAny_holding (wpAny_call_entry slot_list_sort ⟨_, hoL, rfl⟩ entry_list_sort (sort_one hoL ⟨_, rfl, ?_⟩) (args_list_sort _)))
  refine wpAny_pure ⟨_, rfl, ?_⟩
  have S₁ := S.ext k1
  have S₂ := S₁.ext (h' := sortedHeap (H.push (seqObj "list" #[V] 0)) H.objs.size [V] #[V]) fun b o q => by
    have hb := Heap.lt_size q
    rw [sortedHeap_old (Nat.ne_of_lt hb) (by rw [Heap.size_push]; exact Nat.lt_succ_of_lt hb)]
    exact Heap.get?_push_of_some _ q
  exact hQ _ _ ρ σ _ _ s.toks (fun p hp => List.mem_cons_of_mem _ hp) (S₁.made S₂ (Nat.le_refl _) he) (.lst List.mem_cons_self rfl rfl (.cons (r2.mono fun p hp => List.mem_cons_of_mem _ hp) .nil)) q

/-- the order of what may change is of no weight -/
theorem jv_perm {α β : Type} {R : Gr → Objs → β → α → Prop} {args t} {σ' : AH} {Q : β → AE → AH → Prop} (hp : σ'.Perm σ) (h : JV R G cx ρ σ' args t Q EQ) : JV R G cx ρ σ args t Q EQ := fun ex fz s Vs g S r QQ EE hQ hE => by
  refine h ex fz s Vs g (S.sub (fun p hp' => hp.mem_iff.mp hp') ?_) r QQ EE hQ hE
  have nd := S.nod
  unfold Cx.mut at nd
  rw [List.nodup_cons, List.nodup_append] at nd
  exact (hp.map (·.1)).nodup_iff.mpr nd.2.2.1
/-- what nobody changes any more -/
theorem jv_settle {α β : Type} {R : Gr → Objs → β → α → Prop} {args t} {σ₁ σ₂ : AH} {a : Addr} {es : List (Str × AV)} {x : Str} {Q : β → AE → AH → Prop} (hσ : σ = σ₁ ++ (a, .dct es) :: σ₂) (hx : ρ x = some (.ref a)) (h : JV R G cx (upd ρ x (.dct es)) (σ₁ ++ σ₂) args t Q EQ) : JV R G cx ρ σ args t Q EQ := fun ex fz s Vs g S r QQ EE hQ hE => by
  subst hσ
  have hnew := S.new a (by unfold Cx.mut; simp)
  have hsys : (a == sysModules) = false := beq_eq_false_iff_ne.mpr (Nat.ne_of_gt (Nat.lt_of_lt_of_le g.big hnew.2))
  obtain ⟨o, ho, ⟨kvs, hd, rl⟩, S₁⟩ := S.settle
  have k : ∀ p ∈ fz, p ∈ (a, o) :: fz := fun p hp => List.mem_cons_of_mem _ hp
  have rd : Rel G ((a, o) :: fz) (.dct es) (.ref a) := .dct List.mem_cons_self hsys hd (rl.mono k)
  have S₂ : Sat G cx ex (upd ρ x (.dct es)) (σ₁ ++ σ₂) ((a, o) :: fz) s.heap := by
    obtain ⟨m, hn, hv⟩ := S₁.loc
    refine ⟨S₁.ok, S₁.clx, S₁.base, S₁.stk, S₁.ownc, S₁.fzh, S₁.exh, S₁.live, ⟨m, hn, fun y v e => ?_⟩, S₁.nod, S₁.new, S₁.apf, S₁.apx, S₁.xf⟩
    unfold upd at e
    by_cases hy : y = x
    · subst hy
      rw [if_pos rfl] at e
      cases e
      rcases hv y (.ref a) hx with ⟨h1, V, h2, h3⟩ | ⟨h1, c, V, h2, h3, h4, h5⟩ | ⟨h1, c, o', V, h2, h3, h4, h5⟩
      · obtain rfl := h3.ref_inv; exact .inl ⟨h1, _, h2, rd⟩
      · obtain rfl := h5.ref_inv; exact .inr (.inl ⟨h1, c, _, h2, h3, h4, rd⟩)
      · obtain rfl := h5.ref_inv; exact .inr (.inr ⟨h1, c, o', _, h2, h3, h4, rd⟩)
    · rw [if_neg hy] at e
      exact hv y v e
  exact h ex _ s Vs g S₂ (RelL.mono k r) QQ EE (hQ.on k) (hE.on k)
end
end Mine
namespace Mine
open PySem PySem.W PyProof.Rows PyProof.Rows.LCg PySem.Calls PySem.Spec

noncomputable def RK (G : Gr) (fz : Objs) (es : List (Str × AV)) (vs : List (Value × Value)) : Prop := allStrKeys vs = true ∧ RelE G fz es (strPairs vs)
noncomputable abbrev Prs (G : Gr) (cx : Cx) (ρ : AE) (σ : AH) (keys : List (Option Expr)) (values : List Expr) (pos : Pos) (Q : List (Str × AV) → AE → AH → Prop) (EQ : AX → AE → AH → Prop) : Prop := JV RK G cx ρ σ [] (fun _ => evalPairs (pairTrees keys values cx.env pos)) Q EQ
section
variable {G : Gr} {cx : Cx} {ρ : AE} {σ : AH} {EQ : AX → AE → AH → Prop}
theorem pr_nil {pos : Pos} {Q : List (Str × AV) → AE → AH → Prop} (q : Q [] ρ σ) : Prs G cx ρ σ [] [] pos Q EQ := fun ex fz s _ g S _ QQ EE hQ hE => by
  show wpAny _ _ (pure []) _ _ _
  exact wpAny_pure (hQ [] [] ρ σ fz s.heap s.toks (fun _ h => h) S ⟨rfl, .nil⟩ q)
theorem pr_cons {k v : Expr} {ks : List (Option Expr)} {vs : List Expr} {pos : Pos} {Q : List (Str × AV) → AE → AH → Prop}
    (h : Ev G cx ρ σ k (fun kv ρ₁ σ₁ => ∃ x, kv = .str x ∧ Ev G cx ρ₁ σ₁ v (fun vv ρ₂ σ₂ => Prs G cx ρ₂ σ₂ ks vs pos (fun r ρ₃ σ₃ => Q ((x, vv) :: r) ρ₃ σ₃) EQ) EQ) EQ) : Prs G cx ρ σ (some k :: ks) (v :: vs) pos Q EQ := fun ex fz s _ g S _ QQ EE hQ hE => by
  refine pairTrees_cons_walk (h.run g S .nil (fun kv V ρ₁ σ₁ fz₁ h₁ t₁ k₁ S₁ r₁ q₁ => ?_) hE)
  obtain ⟨x, rfl, q₁⟩ := q₁
  obtain ⟨t, rfl⟩ := r₁.str_inv
  refine q₁.run (s := { s with heap := h₁, toks := t₁ }) g S₁ .nil (fun vv W ρ₂ σ₂ fz₂ h₂ t₂ k₂ S₂ r₂ q₂ => ?_) (hE.on k₁)
  refine q₂.run (s := { s with heap := h₂, toks := t₂ }) g S₂ .nil (fun r R ρ₃ σ₃ fz₃ h₃ t₃ k₃ S₃ r₃ q₃ => ?_) ((hE.on k₁).on k₂)
  exact ((hQ.on k₁).on k₂) _ _ ρ₃ σ₃ fz₃ h₃ t₃ k₃ S₃ ⟨r₃.1, .cons (r₂.mono k₃) r₃.2⟩ q₃
theorem ev_dict_live {keys : List (Option Expr)} {values : List Expr} {pos : Pos} {Q : AV → AE → AH → Prop} (hall : keys.all (·.isSome) = true) (hl : keys.length = values.length) (h0 : keys ≠ []) (hlen : keys.length ≤ 15)
    (h : ∀ a, Prs G cx ρ ((a, .dct []) :: σ) keys values pos (fun es ρ' σ' => ∃ σ₂, σ' = (a, .dct []) :: σ₂ ∧ (es.map (·.1)).Nodup ∧ Q (.ref a) ρ' ((a, .dct es) :: σ₂)) EQ) : Ev G cx ρ σ (.Dict keys values pos) Q EQ := fun ex fz s _ g S _ QQ EE hQ hE => by
  refine wpAny_Dict_walk (knd := strKind G.prog G.w) hall hl h0 hlen ?_
  have S₀ := (S.push { cls := .type "dict", data := .dict #[] }).live_new (ao := .dct []) (Heap.get?_push_size _ rfl) (S.size_off (Nat.le_refl _)) (big_le S) ⟨[], dict_new, .nil⟩
  refine (h s.heap.objs.size).run (s := { s with heap := s.heap.push { cls := .type "dict", data := .dict #[] } }) g S₀ .nil (fun es vs ρ' σ' fz' h' tk' k S' r q => ?_) hE
  obtain ⟨σ₂, rfl, hn, q⟩ := q
  obtain ⟨o, ho, kvs, hdo, hrl⟩ := S'.live (s.heap.objs.size, .dct []) List.mem_cons_self
  cases hrl
  refine ⟨strPairs vs, carries_strPairs G.prog G.w vs r.1, Heap.dictOf_iff.mpr ⟨o, ho, hdo⟩, fun h'' hd hs => ?_⟩
  have hk : (strPairs vs).map (·.1) = es.map (·.1) := r.2.keys
  rw [merged_nil_of_nodup _ (by rw [hk]; exact hn)] at hd
  obtain ⟨o', ho', hdo'⟩ := Heap.dictOf_iff.mp hd
  have S'' : Sat G cx ex ρ' ((s.heap.objs.size, .dct es) :: σ₂) fz' h'' := S'.live_set (σ₁ := []) hs.extBut ho' ⟨strPairs vs, hdo', r.2⟩
  exact hQ (.ref _) _ ρ' _ fz' h'' _ k S'' (.ref _) q
end
end Mine
namespace Mine
open PySem PySem.W PyProof.Rows PyProof.Rows.LCg PySem.Calls PySem.Spec
section
variable {G : Gr} {cx : Cx} {ρ : AE} {σ : AH} {EQ : AX → AE → AH → Prop} {Q : AV → AE → AH → Prop}
theorem Sat.see {ex fz : Objs} {h : Heap} {a : Addr} {o : Obj} {v : AV} {x : Str} (S₁ : Sat G cx ex ρ σ ((a, o) :: fz) h) (rd : Rel G ((a, o) :: fz) v (.ref a)) (hx : ρ x = some (.ref a)) : Sat G cx ex (upd ρ x v) σ ((a, o) :: fz) h := by
  obtain ⟨m, hn, hv⟩ := S₁.loc
  refine ⟨S₁.ok, S₁.clx, S₁.base, S₁.stk, S₁.ownc, S₁.fzh, S₁.exh, S₁.live, ⟨m, hn, fun y v e => ?_⟩, S₁.nod, S₁.new, S₁.apf, S₁.apx, S₁.xf⟩
  unfold upd at e
  by_cases hy : y = x
  · subst hy
    rw [if_pos rfl] at e
    cases e
    rcases hv y (.ref a) hx with ⟨h1, V, h2, h3⟩ | ⟨h1, c, V, h2, h3, h4, h5⟩ | ⟨h1, c, o', V, h2, h3, h4, h5⟩
    · obtain rfl := h3.ref_inv; exact .inl ⟨h1, _, h2, rd⟩
    · obtain rfl := h5.ref_inv; exact .inr (.inl ⟨h1, c, _, h2, h3, h4, rd⟩)
    · obtain rfl := h5.ref_inv; exact .inr (.inr ⟨h1, c, o', _, h2, h3, h4, rd⟩)
  · rw [if_neg hy] at e
    exact hv y v e
theorem jv_settle_lst {α β : Type} {R : Gr → Objs → β → α → Prop} {args t} {σ₁ σ₂ : AH} {a : Addr} {l : List AV} {x : Str} {Q : β → AE → AH → Prop} (hσ : σ = σ₁ ++ (a, .lst l) :: σ₂) (hx : ρ x = some (.ref a)) (h : JV R G cx (upd ρ x (.lst l)) (σ₁ ++ σ₂) args t Q EQ) : JV R G cx ρ σ args t Q EQ := fun ex fz s Vs g S r QQ EE hQ hE => by
  subst hσ
  obtain ⟨o, ho, ⟨vs, n, rfl, rl⟩, S₁⟩ := S.settle
  have k : ∀ p ∈ fz, p ∈ (a, ({ cls := .type "list", data := .seq vs n } : Obj)) :: fz := fun p hp => List.mem_cons_of_mem _ hp
  exact h ex _ s Vs g (S₁.see (.lst List.mem_cons_self rfl rfl (rl.mono k)) hx) (RelL.mono k r) QQ EE (hQ.on k) (hE.on k)
end
end Mine
namespace Mine
open PySem PySem.W PyProof.Rows PyProof.Rows.LCg PySem.Calls PySem.Spec

/-- the call of a def from no frame at all -/
theorem call_top {G : Gr} {A : Around} {d : Nat} {f : Addr} {of : Obj} {name qual : Str} {params : Arguments} {body : List Stmt} {scope : Scope} {dV kV doc pm cdv ct : Value} {an : Option Addr} {args : List AV} {names : List Str} {ex fz : Objs} {s : Shared} {Vs : List Value} {R : Result → Shared → Prop}
    (hf : A.frames = some []) (hAd : A.depth + 1 + d ≤ 900) (hAu : A.units + 3 + 20 * d ≤ 9000) (hAh : A.handled = none) (g : GOk G)
    (base : ∀ b o, G.hb.get? b = some o → s.heap.get? b = some o) (hsz : G.hb.objs.size ≤ s.heap.objs.size) (fzh : Has fz s.heap) (exh : Has ex s.heap) (xf : ∀ a ∈ keys ex, a ∉ keys fz) (r : RelL G fz args Vs)
    (hof : s.heap.get? f = some of) (hod : of.data = .func (fnOf name qual params body scope dV kV doc pm an cdv ct)) (hcd : s.heap.CodeRec cdv qual)
    (hbind : Looks (model G.prog G.w) s.heap (bindArgs (fnOf name qual params body scope dV kV doc pm an cdv ct) ⟨Vs, []⟩) (names.zip Vs))
    (hn : names.Nodup) (hl : args.length = names.length) (hkn : ∀ n ∈ names, scope.names.lookup n = some .local ∨ scope.names.lookup n = some .cell)
    (hkk : scope.names.all (fun p => p.2 != .free) = true) (hcn : ((cellsFrom 0 scope.names []).map (·.1)).Nodup)
    (hb : ∀ (cx' : Cx) (h₁ : Heap) (tk : Nat), cx'.d = d → cx'.hd = none → cx'.comp = false → cx'.env.scope = scope → (∀ x c, cx'.env.cells.lookup x = some c → c ∈ cx'.own) → cx'.cl = [] → cx'.env.code = cdv → cx'.stk = [] →
      Sat G cx' ex (fun x => (names.zip args).lookup x) [] fz h₁ →
      wpAny (model G.prog G.w) cx'.A (execs body cx'.env) (fun fl s' => R (.ok (.ret (match fl with | .ret v => v | _ => .none))) s') (fun _ _ => False) { s with heap := h₁, toks := tk })
    (hco : scope.isCoroutine = false := by rfl) (hgen : scope.isGenerator = false := by rfl) (hk : scope.kind = .function := by rfl) :
    codeAny (model G.prog G.w) A (.call (.ref f) ⟨Vs, []⟩) R s := by
  refine codeAny_call_function (by show A.depth < 1000; omega) hof hod hco hgen rfl hcd ?_
  refine hbind.here ?_
  have hkind : ∀ x ∈ names.zip Vs, scope.names.lookup x.1 = some .local ∨ (scope.names.lookup x.1 = some .cell ∧ ((cellsFrom (s.heap.objs.size + 1) scope.names []).lookup x.1).isSome = true) := fun x hx => by
    rcases hkn x.1 (List.of_mem_zip hx).1 with q | q
    · exact .inl q
    · exact .inr ⟨q, cellsFrom_some _ _ _ (.inl q)⟩
  refine wpAny_newFunctionEnv_cells hk hkind fun env' he s' X => ?_
  refine ⟨(g.TB.nolimit.keeps base).keeps X.toInCall.keep, codeAny_func ?_⟩
  obtain ⟨h₁, tk, rfl⟩ := X.toInCall.same
  have hke := X.toInCall.keep
  have hL : env'.locals = s.heap.objs.size := by rw [he]; rfl
  have hcells : env'.cells = cellsFrom (s.heap.objs.size + 1) scope.names [] := by rw [he]; rfl
  have hscope : env'.scope = scope := by rw [he]; rfl
  have cabove : ∀ x c, (x, c) ∈ env'.cells → s.heap.objs.size < c := fun x c hm => by
    rw [hcells] at hm
    rcases cells_above _ _ _ x c hm with q | q
    · cases q
    · exact q
  let cx' : Cx := { A := A.deeper env', d := d, hd := none, env := env', stk := [], own := env'.cells.map (·.2), cl := [], comp := false }
  have ok' : CxOk cx' := by
    refine ⟨?_, by show A.depth + 1 + d ≤ 900; omega, by show A.units + 3 + 20 * d ≤ 9000; omega, hAh, by show env'.scope.kind = _; rw [hscope]; exact hk, fun _ => by show env'.frame = some env'.locals; rw [hL, he]; rfl, fun p hp => (nomatch hp), ⟨by show env'.globals = _; rw [he]; rfl, by show env'.builtins = _; rw [he]; rfl⟩, fun x hx => ?_, fun x c h => .inl (List.mem_map_of_mem (f := (·.2)) (lookup_mem h)), fun x y c _ h1 h2 => ?_⟩
    · show A.frames.map (env' :: ·) = some (env' :: _)
      rw [hf]; rfl
    · have hx' : scope.names.lookup x = some .cell ∨ scope.names.lookup x = some .free := by
        have : env'.scope.names.lookup x = some .cell ∨ env'.scope.names.lookup x = some .free := hx
        rwa [hscope] at this
      rcases hx' with q | q
      · have := cellsFrom_some (x := x) scope.names (s.heap.objs.size + 1) [] (.inl q)
        obtain ⟨c, hc⟩ := Option.isSome_iff_exists.mp this
        exact ⟨c, by show env'.cells.lookup x = _; rw [hcells]; exact hc⟩
      · have := List.all_eq_true.mp hkk _ (lookup_mem q)
        simp at this
    · exact pair_inj X.apart (lookup_mem h1) (lookup_mem h2)
  have mut' : ∀ a ∈ cx'.mut [], a = env'.locals ∨ a ∈ cx'.own := fun a ha => by
    unfold Cx.mut at ha
    simp only [List.mem_cons, List.mem_append] at ha
    rcases ha with h | (h | h) | h
    · exact .inl h
    · cases h
    · exact .inr h
    · cases h
  have newgt : ∀ a ∈ cx'.mut [], s.heap.objs.size ≤ a := fun a ha => by
    rcases mut' a ha with rfl | h
    · rw [hL]; exact Nat.le_refl _
    · obtain ⟨p, hp, rfl⟩ := List.mem_map.mp h
      exact Nat.le_of_lt (cabove p.1 p.2 hp)
  refine hb cx' h₁ tk rfl rfl rfl hscope (fun x c h => List.mem_map_of_mem (f := (·.2)) (lookup_mem h)) rfl (by show env'.code = _; rw [he]; rfl) rfl ?_ |> fun z => wpAny_mono z (fun _ _ q => q) fun _ _ q => q.elim
  refine ⟨ok', fun p hp => (nomatch hp), fun b o e => hke b o (base b o e), fun p hp => (nomatch hp), fun c hc => ?_, fun p hp => hke _ _ (fzh p hp), fun p hp => hke _ _ (exh p hp), fun p hp => (nomatch hp), ⟨_, X.toInCall.ns, fun x v hx => ?_⟩, ?_, fun a ha => ?_, fun a ha hq => ?_, fun a ha hq => ?_, xf⟩
  · obtain ⟨p, hp, rfl⟩ := List.mem_map.mp hc
    have : env'.cells.lookup p.1 = some p.2 := by
      have hp' : (p.1, p.2) ∈ env'.cells := hp
      rw [hcells] at hp' ⊢
      exact lookup_of_mem_nodup (cellsFrom_names scope.names 0 (s.heap.objs.size + 1) [] [] rfl ▸ hcn) hp'
    exact ⟨_, X.cell p.1 p.2 this⟩
  · obtain ⟨V, rV, bl, bc⟩ := bind_at (kind := env'.kindOf) names args Vs (fun _ => none) hn r hx
    have hxn : x ∈ names := (List.of_mem_zip (lookup_mem hx)).1
    have hkx : env'.kindOf x = some .local ∨ env'.kindOf x = some .cell := by
      have : env'.kindOf x = scope.names.lookup x := by rw [kindOf_eq, hscope]
      rw [this]; exact hkn x hxn
    rcases hkx with q | q
    · exact .inl ⟨q, V, bl q, rV⟩
    · obtain ⟨c, hc⟩ := ok'.cs x (.inl q)
      refine .inr (.inl ⟨q, c, V, hc, List.mem_map_of_mem (f := (·.2)) (lookup_mem hc), ?_, rV⟩)
      have := X.cell x c hc
      rw [bc q] at this
      exact this
  · unfold Cx.mut
    show (env'.locals :: ([] ++ env'.cells.map (·.2) ++ [])).Nodup
    rw [List.nil_append, List.append_nil, List.nodup_cons]
    refine ⟨fun q => ?_, List.pairwise_map.mpr X.apart⟩
    obtain ⟨p, hp, hq⟩ := List.mem_map.mp q
    have := X.above p.1 p.2 hp
    rw [show p.2 = env'.locals from hq] at this
    exact Nat.lt_irrefl _ this
  · have := newgt a ha
    exact ⟨Heap.get?_none_of_le (Nat.le_trans hsz this), Nat.le_trans hsz this⟩
  · obtain ⟨p, hp, rfl⟩ := List.mem_map.mp hq
    exact absurd (Heap.lt_size (fzh p hp)) (Nat.not_lt.mpr (newgt _ ha))
  · obtain ⟨p, hp, rfl⟩ := List.mem_map.mp hq
    exact absurd (Heap.lt_size (exh p hp)) (Nat.not_lt.mpr (newgt _ ha))
end Mine
namespace Mine
open PySem PySem.W PyProof.Rows PyProof.Rows.LCg PySem.Calls PySem.Spec

noncomputable def lamρ (scope : Scope) (ρ : AE) (b : List (Str × AV)) : AE := fun x => if scope.names.lookup x = some .free then ρ x else b.lookup x

theorem reverse_lookup {β : Type} {names : List Str} {vs : List β} (hn : names.Nodup) (hl : vs.length = names.length) (x : Str) : (names.zip vs).reverse.lookup x = (names.zip vs).lookup x := by
  have hmap : (names.zip vs).map (·.1) = names := by
    rw [List.map_fst_zip]; omega
  have h1 : ((names.zip vs).map (·.1)).Nodup := by rw [hmap]; exact hn
  have h2 : ((names.zip vs).reverse.map (·.1)).Nodup := by rw [List.map_reverse]; exact (List.reverse_perm _).nodup_iff.mpr h1
  cases e : (names.zip vs).lookup x with
  | some v => exact lookup_of_mem' h2 (List.mem_reverse.mpr (lookup_mem e))
  | none =>
    cases e2 : (names.zip vs).reverse.lookup x with
    | none => rfl
    | some v =>
      have := lookup_of_mem' h1 (List.mem_reverse.mp (lookup_mem e2))
      rw [e] at this; cases this

/-- the call of a lambda that this frame has made -/
theorem call_lam {G : Gr} {cx : Cx} {ex : Objs} {ρ : AE} {σ : AH} {fz : Objs} {s : Shared} {f c' : Addr} {oc : Obj} {cvs : Array Value} {t : Tok} {name qual : Str} {params : Arguments} {body : Expr} {scope : Scope} {pm ctv : Value} {args : List AV} {names : List Str} {Vs : List Value} {Q : AV → AE → AH → Prop} {QQ EE : Value → Shared → Prop}
    (g : GOk G) (S : Sat G cx ex ρ σ fz s.heap) (hf : (f, kla_obj name qual params body scope (clOf cx.env scope.names []) pm c' ctv) ∈ fz) (hc : (c', oc) ∈ fz) (hcd : oc.data = .fields cvs) (hcv : cvs[1]? = some (.str qual t))
    (r : RelL G fz args Vs) (hbind : bindArgs (kla_fn name qual params body scope (clOf cx.env scope.names []) pm (.ref c') ctv) ⟨Vs, []⟩ = pure (names.zip Vs)) (hl : args.length = names.length) (hn : names.Nodup) (hkn : ∀ n ∈ names, scope.names.lookup n = some .local)
    (hcell : ∀ x ∈ scope.names, x.2 ≠ .cell) (hfree : ∀ x, (x, NameKind.free) ∈ scope.names → cx.env.kindOf x = some .free ∨ cx.env.kindOf x = some .cell) (hd : 1 ≤ cx.d) (hcm : cx.comp = false)
    (hb : ∀ cx' : Cx, cx'.d + 1 = cx.d → cx'.hd = cx.hd → cx'.comp = false → KN cx' scope.names → Ev G cx' (lamρ scope ρ (names.zip args)) σ body (fun v _ σ' => Q v ρ σ') (fun _ _ _ => False))
    (hQ : Ret Rel G cx ex fz s Q QQ) (hco : scope.isCoroutine = false := by rfl) (hgen : scope.isGenerator = false := by rfl) (hk : scope.kind = .function := by rfl) : wpAny (model G.prog G.w) cx.A (call (.ref f) Vs) QQ EE s := by
  obtain ⟨m, hnsm, hv⟩ := S.loc
  obtain ⟨oC, esC, epC, hoC, hCr⟩ := id hnsm
  obtain ⟨ol, hol, hOl⟩ := own_objs S
  have hVs := r.length
  refine wpAny_call ?_
  refine kla_callFunE (by have := S.ok.depth; show cx.A.depth < 1000; omega) (S.fzh _ hf) rfl hco hgen rfl ⟨c', oc, cvs, t, rfl, S.fzh _ hc, hcd, hcv⟩ ?_
  rw [hbind]
  refine wpAny_pure (wpAny_newFunctionEnv hcell (fun x hx => hkn x.1 (List.of_mem_zip hx).1) (fun h₁ hns hsb => ⟨((g.TB.nolimit).keeps S.base).fresh _ hsb, ?_⟩) hk)
  have hke : ∀ b o, s.heap.get? b = some o → h₁.get? b = some o := fun b o e => hsb.extBut b o (Nat.ne_of_lt (Heap.lt_size e)) (Heap.get?_push_of_some _ e)
  generalize henv : newEnv scope s.heap.objs.size mainGlobals (clOf cx.env scope.names []) (qual ++ ".<locals>.") (some f) (.ref c') none builtinsNs = env'
  have hL : env'.locals = s.heap.objs.size := by rw [← henv]; rfl
  have hcells : env'.cells = clOf cx.env scope.names [] := by rw [← henv]; rfl
  have hscope : env'.scope = scope := by rw [← henv]; rfl
  let cx' : Cx := { A := cx.A.deeper env', d := cx.d - 1, hd := cx.hd, env := env', stk := (cx.env, m) :: cx.stk, own := [], cl := ol ++ cx.cl, comp := false }
  let ex' : Objs := ol ++ ex
  have I : Inner G cx cx' ex ex' σ s.heap m ol oC := ⟨by show _ = if cx.comp then _ else _; rw [hcm]; rfl, by rw [hcm]; rfl, hol, hnsm, hoC, hOl⟩
  have freeCell : ∀ x, (x, NameKind.free) ∈ scope.names → ∃ c, cx.env.cells.lookup x = some c := fun x hx => S.ok.cs x (hfree x hx).symm
  have cl_old : ∀ x c, (x, c) ∈ clOf cx.env scope.names [] → (x, NameKind.free) ∈ scope.names ∧ cx.env.cells.lookup x = some c := fun x c hm => by
    rcases clOf_mem _ _ x c hm with ⟨q, e⟩ | q
    · obtain ⟨c₂, hc₂⟩ := freeCell x q
      rw [hc₂] at e
      have e' : c = c₂ := e
      subst e'
      exact ⟨q, hc₂⟩
    · cases q
  have kn : KN cx' scope.names := by
    refine ⟨fun x k e _ => ?_, fun x e => .inl ?_, fun x e => absurd rfl (hcell _ (lookup_mem e))⟩
    · rw [kindOf_eq]; show env'.scope.names.lookup x = _; rw [hscope]; exact e
    · rw [kindOf_eq]; show env'.scope.names.lookup x = _; rw [hscope]; exact e
  have ok' : CxOk cx' := by
    refine ⟨?_, ?_, ?_, S.ok.hd, by show env'.scope.kind = _; rw [hscope]; exact hk, fun _ => by show env'.frame = some env'.locals; rw [hL, ← henv]; rfl, fun p hp => ?_, ⟨by show env'.globals = _; rw [← henv]; rfl, by show env'.builtins = _; rw [← henv]; rfl⟩, fun x hx => ?_, fun x c hx => ?_, fun x y c ho _ _ => (nomatch ho)⟩
    · show cx.A.frames.map (env' :: ·) = some (env' :: _)
      rw [S.ok.frames]; unfold Cx.frames; rw [hcm]; rfl
    · have := S.ok.depth; show cx.A.depth + 1 + (cx.d - 1) ≤ 900; omega
    · have := S.ok.units; show cx.A.units + 3 + 20 * (cx.d - 1) ≤ 9000; omega
    · rcases List.mem_cons.mp hp with rfl | hp
      · exact ⟨S.ok.kf, S.ok.fr hcm⟩
      · exact S.ok.fs p hp
    · have hx' : scope.names.lookup x = some .cell ∨ scope.names.lookup x = some .free := by
        have : env'.scope.names.lookup x = some .cell ∨ env'.scope.names.lookup x = some .free := by
          have h := hx
          rw [kindOf_eq] at h
          exact h
        rwa [hscope] at this
      rcases hx' with q | q
      · exact absurd rfl (hcell _ (lookup_mem q))
      · obtain ⟨c, hc⟩ := Option.isSome_iff_exists.mp (clOf_some (env := cx.env) scope.names [] x (.inl (lookup_mem q)))
        exact ⟨c, by show env'.cells.lookup x = _; rw [hcells]; exact hc⟩
    · have hx' : (clOf cx.env scope.names []).lookup x = some c := by rw [← hcells]; exact hx
      refine .inr ?_
      show c ∈ (ol ++ cx.cl).map (·.1)
      rw [List.map_append, List.mem_append]
      rcases S.ok.ca x c (cl_old x c (lookup_mem hx')).2 with r | r
      · rw [← hol] at r; exact .inl r
      · exact .inr r
  have Scal : Sat G cx' ex' (lamρ scope ρ (names.zip args)) σ fz h₁ := by
    refine S.enter hke I ok' (by show _ ≤ env'.locals; rw [hL]; exact Nat.le_refl _) (fun c hc => nomatch hc) (fun q => nomatch q) List.nodup_nil (fun c hc => nomatch hc) (fun p hp => ?_) ⟨_, by show h₁.Ns env'.locals _; rw [hL]; exact hns, fun x v e => ?_⟩
    · rcases List.mem_append.mp hp with hp | hp
      · exact List.mem_append_left _ hp
      · exact List.mem_append_right _ (S.clx p hp)
    · unfold lamρ at e
      split at e
      · rename_i hxf
        have hxm := lookup_mem hxf
        obtain ⟨c, hc⟩ := Option.isSome_iff_exists.mp (clOf_some (env := cx.env) scope.names [] x (.inl hxm))
        have hcc : cx.env.cells.lookup x = some c := (cl_old x c (lookup_mem hc)).2
        have hce : cx'.env.cells.lookup x = some c := by show env'.cells.lookup x = _; rw [hcells]; exact hc
        refine .inr (.inr ⟨kn.fr x hxf, c, ?_⟩)
        rcases hv x v e with ⟨k1, _⟩ | ⟨k1, c₂, V', hc₂, ho, ⟨o, hio, hid⟩, r'⟩ | ⟨k1, c₂, o, V', hc₂, ho, hd, r'⟩
        · rcases hfree x hxm with q | q <;> rw [k1] at q <;> cases q
        · rw [hcc] at hc₂
          cases hc₂
          rw [← hol] at ho
          obtain ⟨p, hp, hpe⟩ := List.mem_map.mp ho
          have := hOl p hp
          rw [hpe, hio] at this
          cases this
          exact ⟨p.2, V', hce, by rw [← hpe]; exact List.mem_append_left _ hp, hid, r'⟩
        · rw [hcc] at hc₂
          cases hc₂
          exact ⟨o, V', hce, List.mem_append_right _ ho, hd, r'⟩
      · have hxn : x ∈ names := (List.of_mem_zip (lookup_mem e)).1
        have hkx : cx'.env.kindOf x = some .local := kn.kd x _ (hkn x hxn) (by decide)
        obtain ⟨V, rV, bl, _⟩ := bind_at (kind := fun _ => some .local) names args Vs (fun _ => none) hn r e
        refine .inl ⟨hkx, V, ?_, rV⟩
        show (names.zip Vs).reverse.lookup x = some V
        rw [reverse_lookup hn (by omega)]
        have := bl rfl
        have e2 : ∀ (l : List (Str × Value)) (m : Str → Option Value), (l.map (·.1)).Nodup → ∀ x V, (x ∈ l.map (·.1)) → bindL (fun _ => some .local) l m x = some V → l.lookup x = some V := by
          intro l
          induction l with
          | nil => intro m _ x V h; cases h
          | cons p l ih =>
            obtain ⟨n, v⟩ := p
            intro m hnd x V hx hb
            rw [List.map_cons, List.nodup_cons] at hnd
            rw [List.lookup_cons]
            rw [bindL, if_pos rfl] at hb
            by_cases q : x = n
            · subst q
              rw [bindL_off _ _ hnd.1, if_pos rfl] at hb
              simp [hb]
            · have q' : (x == n) = false := by simpa using q
              rw [q']
              rw [List.map_cons, List.mem_cons] at hx
              exact ih _ hnd.2 x V (hx.resolve_left q) hb
        have hmap : (names.zip Vs).map (·.1) = names := by rw [List.map_fst_zip]; omega
        exact e2 _ _ (by rw [hmap]; exact hn) x V (by rw [hmap]; exact hxn) this
  have hd' : cx'.d + 1 = cx.d := by show cx.d - 1 + 1 = cx.d; omega
  refine kla_codeExpr ?_
  exact (hb cx' hd' rfl rfl kn).run (s := { s with heap := h₁, toks := s.toks + (names.zip Vs).length }) g Scal .nil (fun v V ρ' σ' fz' h' tk' k S' rv q => hQ v V ρ σ' fz' h' tk' k (I.back S S' k hv) rv q) (fun x e ρ' σ' fz' h' tk' k S' X' q => q.elim)
end Mine
namespace Mine
open PySem PySem.W PyProof.Rows PyProof.Rows.LCg PySem.Calls PySem.Spec

section
variable {prog : Program} {w : World} {A : Around} {E : Value → Shared → Prop} {s : Shared}
theorem collect_range {R : List Value → Shared → Prop} {r : Addr} {a b c : Int} {t u v : Tok} {n : Nat} (hh : A.handled = none) (hr : IsRange s.heap r a b c t u v) (hsmall : Builtin.Range.small a b c = true)
    (hn : Builtin.Range.rangeSize a b c = n) (hlen : n ≤ 2 ^ 24)
    (h : ∀ (h' : Heap) (tk : Nat) (acc : Array Value), (∀ b o, s.heap.get? b = some o → h'.get? b = some o) → ItemsOf (fun i v => ∃ t, v = .int (a + i * c) t) acc n → R acc.toList { s with heap := h', toks := tk }) :
    wpAny (model prog w) A (collect (.ref r)) R E s := by
  unfold collect
  refine wpAny_bind (wpAny_runValue (codeAny_builtin entry_proto_collect' ?_))
  rw [Around.under_plainId PySem.F.plain_proto_collect _]
  show wpAny _ A.in1 (newList [] >>= fun l => again (.builtin "list.__iadd__" ⟨[l, .ref r], []⟩)) _ _ s
  refine wpAny_bind (wpAny_newObj_type ?_)
  refine wpAny_pure ⟨plainId_quiet PySem.F.plain_list_iadd _, codeAny_builtin entry_list_iadd' ?_⟩
  rw [Around.under_plainId PySem.F.plain_list_iadd _]
  have hS₁ : (s.heap.push { cls := .type "list", data := .seq ([] : List Value).toArray }).get? s.heap.objs.size = some { cls := .type "list", data := .seq #[] } := Heap.get?_push_size _ rfl
  show wpAny _ A.in1 (Builtin.List.listExtendWith (.ref s.heap.objs.size) (.ref r) (.ref s.heap.objs.size)) _ _ _
  have key := wpAny_extend_range (prog := prog) (w := w) (A := A) (s := { s with heap := s.heap.push { cls := .type "list", data := .seq ([] : List Value).toArray } })
    (R := fun (q : Result) (s' : Shared) => ∃ (h' : Heap) (tk : Nat) (acc' : Array Value) (c' : Nat), q = .ok (.ret (.ref s.heap.objs.size)) ∧ s' = { s with heap := h', toks := tk } ∧
      (∀ b o, s.heap.get? b = some o → h'.get? b = some o) ∧ h'.get? s.heap.objs.size = some { cls := .type "list", dict := none, data := .seq acc' c', slots := #[] } ∧ ItemsOf (fun i v => ∃ t, v = .int (a + i * c) t) acc' n)
    hh (Heap.get?_push_of_some _ hr) hsmall hn hlen s.heap.objs.size (.ref s.heap.objs.size) 0 hS₁
    (fun h' tk acc' c' hk hS' hacc => ⟨h', tk, acc', c', rfl, rfl, fun b o e => hk b o (Nat.ne_of_lt (Heap.lt_size e)) (Heap.get?_push_of_some _ e), hS', hacc⟩)
  refine wpAny_mono key (fun fin s' x => ?_) fun e s' x => ?_
  · cases fin with
    | done f =>
      obtain ⟨h', tk, acc', c', e, rfl, hk, hS', hacc⟩ := x
      cases e
      show wpAny _ A (load s.heap.objs.size >>= _) _ _ _
      refine wpAny_bind (wpAny_load hS' ?_)
      exact wpAny_pure (h h' tk acc' hk hacc)
    | again c₁ =>
      refine ⟨x.1, codeAny_mono x.2 fun q s₂ y => ?_⟩
      obtain ⟨h', tk, acc', c', rfl, rfl, hk, hS', hacc⟩ := y
      show wpAny _ A (load s.heap.objs.size >>= _) _ _ _
      refine wpAny_bind (wpAny_load hS' ?_)
      exact wpAny_pure (h h' tk acc' hk hacc)
  · obtain ⟨_, _, _, _, e', _⟩ := x
    cases e'
theorem forIn_inv {body : Value → PUnit → Sem (ForInStep PUnit)} (I : List Value → Shared → Prop) (hb : ∀ x r s, I (x :: r) s → wpAny (model prog w) A (body x ⟨⟩) (fun q s' => q = .yield ⟨⟩ ∧ I r s') E s) : ∀ (r : List Value) (s : Shared), I r s →
    wpAny (model prog w) A (forIn r PUnit.unit body) (fun _ s' => I [] s') E s
  | [], s, h => by rw [List.forIn_nil]; exact wpAny_pure h
  | x :: r, s, h => by
    rw [List.forIn_cons]
    refine wpAny_bind (wpAny_mono (hb x r s h) (fun q s' hq => ?_) fun _ _ x => x)
    obtain ⟨rfl, h'⟩ := hq
    exact forIn_inv I hb r s' h'
end

section
variable {G : Gr} {cx : Cx} {ex : Objs} {ρ : AE} {σ : AH} {fz : Objs} {s : Shared}
/-- a sort by a key of this text, of what a range gives -/
theorem sort_key {a f : Addr} {n n0 : Nat} {key : Nat → Int × Int} {t : List Nat} {P : PySem.Fin → Shared → Prop} {E : Value → Shared → Prop} {vs : List Value} (S : Sat G cx ex ρ σ fz s.heap) (h2 : 2 ≤ n) (h5 : n ≤ 5)
    (hvl : vs.length = n) (hvs : ∀ (i : Nat) v, vs[i]? = some v → ∃ u, v = .int i u) (ha : s.heap.get? a = some (seqObj "list" vs.toArray n0)) (oa : Off G cx ex σ fz a)
    (ht : t.Perm (List.range n)) (hki : ∀ i < n, ∀ j < n, key i = key j → i = j) (hs : (t.map key).Pairwise fun x y => lexB x y = true ∧ lexB y x = false)
    (hcall : ∀ (i : Nat), i < n → ∀ (ex' fz' : Objs) (s' : Shared) (u : Tok), (∀ p ∈ fz, p ∈ fz') → Sat G cx ex' ρ σ fz' s'.heap → ∀ QQ EE, Ret Rel G cx ex' fz' s' (fun k ρ' σ' => k = pairV (key i) ∧ ρ' = ρ ∧ σ' = σ) QQ → wpAny (model G.prog G.w) cx.A (call (.ref f) [.int i u]) QQ EE s')
    (hcl : ∀ p ∈ cx.cl, p ∈ ex)
    (hP : ∀ fz' h' tk out c, (∀ p ∈ fz, p ∈ fz') → Sat G cx ex ρ σ fz' h' → a ∉ keys fz' → h'.get? a = some (seqObj "list" (List.toArray out) c) → RelL G fz' (t.map fun i : Nat => AV.int (i : Int)) out → P (.done (.ret .none)) { s with heap := h', toks := tk }) :
    wpAny (model G.prog G.w) cx.A (ksk_tree a (.ref f) false) P E s := by
  have h64 : vs.length < 64 := by omega
  unfold ksk_tree
  refine wpAny_bind (listItems_at ha rfl ?_)
  refine wpAny_bind (listUpdate_at ha rfl ?_ (by rw [List.size_toArray, sizeLine_eq]; omega) (Nat.zero_le _))
  obtain ⟨e1, ho1⟩ : ∃ e1, (s.heap.update a (Obj.mapSeq fun _ => (#[] : Array Value))).get? a = some (seqObj "list" #[] e1) := ⟨_, get?_update_seq ha fun _ => #[]⟩
  have S1 := S.but (Heap.SameBut.update s.heap a (Obj.mapSeq fun _ => (#[] : Array Value))).extBut oa
  refine wpAny_bind (seqEpoch_at ho1 rfl ?_)
  refine wpAny_bind (wpAny_newTuple ?_ (by show vs.length ≤ _; rw [sizeLine_eq]; omega))
  refine wpAny_bind (wpAny_newList ?_ (Nat.zero_le _))
  refine wpAny_holding ?_
  generalize hH2 : (s.heap.update a (Obj.mapSeq fun _ => (#[] : Array Value))).push (seqObj "tuple" vs.toArray 0) = H2
  have S2 : Sat G cx ex ρ σ fz H2 := by rw [← hH2]; exact S1.push _
  have S3 : Sat G cx ex ρ σ fz (H2.push (seqObj "list" #[] 0)) := S2.push _
  have hka : H2.get? a = some (seqObj "list" #[] e1) := by rw [← hH2]; exact Heap.get?_push_of_some _ ho1
  have hne : H2.objs.size ≠ a := Nat.ne_of_gt (Heap.lt_size hka)
  have okS : Off G cx ex σ fz H2.objs.size := S2.size_off (Nat.le_refl _)
  have hkS : (H2.push (seqObj "list" #[] 0)).get? H2.objs.size = some (seqObj "list" #[] 0) := Heap.get?_push_size _ rfl
  show wpAny (model G.prog G.w) cx.A (ksk_rest a (.ref f) false vs.toArray e1 (.ref H2.objs.size)) P E { s with heap := H2.push (seqObj "list" #[] 0) }
  generalize hkk : H2.objs.size = kS at *
  unfold ksk_rest
  refine wpAny_bind (wpAny_rule ?_)
  first
    | rw [List.forIn_toArray]
    | (rw [← Array.forIn_toList]; simp only [List.toList_toArray])
    | rw [← Array.forIn_toList]
  let I : List Value → Shared → Prop := fun rest s' => ∃ i ks fz' h' tk c, s' = { s with heap := h', toks := tk } ∧ (∀ p ∈ fz, p ∈ fz') ∧ Sat G cx ex ρ σ fz' h' ∧ h'.get? kS = some (seqObj "list" (List.toArray ks) c) ∧ h'.get? a = some (seqObj "list" #[] e1) ∧ kS ∉ keys fz' ∧ a ∉ keys fz' ∧
    RelL G fz' ((List.range i).map fun j => pairV (key j)) ks ∧ i + rest.length = n ∧ rest = vs.drop i
  refine wpAny_bind (wpAny_mono (forIn_inv I (fun x r s' hI => ?_) vs _ ?_) (fun _ s' hI => ?_) fun _ _ x => x)
  · obtain ⟨i, ks, fz', h', tk, c, rfl, hfz, S', k1, k2, k3, k4, k5, k6, k7⟩ := hI
    have hi : i < n := by rw [List.length_cons] at k6; omega
    have hx : vs[i]? = some x := by
      have := congrArg (·[0]?) k7
      simp only [List.getElem?_drop, Nat.add_zero] at this
      exact this.symm
    obtain ⟨u, rfl⟩ := hvs i x hx
    have hka' : a ∉ cx.mut σ := oa.m
    have P1 := S'.park k2 hka' k4
    have P2 := P1.park k1 okS.m k3
    refine wpAny_bind (wpAny_attempt ?_)
    refine hcall i hi _ fz' { s with heap := h', toks := tk } u hfz P2 _ _ (fun k V ρ' σ' fz'' h'' tk'' kk S'' rv q => ?_)
    obtain ⟨rfl, rfl, rfl⟩ := q
    obtain ⟨U1, g1, g2, g3⟩ := S''.unpark (fun p hp => List.mem_cons_of_mem _ (hcl p hp))
    obtain ⟨U2, g4, g5, g6⟩ := U1.unpark hcl
    have hkl := k5.length
    rw [List.length_map, List.length_range] at hkl
    have ea : (List.toArray ks).push V = List.toArray (ks ++ [V]) := by simp
    obtain ⟨c2, hc2⟩ : ∃ c2, (h''.update kS (Obj.mapSeq (·.push V))).get? kS = some (seqObj "list" (List.toArray (ks ++ [V])) c2) := ⟨_, by rw [← ea]; exact get?_update_seq g1 (·.push V)⟩
    try dsimp only
    refine wpAny_bind (listUpdate_at g1 rfl ?_ (by rw [List.size_toArray, sizeLine_eq]; omega) (Nat.le_trans (Nat.le_of_eq (Array.size_push ..)) (by rw [List.size_toArray, sizeLine_eq]; omega)))
    refine wpAny_pure ⟨rfl, i + 1, ks ++ [V], fz'', _, tk'', c2, rfl, fun p hp => kk p (hfz p hp), U2.but (Heap.SameBut.update ..).extBut ⟨g2, g3, okS.x, okS.b⟩, hc2, (Heap.get?_update_ne _ _ _ _ hne.symm).trans g4, g3, g6, ?_, by rw [List.length_cons] at k6; omega, ?_⟩
    · rw [List.range_succ, List.map_append]
      exact (k5.mono kk).append (.one rv)
    · have := congrArg List.tail k7
      rw [List.tail_drop] at this
      exact this
  · exact ⟨0, [], fz, _, s.toks, 0, rfl, fun _ h => h, S3, hkS, Heap.get?_push_of_some _ hka, okS.f, oa.f, .nil, by simpa using hvl, rfl⟩
  · obtain ⟨i, ks, fz', h', tk, c, rfl, hfz, S', k1, k2, k3, k4, k5, k6, k7⟩ := hI
    have hin : i = n := by simpa using k6
    subst hin
    have hkl := k5.length
    rw [List.length_map, List.length_range] at hkl
    try dsimp only
    refine wpAny_bind (listItems_at k1 rfl ?_)
    unfold ksk_end
    try dsimp only
    have hn2 : ¬ vs.toArray.size < 2 := by rw [List.size_toArray]; omega
    rw [if_neg Bool.false_ne_true]
    rw [if_neg hn2, if_neg hn2]
    have hps : (t.map key).Perm ((List.range i).map key) := ht.map _
    have k5' : RelL G fz' (((List.range i).map key).map pairV) ks := by rw [List.map_map]; exact k5
    have hpl : ((List.range i).map key).length = i := by rw [List.length_map, List.length_range]
    have hps2 := pairs_sort (prog := G.prog) (w := G.w) (A := cx.A) (s := { s with heap := h', toks := tk }) (C := fun p s'' => p = ((t.map key).map (((List.range i).map key).idxOf ·)).toArray ∧ s'' = { s with heap := h', toks := tk }) (by rw [hpl]; exact h2) (by rw [hpl]; exact h5) S'.fzh k5' hps hs ⟨rfl, rfl⟩
    rw [hpl] at hps2
    refine wpAny_bind (wpAny_mono hps2 (fun κ s0 hk => ?_) fun _ _ x => x.elim)
    rw [show i = vs.length from hvl.symm] at hk
    refine wpAny_bind (wpAny_mono (kat_run (E := E) (Q := fun st' s' => arrOf st' = ((t.map key).map (((List.range i).map key).idxOf ·)).toArray.map (kas_item ((List.toArray ks).zip (List.toArray vs))) ∧ failedOf st' = none ∧ s' = { s with heap := h', toks := tk })
      (by rw [hkl, hvl]) (by omega) h64 (fun p' st' s' a1 a2 a3 a4 => ⟨by rw [a2, a4.1, hvl], a3, a4.2⟩) hk) ?_ fun _ _ x => x)
    rintro ⟨⟨⟩, st'⟩ s' ⟨har, hf, rfl⟩
    try dsimp only
    have hout := kat_snds (by rw [hkl, hvl]) har
    have hidx : ((t.map key).map (((List.range i).map key).idxOf ·)).map (fun j => vs.getD j Value.none) = t.map fun j => vs.getD j Value.none := by
      rw [List.map_map, List.map_map]
      refine List.map_congr_left fun j hj => ?_
      have hj' : j < i := List.mem_range.mp (ht.mem_iff.mp hj)
      show vs.getD (((List.range i).map key).idxOf (key j)) Value.none = vs.getD j Value.none
      have hnd : ((List.range i).map key).Nodup := by
        rw [List.Nodup, List.pairwise_map]
        exact List.Pairwise.imp_of_mem (fun {x y} hx hy h e => h (hki x (List.mem_range.mp hx) y (List.mem_range.mp hy) e)) List.nodup_range
      rw [idxOf_get hnd (i := j) (by rw [List.getElem?_map, List.getElem?_range hj']; rfl)]
    have hto : ((((t.map key).map (((List.range i).map key).idxOf ·)).toArray).toList.map fun j => vs.getD j Value.none) = t.map fun j => vs.getD j Value.none := hidx
    rw [hto] at hout
    unfold ksk_tail
    try dsimp only
    rw [if_neg Bool.false_ne_true]
    rw [hout]
    have s1 := Heap.SameBut.update h' kS (Obj.mapSeq fun _ => (#[] : Array Value))
    refine wpAny_bind (listUpdate_at k1 rfl ?_ (by rw [List.size_toArray, sizeLine_eq]; omega) (Nat.zero_le _))
    refine wpAny_bind (wpAny_letGo ?_)
    have k2' : (h'.update kS (Obj.mapSeq fun _ => (#[] : Array Value))).get? a = some (seqObj "list" #[] e1) := (Heap.get?_update_ne _ _ _ _ hne.symm).trans k2
    have S4 : Sat G cx ex ρ σ fz' (h'.update kS (Obj.mapSeq fun _ => (#[] : Array Value))) := S'.but s1.extBut ⟨okS.m, k3, okS.x, okS.b⟩
    refine wpAny_bind (seqEpoch_at k2' rfl ?_)
    have hsz : (List.toArray (t.map fun j => vs.getD j Value.none)).size = i := by rw [List.size_toArray, List.length_map, ht.length_eq, List.length_range]
    refine wpAny_bind (listUpdate_at k2' rfl ?_ (Nat.zero_le _) (Nat.le_trans (Nat.le_of_eq hsz) (by rw [sizeLine_eq]; omega)))
    rw [hf]
    simp only [bne_self_eq_false, Bool.false_eq_true, if_false]
    obtain ⟨c2, hc2⟩ : ∃ c2, ((h'.update kS (Obj.mapSeq fun _ => (#[] : Array Value))).update a (Obj.mapSeq fun _ => List.toArray (t.map fun j => vs.getD j Value.none))).get? a = some (seqObj "list" (List.toArray (t.map fun j => vs.getD j Value.none)) c2) := ⟨_, get?_update_seq k2' fun _ => _⟩
    refine wpAny_pure (hP fz' _ tk (t.map fun j => vs.getD j Value.none) c2 hfz (S4.but (Heap.SameBut.update ..).extBut ⟨oa.m, k4, oa.x, oa.b⟩) k4 hc2 ?_)
    have hall : ∀ j ∈ t, ∃ u, vs.getD j Value.none = .int (j : Int) u := fun j hj => by
      have hj' : j < i := List.mem_range.mp (ht.mem_iff.mp hj)
      have e : vs[j]? = some vs[j] := List.getElem?_eq_getElem (by omega)
      obtain ⟨u, hu⟩ := hvs j _ e
      exact ⟨u, by rw [List.getD_eq_getElem?_getD, e, hu]; rfl⟩
    clear hP hidx hto hout har hps hs ht k5' hps2 hk hcall hsz hc2 hki
    induction t with
    | nil => exact .nil
    | cons j t ih =>
      obtain ⟨u, hu⟩ := hall j List.mem_cons_self
      rw [List.map_cons, List.map_cons, hu]
      exact .cons (.int _ _) (ih fun x hx => hall x (List.mem_cons_of_mem _ hx))
end
end Mine
namespace Mine
open PySem PySem.W PyProof.Rows PyProof.Rows.LCg PySem.Calls PySem.Spec

section
variable {G : Gr} {cx : Cx} {ex : Objs} {ρ : AE} {σ : AH} {fz : Objs} {s : Shared}
theorem SatG_setEx {P : Addr} {o o' : Obj} {h h' : Heap} (S : Sat G cx ((P, o) :: ex) ρ σ fz h) (hcl : cx.cl = []) (hPx : P ∉ keys ex) (hPb : G.hb.get? P = none) (k : Heap.ExtBut P h h') (hP : h'.get? P = some o') : Sat G cx ((P, o') :: ex) ρ σ fz h' := by
  obtain ⟨S₁, _, hm, hf⟩ := S.unpark (fun p hp => by rw [hcl] at hp; cases hp)
  exact (S₁.but k ⟨hm, hf, hPx, hPb⟩).park hP hm hf

/-- the making of a lambda -/
theorem make_lam {c P : Addr} {ps : Array Value} {params : Arguments} {body : Expr} {scope : Scope} {pos : Pos} {QQ EE : Value → Shared → Prop}
    (g : GOk G) (S : Sat G cx ((P, tabObj ps) :: ex) ρ σ fz s.heap) (hcl : cx.cl = []) (hPx : P ∉ keys ex) (hPb : G.hb.get? P = none) (hcode : cx.env.code = .ref c) (C : CodeHd G.hb c P) (ht : TriplesOk ps.toList) (hnf : codeAmong pos ps.toList = none)
    (hfree : ∀ x, (x, NameKind.free) ∈ scope.names → cx.env.kindOf x = some .free ∨ cx.env.kindOf x = some .cell) (hdef : defaultsOf params cx.env = ([], []))
    (h : ∀ f c' oc cvs t ctv ps' fz' h' tk, (∀ p ∈ fz, p ∈ fz') → Sat G cx ((P, tabObj ps') :: ex) ρ σ fz' h' → (f, kla_obj "<lambda>" (cx.env.qual ++ "<lambda>") params body scope (clOf cx.env scope.names []) ((G.mg "__name__").getD .none) c' ctv) ∈ fz' → (c', oc) ∈ fz' → oc.data = .fields cvs → cvs[1]? = some (.str (cx.env.qual ++ "<lambda>") t) → QQ (.ref f) { s with heap := h', toks := tk }) :
    wpAny (model G.prog G.w) cx.A (eval (.Lambda params body scope pos) cx.env) QQ EE s := by
  have hcell : ∀ x, (x, NameKind.free) ∈ scope.names → ∃ c, cx.env.cells.lookup x = some c := fun x hx => S.ok.cs x (hfree x hx).symm
  have hP : s.heap.get? P = some (tabObj ps) := S.exh _ List.mem_cons_self
  have T := g.TB
  have hgs := T.g.keeps S.base
  obtain ⟨bm, ob, b1, b2, b3, b4, b5, b6⟩ := T.bmain
  have hgP : mainGlobals ≠ P := fun q => by
    obtain ⟨o, es, ep, e, hd, _⟩ := T.g
    rw [q, hPb] at e; cases e
  have hbP : bm ≠ P := fun q => by rw [q, hPb] at b3; cases b3
  have hbG : bm ≠ mainGlobals := fun q => by
    obtain ⟨o, es, ep, e, hd, _⟩ := T.g
    rw [q, e] at b3; cases b3; rw [hd] at b6; cases b6
  refine kla_eval hdef (kla_makeFunction (mg := G.mg) (closureFor_eq hcell) S.ok.gl.1 hgs hcode (C.keeps S.base) hP ht hnf hgP ⟨bm, ob, b1, b2, hbG, hbP, S.base _ _ b3, b4, b5, b6⟩ fun c' ctv h' tk hx hge hlt hrec htb => ?_)
  obtain ⟨c₂, oc, cvs, t, e2, hoc, hd, hv⟩ := hrec
  cases e2
  have S1 := SatG_setEx S hcl hPx hPb hx htb
  have offc : ∀ a, s.heap.objs.size ≤ a → a ∉ cx.mut σ ∧ a ∉ keys ((P, tabObj (ps ++ #[rawInt pos.line, rawInt pos.col, .ref c'])) :: ex) := fun a ha => by
    have O := S.size_off ha
    refine ⟨O.m, fun q => O.x ?_⟩
    unfold keys at q ⊢
    rw [List.map_cons] at q ⊢
    exact q
  have S2 := S1.freeze hoc (offc c' hge).1 (offc c' hge).2
  have S3 := S2.push (kla_obj "<lambda>" (cx.env.qual ++ "<lambda>") params body scope (clOf cx.env scope.names []) ((G.mg "__name__").getD .none) c' ctv)
  have hsz : s.heap.objs.size ≤ h'.objs.size := Nat.le_of_lt (Nat.lt_of_le_of_lt hge hlt)
  have S4 := S3.freeze (Heap.get?_push_size _ rfl) (offc _ hsz).1 (offc _ hsz).2
  exact h h'.objs.size c' oc cvs t ctv _ _ _ _ (fun p hp => List.mem_cons_of_mem _ (List.mem_cons_of_mem _ hp)) S4 List.mem_cons_self (List.mem_cons_of_mem _ List.mem_cons_self) hd hv

/-- sorted(range(n), key=lambda ..) -/
theorem ev_sorted_lam {c P : Addr} {ps : Array Value} {params : Arguments} {body : Expr} {scope : Scope} {lp kp np pos : Pos} {e : Expr} {QQ EE : Value → Shared → Prop} {names : List (Str × NameKind)} {x : Str} {n : Nat} {key : Nat → Int × Int} {t : List Nat}
    (g : GOk G) (S : Sat G cx ((P, tabObj ps) :: ex) ρ σ fz s.heap) (K : KN cx names) (hn : names.lookup ("sorted" : Str) = some .globalImplicit) (hg : nsIn G.K mainGlobals ("sorted" : Str) = some none) (hcl : cx.cl = []) (hcm : cx.comp = false) (hd : cx.hd = none) (hdd : 3 ≤ cx.d) (hPx : P ∉ keys ex) (hPb : G.hb.get? P = none) (hcode : cx.env.code = .ref c) (C : CodeHd G.hb c P) (ht : TriplesOk ps.toList) (hnf : codeAmong lp ps.toList = none)
    (hfree : (scope.names.all fun p => p.2 != .free || (names.lookup p.1 == some .free || names.lookup p.1 == some .cell)) = true) (hncell : (scope.names.all fun p => p.2 != .cell) = true) (hdef : defaultsOf params cx.env = ([], [])) (hx : scope.names.lookup x = some .local)
    (hbind : ∀ cl pm c' ctv V, bindArgs (kla_fn "<lambda>" (cx.env.qual ++ "<lambda>") params body scope cl pm (.ref c') ctv) ⟨[V], []⟩ = pure ([x].zip [V]))
    (h2 : 2 ≤ n) (h5 : n ≤ 5) (hp : t.Perm (List.range n)) (hki : ∀ i < n, ∀ j < n, key i = key j → i = j) (hs : (t.map key).Pairwise fun x y => lexB x y = true ∧ lexB y x = false)
    (he : Ev G cx ρ σ e (fun v ρ' σ' => v = .rng 0 n ∧ ρ' = ρ ∧ σ' = σ) (fun _ _ _ => False))
    (hb : ∀ (i : Nat), i < n → ∀ cx' : Cx, cx'.hd = none → cx'.comp = false → 1 ≤ cx'.d → KN cx' scope.names → Ev G cx' (lamρ scope ρ [(x, .int i)]) σ body (fun v _ σ' => v = pairV (key i) ∧ σ' = σ) (fun _ _ _ => False))
    (h : ∀ ps' fz' h' tk V, (∀ p ∈ fz, p ∈ fz') → Sat G cx ((P, tabObj ps') :: ex) ρ σ fz' h' → Rel G fz' (.lst (t.map fun i : Nat => AV.int (i : Int))) V → QQ V { s with heap := h', toks := tk })
    (hst : starEach [e] cx.env = (false, eval e cx.env) :: starEach [] cx.env := by rfl)
    (hbk : backTo pos (starEach [e] cx.env) = (false, eval e cx.env) :: backTo pos (starEach [] cx.env) := by rfl) (hco : scope.isCoroutine = false := by rfl) (hgen : scope.isGenerator = false := by rfl) (hk : scope.kind = .function := by rfl) :
    wpAny (model G.prog G.w) cx.A (eval (.Call (.Name "sorted" np) [e] [⟨some "key", .Lambda params body scope lp, kp⟩] pos) cx.env) QQ EE s := by
  have hfree' : ∀ y, (y, NameKind.free) ∈ scope.names → cx.env.kindOf y = some .free ∨ cx.env.kindOf y = some .cell := fun y hy => by
    have := List.all_eq_true.mp hfree _ hy
    simp only [bne_self_eq_false, Bool.false_or, Bool.or_eq_true, beq_iff_eq] at this
    rcases this with q | q
    · exact K.fr y q
    · exact .inr (K.kd y _ q (by decide))
  have hncell' : ∀ y ∈ scope.names, y.2 ≠ .cell := fun y hy => by
    have := List.all_eq_true.mp hncell _ hy
    simpa using this
  refine wpAny_Call_Name_kw ?_
  refine (ev_builtin (G := G) (cx := cx) (ρ := ρ) (σ := σ) (x := "sorted") (pos := np) (V := .builtin "sorted") (Q := fun v ρ' σ' => v = .val (.builtin "sorted") ∧ ρ' = ρ ∧ σ' = σ) (EQ := fun _ _ _ => False) (K.glob hn) hg (by rfl) ⟨rfl, rfl, rfl⟩).run g S .nil (fun v V ρ' σ' fz₁ h₁ t₁ k₁ S₁ r₁ q₁ => ?_) (fun _ _ _ _ _ _ _ _ _ _ q => q.elim)
  obtain ⟨rfl, e1, e2⟩ := q₁
  rw [e1, e2] at S₁
  rw [r₁.val_inv]
  refine callWith_kw ?_ (he := hbk) (hplain := by rw [hbk]; rfl)
  refine (as_one (pos := pos) (Q := fun vs ρ' σ' => vs = [.rng 0 n] ∧ ρ' = ρ ∧ σ' = σ) (he.mono (fun v ρ' σ' q => by obtain ⟨rfl, rfl, rfl⟩ := q; exact ⟨rfl, rfl, rfl⟩) fun _ _ _ q => q) (he := hst)).run g S₁ .nil (fun vs Vs ρ' σ' fz₂ h₂ t₂ k₂ S₂ r₂ q₂ => ?_) (fun _ _ _ _ _ _ _ _ _ _ q => q.elim)
  obtain ⟨rfl, e3, e4⟩ := q₂
  rw [e3, e4] at S₂
  obtain ⟨V₂, rfl, r₃⟩ := RelL.one_inv r₂
  obtain ⟨ra, rt, ru, rv, rfl, hrm⟩ := r₃.rng_inv
  refine kws_cons ?_
  refine make_lam (s := { s with heap := h₂, toks := t₂ }) g S₂ hcl hPx hPb hcode C ht hnf hfree' hdef fun f c' oc cvs tt ctv ps' fz₃ h₃ t₃ k₃ S₃ hf hc' hod hov => kws_nil ?_
  show wpAny (model G.prog G.w) cx.A (call (.builtin "sorted") [.ref ra] [(Str.ofString "key", .ref f)]) QQ EE _
  refine call_function_entry_kw kind_sorted plain_sorted entry_sorted (ksk_s1 _ _) ?_
  unfold Builtin.«sorted»
  refine wpAny_bind (m := checkCount "sorted" 1 1 _) (wpAny_pure ?_)
  have hrs : Builtin.Range.rangeSize 0 n 1 = n := by
    have : n = 2 ∨ n = 3 ∨ n = 4 ∨ n = 5 := by omega
    rcases this with rfl | rfl | rfl | rfl <;> decide
  have hsm : Builtin.Range.small 0 n 1 = true := by
    have : n = 2 ∨ n = 3 ∨ n = 4 ∨ n = 5 := by omega
    rcases this with rfl | rfl | rfl | rfl <;> decide
  refine wpAny_bind (collect_range (n := n) (A := cx.A.in1) (S₃.ok.hd.trans hd) (S₃.fzh _ (k₃ _ hrm)) hsm hrs (by omega) fun h₄ t₄ acc k₄ hacc => ?_)
  have hal : acc.toList.length = n := by rw [Array.length_toList]; exact hacc.1
  refine wpAny_bind (wpAny_newList ?_ (by rw [hal, sizeLine_eq]; omega))
  have S₄ := S₃.ext k₄
  have S₅ := S₄.push (seqObj "list" acc.toList.toArray 0)
  have hoL : (h₄.push (seqObj "list" acc.toList.toArray 0)).get? h₄.objs.size = some (seqObj "list" acc.toList.toArray 0) := Heap.get?_push_size _ rfl
  have oL := S₄.size_off (Nat.le_refl _)
  refine wpAny_bind (wpAny_holding (wpAny_call_entry_kw slot_list_sort ⟨_, hoL, rfl⟩ entry_list_sort ?_ (ksk_l1 _ _)))
  rw [ksk_t1]
  let cx2 : Cx := cx.on cx.A.in1.in1 (cx.d - 1) cx.hd
  have S₆ : Sat G cx2 ((P, tabObj ps') :: ex) ρ σ fz₃ (h₄.push (seqObj "list" acc.toList.toArray 0)) := S₅.on rfl (by have := S.ok.depth; show cx.A.depth + (cx.d - 1) ≤ 900; omega) (by have := S.ok.units; show cx.A.units + 1 + 1 + 20 * (cx.d - 1) ≤ 9000; omega) S.ok.hd
  have oL2 : Off G cx2 ((P, tabObj ps') :: ex) σ fz₃ h₄.objs.size := ⟨oL.m, oL.f, oL.x, oL.b⟩
  refine sort_key (cx := cx2) (s := { s with heap := h₄.push (seqObj "list" acc.toList.toArray 0), toks := t₄ }) (key := key) (t := t) (n := n) S₆ h2 h5 hal (fun i v e => ?_) hoL oL2 hp hki hs (fun i hi ex' fz' s' u kk S' QQ' EE' hQ' => ?_) (fun p hp => by rw [show cx2.cl = [] from hcl] at hp; cases hp) (fun fz' h' tk out c kk S' na hD hR => ?_)
  · obtain ⟨u, hu⟩ := hacc.2 i v (by rw [← Array.getElem?_toList]; exact e)
    exact ⟨u, by rw [hu]; simp⟩
  · refine call_lam (cx := cx2) (names := [x]) (args := [.int i]) g S' (kk _ hf) (kk _ hc') hod hov (.one (.int i u)) (hbind _ _ _ _ _) rfl (by simp) (fun y hy => by rw [List.mem_singleton.mp hy]; exact hx) hncell' hfree' (by show 1 ≤ cx.d - 1; omega) hcm (fun cx' h1 h3 h4 h6 => ?_) hQ' hco hgen hk
    exact (hb i hi cx' (h3.trans hd) h4 (by have : cx'.d + 1 = cx.d - 1 := h1; omega) h6).mono (fun v ρ' σ' q => ⟨q.1, rfl, q.2⟩) fun _ _ _ q => q
  · refine ⟨_, rfl, wpAny_pure ⟨_, rfl, ?_⟩⟩
    have S₇ : Sat G cx ((P, tabObj ps') :: ex) ρ σ fz' h' := S'.off_on S₅.ok
    refine h ps' _ h' tk _ (fun p hp => List.mem_cons_of_mem _ (kk p (k₃ p (k₂ p (k₁ p hp))))) (S₇.freeze hD oL.m oL.x) (.lst List.mem_cons_self rfl rfl ?_)
    exact RelL.mono (fun p hp => List.mem_cons_of_mem _ hp) (by simpa using hR)
end
end Mine
namespace Mine
open PySem PySem.W PyProof.Rows PyProof.Rows.LCg PySem.Calls PySem.Spec

theorem pickL_map {α β : Type} (f : α → β) (l : List α) (lo hi st : Option Int) : pickL (l.map f) lo hi st = (pickL l lo hi st).map f := by
  unfold pickL
  rw [List.length_map, List.map_filterMap]
  congr 1
  funext i
  rw [List.getElem?_map]
theorem pickL_le {α : Type} (l : List α) (lo hi st : Option Int) : (pickL l lo hi st).length ≤ l.length := by
  have h1 := slicePick_size_le (l.map fun _ => Value.none).toArray lo hi st
  have h2 : (slicePick (l.map fun _ => Value.none).toArray lo hi st).size = (pickL (l.map fun _ => Value.none) lo hi st).length := by
    unfold slicePick pickL
    simp
  rw [h2, pickL_map, List.length_map] at h1
  simpa using h1
section
variable {G : Gr} {cx : Cx} {ex : Objs} {ρ : AE} {σ : AH} {fz : Objs} {s : Shared}
theorem raw_step {st : Stmt} {rest : List Stmt} {QQ : Flow → Shared → Prop} {EE : Value → Shared → Prop} {Q : AE → AH → Prop} (g : GOk G) (S : Sat G cx ex ρ σ fz s.heap) (h : X1 G cx ρ σ st (fun fl ρ' σ' => fl = .next ∧ Q ρ' σ') (fun _ _ _ => False))
    (k : ∀ ρ' σ' fz' h' tk', (∀ p ∈ fz, p ∈ fz') → Sat G cx ex ρ' σ' fz' h' → Q ρ' σ' → wpAny (model G.prog G.w) cx.A (execs rest cx.env) QQ EE { s with heap := h', toks := tk' }) : wpAny (model G.prog G.w) cx.A (execs (st :: rest) cx.env) QQ EE s :=
  wpAny_execs_cons (h.run g S .nil (fun fl FL ρ' σ' fz' h' tk' kk S' r q => by
    obtain ⟨rfl, q⟩ := q
    cases r
    exact k ρ' σ' fz' h' tk' kk S' q) (fun _ _ _ _ _ _ _ _ _ _ q => q.elim))
theorem itr_range (n : Nat) (hn : n ≤ 1000) : Itr (.rng 0 (n : Int)) ((List.range n).map fun i : Nat => AV.int (i : Int)) := by
  have := Itr.rng 0 n (by decide) (by omega)
  unfold intsFrom at this
  simpa using this
theorem nat_small {n : Nat} (h : n ≤ 1000) : (n : Int) < 2 ^ 62 := Int.lt_of_le_of_lt (Int.ofNat_le.mpr h) (by decide)
theorem pow_cast (o : Nat) : (2 : Int) ^ ((o : Int)).toNat = ((2 ^ o : Nat) : Int) := by rw [Int.toNat_natCast]; simp
theorem pow_ne (o : Nat) : ((2 ^ o : Nat) : Int) ≠ 0 := Int.ofNat_ne_zero.mpr (Nat.ne_of_gt (Nat.pow_pos (by decide)))
theorem pow_lt {o : Nat} (h : o ≤ 20) : (((2 ^ o : Nat) : Int)).natAbs < 1073741824 := by
  rw [Int.natAbs_natCast]
  exact Nat.lt_of_le_of_lt (Nat.pow_le_pow_right (by decide) h) (by decide)
theorem op_pow2 {EQ : AX → AE → AH → Prop} {Q : AV → AE → AH → Prop} {o : Nat} (h : o ≤ 60) (q : Q (.int ((2 ^ o : Nat) : Int)) ρ σ) : JV Rel G cx ρ σ [.int 2, .int (o : Int)] (two (binaryOp .Pow)) Q EQ :=
  op_pow (Int.natCast_nonneg o) (Int.le_trans (Int.ofNat_le.mpr h) (by decide)) (by decide) (by rw [pow_cast]; exact q)
/-- an item at a place known as a natural number -/
theorem it_at {value slice : Expr} {EQ : AX → AE → AH → Prop} {Q : AV → AE → AH → Prop} {l : List AV} {i : Nat} {v : AV} (h : i ≤ 1000) (h1 : l[i]? = some v) (q : Q v ρ σ) (hs : ∀ o i, subscripted slice false o i = operate [o, i] (getItem o i) := by intro o i; rfl) : JV Rel G cx ρ σ [.lst l, .int (i : Int)] (two (subscriptTail value slice)) Q EQ :=
  it_lst (Int.natCast_nonneg i) (by rw [Int.toNat_natCast]; exact h1) (nat_small h) q hs
end
end Mine
namespace Mine
open PySem PySem.W PyProof.Rows PyProof.Rows.LCg PySem.Calls PySem.Spec
/-! sorted signs -/
noncomputable def signOf (s : Str) : Nat := s.cps.getD 0 0
theorem ones_of_perm {ss : List Str} {l : List Nat} (h : ss.Perm (l.map oneS)) : (ss.map signOf).Perm l ∧ ss = (ss.map signOf).map oneS := by
  constructor
  · have := h.map signOf
    rw [List.map_map] at this
    have e : (signOf ∘ oneS) = id := by funext c; rfl
    rw [e, List.map_id] at this
    exact this
  · rw [List.map_map]
    refine (List.map_id ss).symm.trans (List.map_congr_left fun s hs => ?_)
    obtain ⟨c, _, rfl⟩ := List.mem_map.mp (h.mem_iff.mp hs)
    rfl
theorem lt_ones (a b : Nat) : ltCps (oneS a).cps.toList (oneS b).cps.toList = decide (a < b) := by
  show ltCps [a] [b] = _
  unfold ltCps
  have e : ltCps [] [] = false := rfl
  rw [e, Bool.and_false, Bool.or_false]
theorem rising_ones : ∀ (l : List Nat) (a : Nat), risingS (oneS a) (l.map oneS) = true → (a :: l).Pairwise (· ≤ ·)
  | [], a, _ => by simp
  | b :: l, a, h => by
    rw [List.map_cons, risingS] at h
    have h1 : b < a → False := fun q => by
      rw [lt_ones, decide_eq_true q] at h
      simp at h
    have h2 : risingS (oneS b) (l.map oneS) = true := by
      rw [lt_ones, decide_eq_false h1] at h
      simpa using h
    have ih := rising_ones l b h2
    rw [List.pairwise_cons]
    refine ⟨fun c hc => ?_, ih⟩
    rcases List.mem_cons.mp hc with rfl | hc
    · exact Nat.le_of_not_lt h1
    · have := (List.pairwise_cons.mp ih).1 c hc
      exact Nat.le_trans (Nat.le_of_not_lt h1) this
theorem sorted_ones {l : List Nat} (h : sortedS (l.map oneS) = true) : l.Pairwise (· ≤ ·) := by
  cases l with
  | nil => simp
  | cons a l => exact rising_ones l a h
/-- what sorting makes of single signs -/
theorem sorted_signs {ss : List Str} {l m : List Nat} (hp : ss.Perm (l.map oneS)) (hs : sortedS ss = true) (hm : m.Perm l) (hms : m.Pairwise (· ≤ ·)) : ss = m.map oneS := by
  obtain ⟨h1, h2⟩ := ones_of_perm hp
  have e : ss.map signOf = m := by
    rw [h2] at hs
    exact (h1.trans hm.symm).eq_of_pairwise (fun a b _ _ h h' => Nat.le_antisymm h h') (sorted_ones hs) hms
  rw [h2, e]
section
variable {G : Gr} {cx : Cx} {ρ : AE} {σ : AH} {EQ : AX → AE → AH → Prop} {Q : AV → AE → AH → Prop}
theorem op_sorted_pairs1 {ps t : List (Int × Int)} (h1 : 1 ≤ ps.length) (h5 : ps.length ≤ 5) (hp : t.Perm ps) (hs : t.Pairwise fun a b => lexB a b = true ∧ lexB b a = false) (q : Q (.lst (t.map pairV)) ρ σ) :
    JV Rel G cx ρ σ [.lst (ps.map pairV)] (fun Vs => call (.builtin "sorted") Vs) Q EQ := by
  by_cases h2 : 2 ≤ ps.length
  · exact op_sorted_pairs h2 h5 hp hs q
  · obtain ⟨x, rfl⟩ : ∃ x, ps = [x] := List.length_eq_one_iff.mp (by omega)
    have := List.perm_singleton.mp hp
    subst this
    exact op_sorted_one q
end
end Mine
namespace Mine
/-! what law 01's functions compute, in plain Lean -/
noncomputable abbrev Hd := Nat → Int
noncomputable abbrev Tb := List (Nat × Int)
noncomputable def setH (H : Hd) (b : Nat) (s : Int) : Hd := fun c => if c = b then s else H c
noncomputable def loop (rc : Hd × Tb → Nat → Option Int × (Hd × Tb)) (s : Nat) : List Nat → Hd × Tb → Option Int × (Hd × Tb)
  | [], st => (none, st)
  | b :: rest, st =>
    if (st.2.lookup b).isSome = true then loop rc s rest st
    else if 0 ≤ st.1 b then
      match rc (st.1, st.2 ++ [(b, st.1 b)]) (st.1 b).toNat with
      | (some k, st') => (some (k + 1), (setH st'.1 b s, st'.2))
      | (none, st') => loop rc s rest st'
    else (some 1, (setH st.1 b s, st.2 ++ [(b, st.1 b)]))
noncomputable def place (W : Nat → List Nat) : Nat → Hd × Tb → Nat → Option Int × (Hd × Tb)
  | 0, st, _ => (none, st)
  | f + 1, st, s => loop (place W f) s (W s) st
noncomputable abbrev Box (c : Nat) : Prop := 97 ≤ c ∧ c ≤ 100
structure StOk (st : Hd × Tb) : Prop where
  nd : (st.2.map (·.1)).Nodup
  bx : ∀ p ∈ st.2, Box p.1
  lo : ∀ c, -1 ≤ st.1 c
  hi : ∀ c, st.1 c ≤ 4
theorem lookup_none_iff {T : Tb} {b : Nat} : T.lookup b = none ↔ b ∉ T.map (·.1) := by
  induction T with
  | nil => simp
  | cons p T ih =>
    obtain ⟨c, v⟩ := p
    rw [List.lookup_cons]
    by_cases h : b = c
    · subst h; simp
    · have : (b == c) = false := by simpa using h
      rw [this]
      simp only [ih, List.map_cons, List.mem_cons, not_or]
      exact ⟨fun q => ⟨h, q⟩, fun q => q.2⟩
theorem StOk.more {st : Hd × Tb} (h : StOk st) {b : Nat} {v : Int} (hb : Box b) (hn : st.2.lookup b = none) : StOk (st.1, st.2 ++ [(b, v)]) := by
  refine ⟨?_, fun p hp => ?_, h.lo, h.hi⟩
  · show ((st.2 ++ [(b, v)]).map (·.1)).Nodup
    rw [List.map_append, List.nodup_append]
    refine ⟨h.nd, by simp, fun x hx y hy e => ?_⟩
    simp at hy
    subst hy; subst e
    exact lookup_none_iff.mp hn hx
  · rcases List.mem_append.mp hp with hp | hp
    · exact h.bx p hp
    · simp at hp; subst hp; exact hb
theorem StOk.set {st : Hd × Tb} (h : StOk st) {b : Nat} {s : Nat} (hs : s < 5) : StOk (setH st.1 b s, st.2) := by
  refine ⟨h.nd, h.bx, fun c => ?_, fun c => ?_⟩ <;> (show _ ≤ _; unfold setH; dsimp only; split)
  · omega
  · exact h.lo c
  · omega
  · exact h.hi c
theorem nodup_len {α : Type} [BEq α] [LawfulBEq α] : ∀ (l m : List α), l.Nodup → (∀ x ∈ l, x ∈ m) → l.length ≤ m.length
  | [], _, _, _ => Nat.zero_le _
  | a :: l, m, hn, h => by
    rw [List.nodup_cons] at hn
    have ha := h a List.mem_cons_self
    have := nodup_len l (m.erase a) hn.2 fun x hx => (List.mem_erase_of_ne (show x ≠ a from fun e => hn.1 (by rw [← e]; exact hx))).mpr (h x (List.mem_cons_of_mem _ hx))
    rw [List.length_erase_of_mem ha] at this
    have hp : 0 < m.length := List.length_pos_of_mem ha
    rw [List.length_cons]
    omega
theorem StOk.small {st : Hd × Tb} (h : StOk st) : st.2.length ≤ 4 := by
  have h1 : ∀ x ∈ st.2.map (·.1), x ∈ [97, 98, 99, 100] := fun x hx => by
    obtain ⟨p, hp, rfl⟩ := List.mem_map.mp hx
    have := h.bx p hp
    unfold Box at this
    simp only [List.mem_cons, List.not_mem_nil, or_false]
    omega
  have := nodup_len _ _ h.nd h1
  simpa using this
theorem loop_ok {W : Nat → List Nat} {rc : Hd × Tb → Nat → Option Int × (Hd × Tb)} {s : Nat} (hs : s < 5) (hr : ∀ st r, StOk st → r < 5 → StOk (rc st r).2 ∧ st.2.length ≤ (rc st r).2.2.length) : ∀ (l : List Nat) (st : Hd × Tb), (∀ b ∈ l, Box b) → StOk st → StOk (loop rc s l st).2 ∧ st.2.length ≤ (loop rc s l st).2.2.length
  | [], st, _, h => ⟨h, Nat.le_refl _⟩
  | b :: rest, st, hb, h => by
    unfold loop
    split
    · exact loop_ok (W := W) hs hr rest st (fun c hc => hb c (List.mem_cons_of_mem _ hc)) h
    · rename_i hn
      have hn' : st.2.lookup b = none := Option.not_isSome_iff_eq_none.mp hn
      have hm := h.more (v := st.1 b) (hb b List.mem_cons_self) hn'
      split
      · rename_i h0
        have hlt : (st.1 b).toNat < 5 := by have := h.hi b; omega
        have hk := hr _ (st.1 b).toNat hm hlt
        have hl : st.2.length ≤ (rc (st.1, st.2 ++ [(b, st.1 b)]) (st.1 b).toNat).2.2.length := Nat.le_trans (by simp) hk.2
        split
        · rename_i k st' e
          rw [e] at hk hl
          exact ⟨hk.1.set hs, hl⟩
        · rename_i st' e
          rw [e] at hk hl
          have := loop_ok (W := W) hs hr rest st' (fun c hc => hb c (List.mem_cons_of_mem _ hc)) hk.1
          exact ⟨this.1, Nat.le_trans hl this.2⟩
      · exact ⟨hm.set hs, by simp⟩
theorem place_ok {W : Nat → List Nat} (hW : ∀ s, ∀ b ∈ W s, Box b) : ∀ (f : Nat) (st : Hd × Tb) (s : Nat), StOk st → s < 5 → StOk (place W f st s).2 ∧ st.2.length ≤ (place W f st s).2.2.length
  | 0, st, _, h, _ => ⟨h, Nat.le_refl _⟩
  | f + 1, st, s, h, hs => loop_ok (W := W) hs (fun st r h hr => place_ok hW f st r h hr) (W s) st (hW s) h
end Mine
namespace Mine
noncomputable def diffs (H H' : Hd) : List Nat := [97, 98, 99, 100].filter fun c => H c != H' c
noncomputable def runL (W : Nat → List Nat) : List Nat → Hd → List (Nat × Tb) → Bool → Hd × List (Nat × Tb) × Bool
  | [], H, R, fair => (H, R, fair)
  | s :: rest, H, R, fair =>
    match place W 5 (H, []) s with
    | (some k, st') => runL W rest st'.1 R (fair && k == (diffs H st'.1).length)
    | (none, st') => runL W rest st'.1 (R ++ [(s, st'.2)]) (fair && (0 : Int) == (diffs H st'.1).length)
end Mine
namespace Mine
open PySem
noncomputable def takes (d : Int) (c : Nat) : Bool := (d.fdiv (2 ^ (c - 97))).fmod 2 == 1
noncomputable def boxesOf (ds : List Int) (g : List Nat) : Int := g.foldl (fun b o => Builtin.bitOr b ((ds.getD o 0).fmod 16)) 0
noncomputable def reachC (ds : List Int) (g : List Nat) : List Nat := [97, 98, 99, 100].filter (takes (boxesOf ds g))
noncomputable def fitStep (gs rs : List (List Nat)) (fits : List Bool) (k : Nat) : List Bool :=
  fits ++ [decide ((gs.getD k []).filter (fun o => !(fits.getD (k - 2 ^ o) false)) = []) && decide ((gs.getD k []).length ≤ (rs.getD k []).length)]
noncomputable def fitsL (gs rs : List (List Nat)) (n : Nat) : List Bool := (List.range n).foldl (fitStep gs rs) []
end Mine
namespace Mine
noncomputable def keysT (T : Tb) : List Nat := T.map (·.1)
/-- what a refusal leaves -/
structure FailP (W : Nat → List Nat) (l : List Nat) (st st' : Hd × Tb) (new : Tb) : Prop where
  same : st'.1 = st.1
  ext : st'.2 = st.2 ++ new
  held : ∀ p ∈ new, p.2 = st.1 p.1 ∧ 0 ≤ p.2
  all : ∀ b ∈ l, b ∈ keysT st'.2
  closed : ∀ p ∈ new, ∀ b ∈ W p.2.toNat, b ∈ keysT st'.2
  asked : ∀ p ∈ new, p.1 ∈ l ∨ ∃ q ∈ new, p.1 ∈ W q.2.toNat
  least : ∀ A : Nat → Prop, (∀ b ∈ l, 0 ≤ st.1 b → A (st.1 b).toNat) → (∀ q, A q → ∀ b ∈ W q, 0 ≤ st.1 b → A (st.1 b).toNat) → ∀ p ∈ new, A p.2.toNat
theorem loop_fail {W : Nat → List Nat} (hW : ∀ s, ∀ b ∈ W s, Box b) {f s : Nat} (hr : ∀ st r st', StOk st → r < 5 → 5 ≤ st.2.length + f → place W f st r = (none, st') → ∃ new, FailP W (W r) st st' new) :
    ∀ (l : List Nat) (st st' : Hd × Tb), (∀ b ∈ l, Box b) → StOk st → 5 ≤ st.2.length + (f + 1) → loop (place W f) s l st = (none, st') → ∃ new, FailP W l st st' new
  | [], st, st', _, _, _, h => by
    have h' : ((none : Option Int), st) = (none, st') := h
    cases h'
    exact ⟨[], rfl, by simp, (fun _ h => nomatch h), (fun _ h => nomatch h), (fun _ h => nomatch h), (fun _ h => nomatch h), (fun _ _ _ _ h => nomatch h)⟩
  | b :: rest, st, st', hl, hst, h5, h => by
    unfold loop at h
    split at h
    · rename_i hin
      obtain ⟨new, F⟩ := loop_fail hW hr rest st st' (fun c hc => hl c (List.mem_cons_of_mem _ hc)) hst h5 h
      refine ⟨new, F.same, F.ext, F.held, fun c hc => ?_, F.closed, fun p hp => (F.asked p hp).imp (List.mem_cons_of_mem _) id, fun A h1 h2 => F.least A (fun c hc => h1 c (List.mem_cons_of_mem _ hc)) h2⟩
      rcases List.mem_cons.mp hc with rfl | hc
      · have : c ∈ keysT st.2 := Decidable.byContradiction fun q => by
          have := lookup_none_iff.mpr q
          rw [this] at hin; cases hin
        rw [F.ext]; unfold keysT at this ⊢; rw [List.map_append]; exact List.mem_append_left _ this
      · exact F.all c hc
    · rename_i hnin
      have hn' : st.2.lookup b = none := Option.not_isSome_iff_eq_none.mp hnin
      have hm := hst.more (v := st.1 b) (hl b List.mem_cons_self) hn'
      split at h
      · rename_i h0
        have hlt : (st.1 b).toNat < 5 := by have := hst.hi b; omega
        have hpk := place_ok hW f (st.1, st.2 ++ [(b, st.1 b)]) (st.1 b).toNat hm hlt
        split at h
        · cases h
        · rename_i st₁ e
          obtain ⟨n1, F1⟩ := hr _ _ _ hm hlt (by simp; omega) e
          rw [e] at hpk
          have hgrow : st.2.length ≤ st₁.2.length := Nat.le_trans (by simp) hpk.2
          obtain ⟨n2, F2⟩ := loop_fail hW hr rest st₁ st' (fun c hc => hl c (List.mem_cons_of_mem _ hc)) hpk.1 (by omega) h
          have hs1 : st₁.1 = st.1 := F1.same
          have he1 : st₁.2 = st.2 ++ [(b, st.1 b)] ++ n1 := F1.ext
          have up : ∀ c, c ∈ keysT st₁.2 → c ∈ keysT st'.2 := fun c hc => by
            rw [F2.ext]; unfold keysT at hc ⊢; rw [List.map_append]; exact List.mem_append_left _ hc
          have kb : b ∈ keysT st₁.2 := by rw [he1]; unfold keysT; simp
          refine ⟨(b, st.1 b) :: (n1 ++ n2), F2.same.trans hs1, by rw [F2.ext, he1]; simp, fun p hp => ?_, fun c hc => ?_, fun p hp c hc => ?_, fun p hp => ?_, fun A h1 h2 p hp => ?_⟩
          · rcases List.mem_cons.mp hp with rfl | hp
            · exact ⟨rfl, h0⟩
            · rcases List.mem_append.mp hp with hp | hp
              · exact F1.held p hp
              · have := F2.held p hp; rw [hs1] at this; exact this
          · rcases List.mem_cons.mp hc with rfl | hc
            · exact up _ kb
            · exact F2.all c hc
          · rcases List.mem_cons.mp hp with rfl | hp
            · exact up _ (F1.all c hc)
            · rcases List.mem_append.mp hp with hp | hp
              · exact up _ (F1.closed p hp c hc)
              · exact F2.closed p hp c hc
          · rcases List.mem_cons.mp hp with rfl | hp
            · exact .inl List.mem_cons_self
            · rcases List.mem_append.mp hp with hp | hp
              · rcases F1.asked p hp with q | ⟨q, hq, hq'⟩
                · exact .inr ⟨(b, st.1 b), List.mem_cons_self, q⟩
                · exact .inr ⟨q, List.mem_cons_of_mem _ (List.mem_append_left _ hq), hq'⟩
              · rcases F2.asked p hp with q | ⟨q, hq, hq'⟩
                · exact .inl (List.mem_cons_of_mem _ q)
                · exact .inr ⟨q, List.mem_cons_of_mem _ (List.mem_append_right _ hq), hq'⟩
          · have hA := h1 b List.mem_cons_self h0
            rcases List.mem_cons.mp hp with rfl | hp
            · exact hA
            · rcases List.mem_append.mp hp with hp | hp
              · exact F1.least A (fun c hc h => h2 _ hA c hc h) h2 p hp
              · exact F2.least A (fun c hc h => by rw [hs1] at h ⊢; exact h1 c (List.mem_cons_of_mem _ hc) h) (fun q hq c hc h => by rw [hs1] at h ⊢; exact h2 q hq c hc h) p hp
      · cases h
theorem place_fail {W : Nat → List Nat} (hW : ∀ s, ∀ b ∈ W s, Box b) : ∀ (f : Nat) (st st' : Hd × Tb) (s : Nat), StOk st → s < 5 → 5 ≤ st.2.length + f → place W f st s = (none, st') → ∃ new, FailP W (W s) st st' new
  | 0, st, st', s, hst, _, h5, _ => absurd (Nat.le_trans h5 hst.small) (by decide)
  | f + 1, st, st', s, hst, hs, h5, h => loop_fail hW (fun st r st' h1 h2 h3 h4 => place_fail hW f st st' r h1 h2 h3 h4) (W s) st st' (hW s) hst h5 h
end Mine
namespace Mine
/-! a success: the boxes that change hands, one after the other -/
noncomputable def shift (H : Hd) : Int → List Nat → Hd
  | _, [] => H
  | s, b :: r => setH (shift H (H b) r) b s
inductive Path (W : Nat → List Nat) (H : Hd) : Nat → List Nat → Prop
  | last {s b} : b ∈ W s → H b < 0 → Path W H s [b]
  | step {s b r} : b ∈ W s → 0 ≤ H b → Path W H (H b).toNat r → Path W H s (b :: r)
structure WinP (W : Nat → List Nat) (l : List Nat) (st st' : Hd × Tb) (s : Nat) (k : Int) (p : List Nat) : Prop where
  path : Path W st.1 s p
  off : ∀ b ∈ p, b ∉ keysT st.2
  nd : p.Nodup
  len : k = p.length
  eq : st'.1 = shift st.1 s p

theorem loop_win {W : Nat → List Nat} (hW : ∀ s, ∀ b ∈ W s, Box b) {f s : Nat}
    (hr : ∀ st r k st', StOk st → r < 5 → 5 ≤ st.2.length + f → place W f st r = (some k, st') → ∃ p, WinP W (W r) st st' r k p) :
    ∀ (l : List Nat) (st st' : Hd × Tb) (k : Int), (∀ b ∈ l, b ∈ W s) → StOk st → 5 ≤ st.2.length + (f + 1) → loop (place W f) s l st = (some k, st') → ∃ p, WinP W l st st' s k p
  | [], st, st', k, _, _, _, h => by cases h
  | b :: rest, st, st', k, hl, hst, h5, h => by
    have hbW := hl b List.mem_cons_self
    have hbx := hW s b hbW
    unfold loop at h
    split at h
    · obtain ⟨p, P⟩ := loop_win hW hr rest st st' k (fun c hc => hl c (List.mem_cons_of_mem _ hc)) hst h5 h
      exact ⟨p, P.path, P.off, P.nd, P.len, P.eq⟩
    · rename_i hnin
      have hn' : st.2.lookup b = none := Option.not_isSome_iff_eq_none.mp hnin
      have hbk : b ∉ keysT st.2 := lookup_none_iff.mp hn'
      have hm := hst.more (v := st.1 b) hbx hn'
      split at h
      · rename_i h0
        have hlt : (st.1 b).toNat < 5 := by have := hst.hi b; omega
        have hpk := place_ok hW f (st.1, st.2 ++ [(b, st.1 b)]) (st.1 b).toNat hm hlt
        split at h
        · rename_i k' st₁ e
          obtain ⟨p, P⟩ := hr _ _ _ _ hm hlt (by simp; omega) e
          have hoff : ∀ c ∈ p, c ∉ keysT st.2 ∧ c ≠ b := fun c hc => by
            have := P.off c hc
            unfold keysT at this ⊢
            simp only [List.map_append, List.mem_append, List.map_cons, List.map_nil, List.mem_singleton, not_or] at this
            exact this
          simp only [Prod.mk.injEq, Option.some.injEq] at h
          obtain ⟨rfl, rfl⟩ := h
          refine ⟨b :: p, .step hbW h0 P.path, fun c hc => ?_, ?_, ?_, ?_⟩
          · rcases List.mem_cons.mp hc with rfl | hc
            · exact hbk
            · exact (hoff c hc).1
          · rw [List.nodup_cons]
            exact ⟨fun q => (hoff b q).2 rfl, P.nd⟩
          · rw [List.length_cons, P.len]; rfl
          · show setH st₁.1 b s = setH (shift st.1 (st.1 b) p) b s
            rw [P.eq]
            show setH (shift st.1 ((st.1 b).toNat : Int) p) b s = _
            rw [Int.toNat_of_nonneg h0]
        · rename_i st₁ e
          obtain ⟨n1, F1⟩ := place_fail hW f _ _ _ hm hlt (by simp; omega) e
          rw [e] at hpk
          have hgrow : st.2.length ≤ st₁.2.length := Nat.le_trans (by simp) hpk.2
          obtain ⟨p, P⟩ := loop_win hW hr rest st₁ st' k (fun c hc => hl c (List.mem_cons_of_mem _ hc)) hpk.1 (by omega) h
          have hs1 : st₁.1 = st.1 := F1.same
          have he1 : st₁.2 = st.2 ++ [(b, st.1 b)] ++ n1 := F1.ext
          refine ⟨p, by rw [← hs1]; exact P.path, fun c hc q => P.off c hc ?_, P.nd, P.len, by rw [← hs1]; exact P.eq⟩
          rw [he1]; unfold keysT at q ⊢
          rw [List.map_append, List.map_append]
          exact List.mem_append_left _ (List.mem_append_left _ q)
      · rename_i h0
        simp only [Prod.mk.injEq, Option.some.injEq] at h
        obtain ⟨rfl, rfl⟩ := h
        refine ⟨[b], .last hbW (by omega), fun c hc => ?_, by simp, rfl, rfl⟩
        rw [List.mem_singleton.mp hc]; exact hbk
theorem place_win {W : Nat → List Nat} (hW : ∀ s, ∀ b ∈ W s, Box b) : ∀ (f : Nat) (st st' : Hd × Tb) (s : Nat) (k : Int), StOk st → s < 5 → 5 ≤ st.2.length + f → place W f st s = (some k, st') → ∃ p, WinP W (W s) st st' s k p
  | 0, st, st', s, k, hst, _, h5, _ => absurd (Nat.le_trans h5 hst.small) (by decide)
  | f + 1, st, st', s, k, hst, hs, h5, h => loop_win hW (fun st r k st' h1 h2 h3 h4 => place_win hW f st st' r k h1 h2 h3 h4) (W s) st st' k (fun b hb => hb) hst h5 h

/-! what a chain of changes makes of the holders -/
theorem setH_at (H : Hd) (b : Nat) (s : Int) : setH H b s b = s := if_pos rfl
theorem setH_off (H : Hd) {b c : Nat} (s : Int) (h : c ≠ b) : setH H b s c = H c := if_neg h
theorem shift_cons {H : Hd} {s : Int} {b : Nat} {r : List Nat} : shift H s (b :: r) = setH (shift H (H b) r) b s := rfl
theorem shift_off {H : Hd} : ∀ {p : List Nat} {s : Int} {c : Nat}, c ∉ p → shift H s p c = H c
  | [], _, _, _ => rfl
  | b :: r, s, c, h => by
    simp only [List.mem_cons, not_or] at h
    rw [shift_cons, setH_off _ _ h.1, shift_off h.2]
/-- where a value comes from -/
theorem shift_from {H : Hd} : ∀ {p : List Nat} {s : Int} {c : Nat}, p.Nodup → shift H s p c = s ∨ ∃ d, (d = c ∨ d ∈ p) ∧ shift H s p c = H d
  | [], _, c, _ => .inr ⟨c, .inl rfl, rfl⟩
  | b :: r, s, c, h => by
    rw [List.nodup_cons] at h
    by_cases e : c = b
    · subst e; exact .inl (setH_at _ _ _)
    · rw [shift_cons, setH_off _ _ e]
      rcases @shift_from H r (H b) c h.2 with q | ⟨d, hd, q⟩
      · exact .inr ⟨b, .inr List.mem_cons_self, q⟩
      · exact .inr ⟨d, hd.imp id (List.mem_cons_of_mem _), q⟩
noncomputable def Inj (H : Hd) : Prop := ∀ b c, 0 ≤ H b → H b = H c → b = c
theorem shift_ne {W : Nat → List Nat} {H : Hd} (hi : Inj H) {p : List Nat} {s : Nat} (P : Path W H s p) : p.Nodup → (∀ c ∈ p, H c ≠ s) → ∀ c ∈ p, shift H s p c ≠ H c := by
  induction P with
  | @last s b _ _ =>
    intro _ hs c hc
    rw [List.mem_singleton] at hc; subst hc
    show setH H c s c ≠ _
    rw [setH_at]; exact fun e => hs c List.mem_cons_self e.symm
  | @step s b r hb h0 P ih =>
    intro hn hs c hc
    rw [List.nodup_cons] at hn
    by_cases e : c = b
    · subst e; rw [shift_cons, setH_at]; exact fun q => hs c List.mem_cons_self q.symm
    · have hc' : c ∈ r := (List.mem_cons.mp hc).resolve_left e
      rw [shift_cons, setH_off _ _ e]
      have := ih hn.2 (fun d hd q => hn.1 (by
        have : b = d := hi b d h0 (by rw [q, Int.toNat_of_nonneg h0])
        rw [this]; exact hd)) c hc'
      rwa [Int.toNat_of_nonneg h0] at this
theorem shift_head {W : Nat → List Nat} {H : Hd} {p : List Nat} {s : Nat} (P : Path W H s p) (t : Int) : ∃ c ∈ p, shift H t p c = t := by
  cases P with
  | last h1 h2 => exact ⟨_, List.mem_cons_self, setH_at _ _ _⟩
  | step h1 h2 h3 => exact ⟨_, List.mem_cons_self, setH_at _ _ _⟩
theorem shift_holds {W : Nat → List Nat} {H : Hd} {p : List Nat} {s : Nat} (P : Path W H s p) : p.Nodup → ∀ c, 0 ≤ H c → ∃ d, shift H s p d = H c := by
  induction P with
  | @last s b _ hn =>
    intro _ c h0
    refine ⟨c, ?_⟩
    have : c ≠ b := fun e => by rw [e] at h0; omega
    exact setH_off _ _ this
  | @step s b r hb hb0 P ih =>
    intro hn c h0
    rw [List.nodup_cons] at hn
    have key : ∃ d, d ≠ b ∧ shift H (H b) r d = H c := by
      by_cases e : c = b
      · subst e
        obtain ⟨d, hd, q⟩ := shift_head P (H c)
        exact ⟨d, fun e => hn.1 (e ▸ hd), q⟩
      · have ih := ih hn.2 c h0
        rw [Int.toNat_of_nonneg hb0] at ih
        obtain ⟨d, q⟩ := ih
        by_cases e2 : d = b
        · -- then H b itself stands there
          subst e2
          rw [shift_off hn.1] at q
          obtain ⟨d', hd', q'⟩ := shift_head P (H d)
          exact ⟨d', fun e => hn.1 (e ▸ hd'), q'.trans q⟩
        · exact ⟨d, e2, q⟩
    obtain ⟨d, hd, q⟩ := key
    exact ⟨d, by rw [shift_cons, setH_off _ _ hd]; exact q⟩
theorem shift_inj {H : Hd} (hi : Inj H) (X : Nat → Prop) {W : Nat → List Nat} {p : List Nat} {s : Nat} (X : Nat → Prop) (P : Path W H s p) : p.Nodup → (∀ c, ¬ X c → H c ≠ s) → (∀ c ∈ p, ¬ X c) → ∀ c d, ¬ X c → ¬ X d → 0 ≤ shift H s p c → shift H s p c = shift H s p d → c = d := by
  induction P generalizing X with
  | @last s b _ hn =>
    intro _ hs _ c d hc hd h0 e
    have e1 : ∀ c, shift H s [b] c = if c = b then (s : Int) else H c := fun c => rfl
    rw [e1, e1] at e; rw [e1] at h0
    by_cases h1 : c = b <;> by_cases h2 : d = b
    · rw [h1, h2]
    · rw [if_pos h1, if_neg h2] at e; exact absurd e.symm (hs d hd)
    · rw [if_neg h1, if_pos h2] at e; exact absurd e (hs c hc)
    · rw [if_neg h1, if_neg h2] at e; rw [if_neg h1] at h0; exact hi c d h0 e
  | @step s b r hb hb0 P ih =>
    intro hn hs hX c d hc hd h0 e
    rw [List.nodup_cons] at hn
    have hbX := hX b List.mem_cons_self
    have no : ∀ c, ¬ X c → shift H (H b) r c ≠ s := fun c hc q => by
      rcases @shift_from H r (H b) c hn.2 with q' | ⟨x, hx, q'⟩
      · exact hs b hbX (q'.symm.trans q)
      · refine hs x ?_ (q'.symm.trans q)
        rcases hx with rfl | hx
        · exact hc
        · exact hX x (List.mem_cons_of_mem _ hx)
    rw [shift_cons] at e h0
    by_cases h1 : c = b <;> by_cases h2 : d = b
    · rw [h1, h2]
    · rw [h1, setH_at, setH_off _ _ h2] at e; exact absurd e.symm (no d hd)
    · rw [h2, setH_at, setH_off _ _ h1] at e; exact absurd e (no c hc)
    · rw [setH_off _ _ h1, setH_off _ _ h2] at e
      rw [setH_off _ _ h1] at h0
      have ih := ih (fun x => x = b) hn.2 (fun x hx q => hx (hi b x hb0 (by rw [q, Int.toNat_of_nonneg hb0])).symm) (fun x hx e => hn.1 (e ▸ hx)) c d h1 h2
      rw [Int.toNat_of_nonneg hb0] at ih
      exact ih h0 e
theorem shift_inW {W : Nat → List Nat} {H : Hd} (hw : ∀ c, 0 ≤ H c → c ∈ W (H c).toNat) {p : List Nat} {s : Nat} (P : Path W H s p) : ∀ c, 0 ≤ shift H s p c → c ∈ W (shift H s p c).toNat := by
  induction P with
  | @last s b hb _ =>
    intro c h0
    by_cases h1 : c = b
    · subst h1; rw [shift_cons, setH_at]; exact hb
    · rw [shift_cons, setH_off _ _ h1] at h0 ⊢; exact hw c h0
  | @step s b r hb hb0 P ih =>
    intro c h0
    by_cases h1 : c = b
    · subst h1; rw [shift_cons, setH_at]; exact hb
    · rw [shift_cons, setH_off _ _ h1] at h0 ⊢
      have ih := ih c
      rw [Int.toNat_of_nonneg hb0] at ih
      exact ih h0
/-- a closed table is out of a success's way -/
theorem path_clear {W : Nat → List Nat} {H : Hd} {C : Nat → Prop} (h1 : ∀ b, C b → 0 ≤ H b) (h2 : ∀ b, C b → ∀ c ∈ W (H b).toNat, C c) {p : List Nat} {s : Nat} (P : Path W H s p) : (∃ b ∈ W s, ¬ C b) ∧ ∀ b ∈ p, ¬ C b := by
  induction P with
  | @last s b hb hn =>
    have : ¬ C b := fun q => by have := h1 b q; omega
    exact ⟨⟨b, hb, this⟩, fun c hc => by rw [List.mem_singleton.mp hc]; exact this⟩
  | @step s b r hb hb0 P ih =>
    obtain ⟨⟨c, hc, nc⟩, ih⟩ := ih
    have : ¬ C b := fun q => nc (h2 b q c hc)
    exact ⟨⟨b, hb, this⟩, fun d hd => by
      rcases List.mem_cons.mp hd with rfl | hd
      · exact this
      · exact ih d hd⟩
theorem path_box {W : Nat → List Nat} (hW : ∀ s, ∀ b ∈ W s, Box b) {H : Hd} {p : List Nat} {s : Nat} (P : Path W H s p) : ∀ b ∈ p, Box b := by
  induction P with
  | @last s b hb hn => exact fun c hc => by rw [List.mem_singleton.mp hc]; exact hW s b hb
  | @step s b r hb hb0 P ih =>
    intro c hc
    rcases List.mem_cons.mp hc with rfl | hc
    · exact hW s c hb
    · exact ih c hc
end Mine
namespace Mine
noncomputable def boxes : List Nat := [97, 98, 99, 100]
theorem mem_boxes {c : Nat} : c ∈ boxes ↔ Box c := by
  unfold boxes Box
  simp only [List.mem_cons, List.not_mem_nil, or_false]
  omega
noncomputable def hears (W : Nat → List Nat) (A : List Nat) : List Nat := boxes.filter fun c => A.any fun a => (W a).contains c
theorem mem_hears {W : Nat → List Nat} {A : List Nat} {c : Nat} : c ∈ hears W A ↔ Box c ∧ ∃ a ∈ A, c ∈ W a := by
  unfold hears
  rw [List.mem_filter, mem_boxes, List.any_eq_true]
  simp only [List.contains_iff_mem]
theorem hears_nodup (W : Nat → List Nat) (A : List Nat) : (hears W A).Nodup := List.Pairwise.filter _ (by decide : boxes.Nodup)
/-- each group within B would take boxes enough -/
noncomputable def HallB (W : Nat → List Nat) (B : Nat → Bool) : Prop := ∀ A : List Nat, A.Nodup → (∀ a ∈ A, B a = true) → A.length ≤ (hears W A).length

structure RefOk (W : Nat → List Nat) (H : Hd) (s : Nat) (T : Tb) : Prop where
  nd : (keysT T).Nodup
  bx : ∀ p ∈ T, Box p.1
  held : ∀ p ∈ T, p.2 = H p.1 ∧ 0 ≤ p.2
  own : ∀ b ∈ W s, b ∈ keysT T
  closed : ∀ p ∈ T, ∀ b ∈ W p.2.toNat, b ∈ keysT T
  asked : ∀ p ∈ T, p.1 ∈ W s ∨ ∃ q ∈ T, p.1 ∈ W q.2.toNat
  least : ∀ A : Nat → Prop, A s → (∀ q, A q → ∀ p ∈ T, p.1 ∈ W q → A p.2.toNat) → ∀ p ∈ T, A p.2.toNat

theorem keysT_mem {T : Tb} {b : Nat} : b ∈ keysT T ↔ ∃ p ∈ T, p.1 = b := by
  unfold keysT; rw [List.mem_map]

theorem RefOk.of_fail {W : Nat → List Nat} (hW : ∀ s, ∀ b ∈ W s, Box b) {H : Hd} {st' : Hd × Tb} {s : Nat} (ok : StOk (H, [])) (hs : s < 5) (h : place W 5 (H, []) s = (none, st')) : st'.1 = H ∧ RefOk W H s st'.2 := by
  obtain ⟨new, F⟩ := place_fail hW 5 (H, []) st' s ok hs (by simp) h
  have hok := (place_ok hW 5 (H, []) s ok hs).1
  rw [h] at hok
  have e : st'.2 = new := F.ext
  have hh : ∀ p ∈ st'.2, p.2 = H p.1 ∧ 0 ≤ p.2 := fun p hp => F.held p (e ▸ hp)
  have hcl : ∀ p ∈ st'.2, ∀ b ∈ W p.2.toNat, b ∈ keysT st'.2 := fun p hp => F.closed p (e ▸ hp)
  refine ⟨F.same, hok.nd, hok.bx, hh, F.all, hcl, fun p hp => ?_, fun A hA hc p hp => ?_⟩
  · rw [e] at hp ⊢; exact F.asked p hp
  · let A' : Nat → Prop := fun q => A q ∧ (q = s ∨ ∃ p ∈ st'.2, p.2.toNat = q)
    have key : ∀ q, A' q → ∀ b ∈ W q, 0 ≤ H b → A' (H b).toNat := fun q ⟨hq, hq'⟩ b hb h0 => by
      have hk : b ∈ keysT st'.2 := by
        rcases hq' with rfl | ⟨p, hp, rfl⟩
        · exact F.all b hb
        · exact hcl p hp b hb
      obtain ⟨p, hp, rfl⟩ := keysT_mem.mp hk
      rw [← (hh p hp).1]
      exact ⟨hc q hq p hp hb, .inr ⟨p, hp, rfl⟩⟩
    exact (F.least A' (fun b hb h0 => key s ⟨hA, .inl rfl⟩ b hb h0) key p (e ▸ hp)).1

structure RunInv (W : Nat → List Nat) (dn : List Nat) (H : Hd) (R : List (Nat × Tb)) : Prop where
  lo : ∀ c, -1 ≤ H c
  hi : ∀ c, H c ≤ 4
  bx : ∀ c, 0 ≤ H c → Box c
  inj : Inj H
  inW : ∀ c, 0 ≤ H c → c ∈ W (H c).toNat
  part : ∀ s : Nat, s ∈ dn ↔ ((∃ c, H c = s) ∨ s ∈ R.map (·.1))
  disj : ∀ s : Nat, s ∈ R.map (·.1) → ∀ c, H c ≠ (s : Int)
  rnd : (R.map (·.1)).Nodup
  refs : ∀ r ∈ R, RefOk W H r.1 r.2
  dom : ∀ pre suf, dn = pre ++ suf → ∀ B : Nat → Bool, HallB W B → (pre.filter B).length ≤ (pre.filter fun x => !(R.map (·.1)).contains x).length

theorem filter_split {α : Type} (p q : α → Bool) : ∀ l : List α, (l.filter p).length = (l.filter fun x => p x && q x).length + (l.filter fun x => p x && !q x).length
  | [] => rfl
  | x :: l => by
    have ih := filter_split p q l
    simp only [List.filter_cons]
    cases p x <;> cases q x <;> simp <;> omega
theorem filter_le {α : Type} {p q : α → Bool} : ∀ {l : List α}, (∀ x ∈ l, p x = true → q x = true) → (l.filter p).length ≤ (l.filter q).length
  | [], _ => Nat.le_refl _
  | x :: l, h => by
    have ih := filter_le (fun y hy => h y (List.mem_cons_of_mem _ hy))
    have hx := h x List.mem_cons_self
    simp only [List.filter_cons]
    cases hp : p x <;> cases hq : q x <;> simp
    · omega
    · omega
    · exact absurd (hx hp) (by rw [hq]; decide)
    · omega
theorem map_nodup {f : Nat → Nat} : ∀ {l : List Nat}, l.Nodup → (∀ x ∈ l, ∀ y ∈ l, f x = f y → x = y) → (l.map f).Nodup
  | [], _, _ => List.nodup_nil
  | x :: l, h, hi => by
    rw [List.nodup_cons] at h
    rw [List.map_cons, List.nodup_cons]
    refine ⟨fun q => ?_, map_nodup h.2 fun a ha b hb => hi a (List.mem_cons_of_mem _ ha) b (List.mem_cons_of_mem _ hb)⟩
    obtain ⟨y, hy, e⟩ := List.mem_map.mp q
    have := hi y (List.mem_cons_of_mem _ hy) x List.mem_cons_self e
    exact h.1 (this ▸ hy)
theorem inj_len {f : Nat → Nat} {l m : List Nat} (h : l.Nodup) (hi : ∀ x ∈ l, ∀ y ∈ l, f x = f y → x = y) (hm : ∀ x ∈ l, f x ∈ m) : l.length ≤ m.length := by
  have := nodup_len (l.map f) m (map_nodup h hi) fun y hy => by
    obtain ⟨x, hx, rfl⟩ := List.mem_map.mp hy
    exact hm x hx
  rwa [List.length_map] at this

/-- those whom refusals have met -/
noncomputable def meets (R : List (Nat × Tb)) (x : Nat) : Bool := R.any fun r => x == r.1 || r.2.any fun p => p.2.toNat == x
theorem meets_iff {R : List (Nat × Tb)} {x : Nat} : meets R x = true ↔ ∃ r ∈ R, x = r.1 ∨ ∃ p ∈ r.2, p.2.toNat = x := by
  unfold meets
  rw [List.any_eq_true]
  simp only [Bool.or_eq_true, List.any_eq_true, beq_iff_eq]
/-- whatever group is asked, it cannot have more than those who have been served -/
theorem dom_all {W : Nat → List Nat} {dn : List Nat} {H : Hd} {R : List (Nat × Tb)} (hn : dn.Nodup) (inj : Inj H) (part : ∀ s : Nat, s ∈ dn ↔ ((∃ c, H c = s) ∨ s ∈ R.map (·.1))) (disj : ∀ s : Nat, s ∈ R.map (·.1) → ∀ c, H c ≠ (s : Int)) (refs : ∀ r ∈ R, RefOk W H r.1 r.2)
    {B : Nat → Bool} (hB : HallB W B) : (dn.filter B).length ≤ (dn.filter fun x => !(R.map (·.1)).contains x).length := by
  rw [filter_split B (meets R), filter_split (fun x => !(R.map (·.1)).contains x) (meets R)]
  refine Nat.add_le_add ?_ ?_
  · have hA := hB (dn.filter fun x => B x && meets R x) (List.Pairwise.filter _ hn) fun a ha => by
      have := (List.mem_filter.mp ha).2
      rw [Bool.and_eq_true] at this
      exact this.1
    refine Nat.le_trans hA ?_
    have key : ∀ c ∈ hears W (dn.filter fun x => B x && meets R x), ∃ r ∈ R, ∃ p ∈ r.2, p.1 = c ∧ p.2 = H c ∧ 0 ≤ H c := fun c hc => by
      obtain ⟨hb, a, ha, hca⟩ := mem_hears.mp hc
      have := (List.mem_filter.mp ha).2
      rw [Bool.and_eq_true] at this
      obtain ⟨r, hr, q⟩ := meets_iff.mp this.2
      have ok := refs r hr
      have hk : c ∈ keysT r.2 := by
        rcases q with rfl | ⟨p, hp, rfl⟩
        · exact ok.own c hca
        · exact ok.closed p hp c hca
      obtain ⟨p, hp, e⟩ := keysT_mem.mp hk
      have hh := ok.held p hp
      rw [e] at hh
      exact ⟨r, hr, p, hp, e, hh.1, by rw [← hh.1]; exact hh.2⟩
    refine inj_len (f := fun c => (H c).toNat) (hears_nodup W _) (fun x hx y hy e => ?_) fun c hc => ?_
    · obtain ⟨_, _, _, _, _, _, h0⟩ := key x hx
      obtain ⟨_, _, _, _, _, _, h1⟩ := key y hy
      have e' : (H x).toNat = (H y).toNat := e
      exact inj x y h0 (by omega)
    · obtain ⟨r, hr, p, hp, e1, e2, h0⟩ := key c hc
      have hH : H c = ((H c).toNat : Int) := (Int.toNat_of_nonneg h0).symm
      refine List.mem_filter.mpr ⟨(part _).mpr (.inl ⟨c, hH⟩), ?_⟩
      rw [Bool.and_eq_true]
      refine ⟨?_, meets_iff.mpr ⟨r, hr, .inr ⟨p, hp, by rw [e2]⟩⟩⟩
      cases q : (R.map (·.1)).contains (H c).toNat with
      | false => rfl
      | true => exact absurd hH (disj _ (List.contains_iff_mem.mp q) c)
  · refine filter_le fun x hx h => ?_
    rw [Bool.and_eq_true] at h ⊢
    refine ⟨?_, h.2⟩
    cases q : (R.map (·.1)).contains x with
    | false => rfl
    | true =>
      obtain ⟨r, hr, e⟩ := List.mem_map.mp (List.contains_iff_mem.mp q)
      have : meets R x = true := meets_iff.mpr ⟨r, hr, .inl e.symm⟩
      rw [this] at h
      cases h.2
end Mine
namespace Mine
theorem RefOk.keep {W : Nat → List Nat} {H H' : Hd} {s : Nat} {T : Tb} (h : RefOk W H s T) (k : ∀ b ∈ keysT T, H' b = H b) : RefOk W H' s T :=
  ⟨h.nd, h.bx, fun p hp => by rw [k p.1 (keysT_mem.mpr ⟨p, hp, rfl⟩)]; exact h.held p hp, h.own, h.closed, h.asked, h.least⟩
theorem not_contains {l : List Nat} {x : Nat} (h : x ∉ l) : l.contains x = false := by
  cases q : l.contains x with
  | false => rfl
  | true => exact absurd (List.contains_iff_mem.mp q) h
theorem RunInv.new {W : Nat → List Nat} {dn : List Nat} {H H' : Hd} {R R' : List (Nat × Tb)} {s : Nat} (I : RunInv W dn H R) (hn : (dn ++ [s]).Nodup)
    (lo : ∀ c, -1 ≤ H' c) (hi : ∀ c, H' c ≤ 4) (bx : ∀ c, 0 ≤ H' c → Box c) (inj : Inj H') (inW : ∀ c, 0 ≤ H' c → c ∈ W (H' c).toNat) (part : ∀ t : Nat, t ∈ dn ++ [s] ↔ ((∃ c, H' c = t) ∨ t ∈ R'.map (·.1))) (disj : ∀ s : Nat, s ∈ R'.map (·.1) → ∀ c, H' c ≠ (s : Int)) (rnd : (R'.map (·.1)).Nodup) (refs : ∀ r ∈ R', RefOk W H' r.1 r.2)
    (hR : ∀ x ∈ dn, (R'.map (·.1)).contains x = (R.map (·.1)).contains x) : RunInv W (dn ++ [s]) H' R' := by
  refine ⟨lo, hi, bx, inj, inW, part, disj, rnd, refs, fun pre suf e B hB => ?_⟩
  have hd : pre.Nodup := (List.nodup_append.mp (e ▸ hn)).1
  rcases List.eq_nil_or_concat suf with rfl | ⟨suf', x, rfl⟩
  · rw [List.append_nil] at e
    rw [← e]
    exact dom_all hn inj part disj refs hB
  · have e' : dn ++ [s] = (pre ++ suf') ++ [x] := by rw [List.concat_eq_append] at e; simpa using e
    have e2 : dn = pre ++ suf' := (List.append_inj' e' rfl).1
    have := I.dom pre suf' e2 B hB
    refine Nat.le_trans this (filter_le fun y hy h => ?_)
    rw [hR y (by rw [e2]; exact List.mem_append_left _ hy)]
    exact h

theorem diffs_len {H : Hd} {H' : Hd} {p : List Nat} (hn : p.Nodup) (hb : ∀ b ∈ p, Box b) (h1 : ∀ c ∈ p, H' c ≠ H c) (h2 : ∀ c, c ∉ p → H' c = H c) : (diffs H H').length = p.length := by
  have hd : (diffs H H').Nodup := List.Pairwise.filter _ (by decide)
  refine Nat.le_antisymm (nodup_len _ _ hd fun c hc => ?_) (nodup_len _ _ hn fun c hc => ?_)
  · have := (List.mem_filter.mp hc).2
    refine Decidable.byContradiction fun q => ?_
    rw [h2 c q] at this
    simp at this
  · refine List.mem_filter.mpr ⟨mem_boxes.mpr (hb c hc), ?_⟩
    have := h1 c hc
    simpa using fun e => this e.symm

theorem step_win {W : Nat → List Nat} (hW : ∀ s, ∀ b ∈ W s, Box b) {dn : List Nat} {H : Hd} {R : List (Nat × Tb)} {s : Nat} {k : Int} {st' : Hd × Tb} (I : RunInv W dn H R) (hn : (dn ++ [s]).Nodup) (hs : s < 5) (h : place W 5 (H, []) s = (some k, st')) :
    RunInv W (dn ++ [s]) st'.1 R ∧ k = (diffs H st'.1).length := by
  have ok : StOk (H, []) := ⟨by simp, fun p hp => by simp at hp, I.lo, I.hi⟩
  have hok := (place_ok hW 5 (H, []) s ok hs).1
  rw [h] at hok
  obtain ⟨p, P⟩ := place_win hW 5 (H, []) st' s k ok hs (by simp) h
  have hsd : s ∉ dn := fun q => (List.nodup_append.mp hn).2.2 s q s (by simp) rfl
  have hs1 : ∀ c, H c ≠ s := fun c e => hsd ((I.part s).mpr (.inl ⟨c, e⟩))
  have hs2 : s ∉ R.map (·.1) := fun q => hsd ((I.part s).mpr (.inr q))
  have hbox := path_box hW P.path
  have e := P.eq
  have eoff : ∀ c, c ∉ p → st'.1 c = H c := fun c hc => by rw [e]; exact shift_off hc
  have hne := shift_ne I.inj P.path P.nd (fun c _ => hs1 c)
  rw [← show st'.1 = shift H s p from e] at hne
  refine ⟨I.new hn hok.lo hok.hi (fun c h0 => ?_) (fun c d h0 ee => ?_) (fun c h0 => ?_) (fun t => ?_) (fun t ht c ee => ?_) I.rnd (fun r hr => ?_) (fun _ _ => rfl), ?_⟩
  · by_cases q : c ∈ p
    · exact hbox c q
    · rw [eoff c q] at h0; exact I.bx c h0
  · rw [e] at h0 ee
    exact shift_inj I.inj (fun _ => False) (fun _ => False) P.path P.nd (fun c _ => hs1 c) (fun _ _ q => q) c d (fun q => q) (fun q => q) h0 ee
  · rw [e] at h0 ⊢
    exact shift_inW I.inW P.path c h0
  · rw [List.mem_append, List.mem_singleton, I.part t]
    constructor
    · rintro ((⟨c, ec⟩ | q) | rfl)
      · obtain ⟨d, hd⟩ := shift_holds P.path P.nd c (by show 0 ≤ H c; have : (0 : Int) ≤ t := Int.natCast_nonneg t; omega)
        exact .inl ⟨d, by rw [e]; exact hd.trans ec⟩
      · exact .inr q
      · obtain ⟨c, _, hc⟩ := shift_head P.path (t : Int)
        exact .inl ⟨c, by rw [e]; exact hc⟩
    · rintro (⟨c, ec⟩ | q)
      · rw [e] at ec
        rcases @shift_from H p s c P.nd with q | ⟨d, _, q⟩
        · exact .inr (by have := q.symm.trans ec; omega)
        · exact .inl (.inl ⟨d, q.symm.trans ec⟩)
      · exact .inl (.inr q)
  · rw [e] at ee
    rcases @shift_from H p s c P.nd with q | ⟨d, _, q⟩
    · have : (s : Int) = t := q.symm.trans ee
      have : s = t := by omega
      exact hs2 (this ▸ ht)
    · exact I.disj t ht d (q.symm.trans ee)
  · refine (I.refs r hr).keep fun b hb => eoff b fun hbp => ?_
    have ok := I.refs r hr
    refine (path_clear (C := fun b => b ∈ keysT r.2) (fun b hb => ?_) (fun b hb c hc => ?_) P.path).2 b hbp hb
    · obtain ⟨p, hp, rfl⟩ := keysT_mem.mp hb
      have := ok.held p hp
      show 0 ≤ H p.1
      rw [← this.1]; exact this.2
    · obtain ⟨p, hp, rfl⟩ := keysT_mem.mp hb
      have := ok.held p hp
      exact ok.closed p hp c (by rw [this.1]; exact hc)
  · rw [P.len, diffs_len P.nd hbox hne eoff]

theorem step_fail {W : Nat → List Nat} (hW : ∀ s, ∀ b ∈ W s, Box b) {dn : List Nat} {H : Hd} {R : List (Nat × Tb)} {s : Nat} {st' : Hd × Tb} (I : RunInv W dn H R) (hn : (dn ++ [s]).Nodup) (hs : s < 5) (h : place W 5 (H, []) s = (none, st')) :
    RunInv W (dn ++ [s]) st'.1 (R ++ [(s, st'.2)]) ∧ (diffs H st'.1).length = 0 := by
  have ok : StOk (H, []) := ⟨by simp, fun p hp => by simp at hp, I.lo, I.hi⟩
  obtain ⟨e, F⟩ := RefOk.of_fail hW ok hs h
  have hsd : s ∉ dn := fun q => (List.nodup_append.mp hn).2.2 s q s (by simp) rfl
  have hs1 : ∀ c, H c ≠ s := fun c e => hsd ((I.part s).mpr (.inl ⟨c, e⟩))
  have hs2 : s ∉ R.map (·.1) := fun q => hsd ((I.part s).mpr (.inr q))
  rw [e]
  refine ⟨I.new hn I.lo I.hi I.bx I.inj I.inW (fun t => ?_) (fun t ht c => ?_) ?_ (fun r hr => ?_) (fun x hx => ?_), ?_⟩
  · rw [List.mem_append, List.mem_singleton, I.part t, List.map_append, List.mem_append]
    simp only [List.map_cons, List.map_nil, List.mem_singleton]
    exact or_assoc
  · rw [List.map_append, List.mem_append] at ht
    rcases ht with ht | ht
    · exact I.disj t ht c
    · simp only [List.map_cons, List.map_nil, List.mem_singleton] at ht
      subst ht; exact hs1 c
  · rw [List.map_append, List.nodup_append]
    refine ⟨I.rnd, by simp, fun a ha b hb q => ?_⟩
    simp only [List.map_cons, List.map_nil, List.mem_singleton] at hb
    subst hb; subst q; exact hs2 ha
  · rcases List.mem_append.mp hr with hr | hr
    · exact I.refs r hr
    · rw [List.mem_singleton.mp hr]; exact F
  · rw [List.map_append, Bool.eq_iff_iff, List.contains_iff_mem, List.contains_iff_mem, List.mem_append]
    simp only [List.map_cons, List.map_nil, List.mem_singleton]
    exact ⟨fun q => q.resolve_right fun q => hsd (q ▸ hx), .inl⟩
  · unfold diffs
    simp
theorem run_inv {W : Nat → List Nat} (hW : ∀ s, ∀ b ∈ W s, Box b) : ∀ (rest dn : List Nat) (H : Hd) (R : List (Nat × Tb)) {H' : Hd} {R' : List (Nat × Tb)} {fair' : Bool}, RunInv W dn H R → (dn ++ rest).Nodup → (∀ s ∈ rest, s < 5) → runL W rest H R true = (H', R', fair') → RunInv W (dn ++ rest) H' R' ∧ fair' = true
  | [], dn, H, R, H', R', fair', I, _, _, h => by
    rw [runL] at h
    cases h
    rw [List.append_nil]; exact ⟨I, rfl⟩
  | s :: rest, dn, H, R, H', R', fair', I, hn, hs, h => by
    have hn' : (dn ++ [s] ++ rest).Nodup := by rw [List.append_assoc]; exact hn
    have hn1 : (dn ++ [s]).Nodup := (List.nodup_append.mp hn').1
    rw [runL] at h
    have fin : ∀ {H₁ R₁}, RunInv W (dn ++ [s]) H₁ R₁ → runL W rest H₁ R₁ true = (H', R', fair') → RunInv W (dn ++ s :: rest) H' R' ∧ fair' = true := fun I₁ h₁ => by
      have := run_inv hW rest (dn ++ [s]) _ _ I₁ hn' (fun x hx => hs x (List.mem_cons_of_mem _ hx)) h₁
      rwa [List.append_assoc] at this
    split at h
    · rename_i k st' e
      obtain ⟨I₁, hk⟩ := step_win hW I hn1 (hs s List.mem_cons_self) e
      refine fin I₁ ?_
      rw [hk] at h
      simpa using h
    · rename_i st' e
      obtain ⟨I₁, hk⟩ := step_fail hW I hn1 (hs s List.mem_cons_self) e
      refine fin I₁ ?_
      rw [hk] at h
      simpa using h
theorem run_start (W : Nat → List Nat) : RunInv W [] (fun _ => -1) [] := by
  refine ⟨fun _ => Int.le_refl _, fun _ => (by decide : (-1 : Int) ≤ 4), fun c h => absurd h (by decide), fun b c h => absurd h (by decide), fun c h => absurd h (by decide), fun s => ?_, fun s h => (nomatch h), List.nodup_nil, fun r h => (nomatch h), fun pre suf e B hB => ?_⟩
  · constructor
    · intro h; cases h
    · rintro (⟨c, h⟩ | h)
      · exact absurd h (by omega)
      · cases h
  · have := List.append_eq_nil_iff.mp e.symm
    rw [this.1]; exact Nat.le_refl _
end Mine
namespace Mine
/-! groups as numbers -/
noncomputable def five : List Nat := [0, 1, 2, 3, 4]
noncomputable def bit (k o : Nat) : Bool := k / 2 ^ o % 2 == 1
noncomputable def gr (k : Nat) : List Nat := five.filter (bit k)
noncomputable def mk (A : Nat → Bool) : Nat := (if A 0 = true then 1 else 0) + ((if A 1 = true then 2 else 0) + ((if A 2 = true then 4 else 0) + ((if A 3 = true then 8 else 0) + (if A 4 = true then 16 else 0))))
noncomputable def sub (j k : Nat) : Bool := five.all fun o => !bit j o || bit k o
theorem mem_five {x : Nat} : x ∈ five ↔ x < 5 := by
  unfold five
  simp only [List.mem_cons, List.not_mem_nil, or_false]
  omega
theorem five_nodup : five.Nodup := by decide
theorem lt5 {x : Nat} (h : x < 5) : x = 0 ∨ x = 1 ∨ x = 2 ∨ x = 3 ∨ x = 4 := by omega
theorem bit_mk (A : Nat → Bool) {x : Nat} (h : x < 5) : bit (mk A) x = A x := by
  rcases lt5 h with rfl | rfl | rfl | rfl | rfl <;> unfold mk <;> generalize A 0 = a0 <;> generalize A 1 = a1 <;> generalize A 2 = a2 <;> generalize A 3 = a3 <;> generalize A 4 = a4 <;> revert a0 a1 a2 a3 a4 <;> decide
theorem mk_lt (A : Nat → Bool) : mk A < 32 := by
  have key : ∀ a b c d e : Bool, (if a = true then 1 else 0) + ((if b = true then 2 else 0) + ((if c = true then 4 else 0) + ((if d = true then 8 else 0) + (if e = true then 16 else 0)))) < 32 := by decide
  exact key (A 0) (A 1) (A 2) (A 3) (A 4)
theorem gr_mk (A : Nat → Bool) : gr (mk A) = five.filter A := List.filter_congr fun x hx => bit_mk A (mem_five.mp hx)
theorem gr_nodup (k : Nat) : (gr k).Nodup := List.Pairwise.filter _ five_nodup
theorem mem_gr {k x : Nat} : x ∈ gr k ↔ x < 5 ∧ bit k x = true := by
  unfold gr; rw [List.mem_filter, mem_five]
theorem sub_iff {j k : Nat} : sub j k = true ↔ ∀ x < 5, bit j x = true → bit k x = true := by
  unfold sub
  rw [List.all_eq_true]
  refine forall_congr' fun x => ?_
  rw [mem_five]
  cases bit j x <;> simp
noncomputable def mk5 (a b c d e : Bool) : Nat := (if a = true then 1 else 0) + ((if b = true then 2 else 0) + ((if c = true then 4 else 0) + ((if d = true then 8 else 0) + (if e = true then 16 else 0))))
theorem mk_less {A : Nat → Bool} {o : Nat} (h : o < 5) (ho : A o = true) : mk A - 2 ^ o = mk fun x => A x && x != o := by
  rcases lt5 h with rfl | rfl | rfl | rfl | rfl
  · have key : ∀ a0 a1 a2 a3 a4 : Bool, a0 = true → mk5 a0 a1 a2 a3 a4 - 2 ^ 0 = mk5 (a0 && (0:Nat) != (0:Nat)) (a1 && (1:Nat) != (0:Nat)) (a2 && (2:Nat) != (0:Nat)) (a3 && (3:Nat) != (0:Nat)) (a4 && (4:Nat) != (0:Nat)) := by decide
    exact key (A 0) (A 1) (A 2) (A 3) (A 4) ho
  · have key : ∀ a0 a1 a2 a3 a4 : Bool, a1 = true → mk5 a0 a1 a2 a3 a4 - 2 ^ 1 = mk5 (a0 && (0:Nat) != (1:Nat)) (a1 && (1:Nat) != (1:Nat)) (a2 && (2:Nat) != (1:Nat)) (a3 && (3:Nat) != (1:Nat)) (a4 && (4:Nat) != (1:Nat)) := by decide
    exact key (A 0) (A 1) (A 2) (A 3) (A 4) ho
  · have key : ∀ a0 a1 a2 a3 a4 : Bool, a2 = true → mk5 a0 a1 a2 a3 a4 - 2 ^ 2 = mk5 (a0 && (0:Nat) != (2:Nat)) (a1 && (1:Nat) != (2:Nat)) (a2 && (2:Nat) != (2:Nat)) (a3 && (3:Nat) != (2:Nat)) (a4 && (4:Nat) != (2:Nat)) := by decide
    exact key (A 0) (A 1) (A 2) (A 3) (A 4) ho
  · have key : ∀ a0 a1 a2 a3 a4 : Bool, a3 = true → mk5 a0 a1 a2 a3 a4 - 2 ^ 3 = mk5 (a0 && (0:Nat) != (3:Nat)) (a1 && (1:Nat) != (3:Nat)) (a2 && (2:Nat) != (3:Nat)) (a3 && (3:Nat) != (3:Nat)) (a4 && (4:Nat) != (3:Nat)) := by decide
    exact key (A 0) (A 1) (A 2) (A 3) (A 4) ho
  · have key : ∀ a0 a1 a2 a3 a4 : Bool, a4 = true → mk5 a0 a1 a2 a3 a4 - 2 ^ 4 = mk5 (a0 && (0:Nat) != (4:Nat)) (a1 && (1:Nat) != (4:Nat)) (a2 && (2:Nat) != (4:Nat)) (a3 && (3:Nat) != (4:Nat)) (a4 && (4:Nat) != (4:Nat)) := by decide
    exact key (A 0) (A 1) (A 2) (A 3) (A 4) ho
theorem mk_more {A : Nat → Bool} {o : Nat} (h : o < 5) (ho : A o = false) : mk A + 2 ^ o = mk fun x => A x || x == o := by
  rcases lt5 h with rfl | rfl | rfl | rfl | rfl
  · have key : ∀ a0 a1 a2 a3 a4 : Bool, a0 = false → mk5 a0 a1 a2 a3 a4 + 2 ^ 0 = mk5 (a0 || (0:Nat) == (0:Nat)) (a1 || (1:Nat) == (0:Nat)) (a2 || (2:Nat) == (0:Nat)) (a3 || (3:Nat) == (0:Nat)) (a4 || (4:Nat) == (0:Nat)) := by decide
    exact key (A 0) (A 1) (A 2) (A 3) (A 4) ho
  · have key : ∀ a0 a1 a2 a3 a4 : Bool, a1 = false → mk5 a0 a1 a2 a3 a4 + 2 ^ 1 = mk5 (a0 || (0:Nat) == (1:Nat)) (a1 || (1:Nat) == (1:Nat)) (a2 || (2:Nat) == (1:Nat)) (a3 || (3:Nat) == (1:Nat)) (a4 || (4:Nat) == (1:Nat)) := by decide
    exact key (A 0) (A 1) (A 2) (A 3) (A 4) ho
  · have key : ∀ a0 a1 a2 a3 a4 : Bool, a2 = false → mk5 a0 a1 a2 a3 a4 + 2 ^ 2 = mk5 (a0 || (0:Nat) == (2:Nat)) (a1 || (1:Nat) == (2:Nat)) (a2 || (2:Nat) == (2:Nat)) (a3 || (3:Nat) == (2:Nat)) (a4 || (4:Nat) == (2:Nat)) := by decide
    exact key (A 0) (A 1) (A 2) (A 3) (A 4) ho
  · have key : ∀ a0 a1 a2 a3 a4 : Bool, a3 = false → mk5 a0 a1 a2 a3 a4 + 2 ^ 3 = mk5 (a0 || (0:Nat) == (3:Nat)) (a1 || (1:Nat) == (3:Nat)) (a2 || (2:Nat) == (3:Nat)) (a3 || (3:Nat) == (3:Nat)) (a4 || (4:Nat) == (3:Nat)) := by decide
    exact key (A 0) (A 1) (A 2) (A 3) (A 4) ho
  · have key : ∀ a0 a1 a2 a3 a4 : Bool, a4 = false → mk5 a0 a1 a2 a3 a4 + 2 ^ 4 = mk5 (a0 || (0:Nat) == (4:Nat)) (a1 || (1:Nat) == (4:Nat)) (a2 || (2:Nat) == (4:Nat)) (a3 || (3:Nat) == (4:Nat)) (a4 || (4:Nat) == (4:Nat)) := by decide
    exact key (A 0) (A 1) (A 2) (A 3) (A 4) ho
theorem pow_filter (A : Nat → Bool) : ((five.filter A).map (2 ^ ·)).sum = mk A := by
  unfold five mk
  simp only [List.filter_cons, List.filter_nil]
  generalize A 0 = a0; generalize A 1 = a1; generalize A 2 = a2; generalize A 3 = a3; generalize A 4 = a4
  revert a0 a1 a2 a3 a4
  decide
theorem perm_five {l : List Nat} (hn : l.Nodup) (h5 : ∀ x ∈ l, x < 5) : l.Perm (five.filter l.contains) := by
  rw [List.perm_ext_iff_of_nodup hn (List.Pairwise.filter _ five_nodup)]
  intro a
  rw [List.mem_filter, mem_five, List.contains_iff_mem]
  exact ⟨fun h => ⟨h5 a h, h⟩, fun h => h.2⟩
theorem pow_sum {l : List Nat} (hn : l.Nodup) (h5 : ∀ x ∈ l, x < 5) : (l.map (2 ^ ·)).sum = mk l.contains := by
  rw [← pow_filter]
  exact ((perm_five hn h5).map _).sum_nat

/-! what a group would take -/
theorem fold_mod (r q m k : Int) (h : m ≠ 0) : (r + 2 * (k * q) * m) / m % 2 = r / m % 2 := by
  rw [Int.add_mul_ediv_right _ _ h, Int.add_mul_emod_self_left]
theorem takes_mod (d : Int) {c : Nat} (h : Box c) : takes (d.fmod 16) c = takes d c := by
  have e : d.fmod 16 + 16 * (d / 16) = d := by rw [Int.fmod_eq_emod_of_nonneg d (by decide)]; exact Int.emod_add_mul_ediv d 16
  generalize d.fmod 16 = r at *
  generalize d / 16 = q at *
  subst e
  have key : ∀ m k : Int, 0 < m → 2 * k * m = 16 → ((r.fdiv m).fmod 2 == 1) = (((r + 16 * q).fdiv m).fmod 2 == 1) := fun m k hm hk => by
    rw [Int.fdiv_eq_ediv_of_nonneg _ (Int.le_of_lt hm), Int.fdiv_eq_ediv_of_nonneg _ (Int.le_of_lt hm), Int.fmod_eq_emod_of_nonneg _ (by decide), Int.fmod_eq_emod_of_nonneg _ (by decide), ← fold_mod r q m k (Int.ne_of_gt hm), ← hk, Int.mul_assoc 2 k m, Int.mul_assoc 2 (k * m) q, Int.mul_assoc 2 (k * q) m, Int.mul_assoc k m q, Int.mul_assoc k q m, Int.mul_comm m q]
  unfold Box at h
  have : c = 97 ∨ c = 98 ∨ c = 99 ∨ c = 100 := by omega
  unfold takes
  rcases this with rfl | rfl | rfl | rfl
  · exact key 1 8 (by decide) (by decide)
  · exact key 2 4 (by decide) (by decide)
  · exact key 4 2 (by decide) (by decide)
  · exact key 8 1 (by decide) (by decide)
open PySem in
theorem takes_or {a b : Nat} (ha : a < 16) (hb : b < 16) {c : Nat} (h : Box c) : takes (Builtin.bitOr (a : Int) (b : Int)) c = (takes a c || takes b c) := by
  have : ∀ a : Nat, a < 16 → ∀ b : Nat, b < 16 → takes (Builtin.bitOr (a : Int) (b : Int)) 97 = (takes a 97 || takes b 97) ∧ takes (Builtin.bitOr (a : Int) (b : Int)) 98 = (takes a 98 || takes b 98) ∧ takes (Builtin.bitOr (a : Int) (b : Int)) 99 = (takes a 99 || takes b 99) ∧ takes (Builtin.bitOr (a : Int) (b : Int)) 100 = (takes a 100 || takes b 100) := by decide +kernel
  obtain ⟨h1, h2, h3, h4⟩ := this a ha b hb
  unfold Box at h
  have : c = 97 ∨ c = 98 ∨ c = 99 ∨ c = 100 := by omega
  rcases this with rfl | rfl | rfl | rfl <;> assumption
open PySem in
theorem or_lt {a b : Nat} (ha : a < 16) (hb : b < 16) : ∃ n : Nat, n < 16 ∧ Builtin.bitOr (a : Int) (b : Int) = (n : Int) := by
  have : ∀ a : Nat, a < 16 → ∀ b : Nat, b < 16 → ∃ n : Nat, n < 16 ∧ Builtin.bitOr (a : Int) (b : Int) = (n : Int) := by decide +kernel
  exact this a ha b hb
theorem boxes_fold (ds : List Int) {c : Nat} (h : Box c) : ∀ (g : List Nat) (b : Nat), b < 16 → takes (g.foldl (fun b o => PySem.Builtin.bitOr b ((ds.getD o 0).fmod 16)) (b : Int)) c = (takes b c || g.any fun o => takes (ds.getD o 0) c)
  | [], b, _ => by simp
  | o :: g, b, hb => by
    have h0 : 0 ≤ (ds.getD o 0).fmod 16 := Int.fmod_nonneg_of_pos _ (by decide)
    have h1 : (ds.getD o 0).fmod 16 < 16 := Int.fmod_lt_of_pos _ (by decide)
    obtain ⟨m, hm⟩ := Int.eq_ofNat_of_zero_le h0
    have hm' : m < 16 := by omega
    obtain ⟨n, hn, e⟩ := or_lt hb hm'
    rw [List.foldl_cons, hm, e, boxes_fold ds h g n hn, ← e, takes_or hb hm' h, List.any_cons, ← hm, takes_mod _ h, Bool.or_assoc]
theorem takes_zero {c : Nat} (h : Box c) : takes 0 c = false := by
  unfold Box at h
  have : c = 97 ∨ c = 98 ∨ c = 99 ∨ c = 100 := by omega
  rcases this with rfl | rfl | rfl | rfl <;> decide +kernel
theorem reach_hears {ds : List Int} {W : Nat → List Nat} (hW : ∀ s < 5, ∀ c, c ∈ W s ↔ Box c ∧ takes (ds.getD s 0) c = true) {g : List Nat} (h5 : ∀ x ∈ g, x < 5) : reachC ds g = hears W g := by
  refine List.filter_congr fun c hc => ?_
  have hb := mem_boxes.mp hc
  unfold boxesOf
  have := boxes_fold ds hb g 0 (by decide)
  rw [show ((0 : Nat) : Int) = 0 from rfl, takes_zero hb, Bool.false_or] at this
  rw [this, Bool.eq_iff_iff, List.any_eq_true, List.any_eq_true]
  refine exists_congr fun x => and_congr_right fun hx => ?_
  rw [List.contains_iff_mem, hW x (h5 x hx)]
  exact ⟨fun q => ⟨hb, q⟩, fun q => q.2⟩

/-! Hall's condition, by the table of the fitting groups -/
noncomputable def gs : List (List Nat) := (List.range 32).map gr
noncomputable def rsOf (ds : List Int) : List (List Nat) := (List.range 32).map fun k => reachC ds (gr k)
theorem gs_at {k : Nat} (h : k < 32) : gs.getD k [] = gr k := by
  unfold gs
  rw [List.getD_eq_getElem?_getD, List.getElem?_map, List.getElem?_range h]; rfl
theorem rs_at {ds : List Int} {k : Nat} (h : k < 32) : (rsOf ds).getD k [] = reachC ds (gr k) := by
  unfold rsOf
  rw [List.getD_eq_getElem?_getD, List.getElem?_map, List.getElem?_range h]; rfl
noncomputable abbrev HallM (ds : List Int) (k : Nat) : Prop := ∀ j < 32, sub j k = true → (gr j).length ≤ (reachC ds (gr j)).length
theorem sub_down : ∀ n < 32, ∀ j < 32, sub j n = true ↔ (j = n ∨ ∃ o ∈ gr n, sub j (n - 2 ^ o) = true) := by decide +kernel
theorem gr_down : ∀ n < 32, ∀ o ∈ gr n, 2 ^ o ≤ n ∧ 0 < 2 ^ o := by decide +kernel
theorem fitsL_succ (G R : List (List Nat)) (n : Nat) : fitsL G R (n + 1) = fitStep G R (fitsL G R n) n := by
  unfold fitsL
  rw [List.range_succ, List.foldl_append]; rfl
theorem fits_is (ds : List Int) : ∀ n, n ≤ 32 → (fitsL gs (rsOf ds) n).length = n ∧ ∀ k < n, (fitsL gs (rsOf ds) n).getD k false = decide (HallM ds k)
  | 0, _ => ⟨rfl, fun k h => absurd h (Nat.not_lt_zero k)⟩
  | n + 1, h => by
    obtain ⟨hl, ih⟩ := fits_is ds n (by omega)
    rw [fitsL_succ]
    unfold fitStep
    refine ⟨by rw [List.length_append, hl]; rfl, fun k hk => ?_⟩
    rw [List.getD_eq_getElem?_getD]
    by_cases e : k < n
    · rw [List.getElem?_append_left (by rw [hl]; exact e), ← List.getD_eq_getElem?_getD]
      exact ih k e
    · have e : k = n := by omega
      subst e
      rw [List.getElem?_append_right (by rw [hl]; exact Nat.le_refl _), hl, Nat.sub_self, gs_at (by omega), rs_at (by omega)]
      show (decide _ && decide _) = _
      rw [Bool.eq_iff_iff, Bool.and_eq_true, decide_eq_true_iff, decide_eq_true_iff, decide_eq_true_iff, List.filter_eq_nil_iff]
      constructor
      · rintro ⟨h1, h2⟩ j hj hs
        rcases (sub_down k (by omega) j hj).mp hs with rfl | ⟨o, ho, hs'⟩
        · exact h2
        · have hd := gr_down k (by omega) o ho
          have := h1 o ho
          rw [ih (k - 2 ^ o) (by omega)] at this
          simp only [Bool.not_eq_true', decide_eq_false_iff_not, Decidable.not_not] at this
          exact this j hj hs'
      · intro hh
        refine ⟨fun o ho => ?_, hh k (by omega) ((sub_down k (by omega) k (by omega)).mpr (.inl rfl))⟩
        have hd := gr_down k (by omega) o ho
        rw [ih (k - 2 ^ o) (by omega)]
        simp only [Bool.not_eq_true', decide_eq_false_iff_not, Decidable.not_not]
        exact fun j hj hs => hh j hj ((sub_down k (by omega) j hj).mpr (.inr ⟨o, ho, hs⟩))
theorem hall_iff {ds : List Int} {W : Nat → List Nat} (hW : ∀ s < 5, ∀ c, c ∈ W s ↔ Box c ∧ takes (ds.getD s 0) c = true) {k : Nat} (hk : k < 32) : HallM ds k ↔ HallB W (gr k).contains := by
  constructor
  · intro h A hn hA
    have h5 : ∀ a ∈ A, a < 5 := fun a ha => (mem_gr.mp (List.contains_iff_mem.mp (hA a ha))).1
    have hs : sub (mk A.contains) k = true := sub_iff.mpr fun x hx hb => by
      rw [bit_mk _ hx] at hb
      exact (mem_gr.mp (List.contains_iff_mem.mp (hA x (List.contains_iff_mem.mp hb)))).2
    have := h _ (mk_lt _) hs
    have hp := perm_five hn h5
    rw [gr_mk, ← hp.length_eq, reach_hears hW (fun x hx => mem_five.mp (List.mem_filter.mp hx).1)] at this
    refine Nat.le_trans this (nodup_len _ _ (hears_nodup _ _) fun c hc => ?_)
    rw [mem_hears] at hc ⊢
    exact ⟨hc.1, hc.2.imp fun a ha => ⟨hp.mem_iff.mpr ha.1, ha.2⟩⟩
  · intro h j hj hs
    have := h (gr j) (gr_nodup j) fun a ha => List.contains_iff_mem.mpr (mem_gr.mpr ⟨(mem_gr.mp ha).1, sub_iff.mp hs a (mem_gr.mp ha).1 (mem_gr.mp ha).2⟩)
    rwa [← reach_hears hW fun x hx => (mem_gr.mp hx).1] at this
end Mine
namespace Mine
noncomputable def worth (ds : List Int) (s : Nat) : Int := (ds.getD s 0).fdiv 64 - 3
noncomputable def served (H : Hd) : List Nat := (boxes.filter fun c => decide (0 ≤ H c)).map fun c => (H c).toNat
structure Setup (ds : List Int) (W : Nat → List Nat) (order : List Nat) (H : Hd) (R : List (Nat × Tb)) : Prop where
  hW : ∀ s < 5, ∀ c, c ∈ W s ↔ Box c ∧ takes (ds.getD s 0) c = true
  I : RunInv W order H R
  perm : order.Perm five
  desc : order.Pairwise fun a b => worth ds b ≤ worth ds a

theorem perm_sum {l m : List Int} (h : l.Perm m) : l.sum = m.sum := by
  induction h with
  | nil => rfl
  | cons x _ ih => rw [List.sum_cons, List.sum_cons, ih]
  | swap x y l => simp only [List.sum_cons]; omega
  | trans _ _ h1 h2 => exact h1.trans h2

theorem split_len (p : Nat → Bool) : ∀ l : List Nat, (l.filter p).length + (l.filter fun x => !p x).length = l.length
  | [] => rfl
  | x :: l => by
    have ih := split_len p l
    simp only [List.filter_cons]
    cases p x <;> simp <;> omega
theorem low_bound (w : Nat → Int) : ∀ l : List Nat, ∃ m, ∀ x ∈ l, m ≤ w x
  | [] => ⟨0, fun _ h => nomatch h⟩
  | x :: l => by
    obtain ⟨m, h⟩ := low_bound w l
    refine ⟨min m (w x), fun y hy => ?_⟩
    rcases List.mem_cons.mp hy with rfl | hy
    · exact Int.min_le_right _ _
    · exact Int.le_trans (Int.min_le_left _ _) (h y hy)

section
variable {ds : List Int} {W : Nat → List Nat} {order : List Nat} {H : Hd} {R : List (Nat × Tb)}
theorem mem_served (S : Setup ds W order H R) {x : Nat} : x ∈ served H ↔ ∃ c, H c = (x : Int) := by
  unfold served
  rw [List.mem_map]
  constructor
  · rintro ⟨c, hc, rfl⟩
    have := (List.mem_filter.mp hc).2
    exact ⟨c, (Int.toNat_of_nonneg (of_decide_eq_true this)).symm⟩
  · rintro ⟨c, hc⟩
    have h0 : 0 ≤ H c := by rw [hc]; exact Int.natCast_nonneg x
    exact ⟨c, List.mem_filter.mpr ⟨mem_boxes.mpr (S.I.bx c h0), decide_eq_true h0⟩, by rw [hc]; rfl⟩
theorem served_nodup (S : Setup ds W order H R) : (served H).Nodup := by
  refine map_nodup (List.Pairwise.filter _ (by decide)) fun x hx y hy e => ?_
  have h1 : 0 ≤ H x := of_decide_eq_true (List.mem_filter.mp hx).2
  have h2 : 0 ≤ H y := of_decide_eq_true (List.mem_filter.mp hy).2
  exact S.I.inj x y h1 (by omega)
theorem all_parts (S : Setup ds W order H R) {x : Nat} : x < 5 ↔ (x ∈ served H ∨ x ∈ R.map (·.1)) := by
  rw [← mem_five, ← S.perm.mem_iff, S.I.part x, mem_served S]
theorem not_both (S : Setup ds W order H R) {x : Nat} (h : x ∈ served H) : x ∉ R.map (·.1) := fun q => by
  obtain ⟨c, hc⟩ := (mem_served S).mp h
  exact S.I.disj x q c hc
theorem served_lt (S : Setup ds W order H R) {x : Nat} (h : x ∈ served H) : x < 5 := (all_parts S).mpr (.inl h)
theorem parts_perm (S : Setup ds W order H R) : (served H ++ R.map (·.1)).Perm five := by
  rw [List.perm_ext_iff_of_nodup (List.nodup_append.mpr ⟨served_nodup S, S.I.rnd, fun a ha b hb e => not_both S ha (e ▸ hb)⟩) five_nodup]
  intro a
  rw [List.mem_append, ← all_parts S, mem_five]
theorem served_hall (S : Setup ds W order H R) {A : List Nat} (hn : A.Nodup) (hA : ∀ a ∈ A, a ∈ served H) : A.length ≤ (hears W A).length := by
  have := nodup_len A ((hears W A).map fun c => (H c).toNat) hn fun a ha => by
    obtain ⟨c, hc⟩ := (mem_served S).mp (hA a ha)
    have h0 : 0 ≤ H c := by rw [hc]; exact Int.natCast_nonneg a
    have e : (H c).toNat = a := by rw [hc]; rfl
    refine List.mem_map.mpr ⟨c, mem_hears.mpr ⟨S.I.bx c h0, a, ha, ?_⟩, e⟩
    have := S.I.inW c h0
    rwa [e] at this
  rwa [List.length_map] at this
theorem hears_sub {A B : List Nat} (h : ∀ a ∈ A, a ∈ B) : (hears W A).length ≤ (hears W B).length :=
  nodup_len _ _ (hears_nodup _ _) fun c hc => by
    rw [mem_hears] at hc ⊢
    exact ⟨hc.1, hc.2.imp fun a ha => ⟨h a ha.1, ha.2⟩⟩
theorem reach_gr (S : Setup ds W order H R) (k : Nat) : reachC ds (gr k) = hears W (gr k) := reach_hears S.hW fun x hx => (mem_gr.mp hx).1
theorem five_split (p : Nat → Bool) : (five.filter p).length + (five.filter fun x => !p x).length = 5 := split_len p five
/-! no group tells less -/
theorem count_le (S : Setup ds W order H R) (k : Nat) : (served H).length + (gr k).length ≤ 5 + (reachC ds (gr k)).length := by
  rw [reach_gr S]
  have h1 := split_len (gr k).contains (served H)
  have h2 := served_hall S (A := (served H).filter (gr k).contains) (List.Pairwise.filter _ (served_nodup S)) fun a ha => (List.mem_filter.mp ha).1
  have h3 := hears_sub (W := W) (A := (served H).filter (gr k).contains) (B := gr k) fun a ha => List.contains_iff_mem.mp (List.mem_filter.mp ha).2
  have h4 := nodup_len ((served H).filter fun x => !(gr k).contains x) (five.filter fun x => !(gr k).contains x) (List.Pairwise.filter _ (served_nodup S)) fun a ha => by
    rw [List.mem_filter] at ha ⊢
    exact ⟨mem_five.mpr (served_lt S ha.1), ha.2⟩
  have h5 := five_split (gr k).contains
  have h6 := (perm_five (gr_nodup k) fun x hx => (mem_gr.mp hx).1).length_eq
  omega
theorem met_holder (S : Setup ds W order H R) {a c : Nat} (ha : meets R a = true) (hc : c ∈ W a) : 0 ≤ H c ∧ meets R (H c).toNat = true ∧ (H c).toNat ∈ served H := by
  obtain ⟨r, hr, q⟩ := meets_iff.mp ha
  have ok := S.I.refs r hr
  have hk : c ∈ keysT r.2 := by
    rcases q with rfl | ⟨p, hp, rfl⟩
    · exact ok.own c hc
    · exact ok.closed p hp c hc
  obtain ⟨p, hp, e⟩ := keysT_mem.mp hk
  have hh := ok.held p hp
  rw [e] at hh
  have h0 : 0 ≤ H c := by rw [← hh.1]; exact hh.2
  exact ⟨h0, meets_iff.mpr ⟨r, hr, .inr ⟨p, hp, by rw [hh.1]⟩⟩, (mem_served S).mpr ⟨c, (Int.toNat_of_nonneg h0).symm⟩⟩
theorem count_some (S : Setup ds W order H R) : ∃ k < 32, (served H).length + (gr k).length = 5 + (reachC ds (gr k)).length := by
  refine ⟨mk (meets R), mk_lt _, Nat.le_antisymm (count_le S _) ?_⟩
  rw [reach_gr S, gr_mk]
  have h1 := split_len (meets R) (served H)
  have h2 : (hears W (five.filter (meets R))).length ≤ ((served H).filter (meets R)).length := by
    have key : ∀ c ∈ hears W (five.filter (meets R)), 0 ≤ H c ∧ meets R (H c).toNat = true ∧ (H c).toNat ∈ served H := fun c hc => by
      obtain ⟨hb, a, ha, hca⟩ := mem_hears.mp hc
      exact met_holder S (List.mem_filter.mp ha).2 hca
    refine inj_len (f := fun c => (H c).toNat) (hears_nodup W _) (fun x hx y hy e => ?_) fun c hc => ?_
    · have h0 := (key x hx).1
      have h1 := (key y hy).1
      have e' : (H x).toNat = (H y).toNat := e
      exact S.I.inj x y h0 (by omega)
    · exact List.mem_filter.mpr ⟨(key c hc).2.2, (key c hc).2.1⟩
  have h3 := nodup_len (five.filter fun x => !meets R x) ((served H).filter fun x => !meets R x) (List.Pairwise.filter _ five_nodup) fun a ha => by
    rw [List.mem_filter] at ha ⊢
    refine ⟨?_, ha.2⟩
    rcases (all_parts S).mp (mem_five.mp ha.1) with q | q
    · exact q
    · obtain ⟨r, hr, e⟩ := List.mem_map.mp q
      have : meets R a = true := meets_iff.mpr ⟨r, hr, .inl e.symm⟩
      rw [this] at ha; cases ha.2
  have h4 := five_split (meets R)
  omega

/-! worth -/
theorem dom_sum (w : Nat → Int) (f g : Nat → Bool) : ∀ (n : Nat) (l : List Nat) (m : Int), l.length = n → l.Pairwise (fun a b => w b ≤ w a) → (∀ x ∈ l, m ≤ w x) → (∀ pre suf, l = pre ++ suf → (pre.filter g).length ≤ (pre.filter f).length) →
    ((l.filter g).map w).sum + (((l.filter f).length : Int) - (l.filter g).length) * m ≤ ((l.filter f).map w).sum
  | 0, l, m, hl, _, _, _ => by
    have := List.length_eq_zero_iff.mp hl
    subst this
    simp
  | n + 1, l, m, hl, hd, hm, hp => by
    obtain ⟨l', x, rfl⟩ : ∃ l' x, l = l' ++ [x] := by
      rcases List.eq_nil_or_concat l with rfl | ⟨l', x, e⟩
      · cases hl
      · exact ⟨l', x, by rw [e, List.concat_eq_append]⟩
    have hl' : l'.length = n := by simpa using hl
    have hpw := List.pairwise_append.mp hd
    have ih := dom_sum w f g n l' (w x) hl' hpw.1 (fun y hy => hpw.2.2 y hy x (by simp)) fun pre suf e => hp pre (suf ++ [x]) (by rw [e, List.append_assoc])
    have hw := hm x (by simp)
    have hall := hp (l' ++ [x]) [] (by simp)
    have hd' := hp l' [x] rfl
    have key : ∀ (a b : Int), 0 ≤ a → b ≤ w x → a * b ≤ a * w x := fun a b ha hb => Int.mul_le_mul_of_nonneg_left hb ha
    simp only [List.filter_append, List.map_append, List.sum_append, List.length_append] at hall ⊢
    cases hf : f x <;> cases hg : g x <;> simp [List.filter_cons, hf, hg] at hall ⊢
    · have := key ((l'.filter f).length - (l'.filter g).length : Int) m (by omega) hw
      omega
    · have := key ((l'.filter f).length - ((l'.filter g).length + 1) : Int) m (by omega) hw
      have e : ((l'.filter f).length - (l'.filter g).length : Int) * w x = ((l'.filter f).length - ((l'.filter g).length + 1) : Int) * w x + w x := by
        rw [show ((l'.filter f).length - (l'.filter g).length : Int) = ((l'.filter f).length - ((l'.filter g).length + 1) : Int) + 1 by omega, Int.add_mul, Int.one_mul]
      omega
    · have := key ((l'.filter f).length + 1 - (l'.filter g).length : Int) m (by omega) hw
      have e : ((l'.filter f).length + 1 - (l'.filter g).length : Int) * w x = ((l'.filter f).length - (l'.filter g).length : Int) * w x + w x := by
        rw [show ((l'.filter f).length + 1 - (l'.filter g).length : Int) = ((l'.filter f).length - (l'.filter g).length : Int) + 1 by omega, Int.add_mul, Int.one_mul]
      omega
    · have := key ((l'.filter f).length - (l'.filter g).length : Int) m (by omega) hw
      rw [show ((l'.filter f).length + 1 - ((l'.filter g).length + 1) : Int) = ((l'.filter f).length - (l'.filter g).length : Int) by omega]
      omega
theorem served_order (S : Setup ds W order H R) : (served H).Perm (order.filter fun x => !(R.map (·.1)).contains x) := by
  have hno : order.Nodup := S.perm.nodup_iff.mpr five_nodup
  rw [List.perm_ext_iff_of_nodup (served_nodup S) (List.Pairwise.filter _ hno)]
  intro a
  rw [List.mem_filter, S.perm.mem_iff, mem_five]
  constructor
  · intro h
    exact ⟨served_lt S h, by rw [not_contains (not_both S h)]; rfl⟩
  · rintro ⟨h1, h2⟩
    rcases (all_parts S).mp h1 with q | q
    · exact q
    · rw [List.contains_iff_mem.mpr q] at h2; cases h2
theorem gr_order (S : Setup ds W order H R) (k : Nat) : (gr k).Perm (order.filter (gr k).contains) :=
  (perm_five (gr_nodup k) fun x hx => (mem_gr.mp hx).1).trans (S.perm.symm.filter _)
theorem worth_le (S : Setup ds W order H R) {k : Nat} (hk : k < 32) (hf : HallM ds k) (hl : (gr k).length = (served H).length) : ((gr k).map (worth ds)).sum ≤ ((served H).map (worth ds)).sum := by
  have hB := (hall_iff S.hW hk).mp hf
  have hno : order.Nodup := S.perm.nodup_iff.mpr five_nodup
  obtain ⟨m, hm⟩ := low_bound (worth ds) order
  have := dom_sum (worth ds) (fun x => !(R.map (·.1)).contains x) (gr k).contains order.length order m rfl S.desc hm fun pre suf e => S.I.dom pre suf e _ hB
  · rw [perm_sum ((gr_order S k).map _), perm_sum ((served_order S).map _)]
    have e1 := (gr_order S k).length_eq
    have e2 := (served_order S).length_eq
    have e3 : ((order.filter fun x => !(R.map (·.1)).contains x).length : Int) - (order.filter (gr k).contains).length = 0 := by omega
    rw [e3, Int.zero_mul, Int.add_zero] at this
    exact this
/-- those served are a group that fits -/
theorem served_fits (S : Setup ds W order H R) : HallM ds (mk (served H).contains) ∧ (gr (mk (served H).contains)).Perm (served H) := by
  have hp : (gr (mk (served H).contains)).Perm (served H) := by
    rw [gr_mk]
    exact (perm_five (served_nodup S) fun x hx => served_lt S hx).symm
  refine ⟨(hall_iff S.hW (mk_lt _)).mpr fun A hn hA => served_hall S hn fun a ha => ?_, hp⟩
  exact hp.mem_iff.mp (List.contains_iff_mem.mp (hA a ha))
end
end Mine
namespace Mine
noncomputable def inRing (r : Nat × Tb) (x : Nat) : Bool := x == r.1 || r.2.any fun p => p.2.toNat == x
theorem inRing_iff {r : Nat × Tb} {x : Nat} : inRing r x = true ↔ x = r.1 ∨ ∃ p ∈ r.2, p.2.toNat = x := by
  unfold inRing
  rw [Bool.or_eq_true, List.any_eq_true, beq_iff_eq]
  simp only [beq_iff_eq]
section
variable {ds : List Int} {W : Nat → List Nat} {order : List Nat} {H : Hd} {R : List (Nat × Tb)} {r : Nat × Tb}
noncomputable def vals (T : Tb) : List Nat := T.map fun p => p.2.toNat
theorem val_served (S : Setup ds W order H R) (hr : r ∈ R) {p : Nat × Int} (hp : p ∈ r.2) : p.2.toNat ∈ served H := by
  have hh := (S.I.refs r hr).held p hp
  exact (mem_served S).mpr ⟨p.1, by rw [← hh.1]; exact (Int.toNat_of_nonneg hh.2).symm⟩
theorem vals_nodup (S : Setup ds W order H R) (hr : r ∈ R) : (vals r.2).Nodup := by
  have ok := S.I.refs r hr
  have hn := ok.nd
  have key : ∀ p ∈ r.2, ∀ q ∈ r.2, p.2.toNat = q.2.toNat → p.1 = q.1 := fun p hp q hq e => by
    have h1 := ok.held p hp
    have h2 := ok.held q hq
    exact S.I.inj p.1 q.1 (by rw [← h1.1]; exact h1.2) (by rw [← h1.1, ← h2.1]; omega)
  have gen : ∀ T : Tb, (keysT T).Nodup → (∀ p ∈ T, ∀ q ∈ T, p.2.toNat = q.2.toNat → p.1 = q.1) → (vals T).Nodup := by
    intro T
    induction T with
    | nil => intro _ _; exact List.nodup_nil
    | cons a T ih =>
      intro hn hk
      unfold keysT at hn ih
      unfold vals at ih ⊢
      rw [List.map_cons, List.nodup_cons] at hn ⊢
      refine ⟨fun q => ?_, ih hn.2 fun p hp q hq => hk p (List.mem_cons_of_mem _ hp) q (List.mem_cons_of_mem _ hq)⟩
      obtain ⟨p, hp, e⟩ := List.mem_map.mp q
      exact hn.1 (List.mem_map.mpr ⟨p, hp, hk p (List.mem_cons_of_mem _ hp) a List.mem_cons_self e⟩)
  exact gen r.2 hn key
theorem ring_perm (S : Setup ds W order H R) (hr : r ∈ R) : (vals r.2 ++ [r.1]).Perm (five.filter (inRing r)) := by
  have hs : r.1 ∈ R.map (·.1) := List.mem_map.mpr ⟨r, hr, rfl⟩
  rw [List.perm_ext_iff_of_nodup (List.nodup_append.mpr ⟨vals_nodup S hr, by simp, fun a ha b hb e => ?_⟩) (List.Pairwise.filter _ five_nodup)]
  · intro a
    rw [List.mem_append, List.mem_singleton, List.mem_filter, mem_five, inRing_iff]
    constructor
    · rintro (h | rfl)
      · obtain ⟨p, hp, rfl⟩ := List.mem_map.mp h
        exact ⟨served_lt S (val_served S hr hp), .inr ⟨p, hp, rfl⟩⟩
      · exact ⟨(all_parts S).mpr (.inr hs), .inl rfl⟩
    · rintro ⟨_, rfl | ⟨p, hp, rfl⟩⟩
      · exact .inr rfl
      · exact .inl (List.mem_map.mpr ⟨p, hp, rfl⟩)
  · rw [List.mem_singleton] at hb
    subst hb; subst e
    obtain ⟨p, hp, e⟩ := List.mem_map.mp ha
    exact not_both S (e ▸ val_served S hr hp) hs
/-- what the ring would take is the table's boxes -/
theorem ring_boxes (S : Setup ds W order H R) (hr : r ∈ R) {A : List Nat} (hA : ∀ x, x ∈ A ↔ (x < 5 ∧ inRing r x = true)) : hears W A = boxes.filter fun c => (keysT r.2).contains c := by
  have ok := S.I.refs r hr
  have hs : r.1 ∈ R.map (·.1) := List.mem_map.mpr ⟨r, hr, rfl⟩
  refine List.filter_congr fun c hc => ?_
  rw [Bool.eq_iff_iff, List.contains_iff_mem, List.any_eq_true]
  simp only [List.contains_iff_mem]
  constructor
  · rintro ⟨a, ha, hca⟩
    rcases inRing_iff.mp ((hA a).mp ha).2 with rfl | ⟨p, hp, rfl⟩
    · exact ok.own c hca
    · exact ok.closed p hp c hca
  · intro h
    obtain ⟨p, hp, rfl⟩ := keysT_mem.mp h
    rcases ok.asked p hp with q | ⟨q, hq, hq'⟩
    · exact ⟨r.1, (hA _).mpr ⟨(all_parts S).mpr (.inr hs), inRing_iff.mpr (.inl rfl)⟩, q⟩
    · exact ⟨q.2.toNat, (hA _).mpr ⟨served_lt S (val_served S hr hq), inRing_iff.mpr (.inr ⟨q, hq, rfl⟩)⟩, hq'⟩
theorem keys_perm (S : Setup ds W order H R) (hr : r ∈ R) : (keysT r.2).Perm (boxes.filter fun c => (keysT r.2).contains c) := by
  have ok := S.I.refs r hr
  rw [List.perm_ext_iff_of_nodup ok.nd (List.Pairwise.filter _ (by decide : boxes.Nodup))]
  intro a
  rw [List.mem_filter, List.contains_iff_mem]
  refine ⟨fun h => ⟨?_, h⟩, fun h => h.2⟩
  obtain ⟨p, hp, rfl⟩ := keysT_mem.mp h
  exact mem_boxes.mpr (ok.bx p hp)
/-- who else could have been left out -/
theorem ring_hall (S : Setup ds W order H R) (hr : r ∈ R) {o : Nat} (ho : o ∈ served H ∨ o = r.1) :
    HallB W (fun x => ((served H).contains x || x == r.1) && x != o) ↔ inRing r o = true := by
  have ok := S.I.refs r hr
  have hs : r.1 ∈ R.map (·.1) := List.mem_map.mpr ⟨r, hr, rfl⟩
  have hp := ring_perm S hr
  have hlen : (five.filter (inRing r)).length = r.2.length + 1 := by
    rw [← hp.length_eq, List.length_append]
    unfold vals
    rw [List.length_map]; rfl
  constructor
  · intro h
    cases q : inRing r o with
    | true => rfl
    | false =>
      exfalso
      have hA := h (five.filter (inRing r)) (List.Pairwise.filter _ five_nodup) fun a ha => by
        have ha2 := (List.mem_filter.mp ha).2
        have hne : a ≠ o := fun e => by rw [e, q] at ha2; cases ha2
        rw [Bool.and_eq_true, Bool.or_eq_true]
        refine ⟨?_, by simpa using hne⟩
        rcases inRing_iff.mp ha2 with rfl | ⟨p, hp, rfl⟩
        · exact .inr (beq_self_eq_true _)
        · exact .inl (List.contains_iff_mem.mpr (val_served S hr hp))
      rw [ring_boxes S hr (A := five.filter (inRing r)) (fun x => by rw [List.mem_filter, mem_five]), ← (keys_perm S hr).length_eq, hlen] at hA
      unfold keysT at hA
      rw [List.length_map] at hA
      omega
  · intro h A hn hA
    have hA' : ∀ a ∈ A, (a ∈ served H ∨ a = r.1) ∧ a ≠ o := fun a ha => by
      have := hA a ha
      rw [Bool.and_eq_true, Bool.or_eq_true, List.contains_iff_mem, beq_iff_eq, bne_iff_ne] at this
      exact this
    by_cases hsA : r.1 ∈ A
    · refine Decidable.byContradiction fun hlt => ?_
      have hlt : (hears W A).length < A.length := Nat.lt_of_not_le hlt
      have hne : (A.erase r.1).Nodup := hn.erase _
      have hel : (A.erase r.1).length = A.length - 1 := List.length_erase_of_mem hsA
      have hmem : ∀ a ∈ A.erase r.1, a ∈ A ∧ a ∈ served H := fun a ha => by
        have := (hn.mem_erase_iff).mp ha
        exact ⟨this.2, (hA' a this.2).1.resolve_right this.1⟩
      let M := (hears W A).filter fun c => decide (0 ≤ H c) && (A.erase r.1).contains (H c).toNat
      have hM : (A.erase r.1).length ≤ M.length := by
        have := nodup_len (A.erase r.1) (M.map fun c => (H c).toNat) hne fun a ha => by
          obtain ⟨haA, has⟩ := hmem a ha
          obtain ⟨c, hc⟩ := (mem_served S).mp has
          have h0 : 0 ≤ H c := by rw [hc]; exact Int.natCast_nonneg a
          have e : (H c).toNat = a := by rw [hc]; rfl
          have hw := S.I.inW c h0
          rw [e] at hw
          refine List.mem_map.mpr ⟨c, List.mem_filter.mpr ⟨mem_hears.mpr ⟨S.I.bx c h0, a, haA, hw⟩, ?_⟩, e⟩
          rw [Bool.and_eq_true, e]
          exact ⟨decide_eq_true h0, List.contains_iff_mem.mpr ha⟩
        rwa [List.length_map] at this
      have hM2 : M.length ≤ (hears W A).length := List.length_filter_le _ _
      have hMe : M.length = (hears W A).length := by omega
      have hall := List.length_filter_eq_length_iff.mp hMe
      have key : ∀ q, q ∈ A → ∀ p ∈ r.2, p.1 ∈ W q → p.2.toNat ∈ A := fun q hq p hp hpq => by
        have := hall p.1 (mem_hears.mpr ⟨ok.bx p hp, q, hq, hpq⟩)
        rw [Bool.and_eq_true, List.contains_iff_mem] at this
        have h2 := (hmem _ this.2).1
        rw [(ok.held p hp).1]; exact h2
      have hl := ok.least (fun x => x ∈ A) hsA key
      rcases inRing_iff.mp h with rfl | ⟨p, hp, rfl⟩
      · exact (hA' _ hsA).2 rfl
      · exact (hA' _ (hl p hp)).2 rfl
    · exact served_hall S hn fun a ha => (hA' a ha).1.resolve_right fun e => hsA (e ▸ ha)

noncomputable def wholeOf (H : Hd) (s : Nat) : Nat := ((served H).map (2 ^ ·)).sum + 2 ^ s
noncomputable def ringOf (ds : List Int) (H : Hd) (s : Nat) : List Nat := (gr (wholeOf H s)).filter fun o => decide (HallM ds (wholeOf H s - 2 ^ o))
theorem whole_is (S : Setup ds W order H R) (hr : r ∈ R) : wholeOf H r.1 = mk fun x => (served H).contains x || x == r.1 := by
  have hs : r.1 ∈ R.map (·.1) := List.mem_map.mpr ⟨r, hr, rfl⟩
  unfold wholeOf
  rw [pow_sum (served_nodup S) fun x hx => served_lt S hx]
  exact mk_more ((all_parts S).mpr (.inr hs)) (not_contains fun q => not_both S q hs)
theorem whole_lt (S : Setup ds W order H R) (hr : r ∈ R) : wholeOf H r.1 < 32 := by rw [whole_is S hr]; exact mk_lt _
theorem HallB.congr {W : Nat → List Nat} {B C : Nat → Bool} (h : ∀ x, C x = true → B x = true) (hB : HallB W B) : HallB W C := fun A hn hA => hB A hn fun a ha => h a (hA a ha)
theorem ring_is (S : Setup ds W order H R) (hr : r ∈ R) : ringOf ds H r.1 = five.filter (inRing r) := by
  have hs : r.1 ∈ R.map (·.1) := List.mem_map.mpr ⟨r, hr, rfl⟩
  have hs5 : r.1 < 5 := (all_parts S).mpr (.inr hs)
  unfold ringOf
  rw [whole_is S hr, gr_mk, List.filter_filter]
  refine List.filter_congr fun o ho => ?_
  have ho5 := mem_five.mp ho
  cases hq : ((served H).contains o || o == r.1) with
  | false =>
    rw [Bool.and_false]
    cases q : inRing r o with
    | false => rfl
    | true =>
      exfalso
      rw [Bool.or_eq_false_iff] at hq
      rcases inRing_iff.mp q with rfl | ⟨p, hp, rfl⟩
      · rw [beq_self_eq_true] at hq; cases hq.2
      · rw [List.contains_iff_mem.mpr (val_served S hr hp)] at hq; cases hq.1
  | true =>
    rw [Bool.and_true, mk_less ho5 hq, Bool.eq_iff_iff, decide_eq_true_iff, hall_iff S.hW (mk_lt _), gr_mk]
    have ho' : o ∈ served H ∨ o = r.1 := by
      rw [Bool.or_eq_true, List.contains_iff_mem, beq_iff_eq] at hq
      exact hq
    rw [← ring_hall S hr ho']
    constructor
    · refine HallB.congr fun x hx => ?_
      rw [List.contains_iff_mem, List.mem_filter, mem_five]
      refine ⟨?_, hx⟩
      rw [Bool.and_eq_true, Bool.or_eq_true, List.contains_iff_mem, beq_iff_eq] at hx
      rcases hx.1 with q | rfl
      · exact served_lt S q
      · exact hs5
    · refine HallB.congr fun x hx => ?_
      exact (List.mem_filter.mp (List.contains_iff_mem.mp hx)).2
/-- the ring's number tells its boxes -/
theorem ring_reach (S : Setup ds W order H R) (hr : r ∈ R) : ((ringOf ds H r.1).map (2 ^ ·)).sum < 32 ∧ reachC ds (gr ((ringOf ds H r.1).map (2 ^ ·)).sum) = boxes.filter (fun c => (keysT r.2).contains c) ∧ r.2.length + 1 = (ringOf ds H r.1).length := by
  rw [ring_is S hr, pow_filter, gr_mk]
  refine ⟨mk_lt _, ?_, ?_⟩
  · rw [reach_hears S.hW fun x hx => mem_five.mp (List.mem_filter.mp hx).1]
    exact ring_boxes S hr fun x => by rw [List.mem_filter, mem_five]
  · rw [← (ring_perm S hr).length_eq, List.length_append]
    unfold vals
    rw [List.length_map]; rfl
end
end Mine
namespace Mine
/-! the order in which the senders come -/
noncomputable def ordLe (ds : List Int) (i j : Nat) : Bool := decide (worth ds j < worth ds i) || (decide (worth ds j = worth ds i) && decide (i ≤ j))
noncomputable def orderOf (ds : List Int) : List Nat := (List.range 5).mergeSort (ordLe ds)
noncomputable def keyOf (ds : List Int) (i : Nat) : Int × Int := (-(worth ds i), (i : Int))
theorem order_perm (ds : List Int) : (orderOf ds).Perm (List.range 5) := List.mergeSort_perm _ _
theorem order_pw (ds : List Int) : (orderOf ds).Pairwise fun i j => ordLe ds i j = true := by
  refine List.pairwise_mergeSort (fun a b c h1 h2 => ?_) (fun a b => ?_) _
  · simp only [ordLe, Bool.or_eq_true, Bool.and_eq_true, decide_eq_true_eq] at *
    omega
  · simp only [ordLe, Bool.or_eq_true, Bool.and_eq_true, decide_eq_true_eq]
    omega
theorem order_desc (ds : List Int) : (orderOf ds).Pairwise fun a b => worth ds b ≤ worth ds a := (order_pw ds).imp fun {a b} h => by
  simp only [ordLe, Bool.or_eq_true, Bool.and_eq_true, decide_eq_true_eq] at h
  omega
theorem order_lex (ds : List Int) : ((orderOf ds).map (keyOf ds)).Pairwise fun x y => lexB x y = true ∧ lexB y x = false := by
  rw [List.pairwise_map]
  have hn : (orderOf ds).Nodup := (order_perm ds).nodup_iff.mpr List.nodup_range
  refine List.Pairwise.imp ?_ (List.Pairwise.and hn (order_pw ds))
  rintro a b ⟨hne, h⟩
  simp only [ordLe, Bool.or_eq_true, Bool.and_eq_true, decide_eq_true_eq] at h
  unfold lexB keyOf
  dsimp only
  by_cases e : worth ds b = worth ds a
  · have e' : (-worth ds a == -worth ds b) = true := by rw [e]; exact beq_self_eq_true _
    have e'' : (-worth ds b == -worth ds a) = true := by rw [e]; exact beq_self_eq_true _
    rw [e', e'', if_pos rfl, if_pos rfl]
    simp only [decide_eq_true_eq, decide_eq_false_iff_not]
    omega
  · have e' : (-worth ds a == -worth ds b) = false := by
      rw [beq_eq_false_iff_ne]; omega
    have e'' : (-worth ds b == -worth ds a) = false := by
      rw [beq_eq_false_iff_ne]; omega
    rw [e', e'']
    simp only [Bool.false_eq_true, if_false, decide_eq_true_eq, decide_eq_false_iff_not]
    omega
theorem key_inj (ds : List Int) : ∀ i < 5, ∀ j < 5, keyOf ds i = keyOf ds j → i = j := fun i _ j _ h => by
  have := congrArg Prod.snd h
  have this : (i : Int) = (j : Int) := this
  omega
theorem order_five (ds : List Int) : (orderOf ds).Perm five := order_perm ds
end Mine
section
open PySem PySem.W PyProof.Rows
namespace Mine
set_option maxRecDepth 100000 in
set_option maxHeartbeats 8000000 in
open_top hd for PySem.Challenge.rw_wa0004_01
end Mine
end
namespace Mine
open PySem PySem.W PyProof.Rows PyProof.Rows.LCg PySem.Calls PySem.Spec

theorem takes_cast (d : Int) (c : Nat) : ((d.fdiv ((2 ^ (c - 97) : Nat) : Int)).fmod 2 == 1) = takes d c := by
  unfold takes
  have : ((2 ^ (c - 97) : Nat) : Int) = 2 ^ (c - 97) := by simp
  rw [this]
noncomputable def wordCs (d : Int) : List Nat := (cutStr "abcdabc" ((d.fdiv 16).fmod 4) ((d.fdiv 16).fmod 4 + 4)).cps.toList.filter (takes d)

theorem cut_word (t : Int) (h0 : 0 ≤ t) (h1 : t < 4) : (cutStr "abcdabc" t (t + 4)).length ≤ 1000 ∧ ∀ c ∈ (cutStr "abcdabc" t (t + 4)).cps.toList, 97 ≤ c ∧ c ≤ 100 := by
  have : t = 0 ∨ t = 1 ∨ t = 2 ∨ t = 3 := by omega
  rcases this with rfl | rfl | rfl | rfl <;> decide
theorem occ_abcd (c : Nat) (h : 97 ≤ c ∧ c ≤ 100) : ∃ rest, Builtin.Str.occurrences "abcd" (oneS c) 0 (Str.length "abcd") 1 = (c - 97) :: rest := by
  have : c = 97 ∨ c = 98 ∨ c = 99 ∨ c = 100 := by omega
  rcases this with rfl | rfl | rfl | rfl <;> exact ⟨[], by decide +kernel⟩

theorem word_ok {G : Gr} {P : Params} (hG : G.K = Mine.hd.heap_39 P) {cx : Cx} {ρ : AE} {σ : AH} {EQ : AX → AE → AH → Prop} {Q : AV → AE → AH → Prop} (hd : cx.hd = none) (h1 : 1 ≤ cx.d) (d : Int) (q : Q (.str (mkS (wordCs d))) ρ σ) :
    JVC G cx ρ σ [.int d] 97 Q EQ := by
  refine call_fn (hK := by rw [hG]; rfl) (hcd := by rw [hG]; rfl) (names := ["draw"]) (fun Vs h hl X => ?_) (by decide) rfl (by decide) (by decide) (by decide) h1 (fun cx' hd' hh' hc' hs' ho' => ?_)
  · obtain ⟨a, rfl⟩ : ∃ a, Vs = [a] := List.length_eq_one_iff.mp hl
    exact Looks.of_pure rfl
  have hK := KN.of_scope hs' ho'
  have hdn : cx'.hd = none := hh'.trans hd
  refine xs_cons (x_assign (ev_bin (ev_bin (ev_name rfl (ev_int (op_fdiv (by decide) (by decide) (ev_int (op_mod (by decide) ?_))))))) (hK.mine (by rfl)))
  have hcut := cut_word ((d.fdiv 16).fmod 4) (Int.fmod_nonneg_of_pos _ (by decide)) (Int.fmod_lt_of_pos _ (by decide))
  refine xs_cons (x_ret (ev_join (ev_listcomp (cutStr "abcdabc" ((d.fdiv 16).fmod 4) ((d.fdiv 16).fmod 4 + 4)).cps.toList (fun c => AV.str (oneS c)) (fun c => if takes d c = true then some (AV.str (oneS c)) else none) hK hdn ?_ (ev_strslice (ev_str ⟨_, rfl, ev_name rfl ⟨_, rfl, ev_bin (ev_name rfl (ev_int (op_add ⟨_, rfl, hcut.1, Itr.str _, rfl, rfl, fun cxc ci c hc => ?_⟩)))⟩⟩)) ?_)))
  · have := hcut.1
    exact Nat.le_trans this (by decide)
  · have hb := hcut.2 c hc
    refine coT1 (b := takes d c) (TB.name (ci.kn.mine (by rfl))) (ts_cmp (ev_bin (ev_bin (ev_name rfl (ev_bin (ev_int (ev_index (ev_name rfl ⟨_, _, _, rfl, (occ_abcd c hb).choose_spec, ?_⟩))))))) ) fun _ => ev_name rfl ⟨rfl, rfl, rfl⟩
    have h3 : c - 97 ≤ 3 := Nat.sub_le_sub_right hb.2 97
    refine op_pow2 (Nat.le_trans h3 (by decide)) (op_fdiv (a := d) (pow_ne _) (pow_lt (Nat.le_trans h3 (by decide))) (ev_int (op_mod (by decide) (ev_int (op_eq_int ⟨_, rfl, takes_cast d c, rfl, rfl⟩)))))
  · refine ⟨(wordCs d).map oneS, ?_, ?_, by rw [join_ones]; exact q⟩
    · unfold wordCs
      induction (cutStr "abcdabc" ((d.fdiv 16).fmod 4) ((d.fdiv 16).fmod 4 + 4)).cps.toList with
      | nil => rfl
      | cons c l ih =>
        simp only [AV.lst.injEq] at ih ⊢
        simp only [List.filterMap_cons, List.filter_cons]
        cases takes d c <;> simp [ih]
    · refine joinOk_ones _ (Nat.le_trans (List.length_filter_le _ _) ?_)
      have := hcut.1
      exact Nat.le_trans this (by decide)
end Mine
namespace Mine
open PySem PySem.W PyProof.Rows PyProof.Rows.LCg PySem.Calls PySem.Spec

theorem cons_of {α : Type} {l : List α} {n : Nat} (h : l.length = n + 1) : ∃ a r, l = a :: r ∧ r.length = n := by
  cases l with
  | nil => cases h
  | cons a r => exact ⟨a, r, rfl, Nat.succ.inj h⟩
theorem one_of {α : Type} {l : List α} (h : l.length = 1) : ∃ a, l = [a] := List.length_eq_one_iff.mp h
theorem two_of {α : Type} {l : List α} (h : l.length = 2) : ∃ a b, l = [a, b] := by
  obtain ⟨a, r, e, h'⟩ := cons_of h
  obtain ⟨b, e'⟩ := one_of h'
  exact ⟨a, b, by rw [e, e']⟩
theorem three_of {α : Type} {l : List α} (h : l.length = 3) : ∃ a b c, l = [a, b, c] := by
  obtain ⟨a, r, e, h'⟩ := cons_of h
  obtain ⟨b, c, e'⟩ := two_of h'
  exact ⟨a, b, c, by rw [e, e']⟩
theorem four_of {α : Type} {l : List α} (h : l.length = 4) : ∃ a b c d, l = [a, b, c, d] := by
  obtain ⟨a, r, e, h'⟩ := cons_of h
  obtain ⟨b, c, d, e'⟩ := three_of h'
  exact ⟨a, b, c, d, by rw [e, e']⟩

theorem safe_ok {G : Gr} {P : Params} (hG : G.K = Mine.hd.heap_39 P) {cx : Cx} {ρ : AE} {σ : AH} {EQ : AX → AE → AH → Prop} {Q : AV → AE → AH → Prop} (hd : cx.hd = none) (h1 : 1 ≤ cx.d) {value : AV} {what : Str} {f : Addr} {od : Option Addr} {osl : Array (Option Value)} {fd : FuncData}
    (hK : G.K.lookup f = some ⟨.type "function", od, .func fd, osl⟩) (hz : fd.name.length ≤ 1000) (hw : what.length ≤ 1000)
    (hf : ∀ cx' ρ', cx'.d + 1 = cx.d → cx'.hd = none → JVC G cx' ρ' σ [value] f (fun v _ σ' => Q v ρ σ') (fun x ρ₁ σ' => ρ₁ = ρ' ∧ Q (.str (failed what fd.name)) ρ σ')) :
    JVC G cx ρ σ [value, .str what, .val (.ref f)] 22 Q EQ := by
  refine call_fn (hK := by rw [hG]; rfl) (hcd := by rw [hG]; rfl) (names := ["value", "what", "func"]) (fun Vs h hl X => ?_) (by decide) rfl (by decide) (by decide) (by decide) h1 (fun cx' hd' hh' hc' hs' ho' => ?_)
  · obtain ⟨a, b, c, rfl⟩ := three_of hl
    exact Looks.of_peek X (by rw [hG]; rfl)
  have hN := KN.of_scope hs' ho'
  have hdn : cx'.hd = none := hh'.trans hd
  refine xs_cons (x_try_bare hc' hdn (xs_cons (x_ret (ev_call (ev_name (v := .val (.ref f)) rfl ⟨rfl, as_one (ev_name (v := value) rfl ?_)⟩) hK))))
  refine (hf cx' _ hd' hdn).jv.mono (fun v ρ' σ' q => q) (fun x ρ' σ' q e => ?_)
  obtain ⟨rfl, q⟩ := q
  have hz2 : (Str.empty ++ ("<" : Str) ++ what ++ " " ++ fd.name ++ "() failed>").length ≤ 10000 := by
    simp only [strLen_append]
    have e1 : Str.empty.length = 0 := rfl
    have e2 : ("<" : Str).length = 1 := rfl
    have e3 : (" " : Str).length = 1 := rfl
    have e4 : ("() failed>" : Str).length = 10 := rfl
    omega
  have hz1 : ∀ {a b : Str}, (a ++ b).length ≤ 10000 → a.length ≤ 10000 := fun h => by rw [strLen_append] at h; omega
  refine xs_cons (x_ret (ev_fstr (jn_cons (ev_str ⟨_, rfl, hz1 (hz1 (hz1 (hz1 hz2))), jn_cons (ev_fval (ev_name (v := .str what) rfl ⟨_, rfl, by omega, _, rfl, hz1 (hz1 (hz1 hz2)), jn_cons (ev_str ⟨_, rfl, hz1 (hz1 hz2), jn_cons (ev_fval (ev_fname (f := f) rfl hK hz ⟨_, rfl, by omega, _, rfl, hz1 hz2, jn_cons (ev_str ⟨_, rfl, hz2, jn_nil hz2 q⟩)⟩))⟩)⟩))⟩))))
end Mine
namespace Mine
open PySem PySem.W PyProof.Rows PyProof.Rows.LCg PySem.Calls PySem.Spec

theorem ecls_sender {G : Gr} {P : Params} (hG : G.K = Mine.hd.heap_39 P) : ECls G.K 71 68 := by
  rw [hG]
  refine ⟨⟨_, _, _, rfl, by kernel_rfl, by kernel_rfl, by kernel_rfl, by kernel_rfl, by kernel_rfl, by kernel_rfl, by kernel_rfl, by kernel_rfl, by kernel_rfl, fun self => by kernel_rfl⟩, by kernel_rfl, by kernel_rfl, by kernel_rfl, by kernel_rfl, by kernel_rfl, by kernel_rfl, by kernel_rfl, by kernel_rfl⟩
theorem ecls_recip {G : Gr} {P : Params} (hG : G.K = Mine.hd.heap_39 P) : ECls G.K 90 87 := by
  rw [hG]
  refine ⟨⟨_, _, _, rfl, by kernel_rfl, by kernel_rfl, by kernel_rfl, by kernel_rfl, by kernel_rfl, by kernel_rfl, by kernel_rfl, by kernel_rfl, by kernel_rfl, fun self => by kernel_rfl⟩, by kernel_rfl, by kernel_rfl, by kernel_rfl, by kernel_rfl, by kernel_rfl, by kernel_rfl, by kernel_rfl, by kernel_rfl⟩

section
variable {G : Gr} {P : Params} {cx : Cx} {ρ : AE} {σ : AH} {EQ : AX → AE → AH → Prop} {Q : AV → AE → AH → Prop}
theorem init_recip (hG : G.K = Mine.hd.heap_39 P) (hd : cx.hd = none) (h1 : 1 ≤ cx.d) {x : Addr} {v : AV}
    (q : ∀ D, Q .none ρ ((D, .ns [("recipients", v)]) :: (x, .ins 90 (some D)) :: σ)) : JVC G cx ρ ((x, .ins 90 none) :: σ) [.ref x, v] 87 Q EQ := by
  have EC := ecls_recip hG
  refine call_fn (hK := by rw [hG]; rfl) (hcd := by rw [hG]; rfl) (names := ["self", "recipients"]) (fun Vs h hl X => ?_) (by decide) rfl (by decide) (by decide) (by decide) h1 (fun cx' hd' hh' hc' hs' ho' => ?_)
  · obtain ⟨a, b, rfl⟩ := two_of hl
    exact Looks.of_pure rfl
  have hK := KN.of_scope hs' ho'
  have hdn : cx'.hd = none := hh'.trans hd
  refine xs_cons (x_attr (x := x) EC (by rw [hG]; kernel_rfl) (ev_name rfl ⟨rfl, .inl ⟨_, rfl, fun D => ?_⟩⟩))
  refine xs_cons (x_args (x := x) (d := some D) EC (ev_tuple (as_one (ev_name rfl ⟨Nat.le_of_ble_eq_true rfl, rfl, ⟨_, rfl⟩, ⟨some D, [(D, .ns _)], σ, rfl, fun D' e => ?_⟩, ?_⟩))))
  · cases e
    exact ⟨_, List.mem_cons_self⟩
  · exact xs_nil (q D)
theorem init_sender (hG : G.K = Mine.hd.heap_39 P) (hd : cx.hd = none) (h1 : 1 ≤ cx.d) {x : Addr} {v₁ v₂ v₃ : AV}
    (q : ∀ D, Q .none ρ ((D, .ns [("sender", v₃), ("smtp_error", v₂), ("smtp_code", v₁)]) :: (x, .ins 71 (some D)) :: σ)) : JVC G cx ρ ((x, .ins 71 none) :: σ) [.ref x, v₁, v₂, v₃] 68 Q EQ := by
  have EC := ecls_sender hG
  refine call_fn (hK := by rw [hG]; rfl) (hcd := by rw [hG]; rfl) (names := ["self", "code", "msg", "sender"]) (fun Vs h hl X => ?_) (by decide) rfl (by decide) (by decide) (by decide) h1 (fun cx' hd' hh' hc' hs' ho' => ?_)
  · obtain ⟨a, b, c, d, rfl⟩ := four_of hl
    exact Looks.of_pure rfl
  have hK := KN.of_scope hs' ho'
  have hdn : cx'.hd = none := hh'.trans hd
  refine xs_cons (x_attr (x := x) EC (by rw [hG]; kernel_rfl) (ev_name rfl ⟨rfl, .inl ⟨_, rfl, fun D => ?_⟩⟩))
  refine xs_cons (x_attr (x := x) EC (by rw [hG]; kernel_rfl) (ev_name rfl ⟨rfl, .inr ⟨D, _, _, rfl, Nat.le_of_ble_eq_true rfl, ?_⟩⟩))
  refine xs_cons (x_attr (x := x) EC (by rw [hG]; kernel_rfl) (ev_name rfl ⟨rfl, .inr ⟨D, _, _, rfl, Nat.le_of_ble_eq_true rfl, ?_⟩⟩))
  refine xs_cons (x_args (x := x) (d := some D) EC (ev_tuple (as_cons (ev_name rfl (as_cons (ev_name rfl (as_one (ev_name rfl ⟨Nat.le_of_ble_eq_true rfl, rfl, ⟨_, rfl⟩, ⟨some D, [(D, .ns _)], σ, rfl, fun D' e => ?_⟩, ?_⟩))))))))
  · cases e
    exact ⟨_, List.mem_cons_self⟩
  · exact xs_nil (q D)

theorem raise_recip {Q : AF → AE → AH → Prop} {names : List (Str × NameKind)} (K : KN cx names) (hn : names.lookup ("SMTPRecipientsRefused" : Str) = some .globalImplicit) (hG : G.K = Mine.hd.heap_39 P) (hd : cx.hd = none) (h1 : 2 ≤ cx.d) {e : Expr} {np cp pos : Pos}
    (h : Ev G cx ρ σ e (fun v ρ₁ σ₁ => EQ ⟨90, [("recipients", v)]⟩ ρ₁ σ₁) EQ) (he : starEach [e] cx.env = (false, eval e cx.env) :: starEach [] cx.env := by rfl) :
    X1 G cx ρ σ (.Raise (some (.Call (.Name "SMTPRecipientsRefused" np) [e] [] cp)) none pos) Q EQ := by
  have EC := ecls_recip hG
  refine x_raise EC hd (ev_callexc EC (ev_global (V := .ref 90) (K.glob hn) (by rw [hG]; kernel_rfl) ⟨rfl, as_one (h.mono (fun v ρ₁ σ₁ q => ?_) fun _ _ _ q => q) (he := he)⟩) (he := he))
  refine call_exc EC (by omega) fun x cx' hd' hh' => ?_
  exact init_recip hG (hh'.trans hd) (by omega) fun D => ⟨rfl, x, D, _, _, rfl, rfl, q⟩
theorem raise_sender {Q : AF → AE → AH → Prop} {names : List (Str × NameKind)} (K : KN cx names) (hn : names.lookup ("SMTPSenderRefused" : Str) = some .globalImplicit) (hG : G.K = Mine.hd.heap_39 P) (hd : cx.hd = none) (h1 : 2 ≤ cx.d) {e₁ e₂ e₃ : Expr} {np cp pos : Pos}
    (h : Ev G cx ρ σ e₁ (fun v₁ ρ₁ σ₁ => Ev G cx ρ₁ σ₁ e₂ (fun v₂ ρ₂ σ₂ => Ev G cx ρ₂ σ₂ e₃ (fun v₃ ρ₃ σ₃ => EQ ⟨71, [("sender", v₃), ("smtp_error", v₂), ("smtp_code", v₁)]⟩ ρ₃ σ₃) EQ) EQ) EQ)
    (he : starEach [e₁, e₂, e₃] cx.env = (false, eval e₁ cx.env) :: starEach [e₂, e₃] cx.env := by rfl) (he2 : starEach [e₂, e₃] cx.env = (false, eval e₂ cx.env) :: starEach [e₃] cx.env := by rfl) (he3 : starEach [e₃] cx.env = (false, eval e₃ cx.env) :: starEach [] cx.env := by rfl)
    (hplain : (backTo cp (starEach [e₂, e₃] cx.env)).any (·.1) = false := by rfl) :
    X1 G cx ρ σ (.Raise (some (.Call (.Name "SMTPSenderRefused" np) [e₁, e₂, e₃] [] cp)) none pos) Q EQ := by
  have EC := ecls_sender hG
  refine x_raise EC hd (ev_callexc EC (ev_global (V := .ref 71) (K.glob hn) (by rw [hG]; kernel_rfl) ⟨rfl, as_cons (h.mono (fun v₁ ρ₁ σ₁ q => as_cons (q.mono (fun v₂ ρ₂ σ₂ q => as_one (q.mono (fun v₃ ρ₃ σ₃ q => ?_) fun _ _ _ q => q) (he := he3)) fun _ _ _ q => q) (he := he2)) fun _ _ _ q => q) (he := he)⟩) (he := he) (hplain := hplain))
  refine call_exc EC (by omega) fun x cx' hd' hh' => ?_
  exact init_sender hG (hh'.trans hd) (by omega) fun D => ⟨rfl, x, D, _, _, rfl, rfl, q⟩
end
end Mine
namespace Mine
open PySem PySem.W PyProof.Rows PyProof.Rows.LCg PySem.Calls PySem.Spec

noncomputable def tblV (T : Tb) : List (Str × AV) := T.map fun p => (oneS p.1, .tup [.int 550, .int p.2])
noncomputable def holdV (H : Hd) : List (Str × AV) := [(oneS 97, .int (H 97)), (oneS 98, .int (H 98)), (oneS 99, .int (H 99)), (oneS 100, .int (H 100))]
theorem oneS_inj {a b : Nat} (h : oneS a = oneS b) : a = b := by
  have := congrArg Str.cps h
  simpa [oneS] using this
theorem oneS_beq (a b : Nat) : (oneS a == oneS b) = (a == b) := by
  by_cases h : a = b
  · subst h; rw [beq_self_eq_true, beq_self_eq_true]
  · rw [beq_eq_false_iff_ne.mpr h, beq_eq_false_iff_ne.mpr fun e => h (oneS_inj e)]
theorem tblV_lookup (T : Tb) (b : Nat) : (tblV T).lookup (oneS b) = (T.lookup b).map fun v => .tup [.int 550, .int v] := by
  induction T with
  | nil => rfl
  | cons p T ih =>
    obtain ⟨c, v⟩ := p
    unfold tblV at ih ⊢
    rw [List.map_cons, List.lookup_cons, List.lookup_cons, oneS_beq]
    cases (b == c) with
    | true => rfl
    | false => exact ih
theorem tblV_put {T : Tb} {b : Nat} {v : Int} (h : T.lookup b = none) : put (tblV T) (oneS b) (.tup [.int 550, .int v]) = tblV (T ++ [(b, v)]) := by
  unfold put
  have : (tblV T).any (fun e => e.1 = oneS b) = false := by
    rw [List.any_eq_false]
    intro e he
    obtain ⟨p, hp, rfl⟩ := List.mem_map.mp he
    simp only [decide_eq_true_eq]
    intro q
    have := oneS_inj q
    exact lookup_none_iff.mp h (by rw [← this]; exact List.mem_map_of_mem hp)
  rw [this]
  simp [tblV]
theorem holdV_lookup {H : Hd} {b : Nat} (hb : Box b) : (holdV H).lookup (oneS b) = some (.int (H b)) := by
  unfold Box at hb
  have : b = 97 ∨ b = 98 ∨ b = 99 ∨ b = 100 := by omega
  rcases this with rfl | rfl | rfl | rfl <;> simp [holdV, List.lookup_cons, oneS_beq]
theorem holdV_put {H : Hd} {b : Nat} {s : Int} (hb : Box b) : put (holdV H) (oneS b) (.int s) = holdV (setH H b s) := by
  unfold Box at hb
  have : b = 97 ∨ b = 98 ∨ b = 99 ∨ b = 100 := by omega
  rcases this with rfl | rfl | rfl | rfl <;> rfl

theorem upd_at (ρ : AE) (x : Str) (v : AV) : upd ρ x v x = some v := if_pos rfl
theorem upd_off {ρ : AE} {x y : Str} {v : AV} {u : Option AV} (h : ρ y = u) (hn : (y == x) = false) : upd ρ x v y = u := (if_neg (by simpa using hn)).trans h

/-- the loop of _law_place: the place where names stand -/
structure PlaceEnv (ρ : AE) (words : AV) (Hd T : Addr) (s : Nat) : Prop where
  w : ρ "words" = some words
  h : ρ "holders" = some (.ref Hd)
  t : ρ "table" = some (.ref T)
  s : ρ "sender" = some (.int s)
theorem PlaceEnv.upd {ρ : AE} {words : AV} {Hd T : Addr} {s : Nat} (h : PlaceEnv ρ words Hd T s) {x : Str} {v : AV} (hx : ((("words" : Str) == x) || (("holders" : Str) == x) || (("table" : Str) == x) || (("sender" : Str) == x)) = false) : PlaceEnv (upd ρ x v) words Hd T s := by
  simp only [Bool.or_eq_false_iff] at hx
  exact ⟨upd_off h.w hx.1.1.1, upd_off h.h hx.1.1.2, upd_off h.t hx.1.2, upd_off h.s hx.2⟩

theorem forP_ind {G : Gr} {cx : Cx} {t : Expr} {body : List Stmt} {Q : AF → AE → AH → Prop} {EQ : AX → AE → AH → Prop} {α : Type} (g : α → AV) (I : List α → AE → AH → Prop) (hnil : ∀ ρ σ, I [] ρ σ → Q .next ρ σ)
    (hcons : ∀ x rest ρ σ, I (x :: rest) ρ σ → ∃ ρ', TB cx t (g x) ρ ρ' ∧ Xs G cx ρ' σ body (fun fl ρ'' σ'' => match fl with | .next => I rest ρ'' σ'' | .ret v => Q (.ret v) ρ'' σ'') EQ) : ∀ (xs : List α) (ρ : AE) (σ : AH), I xs ρ σ → ForP G cx t body Q EQ (xs.map g) ρ σ
  | [], ρ, σ, h => hnil ρ σ h
  | x :: rest, ρ, σ, h => by
    obtain ⟨ρ', T, hb⟩ := hcons x rest ρ σ h
    refine ⟨ρ', T, hb.mono (fun fl ρ'' σ'' q => ?_) fun _ _ _ q => q⟩
    cases fl with
    | next => exact forP_ind g I hnil hcons rest ρ'' σ'' q
    | ret v => exact q

noncomputable def plS (Hd T : Addr) (σ₀ : AH) (st : Mine.Hd × Tb) : AH := (T, .dct (tblV st.2)) :: (Hd, .dct (holdV st.1)) :: σ₀

noncomputable def wordsV (ws : List (List Nat)) : AV := .lst (ws.map fun l => .str (mkS l))
noncomputable def Wf (ws : List (List Nat)) (s : Nat) : List Nat := ws.getD s []
/-- what holds between the turns of _law_place's loop -/
noncomputable def PlInv (ws : List (List Nat)) (Hd T : Addr) (σ₀ : AH) (f : Nat) (st : Mine.Hd × Tb) (s : Nat) (l : List Nat) (ρ₁ : AE) (σ₁ : AH) : Prop :=
  ∃ st₁, PlaceEnv ρ₁ (wordsV ws) Hd T s ∧ StOk st₁ ∧ (∀ b ∈ l, Box b) ∧ 5 ≤ st₁.2.length + (f + 1) ∧ σ₁ = plS Hd T σ₀ st₁ ∧ place (Wf ws) (f + 1) st s = loop (place (Wf ws) f) s l st₁
/-- what holds when a holder has been asked -/
noncomputable def PlMid (ws : List (List Nat)) (Hd T : Addr) (σ₀ : AH) (f : Nat) (st : Mine.Hd × Tb) (s b : Nat) (rest : List Nat) (n : Nat) (fl : AF) (ρ' : AE) (σ' : AH) : Prop :=
  fl = .next ∧ ∃ v st₃, PlaceEnv ρ' (wordsV ws) Hd T s ∧ ρ' "box" = some (.str (oneS b)) ∧ ρ' "told" = some v ∧ σ' = plS Hd T σ₀ st₃ ∧ StOk st₃ ∧ n ≤ st₃.2.length ∧
    ((∃ k, v = .int k ∧ place (Wf ws) (f + 1) st s = (some (k + 1), (setH st₃.1 b s, st₃.2))) ∨ (v = .str (failed (oneS b) "_law_place") ∧ place (Wf ws) (f + 1) st s = loop (place (Wf ws) f) s rest st₃))
theorem Wf_box {ws : List (List Nat)} (hwb : ∀ l ∈ ws, (∀ b ∈ l, Box b) ∧ l.length ≤ 1000) : ∀ s, ∀ b ∈ Wf ws s, Box b := fun s b hb => by
  unfold Wf at hb
  rw [List.getD_eq_getElem?_getD] at hb
  cases q : ws[s]? with
  | none => rw [q] at hb; cases hb
  | some l => rw [q] at hb; exact (hwb l (List.mem_of_getElem? q)).1 b hb
theorem words_at {ws : List (List Nat)} (hws : ws.length = 5) {s : Nat} (hs : s < 5) : (ws.map fun l => AV.str (mkS l))[s]? = some (.str (mkS (Wf ws s))) ∧ Wf ws s ∈ ws := by
  have hWl : ws[s]? = some (Wf ws s) := by unfold Wf; rw [List.getD_eq_getElem?_getD, List.getElem?_eq_getElem (by omega)]; rfl
  refine ⟨?_, List.mem_of_getElem? hWl⟩
  rw [List.getElem?_map, hWl]; rfl
theorem tbl_len {st : Mine.Hd × Tb} (h : StOk st) : (tblV st.2).length ≤ 1000 := by unfold tblV; rw [List.length_map]; have := h.small; omega
theorem hd_lt {st : Mine.Hd × Tb} (h : StOk st) (b : Nat) : (st.1 b).toNat < 5 := by have := h.hi b; omega
theorem place_name {b : Nat} (hbox : Box b) : failed (oneS b) "_law_place" = "<" ++ oneS b ++ " _law_place() failed>" := by
  unfold Box at hbox
  have : b = 97 ∨ b = 98 ∨ b = 99 ∨ b = 100 := by omega
  rcases this with rfl | rfl | rfl | rfl <;> decide +kernel

theorem place_walk {G : Gr} {P : Params} (hG : G.K = Mine.hd.heap_39 P) {ws : List (List Nat)} (hws : ws.length = 5) (hwb : ∀ l ∈ ws, (∀ b ∈ l, Box b) ∧ l.length ≤ 1000) {Hd T : Addr} {σ₀ : AH} :
    ∀ (f : Nat) (cx : Cx) (ρ : AE) (st : Mine.Hd × Tb) (s : Nat) (Q : AV → AE → AH → Prop) (EQ : AX → AE → AH → Prop), cx.hd = none → 2 * f + 2 ≤ cx.d → StOk st → s < 5 → 5 ≤ st.2.length + f →
      (∀ k st', place (Wf ws) f st s = (some k, st') → Q (.int k) ρ (plS Hd T σ₀ st')) → (∀ st', place (Wf ws) f st s = (none, st') → EQ ⟨90, [("recipients", .ref T)]⟩ ρ (plS Hd T σ₀ st')) →
      JVC G cx ρ (plS Hd T σ₀ st) [.tup [wordsV ws, .ref Hd, .ref T, .int s]] 104 Q EQ := by
  intro f
  induction f with
  | zero => exact fun _ _ st _ _ _ _ _ hst _ h5 _ _ => absurd (Nat.le_trans h5 hst.small) (by decide)
  | succ f ih =>
    intro cx ρ st s Q EQ hd hdp hst hs h5 hq he
    refine call_fn (hK := by rw [hG]; rfl) (hcd := by rw [hG]; rfl) (names := ["ask"]) (fun Vs h hl X => ?_) (by decide) rfl (by decide) (by decide) (by decide) (by omega) (fun cx' hd' hh' hc' hs' ho' => ?_)
    · obtain ⟨a, rfl⟩ := one_of hl
      exact Looks.of_pure rfl
    have hN := KN.of_scope hs' ho'
    have hdn : cx'.hd = none := hh'.trans hd
    have hWb := Wf_box hwb
    have hdp' : 2 * f + 3 ≤ cx'.d := by omega
    clear hd hdp hh' hs' ho' hd'
    refine xs_cons (x_unpack hdn (ev_name rfl ⟨_, TB.four (hN.mine (by rfl)) (hN.mine (by rfl)) (hN.mine (by rfl)) (hN.mine (by rfl)), ?_⟩))
    refine xs_cons (x_for hdn hc' (ev_sub (ev_name rfl (ev_name rfl (it_at (Nat.le_trans (Nat.le_of_lt hs) (by decide)) (words_at hws hs).1 ⟨_, Itr.str _, ?_⟩)))))
    rw [signs_mkS]
    refine forP_ind (fun c => AV.str (oneS c)) (PlInv ws Hd T σ₀ f st s) ?_ ?_ _ _ _ ⟨st, ⟨rfl, rfl, rfl, rfl⟩, hst, (hwb _ (words_at hws hs).2).1, h5, rfl, rfl⟩
    · rintro ρ₁ σ₁ ⟨st₁, hρ, hst₁, hb, h5₁, rfl, e⟩
      exact xs_cons (raise_recip hN (by rfl) hG hdn (by omega) (ev_name hρ.t (he _ e)))
    · rintro b rest ρ₁ σ₁ ⟨st₁, hρ, hst₁, hb, h5₁, rfl, e⟩
      refine ⟨_, TB.name (hN.mine (by rfl)), ?_⟩
      have hbox := hb b List.mem_cons_self
      have hρ₂ : PlaceEnv (upd ρ₁ "box" (.str (oneS b))) (wordsV ws) Hd T s := hρ.upd (by decide)
      have hbx : upd ρ₁ "box" (.str (oneS b)) "box" = some (.str (oneS b)) := upd_at _ _ _
      revert hρ₂ hbx
      generalize upd ρ₁ "box" (.str (oneS b)) = ρ₂
      clear hρ ρ₁
      intro hρ₂ hbx
      refine xs_cons (x_if (ts_cmp (ev_name hbx (ev_name hρ₂.t (op_notin_ldct (σ₁ := []) rfl ⟨_, rfl, ?_⟩)))))
      rw [tblV_lookup, Option.isSome_map]
      cases e1 : (st₁.2.lookup b).isSome with
      | true =>
        refine xs_nil (xs_nil ⟨st₁, hρ₂, hst₁, fun c hc => hb c (List.mem_cons_of_mem _ hc), h5₁, rfl, ?_⟩)
        rw [e, loop, if_pos e1]
      | false =>
        have hn : st₁.2.lookup b = none := Option.not_isSome_iff_eq_none.mp (by rw [e1]; decide)
        have hst₂ := hst₁.more (v := st₁.1 b) hbox hn
        have hlen := tbl_len hst₁
        rw [loop, if_neg (by rw [e1]; decide)] at e
        refine xs_cons (x_setitem (ev_tuple (as_cons (ev_int (as_one (ev_sub (ev_name hρ₂.h (ev_name hbx (it_ldct (σ₁ := [(T, .dct (tblV st₁.2))]) rfl (holdV_lookup hbox) ⟨Nat.le_of_ble_eq_true rfl, ev_name hρ₂.t (ev_name hbx (st_dct (σ₁ := []) rfl hlen ?_))⟩)))))))))
        rw [tblV_put hn]
        show Xs G cx' _ (plS Hd T σ₀ (st₁.1, st₁.2 ++ [(b, st₁.1 b)])) _ _ _
        refine xs_cons (x_assign (ev_int ?_) (hN.mine (by rfl)))
        have hρ₃ := hρ₂.upd (x := "told") (v := .int 0) (by decide)
        have hbx₃ : upd ρ₂ "told" (.int 0) "box" = some (.str (oneS b)) := upd_off hbx (by decide)
        have hto₃ : upd ρ₂ "told" (.int 0) "told" = some (.int 0) := upd_at _ _ _
        revert hρ₃ hbx₃ hto₃
        generalize upd ρ₂ "told" (.int 0) = ρ₃
        clear hρ₂ hbx ρ₂
        intro hρ₃ hbx₃ hto₃
        refine xs_cons (JV.mono (Q := PlMid ws Hd T σ₀ f st s b rest st₁.2.length) ?_ ?_ fun _ _ _ q => q)
        · have hσH : plS Hd T σ₀ (st₁.1, st₁.2 ++ [(b, st₁.1 b)]) = [(T, .dct (tblV (st₁.2 ++ [(b, st₁.1 b)])))] ++ (Hd, .dct (holdV st₁.1)) :: σ₀ := rfl
          refine x_if (ts_cmp (ev_sub (ev_name hρ₃.h (ev_name hbx₃ (it_ldct (σ₁ := [(T, .dct (tblV (st₁.2 ++ [(b, st₁.1 b)])))]) hσH (holdV_lookup hbox) (ev_int (op_ge_int ⟨_, rfl, ?_⟩)))))))
          by_cases h0 : 0 ≤ st₁.1 b
          · rw [decide_eq_true h0, if_pos rfl]
            rw [if_pos h0] at e
            have hlt := hd_lt hst₁ b
            have hto : ((st₁.1 b).toNat : Int) = st₁.1 b := Int.toNat_of_nonneg h0
            refine xs_cons (x_assign (ev_call (ev_global (V := .ref 22) (hN.glob (by rfl)) (by rw [hG]; kernel_rfl) ⟨rfl, as_cons <| ev_tuple <| as_cons <| ev_name hρ₃.w <| as_cons <| ev_name hρ₃.h <| as_cons <| ev_name hρ₃.t <| as_one <| ev_sub <| ev_name hρ₃.h <| ev_name hbx₃ <| it_ldct (σ₁ := [(T, .dct (tblV (st₁.2 ++ [(b, st₁.1 b)])))]) hσH (holdV_lookup hbox)
              ⟨Nat.le_of_ble_eq_true rfl, as_cons <| ev_name hbx₃ <| as_one <| ev_global (V := .ref 104) (hN.glob (by rfl)) (by rw [hG]; kernel_rfl) ?_⟩⟩) (by rw [hG]; rfl)) (hN.mine (by rfl)))
            refine (safe_ok hG hdn (by omega) (by rw [hG]; rfl) (by decide) (by show 1 ≤ 1000; decide) fun cx₂ ρ₂ hd₂ hdn₂ => ?_).jv
            have hv : AV.int (st₁.1 b) = AV.int ((st₁.1 b).toNat : Int) := by rw [hto]
            rw [hv]
            have hpk := place_ok (W := Wf ws) hWb f (st₁.1, st₁.2 ++ [(b, st₁.1 b)]) (st₁.1 b).toNat hst₂ hlt
            refine ih cx₂ ρ₂ _ (st₁.1 b).toNat _ _ hdn₂ (by omega) hst₂ hlt (by simp; omega) (fun k st' e' => ?_) fun st' e' => ?_
            · rw [e'] at hpk e
              exact xs_nil ⟨rfl, .int k, st', hρ₃.upd (by decide), upd_off hbx₃ (by decide), upd_at _ _ _, rfl, hpk.1, Nat.le_trans (by simp) hpk.2, .inl ⟨k, rfl, e⟩⟩
            · rw [e'] at hpk e
              exact ⟨rfl, xs_nil ⟨rfl, _, st', hρ₃.upd (by decide), upd_off hbx₃ (by decide), upd_at _ _ _, rfl, hpk.1, Nat.le_trans (by simp) hpk.2, .inr ⟨rfl, e⟩⟩⟩
          · rw [decide_eq_false h0]
            rw [if_neg h0] at e
            exact xs_nil ⟨rfl, .int 0, (st₁.1, st₁.2 ++ [(b, st₁.1 b)]), hρ₃, hbx₃, hto₃, rfl, hst₂, by simp, .inl ⟨0, rfl, e⟩⟩
        · clear hρ₃ hbx₃ hto₃ ρ₃ e hn hst₂ hlen
          rintro fl ρ' σ' ⟨rfl, v, st₃, h1, h2, h3, rfl, h4, h5', h6⟩
          have hl2 : ("<" ++ oneS b : Str).length = 2 := by rw [strLen_append]; rfl
          have hl3 : (" _law_place() failed>" : Str).length = 21 := by decide +kernel
          refine xs_cons (x_if (ts_cmp (ev_name h3 <| ev_bin <| ev_bin <| ev_str <| ev_name h2 <| op_cat (by rw [sizeLine_eq]; show 2 ≤ _; decide) <| ev_str <| op_cat (by rw [hl2, hl3, sizeLine_eq]; decide) ?_)))
          rcases h6 with ⟨k, rfl, e6⟩ | ⟨rfl, e6⟩
          · refine op_ne_is ⟨_, rfl, ?_⟩
            rw [if_pos rfl]
            refine xs_cons (x_setitem (ev_name h1.s <| ev_name h1.h <| ev_name h2 <| st_dct (σ₁ := [(T, .dct (tblV st₃.2))]) rfl (Nat.le_of_ble_eq_true rfl) ?_))
            rw [holdV_put hbox]
            exact xs_cons (x_ret (ev_bin (ev_name h3 <| ev_int <| op_add (hq (k + 1) _ e6))))
          · rw [place_name hbox]
            refine op_ne_str ⟨_, rfl, ?_⟩
            rw [bne_self_eq_false]
            exact xs_nil (xs_nil (xs_nil ⟨st₃, h1, h4, fun c hc => hb c (List.mem_cons_of_mem _ hc), by omega, rfl, e6⟩))
end Mine
namespace Mine
open PySem PySem.W PyProof.Rows PyProof.Rows.LCg PySem.Calls PySem.Spec

theorem JV.shrink {α β : Type} {R : Gr → Objs → β → α → Prop} {G : Gr} {cx : Cx} {ρ : AE} {σ : AH} {args : List AV} {t : List Value → Sem α} {Q : β → AE → AH → Prop} {EQ : AX → AE → AH → Prop}
    (h : JV R G cx ρ σ args t (fun b ρ' σ' => ∃ a ao σ₂, σ' = (a, ao) :: σ₂ ∧ Q b ρ' σ₂) EQ) : JV R G cx ρ σ args t Q EQ := fun ex fz s Vs g S r QQ EE hQ hE =>
  h.run g S r (fun b a ρ' σ' fz' h' tk' k S' rr q => by
    obtain ⟨x, ao, σ₂, rfl, q⟩ := q
    exact hQ b a ρ' σ₂ fz' h' tk' k S'.drop.1 rr q) hE

theorem come_walk {G : Gr} {P : Params} (hG : G.K = Mine.hd.heap_39 P) {ws : List (List Nat)} (hws : ws.length = 5) (hwb : ∀ l ∈ ws, (∀ b ∈ l, Box b) ∧ l.length ≤ 1000) {Hd : Addr} {σ₀ : AH} {cx : Cx} {ρ : AE} {H : Mine.Hd} {s : Nat} {Q : AV → AE → AH → Prop} {EQ : AX → AE → AH → Prop}
    (hd : cx.hd = none) (hdp : 20 ≤ cx.d) (hlo : ∀ c, -1 ≤ H c) (hhi : ∀ c, H c ≤ 4) (hs : s < 5)
    (hq : ∀ k st', place (Wf ws) 5 (H, []) s = (some k, st') → Q (.int k) ρ ((Hd, .dct (holdV st'.1)) :: σ₀))
    (he : ∀ st', place (Wf ws) 5 (H, []) s = (none, st') → EQ ⟨71, [("sender", .int s), ("smtp_error", .dct (tblV st'.2)), ("smtp_code", .int (tblV st'.2).length)]⟩ ρ ((Hd, .dct (holdV st'.1)) :: σ₀)) :
    JVC G cx ρ ((Hd, .dct (holdV H)) :: σ₀) [wordsV ws, .ref Hd, .int s] 111 Q EQ := by
  refine call_fn (hK := by rw [hG]; rfl) (hcd := by rw [hG]; rfl) (names := ["words", "holders", "sender"]) (fun Vs h hl X => ?_) (by decide) rfl (by decide) (by decide) (by decide) (by omega) (fun cx' hd' hh' hc' hs' ho' => ?_)
  · obtain ⟨a, b, c, rfl⟩ := three_of hl
    exact Looks.of_pure rfl
  have hN := KN.of_scope hs' ho'
  have hdn : cx'.hd = none := hh'.trans hd
  have hWb := Wf_box hwb
  have h0 : StOk (H, []) := ⟨by simp, fun p hp => by simp at hp, hlo, hhi⟩
  have hpk := place_ok (W := Wf ws) hWb 5 (H, []) s h0 hs
  refine xs_cons (x_try_as hN hc' hdn (C := 90) (by rfl) (by rw [hG]; kernel_rfl) (by rfl) (xs_cons (x_ret (JV.shrink (ev_call (ev_global (V := .ref 104) (hN.glob (by rfl)) (by rw [hG]; kernel_rfl) ⟨rfl, as_one <| ev_tuple <| as_cons <| ev_name rfl <| as_cons <| ev_name rfl <| as_cons <| ev_dict0 fun T => as_one <| ev_name rfl ⟨Nat.le_of_ble_eq_true rfl, ?_⟩⟩) (by rw [hG]; rfl))))))
  refine (place_walk hG hws hwb 5 cx' _ (H, []) s _ _ hdn (by omega) h0 hs (by simp) (fun k st' e' => ⟨_, _, _, rfl, hq k st' e'⟩) fun st' e' => ?_).jv
  refine ⟨by rw [hG]; kernel_rfl, fun e => ?_⟩
  rw [e'] at hpk
  have hsm : st'.2.length ≤ 4 := hpk.1.small
  have hNe : KN (cx'.mk' e) _ := hN.on
  refine xs_cons (x_assign (ev_attr (ecls_recip hG) (upd_at _ _ _) rfl (by rw [hG]; kernel_rfl) rfl ?_) (hNe.mine (by rfl)))
  refine xs_nil ?_
  refine jv_settle (x := "table") (σ₁ := []) rfl rfl ?_
  have hlen : (tblV st'.2).length < 2 ^ 62 := by unfold tblV; rw [List.length_map]; omega
  refine xs_cons (raise_sender hN (by rfl) hG hdn (by omega) (ev_callb (ev_builtin (hN.glob (by rfl)) (by rw [hG]; kernel_rfl) (by rfl) ⟨rfl, as_one <| ev_name rfl <| op_len_dct hlen <| ev_name rfl <| ev_name rfl ?_⟩)))
  exact he st' e'
end Mine
namespace Mine
open PySem PySem.W PyProof.Rows PyProof.Rows.LCg PySem.Calls PySem.Spec

noncomputable def refV (R : List (Nat × Tb)) : List AV := R.map fun p => .tup [.int p.1, .int (tblV p.2).length, .dct (tblV p.2)]
structure RunEnv (ρ : AE) (words : AV) (Hd Rf : Addr) (fair : Bool) : Prop where
  w : ρ "words" = some words
  h : ρ "holders" = some (.ref Hd)
  r : ρ "refusals" = some (.ref Rf)
  f : ρ "fair" = some (.bool fair)
theorem RunEnv.upd {ρ : AE} {words : AV} {Hd Rf : Addr} {fair : Bool} (h : RunEnv ρ words Hd Rf fair) {x : Str} {v : AV} (hx : ((("words" : Str) == x) || (("holders" : Str) == x) || (("refusals" : Str) == x) || (("fair" : Str) == x)) = false) : RunEnv (upd ρ x v) words Hd Rf fair := by
  simp only [Bool.or_eq_false_iff] at hx
  exact ⟨upd_off h.w hx.1.1.1, upd_off h.h hx.1.1.2, upd_off h.r hx.1.2, upd_off h.f hx.2⟩
theorem RunEnv.del {ρ : AE} {words : AV} {Hd Rf : Addr} {fair : Bool} (h : RunEnv ρ words Hd Rf fair) {x : Str} (hx : ((("words" : Str) == x) || (("holders" : Str) == x) || (("refusals" : Str) == x) || (("fair" : Str) == x)) = false) : RunEnv (del ρ x) words Hd Rf fair := by
  simp only [Bool.or_eq_false_iff] at hx
  have ne : ∀ {y : Str}, (y == x) = false → Mine.del ρ x y = ρ y := fun h => if_neg (by simpa using h)
  exact ⟨(ne hx.1.1.1).trans h.w, (ne hx.1.1.2).trans h.h, (ne hx.1.2).trans h.r, (ne hx.2).trans h.f⟩

noncomputable abbrev hdσ (Hd Rf : Addr) (H : Mine.Hd) (R : List (Nat × Tb)) (σ₀ : AH) : AH := (Hd, .dct (holdV H)) :: (Rf, .lst (refV R)) :: σ₀
/-- what holds between the senders -/
noncomputable def RunI (ws : List (List Nat)) (Hd Rf : Addr) (σ₀ : AH) (order l : List Nat) (ρ₁ : AE) (σ₁ : AH) : Prop :=
  ∃ H R fair, RunEnv ρ₁ (wordsV ws) Hd Rf fair ∧ (∀ c, -1 ≤ H c) ∧ (∀ c, H c ≤ 4) ∧ R.length + l.length ≤ 5 ∧ (∀ s ∈ l, s < 5) ∧ σ₁ = hdσ Hd Rf H R σ₀ ∧ runL (Wf ws) order (fun _ => -1) [] true = runL (Wf ws) l H R fair
/-- what holds when a sender has come -/
noncomputable def RunM (ws : List (List Nat)) (Hd Rf : Addr) (σ₀ : AH) (order rest : List Nat) (H : Mine.Hd) (n : Nat) (fair : Bool) (fl : AF) (ρ' : AE) (σ' : AH) : Prop :=
  fl = .next ∧ ∃ k st' R', RunEnv ρ' (wordsV ws) Hd Rf fair ∧ ρ' "before" = some (.dct (holdV H)) ∧ ρ' "moved" = some (.int k) ∧ σ' = hdσ Hd Rf st'.1 R' σ₀ ∧ StOk st' ∧ R'.length ≤ n + 1 ∧
    runL (Wf ws) order (fun _ => -1) [] true = runL (Wf ws) rest st'.1 R' (fair && k == (diffs H st'.1).length)
theorem diffs_av (H H' : Mine.Hd) : (([97, 98, 99, 100] : List Nat).filterMap fun c => if (H c != H' c) = true then some (AV.str (oneS c)) else none).length = (diffs H H').length := by
  unfold diffs
  induction ([97, 98, 99, 100] : List Nat) with
  | nil => rfl
  | cons c l ih =>
    simp only [List.filterMap_cons, List.filter_cons]
    cases (H c != H' c) <;> simpa using ih
theorem diffs_small (H H' : Mine.Hd) : (diffs H H').length < 2 ^ 62 := Nat.lt_of_le_of_lt (List.length_filter_le _ _) (by decide)
theorem box_of {c : Nat} (hc : c ∈ ([97, 98, 99, 100] : List Nat)) : Box c := by
  have : ∀ c ∈ ([97, 98, 99, 100] : List Nat), Box c := by decide
  exact this c hc

theorem run_walk {G : Gr} {P : Params} (hG : G.K = Mine.hd.heap_39 P) {ws : List (List Nat)} (hws : ws.length = 5) (hwb : ∀ l ∈ ws, (∀ b ∈ l, Box b) ∧ l.length ≤ 1000) {σ₀ : AH} {cx : Cx} {ρ : AE} {order : List Nat} {Q : AV → AE → AH → Prop} {EQ : AX → AE → AH → Prop}
    (hd : cx.hd = none) (hdp : 30 ≤ cx.d) (ho5 : ∀ s ∈ order, s < 5) (hol : order.length ≤ 5)
    (hq : ∀ Hd Rf H R fair, runL (Wf ws) order (fun _ => -1) [] true = (H, R, fair) → Q (.tup [.ref Hd, .ref Rf, .bool fair]) ρ (hdσ Hd Rf H R σ₀)) :
    JVC G cx ρ σ₀ [wordsV ws, .lst (order.map fun n : Nat => .int (n : Int))] 116 Q EQ := by
  refine call_fn (hK := by rw [hG]; rfl) (hcd := by rw [hG]; rfl) (names := ["words", "order"]) (fun Vs h hl X => ?_) (by decide) rfl (by decide) (by decide) (by decide) (by omega) (fun cx' hd' hh' hc' hs' ho' => ?_)
  · obtain ⟨a, b, rfl⟩ := two_of hl
    exact Looks.of_pure rfl
  have hN := KN.of_scope hs' ho'
  have hdn : cx'.hd = none := hh'.trans hd
  have hWb := Wf_box hwb
  have hdp' : 25 ≤ cx'.d := by omega
  clear hd hdp hh' hs' ho' hd'
  refine xs_cons (x_assign (ev_dict_live rfl rfl (by simp) (by decide) fun Hd => pr_cons <| ev_str ⟨_, rfl, ev_un <| ev_int <| op_neg <| pr_cons <| ev_str ⟨_, rfl, ev_un <| ev_int <| op_neg <| pr_cons <| ev_str ⟨_, rfl, ev_un <| ev_int <| op_neg <| pr_cons <| ev_str ⟨_, rfl, ev_un <| ev_int <| op_neg <| pr_nil ⟨_, rfl, by decide, ?_⟩⟩⟩⟩⟩) (hN.mine (by rfl)))
  refine xs_cons (x_assign (ev_list_live (as_nil ⟨Nat.zero_le _, fun Rf => ?_⟩)) (hN.mine (by rfl)))
  refine xs_cons (x_assign (ev_bool ?_) (hN.mine (by rfl)))
  refine jv_perm (List.Perm.swap _ _ _) ?_
  refine xs_cons (x_for hdn hc' (ev_name rfl ⟨_, Itr.lst _, ?_⟩))
  refine forP_ind (fun n : Nat => AV.int (n : Int)) (RunI ws Hd Rf σ₀ order) ?_ ?_ _ _ _ ⟨fun _ => -1, [], true, ⟨rfl, rfl, rfl, rfl⟩, fun _ => Int.le_refl _, fun _ => (by decide : (-1 : Int) ≤ 4), by simpa using hol, ho5, rfl, rfl⟩
  · rintro ρ₁ σ₁ ⟨H, R, fair, hρ, hlo, hhi, hR, hl5, rfl, e⟩
    exact xs_cons (x_ret (ev_tuple (as_cons <| ev_name hρ.h <| as_cons <| ev_name hρ.r <| as_one <| ev_name hρ.f ⟨Nat.le_of_ble_eq_true rfl, hq Hd Rf H R fair e⟩)))
  · clear hq
    rintro s rest ρ₁ σ₁ ⟨H, R, fair, hρ, hlo, hhi, hR, hl5, rfl, e⟩
    refine ⟨_, TB.name (hN.mine (by rfl)), ?_⟩
    have hs := hl5 s List.mem_cons_self
    have hρ₂ : RunEnv (upd ρ₁ "sender" (.int s)) (wordsV ws) Hd Rf fair := hρ.upd (by decide)
    have hse : upd ρ₁ "sender" (.int s) "sender" = some (.int s) := upd_at _ _ _
    revert hρ₂ hse
    generalize upd ρ₁ "sender" (.int s) = ρ₂
    clear hρ ρ₁
    intro hρ₂ hse
    refine xs_cons (x_assign (ev_callt (ev_builtin (V := .type "dict") (hN.glob (by rfl)) (by rw [hG]; kernel_rfl) (by rfl) ⟨rfl, as_one <| ev_name hρ₂.h <| op_dict (σ₁ := []) rfl (Nat.le_of_ble_eq_true rfl) ?_⟩)) (hN.mine (by rfl)))
    refine xs_cons (x_assign (ev_int ?_) (hN.mine (by rfl)))
    have hρ₄ := (hρ₂.upd (x := "before") (v := .dct (holdV H)) (by decide)).upd (x := "moved") (v := .int 0) (by decide)
    have hbe : upd (upd ρ₂ "before" (.dct (holdV H))) "moved" (.int 0) "before" = some (.dct (holdV H)) := upd_off (upd_at _ _ _) (by decide)
    have hmo : upd (upd ρ₂ "before" (.dct (holdV H))) "moved" (.int 0) "moved" = some (.int 0) := upd_at _ _ _
    have hse₄ : upd (upd ρ₂ "before" (.dct (holdV H))) "moved" (.int 0) "sender" = some (.int s) := upd_off (upd_off hse (by decide)) (by decide)
    revert hρ₄ hbe hmo hse₄
    generalize upd (upd ρ₂ "before" (.dct (holdV H))) "moved" (.int 0) = ρ₄
    clear hρ₂ hse ρ₂
    intro hρ₄ hbe hmo hse₄
    have hok := place_ok (W := Wf ws) hWb 5 (H, []) s ⟨by simp, fun p hp => by simp at hp, hlo, hhi⟩ hs
    refine xs_cons (JV.mono (Q := RunM ws Hd Rf σ₀ order rest H R.length fair) ?_ ?_ fun _ _ _ q => q)
    · refine x_try_as hN hc' hdn (C := 52) (by rfl) (by rw [hG]; kernel_rfl) (by rfl) (xs_cons (x_assign (ev_call (ev_global (V := .ref 111) (hN.glob (by rfl)) (by rw [hG]; kernel_rfl) ⟨rfl, as_cons <| ev_name hρ₄.w <| as_cons <| ev_name hρ₄.h <| as_one <| ev_name hse₄ ?_⟩) (by rw [hG]; rfl)) (hN.mine (by rfl))))
      refine (come_walk hG hws hwb hdn (by omega) hlo hhi hs (fun k st' e' => ?_) fun st' e' => ?_).jv
      · rw [e'] at hok
        rw [runL, e'] at e
        exact xs_nil ⟨rfl, k, st', R, hρ₄.upd (by decide), upd_off hbe (by decide), upd_at _ _ _, rfl, hok.1, Nat.le_succ _, e⟩
      · rw [e'] at hok
        rw [runL, e'] at e
        refine ⟨by rw [hG]; kernel_rfl, fun ee => ?_⟩
        have hρ₅ := hρ₄.upd (x := "refused") (v := .exc 71 [("sender", .int s), ("smtp_error", .dct (tblV st'.2)), ("smtp_code", .int (tblV st'.2).length)]) (by decide)
        have hRl : (refV R).length ≤ 1000 := by unfold refV; rw [List.length_map]; omega
        refine xs_cons (x_expr (ev_append hρ₅.r ⟨[_], _, _, rfl⟩ (ev_tuple (as_cons <| ev_attr (ecls_sender hG) (upd_at _ _ _) rfl (by rw [hG]; kernel_rfl) rfl <| as_cons <| ev_attr (ecls_sender hG) (upd_at _ _ _) rfl (by rw [hG]; kernel_rfl) rfl <| as_one <| ev_attr (ecls_sender hG) (upd_at _ _ _) rfl (by rw [hG]; kernel_rfl) rfl
          ⟨Nat.le_of_ble_eq_true rfl, [_], _, _, rfl, hRl, rfl, ?_⟩))))
        have hR1 : refV (R ++ [(s, st'.2)]) = refV R ++ [.tup [.int s, .int (tblV st'.2).length, .dct (tblV st'.2)]] := by unfold refV; rw [List.map_append]; rfl
        refine xs_nil ⟨rfl, 0, st', R ++ [(s, st'.2)], hρ₅.del (by decide), ?_, ?_, ?_, hok.1, Nat.le_of_eq (List.length_append ..), e⟩
        · exact (if_neg (by decide)).trans (upd_off hbe (by decide))
        · exact (if_neg (by decide)).trans (upd_off hmo (by decide))
        · show _ = (Hd, AO.dct (holdV st'.1)) :: (Rf, .lst (refV (R ++ [(s, st'.2)]))) :: σ₀
          rw [hR1]; rfl
    · clear hρ₄ hbe hmo hse₄ ρ₄ hok e
      rintro fl ρ' σ' ⟨rfl, k, st', R', h1, h2, h3, rfl, h4, h5, h6⟩
      have fin : RunI ws Hd Rf σ₀ order rest (upd ρ' "fair" (.bool (fair && k == (diffs H st'.1).length))) (hdσ Hd Rf st'.1 R' σ₀) := by
        refine ⟨st'.1, R', _, ⟨upd_off h1.w (by decide), upd_off h1.h (by decide), upd_off h1.r (by decide), upd_at _ _ _⟩, h4.lo, h4.hi, ?_, fun c hc => hl5 c (List.mem_cons_of_mem _ hc), rfl, h6⟩
        rw [List.length_cons] at hR
        omega
      refine xs_cons (x_assign (ev_and (ev_name h1.f ⟨fair, rfl, ?_⟩)) (hN.mine (by rfl)))
      cases fair with
      | false => exact xs_nil fin
      | true =>
        rw [Bool.true_and] at fin
        rw [if_pos rfl]
        refine ev_cmp (ev_name h3 <| ev_callb (ev_builtin (hN.glob (by rfl)) (by rw [hG]; kernel_rfl) (by rfl) ⟨rfl, as_one <| ev_listcomp [97, 98, 99, 100] (fun c => AV.str (oneS c)) (fun c => if (H c != st'.1 c) = true then some (AV.str (oneS c)) else none) hN hdn (by decide) (ev_name h2 ⟨Itr.dct _, rfl, rfl, fun cxc ci c hc => ?_⟩) ?_⟩))
        · have hb := box_of hc
          refine coT1 (b := H c != st'.1 c) (TB.name (ci.kn.mine (by rfl))) (ts_cmp ?_) fun _ => ev_name (upd_at _ _ _) ⟨rfl, rfl, rfl⟩
          exact ev_sub <| ev_name (upd_off ((if_pos (by rfl)).trans h2) (by decide)) <| ev_name (upd_at _ _ _) <| it_dct (holdV_lookup hb) <| ev_sub <| ev_name (upd_off ((if_pos (by rfl)).trans h1.h) (by decide)) <| ev_name (upd_at _ _ _) <| it_ldct (σ₁ := []) rfl (holdV_lookup hb) <| op_ne_int ⟨_, rfl, rfl, rfl, rfl⟩
        · refine op_len_lst (by rw [diffs_av]; exact diffs_small _ _) ?_
          rw [diffs_av]
          exact op_eq_int (xs_nil fin)
end Mine
namespace Mine
open PySem PySem.W PyProof.Rows PyProof.Rows.LCg PySem.Calls PySem.Spec

noncomputable def intsV (l : List Nat) : AV := .lst (l.map fun n : Nat => .int (n : Int))
noncomputable def boxV (l : List Nat) : AV := .lst (l.map fun c => .str (oneS c))
theorem filterMap_if {α β : Type} {p : α → Bool} {f : α → β} : ∀ l : List α, (l.filterMap fun c => if p c = true then some (f c) else none) = (l.filter p).map f
  | [] => rfl
  | c :: l => by
    simp only [List.filterMap_cons, List.filter_cons]
    cases p c <;> simp [filterMap_if l]
theorem signs_abcd : signs "abcd" = [97, 98, 99, 100].map fun c => AV.str (oneS c) := by
  have : ("abcd" : Str).cps.toList = [97, 98, 99, 100] := by decide +kernel
  unfold signs
  rw [this]
  rfl

theorem reach_walk {G : Gr} {P : Params} (hG : G.K = Mine.hd.heap_39 P) {cx : Cx} {ρ : AE} {σ : AH} {ds : List Int} {g : List Nat} {Q : AV → AE → AH → Prop} {EQ : AX → AE → AH → Prop}
    (hd : cx.hd = none) (hdp : 1 ≤ cx.d) (hg : ∀ o ∈ g, o < ds.length) (hds : ds.length ≤ 1000) (hq : Q (boxV (reachC ds g)) ρ σ) :
    JVC G cx ρ σ [.lst (ds.map .int), intsV g] 121 Q EQ := by
  refine call_fn (hK := by rw [hG]; rfl) (hcd := by rw [hG]; rfl) (names := ["draws", "group"]) (fun Vs h hl X => ?_) (by decide) rfl (by decide) (by decide) (by decide) (by omega) (fun cx' hd' hh' hc' hs' ho' => ?_)
  · obtain ⟨a, b, rfl⟩ := two_of hl
    exact Looks.of_pure rfl
  have hN := KN.of_scope hs' ho'
  have hdn : cx'.hd = none := hh'.trans hd
  refine xs_cons (x_assign (ev_int ?_) (hN.mine (by rfl)))
  refine xs_cons (x_for hdn hc' (ev_name rfl ⟨_, Itr.lst _, ?_⟩))
  refine forP_ind (fun n : Nat => AV.int (n : Int)) (fun l ρ₁ σ₁ => ∃ b, ρ₁ "draws" = some (.lst (ds.map .int)) ∧ ρ₁ "boxes" = some (.int b) ∧ (∀ o ∈ l, o < ds.length) ∧ σ₁ = σ ∧ boxesOf ds g = l.foldl (fun b o => Builtin.bitOr b ((ds.getD o 0).fmod 16)) b) ?_ ?_ _ _ _ ?_
  · rintro ρ₁ σ₁ ⟨b, h1, h2, h3, rfl, e⟩
    refine xs_cons (x_ret (ev_listcomp [97, 98, 99, 100] (fun c => AV.str (oneS c)) (fun c => if takes b c = true then some (AV.str (oneS c)) else none) hN hdn (by decide) (ev_str ⟨by rw [← signs_abcd]; exact Itr.str _, rfl, rfl, fun cxc ci c hc => ?_⟩) ?_))
    · have hb : 97 ≤ c ∧ c ≤ 100 := box_of hc
      refine coT1 (b := takes b c) (TB.name (ci.kn.mine (by rfl))) (ts_cmp <| ev_bin <| ev_bin <| ev_name (upd_off ((if_pos (by rfl)).trans h2) (by decide)) <| ev_bin <| ev_int <| ev_index <| ev_name (upd_at _ _ _) ⟨_, _, _, rfl, (occ_abcd c hb).choose_spec, ?_⟩) fun _ => ev_name (upd_at _ _ _) ⟨rfl, rfl, rfl⟩
      have h3 : c - 97 ≤ 3 := Nat.sub_le_sub_right hb.2 97
      exact op_pow2 (Nat.le_trans h3 (by decide)) (op_fdiv (a := b) (pow_ne _) (pow_lt (Nat.le_trans h3 (by decide))) (ev_int (op_mod (by decide) (ev_int (op_eq_int ⟨_, rfl, takes_cast b c, rfl, rfl⟩)))))
    · rw [filterMap_if, ← show boxesOf ds g = b from e]
      exact hq
  · rintro o rest ρ₁ σ₁ ⟨b, h1, h2, h3, rfl, e⟩
    refine ⟨_, TB.name (hN.mine (by rfl)), ?_⟩
    have ho := h3 o List.mem_cons_self
    refine xs_cons (x_assign (ev_bin <| ev_name (upd_off h2 (by decide)) <| ev_bin <| ev_sub <| ev_name (upd_off h1 (by decide)) <| ev_name (upd_at _ _ _) <| it_at (v := .int (ds.getD o 0)) (Nat.le_trans (Nat.le_of_lt ho) hds) ?_ <| ev_int <| op_mod (by decide) <| op_or ?_) (hN.mine (by rfl)))
    · rw [List.getElem?_map]
      show (ds[o]?).map _ = _
      rw [List.getD_eq_getElem?_getD, List.getElem?_eq_getElem ho]
      rfl
    · exact xs_nil ⟨_, upd_off (upd_off h1 (by decide)) (by decide), upd_at _ _ _, fun c hc => h3 c (List.mem_cons_of_mem _ hc), rfl, e⟩
  · exact ⟨0, rfl, rfl, hg, rfl, rfl⟩
end Mine
namespace Mine
open PySem
theorem py_bit (k o : Nat) : (((k : Int).fdiv ((2 ^ o : Nat) : Int)).fmod 2 == 1) = bit k o := by
  unfold bit
  rw [Int.fdiv_eq_ediv_of_nonneg _ (Int.natCast_nonneg _), ← Int.natCast_ediv, Int.fmod_eq_emod_of_nonneg _ (by decide), Bool.eq_iff_iff, beq_iff_eq, beq_iff_eq]
  omega
theorem served_av (H : Hd) : (([97, 98, 99, 100] : List Nat).filterMap fun c => if decide (0 ≤ H c) = true then some (AV.int (H c)) else none) = (served H).map fun n : Nat => AV.int (n : Int) := by
  unfold served boxes
  rw [List.map_map]
  induction ([97, 98, 99, 100] : List Nat) with
  | nil => rfl
  | cons c l ih =>
    rw [List.filterMap_cons, List.filter_cons]
    by_cases h : 0 ≤ H c
    · rw [decide_eq_true h, if_pos rfl, if_pos rfl, List.map_cons, ih]
      show AV.int (H c) :: _ = AV.int ((H c).toNat : Int) :: _
      rw [Int.toNat_of_nonneg h]
    · rw [decide_eq_false h]
      exact ih
theorem sorted_eq {l m : List Int} (hp : l.Perm m) (h1 : l.Pairwise (· ≤ ·)) (h2 : m.Pairwise (· ≤ ·)) : l = m :=
  hp.eq_of_pairwise (fun a b _ _ h h' => Int.le_antisymm h h') h1 h2
theorem gs_length : gs.length = 32 := by unfold gs; simp
theorem rs_length (ds : List Int) : (rsOf ds).length = 32 := by unfold rsOf; simp
theorem gr_pow : ∀ k < 32, ∀ o ∈ gr k, o < 5 ∧ 2 ^ o ≤ k := fun k hk o ho => ⟨(mem_gr.mp ho).1, (gr_down k hk o ho).1⟩
theorem gr_len (k : Nat) : (gr k).length ≤ 5 := List.length_filter_le _ _
theorem reach_len (ds : List Int) (g : List Nat) : (reachC ds g).length ≤ 4 := List.length_filter_le _ _
end Mine
namespace Mine
open PySem PySem.W PyProof.Rows PyProof.Rows.LCg PySem.Calls PySem.Spec

theorem ad_ints (l : List Nat) : AD (intsV l) (.list (l.map fun n : Nat => PyData.int (n : Int))) := .lst (ADL.ofMap (fun n => .int _) l)
theorem shaped_nats (l : List Nat) : SeqAt.shaped (.list (l.map fun n : Nat => PyData.int (n : Int))) = true := shaped_list (n := 0) (by decide) l fun a _ => ⟨by simp only [PyData.canLay0], by simp only [PyData.depth]; exact Nat.le_refl _⟩
theorem eqv_nats (l m : List Nat) : PyData.eqv (.list (l.map fun n : Nat => PyData.int (n : Int))) (.list (m.map fun n : Nat => PyData.int (n : Int))) = decide (l = m) := by
  simp only [PyData.eqv]
  exact eqvAll_eq (fun a b => by
    simp only [PyData.eqv]
    by_cases h : a = b
    · subst h; simp
    · have h' : (a : Int) ≠ (b : Int) := fun e => h (by exact_mod_cast e)
      simp [h, h']) l m

structure GrOk (gs rs : List (List Nat)) : Prop where
  lg : gs.length = 32
  lr : rs.length = 32
  g5 : ∀ k < 32, ∀ o ∈ gs.getD k [], o < 5 ∧ 2 ^ o ≤ k
  gl : ∀ k < 32, (gs.getD k []).length ≤ 5
  rl : ∀ k < 32, (rs.getD k []).length ≤ 4

/-- what holds between the groups -/
noncomputable def FitI (gs rs : List (List Nat)) (F : Addr) (σ : AH) (l : List Nat) (ρ₁ : AE) (σ₁ : AH) : Prop :=
  ∃ fits : List Bool, ρ₁ "groups" = some (.lst (gs.map intsV)) ∧ ρ₁ "reach" = some (.lst (rs.map boxV)) ∧ ρ₁ "fits" = some (.ref F) ∧ fits.length + l.length = 32 ∧ l = List.range' fits.length (32 - fits.length) ∧ σ₁ = (F, .lst (fits.map .bool)) :: σ ∧
    fitsL gs rs 32 = l.foldl (fitStep gs rs) fits
noncomputable def badOf (gs : List (List Nat)) (fits : List Bool) (k : Nat) : List Nat := (gs.getD k []).filter fun o => !(fits.getD (k - 2 ^ o) false)
theorem fit_len (gs rs : List (List Nat)) (fits : List Bool) (k : Nat) : (fitStep gs rs fits k).length = fits.length + 1 := by unfold fitStep; rw [List.length_append]; rfl
theorem fit_av (gs rs : List (List Nat)) (fits : List Bool) (k : Nat) {b : Bool} (hb : b = (decide (badOf gs fits k = []) && decide ((gs.getD k []).length ≤ (rs.getD k []).length))) : fits.map AV.bool ++ [AV.bool b] = (fitStep gs rs fits k).map .bool := by
  subst hb; unfold fitStep; rw [List.map_append]; rfl
theorem fit_next {gs rs : List (List Nat)} {F : Addr} {σ : AH} {k : Nat} {rest : List Nat} {fits : List Bool} {ρ : AE} {b : Bool} (h1 : ρ "groups" = some (.lst (gs.map intsV))) (h2 : ρ "reach" = some (.lst (rs.map boxV))) (h3 : ρ "fits" = some (.ref F)) (hl : fits.length + (rest.length + 1) = 32) (hr : rest = List.range' (fits.length + 1) (32 - (fits.length + 1)))
    (e : fitsL gs rs 32 = (k :: rest).foldl (fitStep gs rs) fits) (hb : b = (decide (badOf gs fits k = []) && decide ((gs.getD k []).length ≤ (rs.getD k []).length))) : FitI gs rs F σ rest ρ ((F, .lst (fits.map AV.bool ++ [AV.bool b])) :: σ) :=
  ⟨fitStep gs rs fits k, h1, h2, h3, by rw [fit_len]; omega, by rw [fit_len]; exact hr, by rw [fit_av gs rs fits k hb], e⟩
theorem at32 {l : List (List Nat)} {k : Nat} {f : List Nat → AV} (hl : l.length = 32) (hk : k < 32) : (l.map f)[k]? = some (f (l.getD k [])) := by
  rw [List.getElem?_map, List.getD_eq_getElem?_getD, List.getElem?_eq_getElem (by omega)]; rfl
theorem le32 {k : Nat} (h : k < 32) : k ≤ 1000 := Nat.le_trans (Nat.le_of_lt h) (by decide)
theorem le_int (a b : Nat) : decide ((a : Int) ≤ (b : Int)) = decide (a ≤ b) := by
  rw [Bool.eq_iff_iff, decide_eq_true_iff, decide_eq_true_iff]; exact Int.ofNat_le
theorem len62 {α : Type} {l : List α} {n : Nat} (h : l.length ≤ n) (hn : n ≤ 1000 := by decide) : l.length < 2 ^ 62 := Nat.lt_of_le_of_lt (Nat.le_trans h hn) (by decide)

theorem fits_walk {G : Gr} {P : Params} (hG : G.K = Mine.hd.heap_39 P) {cx : Cx} {ρ : AE} {σ : AH} {gs rs : List (List Nat)} {Q : AV → AE → AH → Prop} {EQ : AX → AE → AH → Prop}
    (hd : cx.hd = none) (hdp : 1 ≤ cx.d) (hgr : GrOk gs rs) (hq : ∀ F, Q (.ref F) ρ ((F, .lst ((fitsL gs rs 32).map .bool)) :: σ)) :
    JVC G cx ρ σ [.lst (gs.map intsV), .lst (rs.map boxV)] 126 Q EQ := by
  refine call_fn (hK := by rw [hG]; rfl) (hcd := by rw [hG]; rfl) (names := ["groups", "reach"]) (fun Vs h hl X => ?_) (by decide) rfl (by decide) (by decide) (by decide) hdp (fun cx' hd' hh' hc' hs' ho' => ?_)
  · obtain ⟨a, b, rfl⟩ := two_of hl
    exact Looks.of_pure rfl
  have hN := KN.of_scope hs' ho'
  have hdn : cx'.hd = none := hh'.trans hd
  clear hd hdp hh' hs' ho' hd'
  refine xs_cons (x_assign (ev_list_live (as_nil ⟨Nat.zero_le _, fun F => ?_⟩)) (hN.mine (by rfl)))
  refine xs_cons (x_for hdn hc' (ev_callt (ev_builtin (V := .type "range") (hN.glob (by rfl)) (by rw [hG]; kernel_rfl) (by rfl) ⟨rfl, as_one <| ev_int <| op_range ⟨_, itr_range 32 (by decide), ?_⟩⟩)))
  refine forP_ind (fun i : Nat => AV.int (i : Int)) (FitI gs rs F σ) ?_ ?_ _ _ _ ⟨[], rfl, rfl, rfl, rfl, by rw [List.range_eq_range']; rfl, rfl, rfl⟩
  · rintro ρ₁ σ₁ ⟨fits, h1, h2, h3, hl, hl', rfl, e⟩
    refine xs_cons (x_ret (ev_name h3 ?_))
    have e' : fitsL gs rs 32 = fits := e
    rw [← e']
    exact hq F
  · clear hq
    rintro k rest ρ₁ σ₁ ⟨fits, h1, h2, h3, hl, hl', rfl, e⟩
    refine ⟨_, TB.name (hN.mine (by rfl)), ?_⟩
    rw [List.length_cons] at hl
    have h32 : 32 - fits.length = rest.length + 1 := by omega
    rw [h32, List.range'_succ] at hl'
    obtain ⟨hk, hrest⟩ := List.cons.inj hl'
    have hr1 : rest = List.range' (fits.length + 1) (32 - (fits.length + 1)) := by rw [show 32 - (fits.length + 1) = rest.length by omega]; exact hrest
    have hk32 : k < 32 := by omega
    have h1 : upd ρ₁ "k" (.int (k : Int)) "groups" = some (.lst (gs.map intsV)) := upd_off h1 (by decide)
    have h2 : upd ρ₁ "k" (.int (k : Int)) "reach" = some (.lst (rs.map boxV)) := upd_off h2 (by decide)
    have h3 : upd ρ₁ "k" (.int (k : Int)) "fits" = some (.ref F) := upd_off h3 (by decide)
    have h4 : upd ρ₁ "k" (.int (k : Int)) "k" = some (.int (k : Int)) := upd_at _ _ _
    clear h32 hl' hrest
    revert h1 h2 h3 h4
    generalize upd ρ₁ "k" (.int (k : Int)) = ρ₂
    intro h1 h2 h3 h4
    refine xs_cons (x_listcomp (gs.getD k []) (fun n : Nat => AV.int (n : Int)) (fun o => if (!(fits.getD (k - 2 ^ o) false)) = true then some (AV.int (o : Int)) else none) hN hdn (Nat.le_trans (hgr.gl k hk32) (by decide))
      (ev_sub <| ev_name h1 <| ev_name h4 <| it_at (le32 hk32) (at32 hgr.lg hk32) ⟨Itr.lst _, rfl, rfl, fun cxc ci o ho => ?_⟩) ?_)
    · obtain ⟨ho5, hok⟩ := hgr.g5 k hk32 o ho
      have hkp : (k : Int) - ((2 ^ o : Nat) : Int) = ((k - 2 ^ o : Nat) : Int) := (Int.ofNat_sub hok).symm
      have hlt : k - 2 ^ o < fits.length := by have : 0 < 2 ^ o := Nat.pow_pos (by decide); omega
      refine coT1 (b := !(fits.getD (k - 2 ^ o) false)) (TB.name (ci.kn.mine (by rfl))) (ts_not <| ts_val <| ev_sub <| ev_name (upd_off ((if_pos (by rfl)).trans h3) (by decide)) <| ev_bin <| ev_name (upd_off ((if_pos (by rfl)).trans h4) (by decide)) <| ev_bin <| ev_int <| ev_name (upd_at _ _ _) <| op_pow2 (Nat.le_trans (Nat.le_of_lt ho5) (by decide)) <| op_sub ?_) fun _ => ev_name (upd_at _ _ _) ⟨rfl, rfl, rfl⟩
      rw [hkp]
      refine it_llst (σ₁ := []) rfl (v := .bool (fits.getD (k - 2 ^ o) false)) (Int.natCast_nonneg _) ?_ (nat_small (Nat.le_trans (Nat.sub_le _ _) (le32 hk32))) ⟨_, rfl, rfl, rfl, rfl⟩
      rw [Int.toNat_natCast, List.getElem?_map, List.getD_eq_getElem?_getD, List.getElem?_eq_getElem hlt]
      rfl
    · rw [filterMap_if]
      have gl := hgr.gl k hk32
      have rl := hgr.rl k hk32
      have hfl : (fits.map AV.bool).length ≤ 1000 := by rw [List.length_map]; omega
      show Xs G cx' (upd ρ₂ "bad" (intsV (badOf gs fits k))) _ _ _ _
      have h1 := upd_off (x := "bad") (v := intsV (badOf gs fits k)) h1 (by decide)
      have h2 := upd_off (x := "bad") (v := intsV (badOf gs fits k)) h2 (by decide)
      have h3 := upd_off (x := "bad") (v := intsV (badOf gs fits k)) h3 (by decide)
      have h4 := upd_off (x := "bad") (v := intsV (badOf gs fits k)) h4 (by decide)
      have h5 : upd ρ₂ "bad" (intsV (badOf gs fits k)) "bad" = some (intsV (badOf gs fits k)) := upd_at _ _ _
      revert h1 h2 h3 h4 h5
      generalize upd ρ₂ "bad" (intsV (badOf gs fits k)) = ρ₃
      intro h1 h2 h3 h4 h5
      refine xs_cons (x_expr (ev_append h3 ⟨[], _, _, rfl⟩ (ev_and (ev_cmp (ev_name h5 <| ev_list <| as_nil ⟨Nat.zero_le _, op_eq_data (ad_ints _) (ad_ints []) (shaped_nats _) (shaped_nats []) ⟨_, rfl, ?_⟩⟩)))))
      rw [eqv_nats]
      by_cases hbad : badOf gs fits k = []
      · rw [decide_eq_true hbad, if_pos rfl]
        refine ev_cmp <| ev_callb <| ev_builtin (V := .builtin "len") (hN.glob (by rfl)) (by rw [hG]; kernel_rfl) (by rfl) ⟨rfl, as_one <| ev_sub <| ev_name h2 <| ev_name h4 <| it_at (le32 hk32) (at32 hgr.lr hk32) <| op_len_lst (by rw [List.length_map]; exact len62 rl) <| ev_callb <| ev_builtin (V := .builtin "len") (hN.glob (by rfl)) (by rw [hG]; kernel_rfl) (by rfl) ⟨rfl, as_one <| ev_sub <| ev_name h1 <| ev_name h4 <| it_at (le32 hk32) (at32 hgr.lg hk32) <| op_len_lst (by rw [List.length_map]; exact len62 gl) <| op_ge_int ?_⟩⟩
        exact ⟨[], _, _, rfl, hfl, rfl, xs_nil (fit_next h1 h2 h3 hl hr1 e (by rw [decide_eq_true hbad, Bool.true_and, List.length_map, List.length_map, le_int]))⟩
      · rw [decide_eq_false hbad]
        exact ⟨[], _, _, rfl, hfl, rfl, xs_nil (fit_next h1 h2 h3 hl hr1 e (by rw [decide_eq_false hbad, Bool.false_and]))⟩
end Mine
namespace Mine
open PySem PySem.W PyProof.Rows PyProof.Rows.LCg PySem.Calls PySem.Spec

noncomputable def lawBody (P : Params) : List Stmt := match (Mine.hd.heap_39 P).lookup 131 with
  | some o => (match o.data with
    | .func fd => (match fd.body with
      | .stmts b => b
      | _ => [])
    | _ => [])
  | none => []
noncomputable def bases : List Int := [206, 449, 166, 323, 323]
noncomputable def drawOf (xs : List Int) (k : Nat) : Int := (bases.getD k 0 + ((pickL (pickL xs none (some 40) none) (some (k : Int)) none (some 5)).map fun x => x.fmod 512).sum).fmod 512
noncomputable def drawsOf (xs : List Int) : List Int := (List.range 5).map (drawOf xs)
noncomputable def worthsOf (ds : List Int) : List Int := ds.map fun d => d.fdiv 64 - 3

section
variable {G : Gr} {P : Params} {cx : Cx} {fz : Objs} {s : Shared} {QQ : Flow → Shared → Prop} {EE : Value → Shared → Prop} {xs : List Int}
theorem law_pre (hG : G.K = Mine.hd.heap_39 P) (g : GOk G) (hxs : xs.length ≤ 63) {ex : Objs} {ρ : AE} (S : Sat G cx ex ρ [] fz s.heap) (K : KN cx (match (Mine.hd.heap_39 P).lookup 131 with | some o => (match o.data with | .func fd => fd.scope.names | _ => []) | none => [])) (hd : cx.hd = none) (hρ : ρ "script" = some (.lst (xs.map .int)))
    (k : ∀ ρ' fz' h' tk', (∀ p ∈ fz, p ∈ fz') → Sat G cx ex ρ' [] fz' h' → ρ' "draws" = some (.lst ((drawsOf xs).map .int)) → ρ' "worths" = some (.lst ((worthsOf (drawsOf xs)).map .int)) → wpAny (model G.prog G.w) cx.A (execs ((lawBody P).drop 3) cx.env) QQ EE { s with heap := h', toks := tk' }) :
    wpAny (model G.prog G.w) cx.A (execs (lawBody P) cx.env) QQ EE s := by
  show wpAny _ _ (execs (_ :: _ :: _ :: (lawBody P).drop 3) _) _ _ _
  refine raw_step (Q := fun ρ' σ' => σ' = [] ∧ ρ' "script" = some (.lst (xs.map .int)) ∧ ρ' "bases" = some (.lst (bases.map .int))) g S (x_assign (ev_list (as_cons <| ev_int <| as_cons <| ev_int <| as_cons <| ev_int <| as_cons <| ev_int <| as_one <| ev_int ⟨Nat.le_of_ble_eq_true rfl, rfl, rfl, upd_off hρ (by decide), upd_at _ _ _⟩)) (K.mine (by rfl))) ?_
  rintro ρ₁ σ₁ fz₁ h₁ t₁ k₁ S₁ ⟨rfl, e1, e2⟩
  refine raw_step (Q := fun ρ' σ' => σ' = [] ∧ ρ' "draws" = some (.lst ((drawsOf xs).map .int))) g S₁ ?_ ?_
  · refine x_listcomp (List.range 5) (fun k : Nat => AV.int (k : Int)) (fun k => some (AV.int (drawOf xs k))) K hd (by decide) (ev_callt (ev_builtin (V := .type "range") (K.glob (by rfl)) (by rw [hG]; kernel_rfl) (by rfl) ⟨rfl, as_one <| ev_int <| op_range ⟨itr_range 5 (by decide), rfl, rfl, fun cxc ci i hi => ?_⟩⟩)) ⟨rfl, rfl, ?_⟩ (by rfl)
    · have hi5 : i < 5 := List.mem_range.mp hi
      refine coT0 (TB.name (ci.kn.mine (by rfl))) ?_
      have hdc : cxc.hd = none := ci.hd.trans hd
      refine ev_bin <| ev_bin <| ev_sub <| ev_name (upd_off ((if_pos (by rfl)).trans e2) (by decide)) <| ev_name (upd_at _ _ _) <| it_at (v := .int (bases.getD i 0)) (Nat.le_trans (Nat.le_of_lt hi5) (by decide)) ?_ <| ev_callb <| ev_builtin (V := .builtin "sum") (ci.kn.glob (by rfl)) (by rw [hG]; kernel_rfl) (by rfl) ⟨rfl, as_one <| ev_listcomp (pickL (pickL xs none (some 40) none) (some (i : Int)) none (some 5)) AV.int (fun x => some (AV.int (x.fmod 512))) ci.kn hdc ?_ ?_ ?_⟩
      · rw [List.getElem?_map, List.getD_eq_getElem?_getD, List.getElem?_eq_getElem (by show i < 5; exact hi5)]; rfl
      · exact Nat.le_trans (pickL_le _ _ _ _) (Nat.le_trans (pickL_le _ _ _ _) (by omega))
      · refine ev_step <| ev_upto <| ev_name (upd_off ((if_pos (by rfl)).trans e1) (by decide)) ⟨_, rfl, by rw [List.length_map]; omega, ev_int ⟨_, rfl, _, rfl, ?_, ev_name (upd_at _ _ _) ⟨_, rfl, ev_int ⟨_, rfl, by decide, ?_, rfl, rfl, fun cxd cj x hx => ?_⟩⟩⟩⟩
        · exact Nat.le_trans (pickL_le _ _ _ _) (by rw [List.length_map]; omega)
        · rw [pickL_map, pickL_map]; exact Itr.lst _
        · refine coT0 (TB.name (cj.kn.mine (by rfl))) ?_
          exact ev_bin <| ev_name (upd_at _ _ _) <| ev_int <| op_mod (by decide) ⟨rfl, rfl, rfl⟩
      · have e3 : ((pickL (pickL xs none (some 40) none) (some (i : Int)) none (some 5)).filterMap fun x => some (AV.int (x.fmod 512))) = ((pickL (pickL xs none (some 40) none) (some (i : Int)) none (some 5)).map fun x => x.fmod 512).map AV.int := by
          rw [List.filterMap_eq_map', List.map_map]; rfl
        rw [e3]
        exact op_sum hdc <| op_add <| ev_int <| op_mod (by decide) ⟨rfl, rfl, rfl⟩
    · rw [upd_at, List.filterMap_eq_map']
      unfold drawsOf
      rw [List.map_map]; rfl
  · rintro ρ₂ σ₂ fz₂ h₂ t₂ k₂ S₂ ⟨rfl, e3⟩
    refine raw_step (Q := fun ρ' σ' => σ' = [] ∧ ρ' "draws" = some (.lst ((drawsOf xs).map .int)) ∧ ρ' "worths" = some (.lst ((worthsOf (drawsOf xs)).map .int))) g S₂ ?_ ?_
    · refine x_listcomp (drawsOf xs) AV.int (fun d => some (AV.int (d.fdiv 64 - 3))) K hd (Nat.le_of_ble_eq_true rfl) (ev_name e3 ⟨Itr.lst _, rfl, rfl, fun cxc ci d hd => ?_⟩) ⟨rfl, rfl, upd_off e3 (by decide), ?_⟩ (by rfl)
      · refine coT0 (TB.name (ci.kn.mine (by rfl))) ?_
        exact ev_bin <| ev_bin <| ev_name (upd_at _ _ _) <| ev_int <| op_fdiv (by decide) (by decide) <| ev_int <| op_sub ⟨rfl, rfl, rfl⟩
      · rw [upd_at, List.filterMap_eq_map']
        unfold worthsOf
        rw [List.map_map]; rfl
    · rintro ρ₃ σ₃ fz₃ h₃ t₃ k₃ S₃ ⟨rfl, e4, e5⟩
      exact k ρ₃ fz₃ h₃ t₃ (fun p hp => k₃ p (k₂ p (k₁ p hp))) S₃ e4 e5
end
end Mine
namespace Mine
open PySem PySem.W PyProof.Rows PyProof.Rows.LCg PySem.Calls PySem.Spec

noncomputable def lawNames (P : Params) : List (Str × NameKind) := match (Mine.hd.heap_39 P).lookup 131 with
  | some o => (match o.data with
    | .func fd => fd.scope.names
    | _ => [])
  | none => []
section
variable {G : Gr} {P : Params} {cx : Cx} {fz : Objs} {s : Shared} {QQ : Flow → Shared → Prop} {EE : Value → Shared → Prop} {ds : List Int}
theorem law_ord (hG : G.K = Mine.hd.heap_39 P) (g : GOk G) (hds : ds.length = 5) {ρ : AE} (S : Sat G cx [(128, tabObj #[])] ρ [] fz s.heap) (K : KN cx (lawNames P)) (hd : cx.hd = none) (hcl : cx.cl = []) (hcm : cx.comp = false) (hdd : 3 ≤ cx.d) (hPb : G.hb.get? 128 = none) (hcode : cx.env.code = .ref 130) (C : CodeHd G.hb 130 128)
    (hρ : ρ "worths" = some (.lst ((worthsOf ds).map .int)))
    (k : ∀ ps' fz' h' tk', (∀ p ∈ fz, p ∈ fz') → Sat G cx [(128, tabObj ps')] (upd ρ "order" (.lst ((orderOf ds).map fun i : Nat => AV.int (i : Int)))) [] fz' h' → wpAny (model G.prog G.w) cx.A (execs ((lawBody P).drop 4) cx.env) QQ EE { s with heap := h', toks := tk' }) :
    wpAny (model G.prog G.w) cx.A (execs ((lawBody P).drop 3) cx.env) QQ EE s := by
  show wpAny _ _ (execs (_ :: (lawBody P).drop 4) _) _ _ _
  refine wpAny_execs_cons ?_
  refine wpAny_Assign_Name ?_ (by rfl)
  refine ev_sorted_lam (key := keyOf ds) (t := orderOf ds) (n := 5) (names := lawNames P) (x := "one") g S K (by rfl) (by rw [hG]; kernel_rfl) hcl hcm hd hdd (by decide) hPb hcode C True.intro rfl (by rfl) (by rfl) rfl (by rfl) (fun cl pm c' ctv V => rfl) (by decide) (by decide) (order_perm ds) (key_inj ds) (order_lex ds) ?_ ?_ ?_
  · exact ev_callt (ev_builtin (V := .type "range") (K.glob (by rfl)) (by rw [hG]; kernel_rfl) (by rfl) ⟨rfl, as_one <| ev_int <| op_range ⟨rfl, rfl, rfl⟩⟩)
  · intro i hi cx' h1 h2 h3 h4
    refine ev_tuple <| as_cons <| ev_un <| ev_sub <| ev_name ((if_pos (by rfl)).trans hρ) <| ev_name (v := .int i) (by rfl) <| it_at (v := .int (worth ds i)) (Nat.le_trans (Nat.le_of_lt hi) (by decide)) ?_ <| op_neg <| as_one <| ev_name (v := .int i) (by rfl) ⟨Nat.le_of_ble_eq_true rfl, rfl, rfl⟩
    unfold worthsOf worth
    rw [List.getElem?_map, List.getElem?_map, List.getD_eq_getElem?_getD, List.getElem?_eq_getElem (by omega)]
    rfl
  · intro ps' fz' h' tk V kk S' r
    exact store_var S' r (K.mine (by rfl)) fun h'' tk'' S'' => k ps' fz' h'' tk'' kk S''
end
end Mine
namespace Mine
open PySem PySem.W PyProof.Rows PyProof.Rows.LCg PySem.Calls PySem.Spec
/-- what a frame's names hold, the newest first -/
noncomputable def Holds (ρ : AE) (tbl : List (Str × AV)) : Prop := ∀ x v, tbl.lookup x = some v → ρ x = some v
theorem Holds.of {ρ : AE} {tbl : List (Str × AV)} (h : ∀ p ∈ tbl, ρ p.1 = some p.2) : Holds ρ tbl := fun x v e => h (x, v) (lookup_mem e)
theorem Holds.upd {ρ : AE} {tbl : List (Str × AV)} (h : Holds ρ tbl) (x : Str) (v : AV) : Holds (upd ρ x v) ((x, v) :: tbl) := fun y u e => by
  rw [List.lookup_cons] at e
  by_cases q : y = x
  · subst q
    rw [beq_self_eq_true] at e
    cases e
    exact upd_at _ _ _
  · have q' : (y == x) = false := by simpa using q
    rw [q'] at e
    exact (if_neg q).trans (h y u e)

theorem fits_grok (ds : List Int) : GrOk gs (rsOf ds) :=
  ⟨gs_length, rs_length ds, fun k hk o ho => by rw [gs_at hk] at ho; exact gr_pow k hk o ho, fun k hk => by rw [gs_at hk]; exact gr_len k, fun k hk => by rw [rs_at hk]; exact reach_len ds _⟩
noncomputable abbrev hallV (ds : List Int) : AV := .lst ((fitsL gs (rsOf ds) 32).map .bool)
section
variable {G : Gr} {P : Params} {cx : Cx} {ds : List Int} {Q : AF → AE → AH → Prop} {EQ : AX → AE → AH → Prop}
theorem law_r2 (hG : G.K = Mine.hd.heap_39 P) (hds : ds.length = 5) {ρ : AE} {H : Hd} {R : List (Nat × Tb)} (K : KN cx (lawNames P)) (hd : cx.hd = none) (hc : cx.comp = false) (hdd : 60 ≤ cx.d)
    (hρ : Holds ρ [("refusals", .lst (refV R)), ("holders", .dct (holdV H)), ("fair", .bool true), ("draws", .lst (ds.map .int)), ("worths", .lst ((worthsOf ds).map .int))])
    (k : ∀ ρ', Holds ρ' [("served", .lst ((served H).map fun n : Nat => AV.int (n : Int))), ("fits", hallV ds), ("reach", .lst ((rsOf ds).map boxV)), ("groups", .lst (gs.map intsV)), ("refusals", .lst (refV R)), ("holders", .dct (holdV H)), ("fair", .bool true), ("draws", .lst (ds.map .int)), ("worths", .lst ((worthsOf ds).map .int))] → Xs G cx ρ' [] ((lawBody P).drop 9) Q EQ) :
    Xs G cx ρ [] ((lawBody P).drop 5) Q EQ := by
  refine xs_cons (x_listcomp (List.range 32) (fun k : Nat => AV.int (k : Int)) (fun k => some (intsV (gr k))) K hd (by decide) (ev_callt (ev_builtin (V := .type "range") (K.glob (by rfl)) (by rw [hG]; kernel_rfl) (by rfl) ⟨rfl, as_one <| ev_int <| op_range ⟨itr_range 32 (by decide), rfl, rfl, fun cxc ci k hk => ?_⟩⟩)) ?_ (by rfl))
  · have hk' : k < 32 := List.mem_range.mp hk
    refine coT0 (TB.name (ci.kn.mine (by rfl))) <| ev_listcomp (List.range 5) (fun o : Nat => AV.int (o : Int)) (fun o => if bit k o = true then some (.int (o : Int)) else none) ci.kn (ci.hd.trans hd) (by decide) (ev_callt (ev_builtin (V := .type "range") (ci.kn.glob (by rfl)) (by rw [hG]; kernel_rfl) (by rfl) ⟨rfl, as_one <| ev_int <| op_range ⟨itr_range 5 (by decide), rfl, rfl, fun cxd cj o ho => ?_⟩⟩)) ⟨?_, rfl, rfl⟩
    · have ho' : o < 5 := List.mem_range.mp ho
      refine coT1 (b := bit k o) (TB.name (cj.kn.mine (by rfl))) (ts_cmp <| ev_bin <| ev_bin <| ev_name (upd_off ((if_pos (by rfl)).trans (upd_at _ _ _)) (by decide)) <| ev_bin <| ev_int <| ev_name (upd_at _ _ _) <| op_pow2 (Nat.le_trans (Nat.le_of_lt ho') (by decide)) <| op_fdiv (a := (k : Int)) (pow_ne o) (pow_lt (Nat.le_trans (Nat.le_of_lt ho') (by decide))) <| ev_int <| op_mod (by decide) <| ev_int <| op_eq_int ⟨_, rfl, py_bit k o, rfl, rfl⟩) fun _ => ev_name (upd_at _ _ _) ⟨rfl, rfl, rfl⟩
    · rw [filterMap_if]; rfl
  have e1 : ((List.range 32).filterMap fun k => some (intsV (gr k))) = gs.map intsV := by
    unfold gs; rw [List.filterMap_eq_map', List.map_map]; rfl
  rw [e1]
  have h1 := hρ.upd "groups" (.lst (gs.map intsV))
  refine xs_cons (x_listcomp gs intsV (fun g => some (boxV (reachC ds g))) K hd (by rw [gs_length]; decide) (ev_name (h1 _ _ rfl) ⟨Itr.lst _, rfl, rfl, fun cxc ci g hg => ?_⟩) ?_ (by rfl))
  · have hg5 : ∀ o ∈ g, o < ds.length := fun o ho => by
      unfold gs at hg
      obtain ⟨k, _, rfl⟩ := List.mem_map.mp hg
      rw [hds]; exact (mem_gr.mp ho).1
    exact coT0 (TB.name (ci.kn.mine (by rfl))) <| ev_call (ev_global (V := .ref 121) (ci.kn.glob (by rfl)) (by rw [hG]; kernel_rfl) ⟨rfl, as_cons <| ev_name (upd_off ((if_pos (by rfl)).trans (h1 _ _ rfl)) (by decide)) <| as_one <| ev_name (upd_at _ _ _) (reach_walk hG (ci.hd.trans hd) (by rw [ci.d]; omega) hg5 (by omega) ⟨rfl, rfl, rfl⟩).jv⟩) (by rw [hG]; rfl)
  have e2 : (gs.filterMap fun g => some (boxV (reachC ds g))) = (rsOf ds).map boxV := by
    unfold gs rsOf; rw [List.filterMap_eq_map', List.map_map, List.map_map]; rfl
  rw [e2]
  have h2 := h1.upd "reach" (.lst ((rsOf ds).map boxV))
  refine xs_cons (x_assign (ev_call (ev_global (V := .ref 126) (K.glob (by rfl)) (by rw [hG]; kernel_rfl) ⟨rfl, as_cons <| ev_name (h2 _ _ rfl) <| as_one <| ev_name (h2 _ _ rfl) (fits_walk hG hd (by omega) (fits_grok ds) fun F => ?_).jv⟩) (by rw [hG]; rfl)) (K.mine (by rfl)))
  refine jv_settle_lst (σ₁ := []) (x := "fits") rfl (upd_at _ _ _) ?_
  have h3 : Holds _ (("fits", hallV ds) :: ("reach", .lst ((rsOf ds).map boxV)) :: ("groups", .lst (gs.map intsV)) :: [("refusals", .lst (refV R)), ("holders", .dct (holdV H)), ("fair", .bool true), ("draws", .lst (ds.map .int)), ("worths", .lst ((worthsOf ds).map .int))]) := fun x v e => ((h2.upd "fits" (.ref F)).upd "fits" (hallV ds)) x v (by
    rw [List.lookup_cons] at e ⊢
    cases q : (x == ("fits" : Str)) with
    | true => rw [q] at e; exact e
    | false => rw [q] at e; rw [List.lookup_cons, q]; exact e)
  refine xs_cons (x_listcomp [97, 98, 99, 100] (fun c => AV.str (oneS c)) (fun c => if decide (0 ≤ H c) = true then some (AV.int (H c)) else none) K hd (by decide) (ev_name (h3 _ _ rfl) ⟨Itr.dct _, rfl, rfl, fun cxc ci c hc => ?_⟩) ?_ (by rfl))
  · have hb : Box c := mem_boxes.mp hc
    refine coT1 (b := decide (0 ≤ H c)) (TB.name (ci.kn.mine (by rfl))) (ts_cmp <| ev_sub <| ev_name (upd_off ((if_pos (by rfl)).trans (h3 _ _ rfl)) (by decide)) <| ev_name (upd_at _ _ _) <| it_dct (holdV_lookup hb) <| ev_int <| op_ge_int ⟨_, rfl, rfl, rfl, rfl⟩) fun _ => ev_sub <| ev_name (upd_off ((if_pos (by rfl)).trans (h3 _ _ rfl)) (by decide)) <| ev_name (upd_at _ _ _) <| it_dct (holdV_lookup hb) ⟨rfl, rfl, rfl⟩
  rw [served_av]
  exact k _ (h3.upd _ _)
end
end Mine
namespace Mine
open PySem PySem.W PyProof.Rows PyProof.Rows.LCg PySem.Calls PySem.Spec
noncomputable abbrev natsV (l : List Nat) : AV := .lst (l.map fun n : Nat => AV.int (n : Int))
noncomputable def cntOf (ds : List Int) (k : Nat) : Int := 5 - ((gr k).length : Int) + ((reachC ds (gr k)).length : Int)
noncomputable def grWorth (ds : List Int) (k : Nat) : Int := ((gr k).map (worth ds)).sum
theorem gs_av {k : Nat} (hk : k < 32) : (gs.map intsV)[k]? = some (intsV (gr k)) := by
  unfold gs; rw [List.getElem?_map, List.getElem?_map, List.getElem?_range hk]; rfl
theorem rs_av {ds : List Int} {k : Nat} (hk : k < 32) : ((rsOf ds).map boxV)[k]? = some (boxV (reachC ds (gr k))) := by
  unfold rsOf; rw [List.getElem?_map, List.getElem?_map, List.getElem?_range hk]; rfl
theorem le5 {o : Nat} (h : o < 5) : o ≤ 1000 := Nat.le_trans (Nat.le_of_lt h) (by decide)
theorem served_len {ds : List Int} {W : Nat → List Nat} {order : List Nat} {H : Hd} {R : List (Nat × Tb)} (ST : Setup ds W order H R) : (served H).length ≤ 5 := by
  have := (parts_perm ST).length_eq
  rw [List.length_append] at this
  have : five.length = 5 := rfl
  omega
section
variable {G : Gr} {P : Params} {cx : Cx} {ds : List Int} {Q : AF → AE → AH → Prop} {EQ : AX → AE → AH → Prop}
theorem law_if1 (hG : G.K = Mine.hd.heap_39 P) {ρ : AE} {W : Nat → List Nat} {order : List Nat} {H : Hd} {R : List (Nat × Tb)} (K : KN cx (lawNames P)) (hd : cx.hd = none) (ST : Setup ds W order H R)
    (h : ρ "served" = some (natsV (served H)) ∧ ρ "refusals" = some (.lst (refV R)) ∧ ρ "fair" = some (.bool true))
    (k : Xs G cx ρ [] ((lawBody P).drop 10) Q EQ) :
    Xs G cx ρ [] ((lawBody P).drop 9) Q EQ := by
  obtain ⟨h1, h2, h3⟩ := h
  have hp := parts_perm ST
  have hlen : (served H).length + R.length = 5 := by
    have := hp.length_eq
    rw [List.length_append, List.length_map] at this
    exact this
  refine xs_cons (x_if (ts_or (ts_not (ts_val (ev_name h3 ⟨true, rfl, ?_⟩)))))
  show Ts G cx ρ [] _ _ _
  refine ts_cmp <| ev_callb <| ev_builtin (V := .builtin "sorted") (K.glob (by rfl)) (by rw [hG]; kernel_rfl) (by rfl) ⟨rfl, as_one <| ev_bin <| ev_name h1 <| ev_listcomp R (fun p => AV.tup [.int p.1, .int (tblV p.2).length, .dct (tblV p.2)]) (fun p => some (.int p.1)) K hd (by omega) (ev_name h2 ⟨Itr.lst _, rfl, rfl, fun cxc ci p hp => ?_⟩) <| op_addlst ?_ ?_⟩
  · refine coT0 (TB.three (ci.kn.mine (by rfl)) (ci.kn.mine (by rfl)) (ci.kn.mine (by rfl))) <| ev_name (upd_off (upd_off (upd_at _ _ _) (by decide)) (by decide)) ⟨rfl, rfl, rfl⟩
  · rw [List.length_map]
    have := List.length_filterMap_le (fun p : Nat × Tb => some (AV.int (p.1 : Int))) R
    omega
  · have e : ((served H).map fun n : Nat => AV.int (n : Int)) ++ R.filterMap (fun p => some (AV.int (p.1 : Int))) = ((served H ++ R.map (·.1)).map fun n : Nat => (n : Int)).map AV.int := by
      rw [List.filterMap_eq_map', List.map_append, List.map_append, List.map_map, List.map_map, List.map_map]; rfl
    rw [e]
    refine op_sorted_ints (by rw [List.length_map, hp.length_eq]; decide) fun ns' hns hs => ?_
    have e2 : ns' = [0, 1, 2, 3, 4] := sorted_eq (hns.trans (hp.map _)) hs (by decide)
    subst e2
    refine ev_list <| as_cons <| ev_int <| as_cons <| ev_int <| as_cons <| ev_int <| as_cons <| ev_int <| as_one <| ev_int ⟨Nat.le_of_ble_eq_true rfl, op_ne_data (ad_ints [0, 1, 2, 3, 4]) (ad_ints [0, 1, 2, 3, 4]) (shaped_nats _) (shaped_nats _) ⟨_, rfl, ?_⟩⟩
    rw [eqv_nats]
    exact xs_nil k
theorem law_if2 (hG : G.K = Mine.hd.heap_39 P) {ρ : AE} {W : Nat → List Nat} {order : List Nat} {H : Hd} {R : List (Nat × Tb)} (K : KN cx (lawNames P)) (hd : cx.hd = none) (ST : Setup ds W order H R)
    (h1 : ρ "served" = some (natsV (served H))) (h2 : ρ "groups" = some (.lst (gs.map intsV))) (h3 : ρ "reach" = some (.lst ((rsOf ds).map boxV)))
    (k : Xs G cx ρ [] ((lawBody P).drop 11) Q EQ) :
    Xs G cx ρ [] ((lawBody P).drop 10) Q EQ := by
  have hs := served_len ST
  refine xs_cons (x_if (ts_cmp <| ev_callb <| ev_builtin (V := .builtin "len") (K.glob (by rfl)) (by rw [hG]; kernel_rfl) (by rfl) ⟨rfl, as_one <| ev_name h1 <| op_len_lst (by rw [List.length_map]; exact len62 hs) <| ev_callb <| ev_builtin (V := .builtin "min") (K.glob (by rfl)) (by rw [hG]; kernel_rfl) (by rfl) ⟨rfl, as_one <| ev_listcomp (List.range 32) (fun k : Nat => AV.int (k : Int)) (fun k => some (.int (cntOf ds k))) K hd (by decide) (ev_callt (ev_builtin (V := .type "range") (K.glob (by rfl)) (by rw [hG]; kernel_rfl) (by rfl) ⟨rfl, as_one <| ev_int <| op_range ⟨itr_range 32 (by decide), rfl, rfl, fun cxc ci k hk => ?_⟩⟩)) ?_⟩⟩))
  · have hk' : k < 32 := List.mem_range.mp hk
    refine coT0 (TB.name (ci.kn.mine (by rfl))) <| ev_bin <| ev_bin <| ev_int <| ev_callb <| ev_builtin (V := .builtin "len") (ci.kn.glob (by rfl)) (by rw [hG]; kernel_rfl) (by rfl) ⟨rfl, as_one <| ev_sub <| ev_name (upd_off ((if_pos (by rfl)).trans h2) (by decide)) <| ev_name (upd_at _ _ _) <| it_at (v := intsV (gr k)) (le32 hk') (gs_av hk') <| op_len_lst ?_ <| op_sub <| ev_callb <| ev_builtin (V := .builtin "len") (ci.kn.glob (by rfl)) (by rw [hG]; kernel_rfl) (by rfl) ⟨rfl, as_one <| ev_sub <| ev_name (upd_off ((if_pos (by rfl)).trans h3) (by decide)) <| ev_name (upd_at _ _ _) <| it_at (v := boxV (reachC ds (gr k))) (le32 hk') (rs_av hk') <| op_len_lst ?_ <| op_add ⟨?_, rfl, rfl⟩⟩⟩
    · rw [List.length_map]; exact len62 (gr_len k)
    · rw [List.length_map]; exact len62 (reach_len ds (gr k))
    · rw [List.length_map, List.length_map]; rfl
  · have e : ((List.range 32).filterMap fun k => some (AV.int (cntOf ds k))) = ((List.range 32).map (cntOf ds)).map AV.int := by
      rw [List.filterMap_eq_map', List.map_map]; rfl
    rw [e]
    refine op_min hd (by rw [List.length_map]; decide) fun M hM hle => op_ne_int ⟨_, rfl, ?_⟩
    have hM' : M = (served H).length := by
      obtain ⟨k, hk, rfl⟩ := List.mem_map.mp hM
      obtain ⟨j, hj, ej⟩ := count_some ST
      have h1 := hle (cntOf ds j) (List.mem_map.mpr ⟨j, List.mem_range.mpr hj, rfl⟩)
      have h2 := count_le ST k
      unfold cntOf at h1 ⊢
      omega
    rw [hM', List.length_map, bne_self_eq_false]
    exact xs_nil k
theorem worth_at (hds : ds.length = 5) {o : Nat} (ho : o < 5) : ((worthsOf ds).map AV.int)[o]? = some (.int (worth ds o)) := by
  unfold worthsOf worth
  rw [List.getElem?_map, List.getElem?_map, List.getD_eq_getElem?_getD, List.getElem?_eq_getElem (by omega)]
  rfl
theorem fits_at {k : Nat} (hk : k < 32) : (((fitsL gs (rsOf ds) 32).map AV.bool)[k]?) = some (.bool (decide (HallM ds k))) := by
  obtain ⟨hl, hf⟩ := fits_is ds 32 (Nat.le_refl _)
  have := hf k hk
  rw [List.getD_eq_getElem?_getD, List.getElem?_eq_getElem (by omega)] at this
  rw [List.getElem?_map, List.getElem?_eq_getElem (by omega), ← this]
  rfl
noncomputable def isBest (ds : List Int) (H : Hd) (k : Nat) : Bool := decide (HallM ds k) && decide ((gr k).length = (served H).length)
theorem law_if3 (hG : G.K = Mine.hd.heap_39 P) (hds : ds.length = 5) {ρ : AE} {W : Nat → List Nat} {order : List Nat} {H : Hd} {R : List (Nat × Tb)} (K : KN cx (lawNames P)) (hd : cx.hd = none) (ST : Setup ds W order H R)
    (h1 : ρ "served" = some (natsV (served H))) (h2 : ρ "groups" = some (.lst (gs.map intsV))) (h3 : ρ "fits" = some (hallV ds)) (h4 : ρ "worths" = some (.lst ((worthsOf ds).map .int)))
    (k : ∀ B, Xs G cx (upd ρ "best" (.int B)) [] ((lawBody P).drop 13) Q EQ) :
    Xs G cx ρ [] ((lawBody P).drop 11) Q EQ := by
  have hs := served_len ST
  refine xs_cons (x_assign (ev_callb <| ev_builtin (V := .builtin "max") (K.glob (by rfl)) (by rw [hG]; kernel_rfl) (by rfl) ⟨rfl, as_one <| ev_listcomp (List.range 32) (fun k : Nat => AV.int (k : Int)) (fun k => if isBest ds H k = true then some (.int (grWorth ds k)) else none) K hd (by decide) (ev_callt (ev_builtin (V := .type "range") (K.glob (by rfl)) (by rw [hG]; kernel_rfl) (by rfl) ⟨rfl, as_one <| ev_int <| op_range ⟨itr_range 32 (by decide), rfl, rfl, fun cxc ci k hk => ?_⟩⟩)) ?_⟩) (K.mine (by rfl)))
  · have hk' : k < 32 := List.mem_range.mp hk
    have hdc : cxc.hd = none := ci.hd.trans hd
    refine coT1 (b := isBest ds H k) (TB.name (ci.kn.mine (by rfl))) (ts_and <| ts_val <| ev_sub <| ev_name (upd_off ((if_pos (by rfl)).trans h3) (by decide)) <| ev_name (upd_at _ _ _) <| it_at (v := .bool (decide (HallM ds k))) (le32 hk') (fits_at hk') ⟨_, rfl, ?_⟩) fun _ => ?_
    · unfold isBest
      cases decide (HallM ds k) with
      | false => exact ⟨rfl, rfl, rfl⟩
      | true =>
        rw [if_pos rfl, Bool.true_and]
        refine ts_cmp <| ev_callb <| ev_builtin (V := .builtin "len") (ci.kn.glob (by rfl)) (by rw [hG]; kernel_rfl) (by rfl) ⟨rfl, as_one <| ev_sub <| ev_name (upd_off ((if_pos (by rfl)).trans h2) (by decide)) <| ev_name (upd_at _ _ _) <| it_at (v := intsV (gr k)) (le32 hk') (gs_av hk') <| op_len_lst (by rw [List.length_map]; exact len62 (gr_len k)) <| ev_callb <| ev_builtin (V := .builtin "len") (ci.kn.glob (by rfl)) (by rw [hG]; kernel_rfl) (by rfl) ⟨rfl, as_one <| ev_name (upd_off ((if_pos (by rfl)).trans h1) (by decide)) <| op_len_lst (by rw [List.length_map]; exact len62 hs) <| op_eq_int ⟨_, rfl, ?_, rfl, rfl⟩⟩⟩
        rw [List.length_map, List.length_map, Bool.eq_iff_iff, beq_iff_eq, decide_eq_true_iff]
        exact Int.ofNat_inj
    · refine ev_callb <| ev_builtin (V := .builtin "sum") (ci.kn.glob (by rfl)) (by rw [hG]; kernel_rfl) (by rfl) ⟨rfl, as_one <| ev_listcomp (gr k) (fun o : Nat => AV.int (o : Int)) (fun o => some (.int (worth ds o))) ci.kn hdc (Nat.le_trans (gr_len k) (by decide)) (ev_sub <| ev_name (upd_off ((if_pos (by rfl)).trans h2) (by decide)) <| ev_name (upd_at _ _ _) <| it_at (v := intsV (gr k)) (le32 hk') (gs_av hk') ⟨Itr.lst _, rfl, rfl, fun cxd cj o ho => ?_⟩) ?_⟩
      · have ho5 := (mem_gr.mp ho).1
        exact coT0 (TB.name (cj.kn.mine (by rfl))) <| ev_sub <| ev_name (upd_off ((if_pos (by rfl)).trans (upd_off ((if_pos (by rfl)).trans h4) (by decide))) (by decide)) <| ev_name (upd_at _ _ _) <| it_at (le5 ho5) (worth_at hds ho5) ⟨rfl, rfl, rfl⟩
      · have e : ((gr k).filterMap fun o => some (AV.int (worth ds o))) = ((gr k).map (worth ds)).map AV.int := by
          rw [List.filterMap_eq_map', List.map_map]; rfl
        rw [e]
        exact op_sum hdc ⟨rfl, rfl, rfl⟩
  · have e : ((List.range 32).filterMap fun k => if isBest ds H k = true then some (AV.int (grWorth ds k)) else none) = (((List.range 32).filter (isBest ds H)).map (grWorth ds)).map AV.int := by
      rw [filterMap_if, List.map_map]; rfl
    rw [e]
    obtain ⟨hf, hp⟩ := served_fits ST
    have hin : mk (served H).contains ∈ (List.range 32).filter (isBest ds H) := by
      rw [List.mem_filter, List.mem_range]
      refine ⟨mk_lt _, ?_⟩
      unfold isBest
      rw [Bool.and_eq_true, decide_eq_true_iff, decide_eq_true_iff]
      exact ⟨hf, hp.length_eq⟩
    refine op_max hd (by rw [List.length_map]; exact List.length_pos_of_mem hin) fun M hM hle => ?_
    have hM' : M = ((served H).map (worth ds)).sum := by
      obtain ⟨k, hk, rfl⟩ := List.mem_map.mp hM
      rw [List.mem_filter, List.mem_range] at hk
      obtain ⟨hk1, hk2⟩ := hk
      unfold isBest at hk2
      rw [Bool.and_eq_true, decide_eq_true_iff, decide_eq_true_iff] at hk2
      have h1 := worth_le ST hk1 hk2.1 hk2.2
      have h2 := hle (grWorth ds (mk (served H).contains)) (List.mem_map.mpr ⟨_, hin, rfl⟩)
      have h3 : grWorth ds (mk (served H).contains) = ((served H).map (worth ds)).sum := perm_sum (hp.map _)
      have h4 : grWorth ds k = ((gr k).map (worth ds)).sum := rfl
      omega
    have h1' : upd ρ "best" (.int M) "served" = some (natsV (served H)) := upd_off h1 (by decide)
    refine xs_cons (x_if (ts_cmp <| ev_callb <| ev_builtin (V := .builtin "sum") (K.glob (by rfl)) (by rw [hG]; kernel_rfl) (by rfl) ⟨rfl, as_one <| ev_listcomp (served H) (fun o : Nat => AV.int (o : Int)) (fun o => some (.int (worth ds o))) K hd (by omega) (ev_name h1' ⟨Itr.lst _, rfl, rfl, fun cxd cj o ho => ?_⟩) ?_⟩))
    · exact coT0 (TB.name (cj.kn.mine (by rfl))) <| ev_sub <| ev_name (upd_off ((if_pos (by rfl)).trans (upd_off h4 (by decide))) (by decide)) <| ev_name (upd_at _ _ _) <| it_at (le5 (served_lt ST ho)) (worth_at hds (served_lt ST ho)) ⟨rfl, rfl, rfl⟩
    · have e : ((served H).filterMap fun o => some (AV.int (worth ds o))) = ((served H).map (worth ds)).map AV.int := by
        rw [List.filterMap_eq_map', List.map_map]; rfl
      rw [e]
      refine op_sum hd <| ev_name (upd_at _ _ _) <| op_ne_int ⟨_, rfl, ?_⟩
      rw [← hM', bne_self_eq_false]
      exact xs_nil (k M)
end
end Mine
namespace Mine
open PySem PySem.W PyProof.Rows PyProof.Rows.LCg PySem.Calls PySem.Spec
theorem ad_boxes (l : List Nat) : AD (boxV l) (.list (l.map fun c => PyData.str (oneS c))) := .lst (ADL.ofMap (fun c => .str _) l)
theorem shaped_boxes (l : List Nat) (hl : ∀ c ∈ l, c ≤ 127) : SeqAt.shaped (.list (l.map fun c => PyData.str (oneS c))) = true := shaped_list (n := 0) (by decide) l fun a ha => ⟨by
    have hk : ∀ c ≤ 127, PyData.canLay0 (.str (oneS c)) = true := by decide +kernel
    exact hk a (hl a ha), by simp only [PyData.depth]; exact Nat.le_refl _⟩
theorem eqv_boxes (l : List Nat) : PyData.eqv (.list (l.map fun c => PyData.str (oneS c))) (.list (l.map fun c => PyData.str (oneS c))) = true := by
  simp only [PyData.eqv]
  rw [eqvAll_eq (g := fun c => PyData.str (oneS c)) (fun a b => ?_) l l]
  · exact decide_eq_true rfl
  · simp only [PyData.eqv]
    by_cases h : a = b
    · subst h; simp
    · have : oneS a ≠ oneS b := fun e => h (oneS_inj e)
      simp [h, this]
noncomputable def pairD (p : Int × Int) : PyData := .tuple [.int p.1, .int p.2]
theorem ad_pairs (l : List (Int × Int)) : AD (.lst (l.map pairV)) (.list (l.map pairD)) := .lst (ADL.ofMap (fun p => .tup (.cons (.int _) (.cons (.int _) .nil))) l)
theorem shaped_pairs (l : List (Int × Int)) : SeqAt.shaped (.list (l.map pairD)) = true := shaped_list (n := 1) (by decide) l fun a _ => ⟨by simp [pairD, PyData.canLay0, PyData.canLayAll0], by simp [pairD, PyData.depth, PyData.depthAll]⟩
theorem eqv_pairs (l : List (Int × Int)) : PyData.eqv (.list (l.map pairD)) (.list (l.map pairD)) = true := by
  simp only [PyData.eqv]
  rw [eqvAll_eq (g := pairD) (fun a b => ?_) l l]
  · exact decide_eq_true rfl
  · obtain ⟨a1, a2⟩ := a
    obtain ⟨b1, b2⟩ := b
    simp only [pairD, PyData.eqv, PyData.eqvAll, Bool.and_true]
    by_cases h1 : a1 = b1 <;> by_cases h2 : a2 = b2 <;> simp [h1, h2]

section
variable {G : Gr} {P : Params} {cx : Cx} {ds : List Int} {Q : AF → AE → AH → Prop} {EQ : AX → AE → AH → Prop}
structure ForEnv (ds : List Int) (H : Hd) (ρ : AE) : Prop where
  sv : ρ "served" = some (natsV (served H))
  gr : ρ "groups" = some (.lst (gs.map intsV))
  ft : ρ "fits" = some (hallV ds)
  rc : ρ "reach" = some (.lst ((rsOf ds).map boxV))
theorem ForEnv.upd {H : Hd} {ρ : AE} (h : ForEnv ds H ρ) {x : Str} {v : AV} (hx : ((("served" : Str) == x) || (("groups" : Str) == x) || (("fits" : Str) == x) || (("reach" : Str) == x)) = false) : ForEnv ds H (upd ρ x v) := by
  simp only [Bool.or_eq_false_iff] at hx
  exact ⟨upd_off h.sv hx.1.1.1, upd_off h.gr hx.1.1.2, upd_off h.ft hx.1.2, upd_off h.rc hx.2⟩
theorem lookup_nat : ∀ {T : Tb}, (keysT T).Nodup → ∀ {p : Nat × Int}, p ∈ T → T.lookup p.1 = some p.2
  | [], _, _, h => nomatch h
  | q :: T, hn, p, h => by
    unfold keysT at hn
    rw [List.map_cons, List.nodup_cons] at hn
    obtain ⟨b, v⟩ := q
    rw [List.lookup_cons]
    rcases List.mem_cons.mp h with rfl | h
    · rw [beq_self_eq_true]
    · have : (p.1 == b) = false := by
        rw [beq_eq_false_iff_ne]
        exact fun e => hn.1 (List.mem_map.mpr ⟨p, h, e⟩)
      rw [this]
      exact lookup_nat hn.2 h
theorem sum_pows (l : List Nat) : ((l.map fun o => ((2 ^ o : Nat) : Int))).sum = ((l.map (2 ^ ·)).sum : Nat) := by
  induction l with
  | nil => rfl
  | cons a l ih => rw [List.map_cons, List.sum_cons, ih, List.map_cons, List.sum_cons]; simp
/-- sum([2 ** one for one in l]) -/
theorem ev_pows (hG : G.K = Mine.hd.heap_39 P) {names : List (Str × NameKind)} (K : KN cx names) (hn : names.lookup ("sum" : Str) = some .globalImplicit) (hd : cx.hd = none) {ρ : AE} {l : List Nat} (h5 : ∀ o ∈ l, o < 5) (hl : l.length ≤ 1000) {x : Str} {np xp cp pos p1 p2 p3 p4 : Pos} {k0 : Nat} {Q : AV → AE → AH → Prop} (hρ : ρ x = some (natsV l))
    {σ : AH} (q : Q (.int ((l.map (2 ^ ·)).sum : Nat)) ρ σ) (hx : (x == ("__debug__" : Str)) = false) (hx2 : (x == ("__classdict__" : Str)) = false) :
    Ev G cx ρ σ (.Call (.Name "sum" np) [.ListComp (.BinOp (.Constant (.int 2) k0 p1) .Pow (.Name "one" p2) p3) [⟨.Name "one" p4, .Name x xp, [], 0⟩] { kind := .function, names := [(Str.ofString ".0", .local), (Str.ofString "one", .local)], isGenerator := false, isCoroutine := false, more := [] } cp] [] pos) Q EQ := by
  refine ev_callb <| ev_builtin (V := .builtin "sum") (K.glob hn) (by rw [hG]; kernel_rfl) (by rfl) ⟨rfl, as_one <| ev_listcomp l (fun o : Nat => AV.int (o : Int)) (fun o => some (.int ((2 ^ o : Nat) : Int))) K hd (by omega) (ev_name hρ ⟨Itr.lst _, rfl, rfl, fun cxd cj o ho => ?_⟩ hx hx2) ?_⟩
  · exact coT0 (TB.name (cj.kn.mine (by rfl))) <| ev_bin <| ev_int <| ev_name (upd_at _ _ _) <| op_pow2 (Nat.le_trans (Nat.le_of_lt (h5 o ho)) (by decide)) ⟨rfl, rfl, rfl⟩
  · have e : (l.filterMap fun o => some (AV.int ((2 ^ o : Nat) : Int))) = (l.map fun o => ((2 ^ o : Nat) : Int)).map AV.int := by
      rw [List.filterMap_eq_map', List.map_map]; rfl
    rw [e]
    refine op_sum hd ?_
    rw [sum_pows]
    exact q
theorem law_for (hG : G.K = Mine.hd.heap_39 P) (hds : ds.length = 5) {ρ : AE} {W : Nat → List Nat} {order : List Nat} {H : Hd} {R : List (Nat × Tb)} (K : KN cx (lawNames P)) (hd : cx.hd = none) (hc : cx.comp = false) (ST : Setup ds W order H R)
    (hρ : ForEnv ds H ρ) (hr : ρ "refusals" = some (.lst (refV R))) :
    Xs G cx ρ [] ((lawBody P).drop 13) (fun fl _ _ => fl = .ret (.bool true)) (fun _ _ _ => False) := by
  have hsv := served_len ST
  refine xs_cons (x_for hd hc (ev_name hr ⟨_, Itr.lst _, ?_⟩))
  unfold refV
  refine forP_ind (fun p : Nat × Tb => AV.tup [.int p.1, .int (tblV p.2).length, .dct (tblV p.2)]) (fun l ρ₁ σ₁ => σ₁ = [] ∧ (∀ r ∈ l, r ∈ R) ∧ ForEnv ds H ρ₁) ?_ ?_ _ _ _ ⟨rfl, fun r h => h, hρ⟩
  · rintro ρ₁ σ₁ ⟨rfl, _, _⟩
    exact xs_cons (x_ret (ev_bool rfl))
  · rintro r rest ρ₁ σ₁ ⟨rfl, hR, hρ₁⟩
    have hrR := hR r List.mem_cons_self
    have hs5 : r.1 < 5 := (all_parts ST).mpr (.inr (List.mem_map.mpr ⟨r, hrR, rfl⟩))
    refine ⟨_, TB.three (K.mine (by rfl)) (K.mine (by rfl)) (K.mine (by rfl)), ?_⟩
    have h1 := ((hρ₁.upd (x := "sender") (v := .int r.1) (by decide)).upd (x := "code") (v := .int (tblV r.2).length) (by decide)).upd (x := "table") (v := .dct (tblV r.2)) (by decide)
    have hse : upd (upd (upd ρ₁ "sender" (.int r.1)) "code" (.int (tblV r.2).length)) "table" (.dct (tblV r.2)) "sender" = some (.int r.1) := upd_off (upd_off (upd_at _ _ _) (by decide)) (by decide)
    have hco : upd (upd (upd ρ₁ "sender" (.int r.1)) "code" (.int (tblV r.2).length)) "table" (.dct (tblV r.2)) "code" = some (.int (tblV r.2).length) := upd_off (upd_at _ _ _) (by decide)
    have hta : upd (upd (upd ρ₁ "sender" (.int r.1)) "code" (.int (tblV r.2).length)) "table" (.dct (tblV r.2)) "table" = some (.dct (tblV r.2)) := upd_at _ _ _
    revert h1 hse hco hta
    generalize upd (upd (upd ρ₁ "sender" (.int r.1)) "code" (.int (tblV r.2).length)) "table" (.dct (tblV r.2)) = ρ₂
    intro h1 hse hco hta
    refine xs_cons (x_assign (ev_bin <| ev_pows hG K (by rfl) hd (fun o ho => served_lt ST ho) (Nat.le_trans hsv (by decide)) h1.sv (ev_bin <| ev_int <| ev_name hse <| op_pow2 (Nat.le_trans (Nat.le_of_lt hs5) (by decide)) <| op_add ?_) (by decide) (by decide)) (K.mine (by rfl)))
    have ew : ((((served H).map (2 ^ ·)).sum : Nat) : Int) + ((2 ^ r.1 : Nat) : Int) = ((wholeOf H r.1 : Nat) : Int) := rfl
    rw [ew]
    have hw := whole_lt ST hrR
    have h2 := h1.upd (x := "whole") (v := .int (wholeOf H r.1 : Nat)) (by decide)
    have hwh : upd ρ₂ "whole" (.int (wholeOf H r.1 : Nat)) "whole" = some (.int (wholeOf H r.1 : Nat)) := upd_at _ _ _
    have hse := upd_off (v := .int (wholeOf H r.1 : Nat)) (x := "whole") hse (by decide)
    have hco := upd_off (v := .int (wholeOf H r.1 : Nat)) (x := "whole") hco (by decide)
    have hta := upd_off (v := .int (wholeOf H r.1 : Nat)) (x := "whole") hta (by decide)
    revert h2 hse hco hta hwh
    generalize upd ρ₂ "whole" (.int (wholeOf H r.1 : Nat)) = ρ₃
    intro h2 hwh hse hco hta
    refine xs_cons (x_listcomp (gr (wholeOf H r.1)) (fun o : Nat => AV.int (o : Int)) (fun o => if decide (HallM ds (wholeOf H r.1 - 2 ^ o)) = true then some (.int (o : Int)) else none) K hd (Nat.le_trans (gr_len _) (by decide)) (ev_sub <| ev_name h2.gr <| ev_name hwh <| it_at (le32 hw) (gs_av hw) ⟨Itr.lst _, rfl, rfl, fun cxc ci o ho => ?_⟩) ?_ (by rfl))
    · obtain ⟨ho5, hop⟩ := gr_pow _ hw o ho
      have hidx : ((wholeOf H r.1 : Nat) : Int) - ((2 ^ o : Nat) : Int) = ((wholeOf H r.1 - 2 ^ o : Nat) : Int) := (Int.ofNat_sub hop).symm
      have hlt : wholeOf H r.1 - 2 ^ o < 32 := Nat.lt_of_le_of_lt (Nat.sub_le _ _) hw
      refine coT1 (b := decide (HallM ds (wholeOf H r.1 - 2 ^ o))) (TB.name (ci.kn.mine (by rfl))) (ts_val <| ev_sub <| ev_name (upd_off ((if_pos (by rfl)).trans h2.ft) (by decide)) <| ev_bin <| ev_name (upd_off ((if_pos (by rfl)).trans hwh) (by decide)) <| ev_bin <| ev_int <| ev_name (upd_at _ _ _) <| op_pow2 (Nat.le_trans (Nat.le_of_lt ho5) (by decide)) <| op_sub ?_) fun _ => ev_name (upd_at _ _ _) ⟨rfl, rfl, rfl⟩
      rw [hidx]
      exact it_at (le32 hlt) (fits_at hlt) ⟨_, rfl, rfl, rfl, rfl⟩
    rw [filterMap_if]
    show Xs G cx (upd ρ₃ "ring" (natsV (ringOf ds H r.1))) [] _ _ _
    obtain ⟨hr1, hr2, hr3⟩ := ring_reach ST hrR
    have hrl : (ringOf ds H r.1).length ≤ 5 := Nat.le_trans (List.length_filter_le _ _) (gr_len _)
    have hr5 : ∀ o ∈ ringOf ds H r.1, o < 5 := fun o ho => (mem_gr.mp (List.mem_filter.mp ho).1).1
    have h3 := h2.upd (x := "ring") (v := natsV (ringOf ds H r.1)) (by decide)
    have hri : upd ρ₃ "ring" (natsV (ringOf ds H r.1)) "ring" = some (natsV (ringOf ds H r.1)) := upd_at _ _ _
    have hse := upd_off (v := natsV (ringOf ds H r.1)) (x := "ring") hse (by decide)
    have hco := upd_off (v := natsV (ringOf ds H r.1)) (x := "ring") hco (by decide)
    have hta := upd_off (v := natsV (ringOf ds H r.1)) (x := "ring") hta (by decide)
    revert h3 hse hco hta hri
    generalize upd ρ₃ "ring" (natsV (ringOf ds H r.1)) = ρ₄
    intro h3 hri hse hco hta
    have hT4 : r.2.length ≤ 4 := by omega
    have htl : (tblV r.2).length = r.2.length := by unfold tblV; rw [List.length_map]
    refine xs_cons (x_if (ts_or (ts_cmp <| ev_callb <| ev_builtin (V := .builtin "sorted") (K.glob (by rfl)) (by rw [hG]; kernel_rfl) (by rfl) ⟨rfl, as_one <| ev_name hta <| op_sorted_keys hd (by omega) fun ss' hp hs => ev_sub <| ev_name h3.rc <| ev_pows hG K (by rfl) hd hr5 (Nat.le_trans hrl (by decide)) hri (it_at (le32 hr1) (rs_av hr1) ?_) (by decide) (by decide)⟩)))
    have ess : ss' = (reachC ds (gr ((ringOf ds H r.1).map (2 ^ ·)).sum)).map oneS := by
      refine sorted_signs (l := keysT r.2) ?_ hs ?_ ?_
      · unfold tblV at hp
        rw [List.map_map] at hp
        unfold keysT
        rw [List.map_map]
        exact hp
      · rw [hr2]; exact (keys_perm ST hrR).symm
      · exact List.Pairwise.filter _ (by decide)
    rw [ess]
    have hb127 : ∀ c ∈ reachC ds (gr ((ringOf ds H r.1).map (2 ^ ·)).sum), c ≤ 127 := fun c hc => by
      have := mem_boxes.mp (List.mem_filter.mp hc).1
      unfold Box at this; omega
    have e1 : AV.lst (((reachC ds (gr ((ringOf ds H r.1).map (2 ^ ·)).sum)).map oneS).map AV.str) = boxV (reachC ds (gr ((ringOf ds H r.1).map (2 ^ ·)).sum)) := by unfold boxV; rw [List.map_map]; rfl
    rw [e1]
    refine op_ne_data (ad_boxes _) (ad_boxes _) (shaped_boxes _ hb127) (shaped_boxes _ hb127) ⟨_, rfl, ?_⟩
    rw [eqv_boxes]
    show Ts G cx ρ₄ [] _ _ _
    refine ts_cmp <| ev_name hco <| ev_bin <| ev_callb <| ev_builtin (V := .builtin "len") (K.glob (by rfl)) (by rw [hG]; kernel_rfl) (by rfl) ⟨rfl, as_one <| ev_name hri <| op_len_lst (by rw [List.length_map]; exact len62 hrl) <| ev_int <| op_sub <| op_ne_int ⟨_, rfl, ?_⟩⟩
    have e2 : ((((tblV r.2).length : Nat) : Int) != ((((ringOf ds H r.1).map fun n : Nat => AV.int (n : Int)).length : Nat) : Int) - 1) = false := by
      rw [List.length_map, htl, bne_eq_false_iff_eq]
      omega
    rw [e2]
    refine xs_nil ?_
    have hrp := ring_perm ST hrR
    rw [← ring_is ST hrR] at hrp
    refine xs_cons (x_if (ts_cmp <| ev_callb <| ev_builtin (V := .builtin "sorted") (K.glob (by rfl)) (by rw [hG]; kernel_rfl) (by rfl) ⟨rfl, as_one <| ev_bin <| ev_listcomp r.2 (fun p => AV.str (oneS p.1)) (fun p => some (.tup [.int 550, .int p.2])) K hd (by omega) (ev_name hta ⟨?_, rfl, rfl, fun cxc ci p hp => ?_⟩) <| ev_list <| as_one <| ev_tuple <| as_cons <| ev_int <| as_one <| ev_name hse ⟨Nat.le_of_ble_eq_true rfl, Nat.le_of_ble_eq_true rfl, op_addlst ?_ ?_⟩⟩))
    · have e3 : r.2.map (fun p => AV.str (oneS p.1)) = (tblV r.2).map fun p => AV.str p.1 := by unfold tblV; rw [List.map_map]; rfl
      rw [e3]
      exact Itr.dct _
    · refine coT0 (TB.name (ci.kn.mine (by rfl))) <| ev_sub <| ev_name (upd_off ((if_pos (by rfl)).trans hta) (by decide)) <| ev_name (upd_at _ _ _) <| it_dct ?_ ⟨rfl, rfl, rfl⟩
      rw [tblV_lookup, lookup_nat (ST.I.refs r hrR).nd hp]
      rfl
    · have := List.length_filterMap_le (fun p : Nat × Int => some (AV.tup [.int 550, .int p.2])) r.2
      show _ + 1 ≤ 1000
      omega
    · have hh := (ST.I.refs r hrR).held
      have e4 : (r.2.filterMap fun p => some (AV.tup [.int 550, .int p.2])) ++ [AV.tup [.int 550, .int (r.1 : Int)]] = (r.2.map (fun p => ((550 : Int), p.2)) ++ [((550 : Int), (r.1 : Int))]).map pairV := by
        rw [List.filterMap_eq_map', List.map_append, List.map_map]; rfl
      rw [e4]
      have hperm : ((ringOf ds H r.1).map fun o : Nat => ((550 : Int), (o : Int))).Perm (r.2.map (fun p => ((550 : Int), p.2)) ++ [((550 : Int), (r.1 : Int))]) := by
        have := (hrp.map fun o : Nat => ((550 : Int), (o : Int))).symm
        rw [List.map_append] at this
        refine this.trans (List.Perm.of_eq ?_)
        unfold vals
        rw [List.map_map]
        refine congrArg (· ++ _) (List.map_congr_left fun p hp => ?_)
        show ((550 : Int), ((p.2.toNat : Nat) : Int)) = _
        rw [Int.toNat_of_nonneg (hh p hp).2]
      have hpw : ((ringOf ds H r.1).map fun o : Nat => ((550 : Int), (o : Int))).Pairwise fun a b => lexB a b = true ∧ lexB b a = false := by
        rw [List.pairwise_map]
        have : (ringOf ds H r.1).Pairwise (· < ·) := List.Pairwise.filter _ (List.Pairwise.filter _ (by decide))
        refine this.imp fun {a b} h => ?_
        unfold lexB
        simp only [beq_self_eq_true, if_true, decide_eq_true_eq, decide_eq_false_iff_not]
        omega
      refine op_sorted_pairs1 (by rw [List.length_append]; exact Nat.le_add_left _ _) (by rw [List.length_append, List.length_map]; show _ + 1 ≤ 5; omega) hperm hpw ?_
      refine ev_listcomp (ringOf ds H r.1) (fun o : Nat => AV.int (o : Int)) (fun o => some (.tup [.int 550, .int (o : Int)])) K hd (by omega) (ev_name hri ⟨Itr.lst _, rfl, rfl, fun cxc ci o ho => ?_⟩) ?_
      · exact coT0 (TB.name (ci.kn.mine (by rfl))) <| ev_tuple <| as_cons <| ev_int <| as_one <| ev_name (upd_at _ _ _) ⟨Nat.le_of_ble_eq_true rfl, rfl, rfl, rfl⟩
      · have e6 : ((ringOf ds H r.1).filterMap fun o : Nat => some (AV.tup [.int 550, .int (o : Int)])) = ((ringOf ds H r.1).map fun o : Nat => ((550 : Int), (o : Int))).map pairV := by
          rw [List.filterMap_eq_map', List.map_map]; rfl
        rw [e6]
        refine op_ne_data (ad_pairs _) (ad_pairs _) (shaped_pairs _) (shaped_pairs _) ⟨_, rfl, ?_⟩
        rw [eqv_pairs]
        exact xs_nil (xs_nil ⟨rfl, fun r h => hR r (List.mem_cons_of_mem _ h), h3⟩)
end
end Mine
namespace Mine
open PySem PySem.W PyProof.Rows PyProof.Rows.LCg PySem.Calls PySem.Spec

theorem mem_word (d : Int) (c : Nat) : c ∈ wordCs d ↔ Box c ∧ takes d c = true := by
  unfold wordCs
  rw [List.mem_filter]
  refine and_congr_left fun _ => ?_
  have h0 : 0 ≤ (d.fdiv 16).fmod 4 := Int.fmod_nonneg_of_pos _ (by decide)
  have h1 : (d.fdiv 16).fmod 4 < 4 := Int.fmod_lt_of_pos _ (by decide)
  have : (d.fdiv 16).fmod 4 = 0 ∨ (d.fdiv 16).fmod 4 = 1 ∨ (d.fdiv 16).fmod 4 = 2 ∨ (d.fdiv 16).fmod 4 = 3 := by omega
  have key : ∀ l : List Nat, (∀ x ∈ l, x ∈ boxes) → (∀ x ∈ boxes, x ∈ l) → (c ∈ l ↔ Box c) := fun l a b => by
    rw [← mem_boxes]; exact ⟨a c, b c⟩
  rcases this with e | e | e | e <;> rw [e] <;> exact key _ (by decide +kernel) (by decide +kernel)
noncomputable def wsOf (ds : List Int) : List (List Nat) := ds.map wordCs
noncomputable def WOf (ds : List Int) : Nat → List Nat := Wf (wsOf ds)
theorem W_is {ds : List Int} (h : ds.length = 5) : ∀ s < 5, ∀ c, c ∈ WOf ds s ↔ Box c ∧ takes (ds.getD s 0) c = true := fun s hs c => by
  unfold WOf Wf wsOf
  rw [List.getD_eq_getElem?_getD, List.getD_eq_getElem?_getD, List.getElem?_map, List.getElem?_eq_getElem (by omega)]
  exact mem_word _ c
theorem W_box (ds : List Int) : ∀ s, ∀ b ∈ WOf ds s, Box b := fun s b hb => by
  unfold WOf Wf wsOf at hb
  rw [List.getD_eq_getElem?_getD, List.getElem?_map] at hb
  cases q : ds[s]? with
  | none => rw [q] at hb; cases hb
  | some d => rw [q] at hb; exact ((mem_word d b).mp hb).1
theorem setup_of {ds : List Int} (h : ds.length = 5) {H : Hd} {R : List (Nat × Tb)} {fair : Bool} (e : runL (WOf ds) (orderOf ds) (fun _ => -1) [] true = (H, R, fair)) : Setup ds (WOf ds) (orderOf ds) H R ∧ fair = true := by
  have hn : (orderOf ds).Nodup := (order_perm ds).nodup_iff.mpr List.nodup_range
  have := run_inv (W_box ds) (orderOf ds) [] _ [] (run_start _) (by simpa using hn) (fun s hs => mem_five.mp ((order_five ds).mem_iff.mp hs)) e
  exact ⟨⟨W_is h, by simpa using this.1, order_five ds, order_desc ds⟩, this.2⟩

section
variable {G : Gr} {P : Params} {cx : Cx} {ds : List Int}
theorem law_rest (hG : G.K = Mine.hd.heap_39 P) (hds : ds.length = 5) {ρ : AE} (K : KN cx (lawNames P)) (hd : cx.hd = none) (hc : cx.comp = false) (hdd : 60 ≤ cx.d)
    (hρ : Holds ρ [("draws", .lst (ds.map .int)), ("worths", .lst ((worthsOf ds).map .int)), ("order", .lst ((orderOf ds).map fun i : Nat => AV.int (i : Int)))]) :
    Xs G cx ρ [] ((lawBody P).drop 4) (fun fl _ _ => fl = .ret (.bool true)) (fun _ _ _ => False) := by
  have hws : (wsOf ds).length = 5 := by unfold wsOf; rw [List.length_map]; exact hds
  have hwb : ∀ l ∈ wsOf ds, (∀ b ∈ l, Box b) ∧ l.length ≤ 1000 := fun l hl => by
    obtain ⟨d, _, rfl⟩ := List.mem_map.mp hl
    refine ⟨fun b hb => ((mem_word d b).mp hb).1, ?_⟩
    unfold wordCs
    have hcut := cut_word ((d.fdiv 16).fmod 4) (Int.fmod_nonneg_of_pos _ (by decide)) (Int.fmod_lt_of_pos _ (by decide))
    exact Nat.le_trans (List.length_filter_le _ _) hcut.1
  refine xs_cons (x_unpack hd (ev_call (ev_global (V := .ref 116) (K.glob (by rfl)) (by rw [hG]; kernel_rfl) ⟨rfl, as_cons <| ev_listcomp ds AV.int (fun d => some (.str (mkS (wordCs d)))) K hd (by omega) (ev_name (hρ _ _ rfl) ⟨Itr.lst _, rfl, rfl, fun cxc ci d hd' => ?_⟩) <| as_one <| ev_name (hρ _ _ rfl) ?_⟩) (by rw [hG]; rfl)))
  · exact coT0 (TB.name (ci.kn.mine (by rfl))) <| ev_call (ev_global (V := .ref 97) (ci.kn.glob (by rfl)) (by rw [hG]; kernel_rfl) ⟨rfl, as_one <| ev_name (upd_at _ _ _) (word_ok hG (ci.hd.trans hd) (by rw [ci.d]; omega) d ⟨rfl, rfl, rfl⟩).jv⟩) (by rw [hG]; rfl)
  have e0 : (ds.filterMap fun d => some (AV.str (mkS (wordCs d)))) = (wsOf ds).map fun l => AV.str (mkS l) := by
    unfold wsOf; rw [List.filterMap_eq_map', List.map_map]; rfl
  rw [e0]
  refine (run_walk hG hws hwb hd (by omega) (fun s hs => mem_five.mp ((order_five ds).mem_iff.mp hs)) (by rw [(order_five ds).length_eq]; decide) fun Hd Rf H R fair e => ⟨_, TB.three (K.mine (by rfl)) (K.mine (by rfl)) (K.mine (by rfl)), ?_⟩).jv
  have ⟨ST, hfair⟩ := setup_of hds e
  subst hfair
  refine jv_settle (σ₁ := []) (x := "holders") rfl rfl ?_
  refine jv_settle_lst (σ₁ := []) (x := "refusals") rfl rfl ?_
  have h1 := ((((hρ.upd "holders" (.ref Hd)).upd "refusals" (.ref Rf)).upd "fair" (.bool true)).upd "holders" (.dct (holdV H))).upd "refusals" (.lst (refV R))
  revert h1
  generalize (upd (upd (upd (upd (upd ρ "holders" (.ref Hd)) "refusals" (.ref Rf)) "fair" (.bool true)) "holders" (.dct (holdV H))) "refusals" (.lst (refV R))) = ρ₁
  intro h1
  have h2 : Holds ρ₁ [("refusals", .lst (refV R)), ("holders", .dct (holdV H)), ("fair", .bool true), ("draws", .lst (ds.map .int)), ("worths", .lst ((worthsOf ds).map .int))] :=
    .of <| List.forall_mem_cons.mpr ⟨h1 _ _ rfl, List.forall_mem_cons.mpr ⟨h1 _ _ rfl, List.forall_mem_cons.mpr ⟨h1 _ _ rfl, List.forall_mem_cons.mpr ⟨h1 _ _ rfl, List.forall_mem_cons.mpr ⟨h1 _ _ rfl, fun _ h => nomatch h⟩⟩⟩⟩⟩
  refine law_r2 hG hds K hd hc hdd h2 fun ρ₂ h3 => ?_
  refine law_if1 hG K hd ST ⟨h3 _ _ rfl, h3 _ _ rfl, h3 _ _ rfl⟩ ?_
  refine law_if2 hG K hd ST (h3 _ _ rfl) (h3 _ _ rfl) (h3 _ _ rfl) ?_
  refine law_if3 hG hds K hd ST (h3 _ _ rfl) (h3 _ _ rfl) (h3 _ _ rfl) (h3 _ _ rfl) fun B => ?_
  exact law_for hG hds K hd hc ST ⟨upd_off (h3 _ _ rfl) (by decide), upd_off (h3 _ _ rfl) (by decide), upd_off (h3 _ _ rfl) (by decide), upd_off (h3 _ _ rfl) (by decide)⟩ (upd_off (h3 _ _ rfl) (by decide))
/-- the law's own body, whole -/
theorem law_all {cx : Cx} {fz : Objs} {s : Shared} {ρ : AE} {xs : List Int} {QQ : Flow → Shared → Prop} {EE : Value → Shared → Prop} (hG : G.K = Mine.hd.heap_39 P) (g : GOk G) (hxs : xs.length ≤ 63) (K : KN cx (lawNames P)) (hd : cx.hd = none) (hcl : cx.cl = []) (hc : cx.comp = false) (hdd : 60 ≤ cx.d) (hPb : G.hb.get? 128 = none) (hcode : cx.env.code = .ref 130) (C : CodeHd G.hb 130 128)
    (S : Sat G cx [(128, tabObj #[])] ρ [] fz s.heap) (hρ : ρ "script" = some (.lst (xs.map .int))) (k : ∀ ps ρ' σ' fz' h' tk', Sat G cx [(128, tabObj ps)] ρ' σ' fz' h' → QQ (.ret (.bool true)) { s with heap := h', toks := tk' }) : wpAny (model G.prog G.w) cx.A (execs (lawBody P) cx.env) QQ EE s := by
  have hl5 : (drawsOf xs).length = 5 := rfl
  refine law_pre hG g hxs S K hd hρ fun ρ₁ fz₁ h₁ t₁ k₁ S₁ d1 d2 => ?_
  refine law_ord hG g hl5 S₁ K hd hcl hc (by omega) hPb hcode C d2 fun ps fz₂ h₂ t₂ k₂ S₂ => ?_
  refine (law_rest hG hl5 K hd hc hdd (.of <| List.forall_mem_cons.mpr ⟨upd_off d1 (by rfl), List.forall_mem_cons.mpr ⟨upd_off d2 (by rfl), List.forall_mem_cons.mpr ⟨upd_at _ _ _, fun _ h => nomatch h⟩⟩⟩)).run g S₂ .nil (fun fl FL ρ' σ' fz' h' tk' kk S' rf q => ?_) (fun _ _ _ _ _ _ _ _ _ _ q => q.elim)
  cases rf with
  | next => cases q
  | ret rv =>
    have q' := AF.ret.inj q
    subst q'
    rw [rv.bool_inv]
    exact k ps ρ' σ' fz' h' tk' S'
end
end Mine
open PySem PySem.W PyProof.Rows
set_option maxRecDepth 100000 in
set_option maxHeartbeats 8000000 in
theorem PySem.Challenge.cw_wa0004_01_holds : PySem.Challenge.rw_wa0004_01.Holds := by
  exact Mine.hd (by
    k_fill
    intro w s₀ s₁ mg mb G Y fa o pm cd doc dV kV ho hd hcd hD hmg hg args vals as hpre hlay hrd hwl hlo
    have KX := km_in_of Y
    km_tabs Y
    have X := (Ground.X G).1
    have V := (Ground.X G).2
    refine Ground.open G ?_
    intro T B D TE TW
    try (refine guard_noD D (by decide +kernel) ?_; clear D)
    km_lay T hmg ho hd cd
    clear hmg
    wrow_args hpre hlay hrd hwl hlo
    all_goals (first | refine callC_kw (enter_call ?_) | refine enter_call ?_)
    all_goals (
      rename_i xs e1 e2 e3 e4 e5 a4 a3 l vs a0 hL e6 e7 e8 hI e9 hlen e10
      have he := Dflts.none hD rfl
      subst he
      have he := Dflts.noKw hD
      subst he
      refine kn_post hT9 (fun _ _ => rfl) ?_
      obtain ⟨ol, hol, hcl, nl, hdl⟩ := hL
      have gok : Mine.GOk ⟨Challenge.rw_wa0004_01.row.prog, w, ghostOf s₁.heap [(130, 128)], Mine.hd.heap_39 w.params, topProg, _, ExcName.means s₀.heap, mg, mb⟩ :=
        ⟨ghost_K hT9 KX (by kernel_rfl), ghost_top hT9 T, by show sysModules < (hideAll _ _).objs.size; rw [hideAll_size]; exact PyProof.Rows.modules_low T.nolimit⟩
      refine Mine.call_top (args := [.lst (xs.map .int)]) (names := ["script"]) (d := 400) (ex := [(128, tabObj #[])]) (fz := [(l, ol)]) (by rfl) (by decide) (by decide) (by rfl) gok (fun b o e => of_hideAll _ e) (by show (hideAll _ _).objs.size ≤ _; rw [hideAll_size]; exact Nat.le_refl _) ?_ ?_ ?_ ?_ ho hd hcd ?_ (by decide) rfl (of_decide_eq_true (by kernel_rfl)) (by kernel_rfl) (of_decide_eq_true (by kernel_rfl)) ?_
      · intro p hp
        rw [List.mem_singleton.mp hp]
        exact hol
      · intro p hp
        rw [List.mem_singleton.mp hp]
        exact hT8 128 (List.mem_singleton.mpr rfl)
      · intro a ha hb
        have h1 := List.mem_singleton.mp ha
        have h2 := List.mem_singleton.mp hb
        have h3 : (128 : Addr) = l := h1.symm.trans h2
        have h4 := hT8 128 (List.mem_singleton.mpr rfl)
        rw [h3, hol] at h4
        cases h4
        cases hcl
      · exact .cons (.lst List.mem_cons_self hcl hdl (Mine.RelL.of_ints (by simpa using hI))) .nil
      · exact Looks.of_pure rfl
      · intro cx' h₁ tk hd' hh' hc' hs' ho' hcl' hcode hstk S
        have C := (ghost_code hT9).1
        refine Mine.law_all (P := w.params) rfl gok (by omega) (Mine.KN.of_scope hs' ho') hh' hcl' hc' (by rw [hd']; decide) (hideAll_none _ (List.mem_singleton.mpr rfl)) hcode C S rfl fun ps ρ' σ' fz' h' tk' S' => ?_
        refine ⟨⟨.inl ⟨.bool true, _, _, rfl, fun _ => rfl, .bool true, ?_, fun _ => ⟨List.nodup_nil, fun a ha => nomatch ha⟩⟩, S'.base, ?_, ?_⟩, ⟨_, S'.exh _ List.mem_cons_self⟩, True.intro⟩
        · wrow_post
        · rfl
        · exact hg))
