import PyProof.Rows.All
import Wide.All
import OpenK.AllK
import Wide.FinOn
import PySem.Challenge.RW_aa0030_01
open PySem PySem.W PyProof.Rows
set_option Elab.async false
set_option linter.all false
set_option genSizeOf false
set_option genInjectivity false
namespace Mine
section
open PySem PySem.W PyProof.Rows
set_option maxRecDepth 100000
set_option linter.unusedVariables false
open PySem.Calls

/-- plain data -/
inductive D where
  | none
  | bool (b : Bool)
  | int (i : Int)
  | str (x : List Nat)
  | tup (ds : List D)
  | lst (ds : List D)
  | mt (i : Nat)
  | raw (v : Value)
  | ws (cnt : List Int) (tr nt : Int)
  | rng (a b c : Int)
  | bm (i : Nat)

noncomputable abbrev S (x : List Nat) : Str := ⟨x.toArray⟩

/-- the ground that the call stands on -/
structure GX where
  prog : Program
  w : World
  g0 : Heap
  T : List (Addr × Addr)
  K : Frag
  mg : Str → Option Value
  mb : Str → Option Value
  code : ∀ q ∈ T, CodeHd g0 q.1 q.2
  hide : ∀ q ∈ T, g0.get? q.2 = Option.none
  kin : K.In g0
  g : g0.Ns mainGlobals mg
  b : g0.Ns builtinsNs mb
  nolimit : g0.NoLimit
  nodigits : ∃ mc, g0.Ns cStatics mc ∧ mc "sys.int_max_str_digits" = Option.none
  builtins : ∀ x : Str, x ≠ "__name__" → mb x = bootBuiltins x
  bmain : ∃ bm ob, mg "__builtins__" = some (.ref bm) ∧ bm ≠ builtinsNs ∧ g0.get? bm = some ob ∧ ob.cls = .type "module" ∧ ob.dict = some builtinsNs ∧ ob.data = .plain

noncomputable def TabOk (G : GX) (h : Heap) : Prop := ∀ q ∈ G.T, ∃ ps, h.get? q.2 = some (tabObj ps) ∧ TriplesOk ps.toList
noncomputable def HExt (G : GX) (h h' : Heap) : Prop := ∀ b o, (∀ q ∈ G.T, b ≠ q.2) → h.get? b = some o → h'.get? b = some o

structure OkS (G : GX) (s : Shared) : Prop where
  base : ∀ b o, G.g0.get? b = some o → s.heap.get? b = some o
  tab : TabOk G s.heap
  bare : AllBare s.gens

structure Ext (G : GX) (s s' : Shared) : Prop where
  keep : HExt G s.heap s'.heap
  os : s'.os = s.os
  ok : OkS G s'

variable {G : GX}

theorem HExt.refl (h : Heap) : HExt G h h := fun _ _ _ e => e
theorem HExt.trans {a b c : Heap} (x : HExt G a b) (y : HExt G b c) : HExt G a c := fun p o n e => y p o n (x p o n e)
theorem HExt.of_keep {a b : Heap} (k : ∀ p o, a.get? p = some o → b.get? p = some o) : HExt G a b := fun p o _ e => k p o e
theorem HExt.get {h h' : Heap} (t : TabOk G h) (x : HExt G h h') {b : Addr} {o : Obj} (e : h.get? b = some o) (hn : ∀ ps, o ≠ tabObj ps) : h'.get? b = some o := by
  refine x b o (fun q hq hb => ?_) e
  obtain ⟨ps, h1, _⟩ := t q hq
  rw [← hb, e] at h1
  exact hn ps (Option.some.inj h1)
theorem TabOk.keep {h h' : Heap} (t : TabOk G h) (k : ∀ b o, h.get? b = some o → h'.get? b = some o) : TabOk G h' := fun q hq => let ⟨ps, a, r⟩ := t q hq; ⟨ps, k _ _ a, r⟩
theorem OkS.g0_notT {b : Addr} {o : Obj} (e : G.g0.get? b = some o) : ∀ q ∈ G.T, b ≠ q.2 := fun q hq hb => by
  have := G.hide q hq
  rw [← hb, e] at this; cases this
theorem OkS.keep {s : Shared} (ok : OkS G s) {h' : Heap} {tk : Nat} (k : ∀ b o, s.heap.get? b = some o → h'.get? b = some o) : OkS G { s with heap := h', toks := tk } :=
  ⟨fun b o e => k b o (ok.base b o e), ok.tab.keep k, ok.bare⟩
theorem Ext.refl {s : Shared} (ok : OkS G s) : Ext G s s := ⟨.refl _, rfl, ok⟩
theorem Ext.trans {a b c : Shared} (x : Ext G a b) (y : Ext G b c) : Ext G a c := ⟨x.keep.trans y.keep, y.os.trans x.os, y.ok⟩
theorem Ext.of_keep {s : Shared} (ok : OkS G s) {h' : Heap} {tk : Nat} (k : ∀ b o, s.heap.get? b = some o → h'.get? b = some o) : Ext G s { s with heap := h', toks := tk } :=
  ⟨.of_keep k, rfl, ok.keep k⟩
theorem Ext.toks {s : Shared} (ok : OkS G s) (tk : Nat) : Ext G s { s with toks := tk } := Ext.of_keep (h' := s.heap) ok fun _ _ e => e

/-- no object hides a method of its class -/
noncomputable def noMeth (m : Str → Option Value) : Prop := ∀ x ∈ [("longest_run_of_spaces" : Str), "indent_level", "not_equal_witness", "not_less_witness"], m x = none
/-- an object of the class Whitespace -/
noncomputable def wsC : Addr := 100
inductive WsAt (h : Heap) (a : Addr) (cnt : List Int) (tr nt : Int) : Prop
  | mk (dx : Addr) (sl : Array (Option Value)) (mA : Str → Option Value) (tn tc : Addr) (t1 t2 : Tok) (cs : Array Value) (h1 : h.get? a = some ⟨.ref wsC, some dx, .plain, sl⟩) (h2 : dx ≠ a) (h3 : h.Ns1 dx mA) (h4 : mA "norm" = some (.ref tn)) (h5 : mA "nt" = some (.int nt t1))
    (h6 : IsTup h tn #[.ref tc, .int tr t2]) (h7 : IsTup h tc cs) (h8 : IntsAre cs.toList cnt ∧ noMeth mA)
/-- «res.append» of a mutable list -/
noncomputable def boundAppend (a : Addr) : Obj := { cls := .type "builtin_function_or_method", data := .fields #[.builtin "list.append", .ref a] }

/-- what data must not be: the callers' mutable lists, and one's own -/
structure Wh where
  av : Addr → Prop
  w : List Addr
noncomputable def Wh.has (W : Wh) (a : Addr) : Prop := W.av a ∨ a ∈ W.w

mutual
inductive Is (W : Wh) (h : Heap) : Value → D → Prop
  | none : Is W h .none .none
  | bool (b : Bool) : Is W h (.bool b) (.bool b)
  | int (i : Int) (t : Tok) : Is W h (.int i t) (.int i)
  | str (x : List Nat) (t : Tok) : Is W h (.str (S x) t) (.str x)
  | tup {a : Addr} {vs : List Value} {ds : List D} : IsTup h a vs.toArray → IsL W h vs ds → Is W h (.ref a) (.tup ds)
  | lst {a : Addr} {vs : List Value} {ds : List D} : ¬ W.has a → h.PlainList a vs.toArray → IsL W h vs ds → Is W h (.ref a) (.lst ds)
  | mt {a : Addr} {i : Nat} : W.w[i]? = some a → Is W h (.ref a) (.mt i)
  | raw (v : Value) : Is W h v (.raw v)
  | ws {a : Addr} {cnt : List Int} {tr nt : Int} : WsAt h a cnt tr nt → Is W h (.ref a) (.ws cnt tr nt)
  | rng {r : Addr} {a b c : Int} {t u v : Tok} : IsRange h r a b c t u v → Is W h (.ref r) (.rng a b c)
  | bm {a b : Addr} {i : Nat} : W.w[i]? = some a → h.get? b = some (boundAppend a) → Is W h (.ref b) (.bm i)
inductive IsL (W : Wh) (h : Heap) : List Value → List D → Prop
  | nil : IsL W h [] []
  | cons {v : Value} {vs : List Value} {d : D} {ds : List D} : Is W h v d → IsL W h vs ds → IsL W h (v :: vs) (d :: ds)
end

theorem tup_notTab {h : Heap} {a : Addr} {vs : Array Value} (x : IsTup h a vs) : ∃ o, h.get? a = some o ∧ (∀ ps, o ≠ tabObj ps) ∧ o.cls = .type "tuple" ∧ ∃ n, o.data = .seq vs n := by
  obtain ⟨o, ho, hc, n, hd⟩ := x
  exact ⟨o, ho, (fun ps e => by rw [e] at hc; cases hc), hc, n, hd⟩
theorem tup_ext {h h' : Heap} {a : Addr} {vs : Array Value} (t : TabOk G h) (x : HExt G h h') (i : IsTup h a vs) : IsTup h' a vs := by
  obtain ⟨o, ho, hn, hc, n, hd⟩ := tup_notTab i
  exact ⟨o, x.get t ho hn, hc, n, hd⟩
theorem list_ext {h h' : Heap} {a : Addr} {vs : Array Value} (t : TabOk G h) (x : HExt G h h') (i : h.IsList a vs) : h'.IsList a vs := by
  obtain ⟨o, ho, hc, n, hd⟩ := i
  exact ⟨o, x.get t ho (fun ps e => by rw [e] at hc; cases hc), hc, n, hd⟩
theorem plain_ext {h h' : Heap} {c : Addr} {vs : Array Value} (t : TabOk G h) (x : HExt G h h') (n : h.PlainList c vs) : h'.PlainList c vs :=
  let ⟨n, ho⟩ := n; ⟨n, x.get t ho (fun ps e => by cases e)⟩
theorem ns1_ext {h h' : Heap} {a : Addr} {m : Str → Option Value} (t : TabOk G h) (x : HExt G h h') (n : h.Ns1 a m) : h'.Ns1 a m :=
  let ⟨o, es, ep, ho, hd, r⟩ := n; ⟨o, es, ep, x.get t ho (fun ps e => by rw [e] at hd; cases hd), hd, r⟩
theorem ws_ext {h h' : Heap} {a : Addr} {cnt : List Int} {tr nt : Int} (t : TabOk G h) (x : HExt G h h') (i : WsAt h a cnt tr nt) : WsAt h' a cnt tr nt := by
  obtain ⟨dx, sl, mA, tn, tc, t1, t2, cs, h1, h2, h3, h4, h4', h5, h6, h7⟩ := i
  exact ⟨dx, sl, mA, tn, tc, t1, t2, cs, x.get t h1 (fun ps e => by cases e), h2, ns1_ext t x h3, h4, h4', tup_ext t x h5, tup_ext t x h6, h7⟩
theorem plain_isList {h : Heap} {a : Addr} {its : Array Value} (x : h.PlainList a its) : h.IsList a its := let ⟨n, e⟩ := x; ⟨_, e, rfl, n, rfl⟩
noncomputable def isInv (W : Wh) (h : Heap) (v : Value) (d : D) : Prop := match d with
  | .none => ∃ _t : Nat, v = .none
  | .bool b => ∃ _t : Nat, v = .bool b
  | .int i => ∃ t : Tok, v = .int i t
  | .str x => ∃ t : Tok, v = .str (S x) t
  | .tup ds => ∃ a vs, v = .ref a ∧ IsTup h a (List.toArray vs) ∧ IsL W h vs ds
  | .lst ds => ∃ a vs, v = .ref a ∧ ¬ W.has a ∧ h.PlainList a (List.toArray vs) ∧ IsL W h vs ds
  | .mt i => ∃ a, v = .ref a ∧ W.w[i]? = some a
  | .raw u => ∃ _t : Nat, v = u
  | .ws cnt tr nt => ∃ a, v = .ref a ∧ WsAt h a cnt tr nt
  | .rng a b c => ∃ r t u w, v = .ref r ∧ IsRange h r a b c t u w
  | .bm i => ∃ a b, v = .ref b ∧ W.w[i]? = some a ∧ h.get? b = some (boundAppend a)
noncomputable def islInv (W : Wh) (h : Heap) (vs : List Value) (ds : List D) : Prop := match ds with
  | [] => vs = []
  | d :: ds => ∃ v r, vs = v :: r ∧ Is W h v d ∧ IsL W h r ds
theorem Is.inv {W : Wh} {h : Heap} {v : Value} {d : D} (i : Is W h v d) : isInv W h v d :=
  Is.casesOn (motive_1 := fun v d _ => isInv W h v d) i ⟨0, rfl⟩ (fun _ => ⟨0, rfl⟩) (fun _ _ => ⟨_, rfl⟩) (fun _ _ => ⟨_, rfl⟩) (fun a b => ⟨_, _, rfl, a, b⟩) (fun a b c => ⟨_, _, rfl, a, b, c⟩) (fun a => ⟨_, rfl, a⟩) (fun _ => ⟨0, rfl⟩) (fun a => ⟨_, rfl, a⟩) (fun a => ⟨_, _, _, _, rfl, a⟩) (fun a b => ⟨_, _, rfl, a, b⟩)
theorem IsL.inv {W : Wh} {h : Heap} {vs : List Value} {ds : List D} (i : IsL W h vs ds) : islInv W h vs ds :=
  IsL.casesOn (motive_2 := fun vs ds _ => islInv W h vs ds) i rfl (fun a b => ⟨_, _, rfl, a, b⟩)
theorem IsL.ind {W : Wh} {h : Heap} {P : List Value → List D → Prop} (h0 : P [] []) (h1 : ∀ v vs d ds, Is W h v d → IsL W h vs ds → P vs ds → P (v :: vs) (d :: ds)) {vs : List Value} {ds : List D} (i : IsL W h vs ds) : P vs ds :=
  IsL.rec (motive_1 := fun _ _ _ => True) (motive_2 := fun vs ds _ => P vs ds) trivial (fun _ => trivial) (fun _ _ => trivial) (fun _ _ => trivial) (fun _ _ _ => trivial) (fun _ _ _ _ => trivial) (fun _ => trivial) (fun _ => trivial) (fun _ => trivial) (fun _ => trivial) (fun _ _ => trivial)
    h0 (fun a b _ r => h1 _ _ _ _ a b r) i
theorem IsL.one {W : Wh} {h : Heap} {vs : List Value} {d : D} (i : IsL W h vs [d]) : ∃ v, vs = [v] ∧ Is W h v d := by
  obtain ⟨v, _, rfl, a, r⟩ := i.inv
  exact ⟨v, congrArg (v :: ·) r.inv, a⟩
theorem IsL.two {W : Wh} {h : Heap} {vs : List Value} {d d' : D} (i : IsL W h vs [d, d']) : ∃ v v', vs = [v, v'] ∧ Is W h v d ∧ Is W h v' d' := by
  obtain ⟨v, _, rfl, a, r⟩ := i.inv
  obtain ⟨v', rfl, a'⟩ := r.one
  exact ⟨v, v', rfl, a, a'⟩
theorem IsL.three {W : Wh} {h : Heap} {vs : List Value} {d d' d'' : D} (i : IsL W h vs [d, d', d'']) : ∃ v v' v'', vs = [v, v', v''] ∧ Is W h v d ∧ Is W h v' d' ∧ Is W h v'' d'' := by
  obtain ⟨v, _, rfl, a, r⟩ := i.inv
  obtain ⟨v', v'', rfl, a', a''⟩ := r.two
  exact ⟨v, v', v'', rfl, a, a', a''⟩
theorem Is.ext {W : Wh} {h h' : Heap} (t : TabOk G h) (x : HExt G h h') {v : Value} {d : D} (i : Is W h v d) : Is W h' v d :=
  Is.rec (motive_1 := fun v d _ => Is W h' v d) (motive_2 := fun vs ds _ => IsL W h' vs ds) .none .bool .int .str (fun a _ b => .tup (tup_ext t x a) b) (fun n a _ b => .lst n (plain_ext t x a) b) .mt .raw (fun a => .ws (ws_ext t x a))
    (fun a => .rng (x.get t a (fun ps e => by cases e))) (fun a b => .bm a (x.get t b (fun ps e => by cases e))) .nil (fun _ _ a b => .cons a b) i
theorem IsL.ext {W : Wh} {h h' : Heap} (t : TabOk G h) (x : HExt G h h') {ds : List D} {vs : List Value} (i : IsL W h vs ds) : IsL W h' vs ds :=
  i.ind (P := fun vs ds => IsL W h' vs ds) .nil fun _ _ _ _ a _ r => .cons (Is.ext t x a) r
theorem IsL.length {W : Wh} {h : Heap} {ds : List D} {vs : List Value} (i : IsL W h vs ds) : vs.length = ds.length :=
  i.ind (P := fun vs ds => vs.length = ds.length) rfl fun _ _ _ _ _ _ r => congrArg Nat.succ r
theorem IsL.get {W : Wh} {h : Heap} {ds : List D} {vs : List Value} (i : IsL W h vs ds) : ∀ {k : Nat} {d : D}, ds[k]? = some d → ∃ v, vs[k]? = some v ∧ Is W h v d :=
  i.ind (P := fun vs ds => ∀ {k : Nat} {d : D}, ds[k]? = some d → ∃ v, vs[k]? = some v ∧ Is W h v d) (fun {k d} e => nomatch (show Option.none = some d from e)) fun v vs d ds a _ r {k} {d'} e =>
    Nat.casesOn (motive := fun k => (d :: ds)[k]? = some d' → ∃ u, (v :: vs)[k]? = some u ∧ Is W h u d') k (fun e => ⟨v, rfl, Option.some.inj e ▸ a⟩) (fun _ e => r e) e
theorem IsL.append {W : Wh} {h : Heap} {ds : List D} {vs : List Value} (i : IsL W h vs ds) : ∀ {ds' : List D} {vs' : List Value}, IsL W h vs' ds' → IsL W h (vs ++ vs') (ds ++ ds') := fun {ds' vs'} k =>
  i.ind (P := fun vs ds => IsL W h (vs ++ vs') (ds ++ ds')) k fun _ _ _ _ a _ r => .cons a r
theorem IsL.drop {W : Wh} {h : Heap} {ds : List D} {vs : List Value} (i : IsL W h vs ds) : ∀ k, IsL W h (vs.drop k) (ds.drop k) :=
  i.ind (P := fun vs ds => ∀ k, IsL W h (vs.drop k) (ds.drop k)) (fun k => by rw [List.drop_nil, List.drop_nil]; exact .nil) fun v vs d ds a b r k => Nat.casesOn (motive := fun k => IsL W h ((v :: vs).drop k) ((d :: ds).drop k)) k (.cons a b) r
theorem IsL.take {W : Wh} {h : Heap} {ds : List D} {vs : List Value} (i : IsL W h vs ds) : ∀ k, IsL W h (vs.take k) (ds.take k) :=
  i.ind (P := fun vs ds => ∀ k, IsL W h (vs.take k) (ds.take k)) (fun k => by rw [List.take_nil, List.take_nil]; exact .nil) fun v vs d ds a b r k => Nat.casesOn (motive := fun k => IsL W h ((v :: vs).take k) ((d :: ds).take k)) k .nil fun k => .cons a (r k)

/-- the locals of a block: slots in the order of its scope's names -/
noncomputable def Rd (env : Env) (h : Heap) (x : Str) (kd : NameKind) (v : Value) : Prop := match kd with
  | .local => ∃ m, h.Ns env.locals m ∧ m x = some v
  | .cell => ∃ c, env.cells.lookup x = some c ∧ h.IsCell c (some v)
  | .free => x ≠ "__classdict__" ∧ ∃ c, env.cells.lookup x = some c ∧ h.IsCell c (some v)
  | _ => False

/-- the code object of a def that makes code of its own while it runs -/
noncomputable def codeOfN (ns : List Str) : Option Addr := if ns[2]? == some ("QUESTION_MARK" : Str) then some 141 else if ns[1]? == some ("firsts" : Str) then some 110 else none
noncomputable def codeOf (sc : Scope) : Option Addr := codeOfN (sc.names.map (·.1))
structure EnvOk (G : GX) (sc : Scope) (env : Env) : Prop where
  hsc : env.scope = sc
  kind : sc.kind = .function
  glob : env.globals = mainGlobals
  blt : env.builtins = builtinsNs
  nodup : (sc.names.map (·.1)).Nodup
  nonorm : ∀ p ∈ sc.names, p.1 ≠ "norm"
  code : ∀ c, codeOf sc = some c → env.code = .ref c

noncomputable def Vars (env : Env) (sc : Scope) (vals : List (Option D)) (W : Wh) (h : Heap) : Prop :=
  ∀ (k : Nat) x kd d, sc.names[k]? = some (x, kd) → vals[k]? = some (some d) → ∃ v, Rd env h x kd v ∧ Is W h v d

noncomputable def MutOk (W : Wh) (μ : List (List D)) (h : Heap) : Prop :=
  W.w.length = μ.length ∧ W.w.Nodup ∧ (∀ a, W.av a → ∃ vs, h.PlainList a vs) ∧ ∀ (i : Nat) a ds, W.w[i]? = some a → μ[i]? = some ds → ∃ vs, h.PlainList a vs.toArray ∧ IsL W h vs ds

theorem ns_ext {h h' : Heap} {a : Addr} {m : Str → Option Value} (t : TabOk G h) (x : HExt G h h') (n : h.Ns a m) : h'.Ns a m :=
  let ⟨o, es, ep, ho, hd, r⟩ := n; ⟨o, es, ep, x.get t ho (fun ps e => by rw [e] at hd; cases hd), hd, r⟩
theorem cell_ext {h h' : Heap} {c : Addr} {v : Option Value} (t : TabOk G h) (x : HExt G h h') (n : h.IsCell c v) : h'.IsCell c v :=
  let ⟨o, ho, hd⟩ := n; ⟨o, x.get t ho (fun ps e => by rw [e] at hd; cases hd), hd⟩
theorem Rd.ext {env : Env} {h h' : Heap} {x : Str} {kd : NameKind} {v : Value} (t : TabOk G h) (y : HExt G h h') (r : Rd env h x kd v) : Rd env h' x kd v := by
  cases kd <;> first | exact r.elim | (obtain ⟨m, a, b⟩ := r; first | exact ⟨m, ns_ext t y a, b⟩ | exact ⟨m, a, cell_ext t y b⟩) | (obtain ⟨n, m, a, b⟩ := r; exact ⟨n, m, a, cell_ext t y b⟩)
theorem Vars.ext {env : Env} {sc : Scope} {vals : List (Option D)} {W : Wh} {h h' : Heap} (t : TabOk G h) (y : HExt G h h') (r : Vars env sc vals W h) : Vars env sc vals W h' :=
  fun k x kd d a b => let ⟨v, p, q⟩ := r k x kd d a b; ⟨v, p.ext t y, q.ext t y⟩
theorem MutOk.ext {W : Wh} {μ : List (List D)} {h h' : Heap} (t : TabOk G h) (y : HExt G h h') (r : MutOk W μ h) : MutOk W μ h' :=
  ⟨r.1, r.2.1, fun a ha => let ⟨vs, p⟩ := r.2.2.1 a ha; ⟨vs, plain_ext t y p⟩, fun i a ds e1 e2 => let ⟨vs, p, q⟩ := r.2.2.2 i a ds e1 e2; ⟨vs, plain_ext t y p, q.ext t y⟩⟩

structure Room (n : Nat) (A : Around) : Prop where
  hd : A.handled = Option.none
  dp : A.depth + n < recursionLimit
  un : A.units + 8 * n + 40 < cLine

noncomputable abbrev No : Value → Shared → Prop := fun _ _ => False

/-- an expression comes to a value that K lets pass, and changes nothing that stood -/
noncomputable def EvK (G : GX) (sc : Scope) (n : Nat) (vals : List (Option D)) (μ : List (List D)) (e : Expr) (K : D → Prop) : Prop :=
  ∀ (A : Around) (env : Env) (W : Wh) (s : Shared), EnvOk G sc env → Room n A → OkS G s → Vars env sc vals W s.heap → MutOk W μ s.heap →
    wpAny (model G.prog G.w) A (eval e env) (fun v s' => ∃ d, K d ∧ Ext G s s' ∧ Is W s'.heap v d) No s
/-- a test -/
noncomputable def EvT (G : GX) (sc : Scope) (n : Nat) (vals : List (Option D)) (μ : List (List D)) (e : Expr) (K : Bool → Prop) : Prop :=
  ∀ (A : Around) (env : Env) (W : Wh) (s : Shared), EnvOk G sc env → Room n A → OkS G s → Vars env sc vals W s.heap → MutOk W μ s.heap →
    wpAny (model G.prog G.w) A (isTrue e env (eval e env)) (fun b s' => K b ∧ Ext G s s') No s
/-- a step on values -/
noncomputable def StK (G : GX) (n : Nat) (μ : List (List D)) (ds : List D) (f : List Value → Sem Value) (K : D → Prop) : Prop :=
  ∀ (A : Around) (W : Wh) (s : Shared) (vs : List Value), Room n A → OkS G s → MutOk W μ s.heap → IsL W s.heap vs ds →
    wpAny (model G.prog G.w) A (f vs) (fun v s' => ∃ d, K d ∧ Ext G s s' ∧ Is W s'.heap v d) No s

noncomputable abbrev b2 (f : Value → Value → Sem Value) : List Value → Sem Value := fun vs => match vs with | [x, y] => f x y | _ => .unsupported ""
noncomputable abbrev b1 (f : Value → Sem Value) : List Value → Sem Value := fun vs => match vs with | [x] => f x | _ => .unsupported ""
theorem EvK.mono {sc : Scope} {n : Nat} {vals : List (Option D)} {μ : List (List D)} {e : Expr} {K K' : D → Prop} (h : EvK G sc n vals μ e K) (hK : ∀ d, K d → K' d) : EvK G sc n vals μ e K' :=
  fun A env W s a b c d f => wpAny_mono (h A env W s a b c d f) (fun _ _ ⟨x, p, q⟩ => ⟨x, hK x p, q⟩) fun _ _ y => y

section
variable {sc : Scope} {n : Nat} {vals : List (Option D)} {μ : List (List D)} {K : D → Prop}

theorem kindOf_of {env : Env} {k : Nat} {x : Str} {kd : NameKind} (he : EnvOk G sc env) (hn : sc.names[k]? = some (x, kd)) : env.kindOf x = some kd := by
  show env.scope.names.lookup x = some kd
  rw [he.hsc]
  have hd := he.nodup
  generalize sc.names = l at hn hd
  induction l generalizing k with
  | nil => simp at hn
  | cons p r ih =>
    obtain ⟨y, ky⟩ := p
    rw [List.map_cons, List.nodup_cons] at hd
    cases k with
    | zero =>
      simp only [List.getElem?_cons_zero, Option.some.injEq, Prod.mk.injEq] at hn
      rw [List.lookup_cons, hn.1]; simp [hn.2]
    | succ k =>
      simp only [List.getElem?_cons_succ] at hn
      have hm : x ∈ r.map (·.1) := List.mem_map.mpr ⟨_, List.mem_of_getElem? hn, rfl⟩
      have hne : (x == y) = false := beq_eq_false_iff_ne.mpr fun e => hd.1 (e ▸ hm)
      rw [List.lookup_cons, hne]
      exact ih hn hd.2

theorem Ev_const_int {i : Int} {k : Nat} {pos : Pos} (h : K (.int i)) : EvK G sc n vals μ (.Constant (.int i) k pos) K :=
  fun A env W s he hr ok hv hm => wpAny_Constant_int ⟨_, h, .toks ok _, .int _ _⟩
theorem Ev_const_str {x : Str} {y : List Nat} {k : Nat} {pos : Pos} (hx : x = S y) (h : K (.str y)) : EvK G sc n vals μ (.Constant (.str x) k pos) K :=
  fun A env W s he hr ok hv hm => Constant_str ⟨_, h, .toks ok _, hx ▸ .str _ _⟩
theorem Ev_const_bool {b : Bool} {k : Nat} {pos : Pos} (h : K (.bool b)) : EvK G sc n vals μ (.Constant (.bool b) k pos) K :=
  fun A env W s he hr ok hv hm => Constant_bool ⟨_, h, .refl ok, .bool _⟩
theorem Ev_const_none {k : Nat} {pos : Pos} (h : K .none) : EvK G sc n vals μ (.Constant .none k pos) K :=
  fun A env W s he hr ok hv hm => Constant_none ⟨_, h, .refl ok, .none⟩

theorem Ev_var (k : Nat) {x : Str} {kd : NameKind} {pos : Pos} {d : D} (hn : sc.names[k]? = some (x, kd)) (hv : vals[k]? = some (some d)) (h : K d)
    (hd : (x == ("__debug__" : Str)) = false) : EvK G sc n vals μ (.Name x pos) K := fun A env W s he hr ok hvs hm => by
  obtain ⟨v, hrd, hi⟩ := hvs k x kd d hn hv
  have hk := kindOf_of he hn
  have hf : env.scope.kind = .function := by rw [he.hsc]; exact he.kind
  refine wpAny_Name ?_ hd
  cases kd with
  | «local» =>
    obtain ⟨m, a, b⟩ := hrd
    exact wpAny_loadName_local hf hk a b ⟨d, h, .refl ok, hi⟩
  | cell =>
    obtain ⟨c, a, b⟩ := hrd
    exact wpAny_loadName_cell hf hk a b ⟨d, h, .refl ok, hi⟩
  | free =>
    obtain ⟨hn, c, a, b⟩ := hrd
    exact wpAny_loadName_free hf hk a b ⟨d, h, .refl ok, hi⟩ (beq_eq_false_iff_ne.mpr hn)
  | _ => exact hrd.elim

theorem Ev_bin {op : Operator} {l r : Expr} {pos : Pos} (h : EvK G sc n vals μ l fun a => EvK G sc n vals μ r fun b => StK G n μ [a, b] (b2 (binaryOp op)) K) :
    EvK G sc n vals μ (.BinOp l op r pos) K := fun A env W s he hr ok hv hm =>
  wpAny_BinOp (wpAny_mono (h A env W s he hr ok hv hm) (fun a s₁ ⟨da, h1, e1, i1⟩ =>
    wpAny_mono (h1 A env W s₁ he hr e1.ok (hv.ext ok.tab e1.keep) (hm.ext ok.tab e1.keep)) (fun b s₂ ⟨db, h2, e2, i2⟩ =>
      wpAny_mono (h2 A W s₂ [a, b] hr e2.ok ((hm.ext ok.tab e1.keep).ext e1.ok.tab e2.keep) (.cons (i1.ext e1.ok.tab e2.keep) (.cons i2 .nil))) (fun v s₃ ⟨d, h3, e3, i3⟩ => ⟨d, h3, (e1.trans e2).trans e3, i3⟩) fun _ _ y => y)
      fun _ _ y => y) fun _ _ y => y)

theorem Ev_cmp {op : CmpOp} {l r : Expr} {pos : Pos} (h : EvK G sc n vals μ l fun a => EvK G sc n vals μ r fun b => StK G n μ [a, b] (b2 (compareOp op)) K)
    (hm : behindInMarks op r = false) :
    EvK G sc n vals μ (.Compare l [op] [r] pos) K := fun A env W s he hr ok hv hm' =>
  wpAny_Compare1 (wpAny_mono (h A env W s he hr ok hv hm') (fun a s₁ ⟨da, h1, e1, i1⟩ =>
    wpAny_mono (h1 A env W s₁ he hr e1.ok (hv.ext ok.tab e1.keep) (hm'.ext ok.tab e1.keep)) (fun b s₂ ⟨db, h2, e2, i2⟩ =>
      wpAny_mono (h2 A W s₂ [a, b] hr e2.ok ((hm'.ext ok.tab e1.keep).ext e1.ok.tab e2.keep) (.cons (i1.ext e1.ok.tab e2.keep) (.cons i2 .nil))) (fun v s₃ ⟨d, h3, e3, i3⟩ => ⟨d, h3, (e1.trans e2).trans e3, i3⟩) fun _ _ y => y)
      fun _ _ y => y) fun _ _ y => y) hm
end
end
section
open PySem PySem.W PyProof.Rows
set_option maxRecDepth 100000
set_option linter.unusedVariables false
open PySem.Calls
variable {G : GX} {n : Nat} {μ : List (List D)} {K : D → Prop}

theorem S_app (a b : List Nat) : S a ++ S b = S (a ++ b) := by
  show Str.mk (a.toArray ++ b.toArray) = Str.mk (a ++ b).toArray
  simp
theorem S_len (a : List Nat) : (S a).length = a.length := by simp [S, Str.length]
theorem S_beq (a b : List Nat) : (S a == S b) = (a == b) := by rw [← toList_beq]
theorem S_bne (a b : List Nat) : (S a != S b) = (a != b) := by simp only [bne, S_beq]

section
variable {a b : Int}
theorem St_add_int (h : K (.int (a + b))) : StK G n μ [.int a, .int b] (b2 (binaryOp .Add)) K := fun A W s vs hr ok hm hi => by
  obtain ⟨_, _, rfl, i1, i2⟩ := hi.two
  obtain ⟨_, rfl⟩ := i1.inv
  obtain ⟨_, rfl⟩ := i2.inv
  exact add_int ⟨_, h, .toks ok _, .int _ _⟩
theorem St_iadd_int (h : K (.int (a + b))) : StK G n μ [.int a, .int b] (b2 (inplaceOp .Add)) K := fun A W s vs hr ok hm hi => by
  obtain ⟨_, _, rfl, i1, i2⟩ := hi.two
  obtain ⟨_, rfl⟩ := i1.inv
  obtain ⟨_, rfl⟩ := i2.inv
  exact iadd_int ⟨_, h, .toks ok _, .int _ _⟩
theorem St_sub_int (h : K (.int (a - b))) : StK G n μ [.int a, .int b] (b2 (binaryOp .Sub)) K := fun A W s vs hr ok hm hi => by
  obtain ⟨_, _, rfl, i1, i2⟩ := hi.two
  obtain ⟨_, rfl⟩ := i1.inv
  obtain ⟨_, rfl⟩ := i2.inv
  exact sub_int ⟨_, h, .toks ok _, .int _ _⟩
theorem St_mul_int (hm : IntMulOk a b) (h : K (.int (a * b))) : StK G n μ [.int a, .int b] (b2 (binaryOp .Mult)) K := fun A W s vs hr ok hm' hi => by
  obtain ⟨_, _, rfl, i1, i2⟩ := hi.two
  obtain ⟨_, rfl⟩ := i1.inv
  obtain ⟨_, rfl⟩ := i2.inv
  exact PyProof.Rows.mul_int ⟨_, h, .toks ok _, .int _ _⟩ hm
theorem St_mod_int (hb : b ≠ 0) (h : K (.int (a.fmod b))) : StK G n μ [.int a, .int b] (b2 (binaryOp .Mod)) K := fun A W s vs hr ok hm' hi => by
  obtain ⟨_, _, rfl, i1, i2⟩ := hi.two
  obtain ⟨_, rfl⟩ := i1.inv
  obtain ⟨_, rfl⟩ := i2.inv
  exact mod_int' hb ⟨_, h, .toks ok _, .int _ _⟩
theorem St_div_int (hb : b ≠ 0) (hp : Builtin.divisionGoesByPylong a b = false) (h : K (.int (a.fdiv b))) : StK G n μ [.int a, .int b] (b2 (binaryOp .FloorDiv)) K := fun A W s vs hr ok hm' hi => by
  obtain ⟨_, _, rfl, i1, i2⟩ := hi.two
  obtain ⟨_, rfl⟩ := i1.inv
  obtain ⟨_, rfl⟩ := i2.inv
  exact floordiv_int hb ⟨_, h, .toks ok _, .int _ _⟩ (.inl hp)
theorem St_eq_int (h : K (.bool (a == b))) : StK G n μ [.int a, .int b] (b2 (compareOp .Eq)) K := fun A W s vs hr ok hm' hi => by
  obtain ⟨_, _, rfl, i1, i2⟩ := hi.two
  obtain ⟨_, rfl⟩ := i1.inv
  obtain ⟨_, rfl⟩ := i2.inv
  exact eq_int ⟨_, h, .refl ok, .bool _⟩
theorem St_ne_int (h : K (.bool (a != b))) : StK G n μ [.int a, .int b] (b2 (compareOp .NotEq)) K := fun A W s vs hr ok hm' hi => by
  obtain ⟨_, _, rfl, i1, i2⟩ := hi.two
  obtain ⟨_, rfl⟩ := i1.inv
  obtain ⟨_, rfl⟩ := i2.inv
  exact ne_int ⟨_, h, .refl ok, .bool _⟩
theorem St_lt_int (h : K (.bool (decide (a < b)))) : StK G n μ [.int a, .int b] (b2 (compareOp .Lt)) K := fun A W s vs hr ok hm' hi => by
  obtain ⟨_, _, rfl, i1, i2⟩ := hi.two
  obtain ⟨_, rfl⟩ := i1.inv
  obtain ⟨_, rfl⟩ := i2.inv
  exact lt_int ⟨_, h, .refl ok, .bool _⟩
theorem St_le_int (h : K (.bool (decide (a ≤ b)))) : StK G n μ [.int a, .int b] (b2 (compareOp .LtE)) K := fun A W s vs hr ok hm' hi => by
  obtain ⟨_, _, rfl, i1, i2⟩ := hi.two
  obtain ⟨_, rfl⟩ := i1.inv
  obtain ⟨_, rfl⟩ := i2.inv
  exact le_int ⟨_, h, .refl ok, .bool _⟩
theorem St_gt_int (h : K (.bool (decide (b < a)))) : StK G n μ [.int a, .int b] (b2 (compareOp .Gt)) K := fun A W s vs hr ok hm' hi => by
  obtain ⟨_, _, rfl, i1, i2⟩ := hi.two
  obtain ⟨_, rfl⟩ := i1.inv
  obtain ⟨_, rfl⟩ := i2.inv
  exact gt_int ⟨_, h, .refl ok, .bool _⟩
theorem St_ge_int (h : K (.bool (decide (b ≤ a)))) : StK G n μ [.int a, .int b] (b2 (compareOp .GtE)) K := fun A W s vs hr ok hm' hi => by
  obtain ⟨_, _, rfl, i1, i2⟩ := hi.two
  obtain ⟨_, rfl⟩ := i1.inv
  obtain ⟨_, rfl⟩ := i2.inv
  exact ge_int ⟨_, h, .refl ok, .bool _⟩
theorem St_neg_int (h : K (.int (-a))) : StK G n μ [.int a] (b1 (unaryOp .USub)) K := fun A W s vs hr ok hm' hi => by
  obtain ⟨_, rfl, i1⟩ := hi.one
  obtain ⟨_, rfl⟩ := i1.inv
  exact PyProof.Rows.neg_int ⟨_, h, .toks ok _, .int _ _⟩
end
section
variable {x y : List Nat}
theorem St_add_str (hz : x.length + y.length ≤ sizeLine) (h : K (.str (x ++ y))) : StK G n μ [.str x, .str y] (b2 (binaryOp .Add)) K := fun A W s vs hr ok hm hi => by
  obtain ⟨_, _, rfl, i1, i2⟩ := hi.two
  obtain ⟨_, rfl⟩ := i1.inv
  obtain ⟨_, rfl⟩ := i2.inv
  exact add_str (fun t' tk => ⟨_, h, .toks ok _, S_app x y ▸ .str _ _⟩) (by rw [S_len, S_len]; exact hz)
theorem St_eq_str (h : K (.bool (x == y))) : StK G n μ [.str x, .str y] (b2 (compareOp .Eq)) K := fun A W s vs hr ok hm' hi => by
  obtain ⟨_, _, rfl, i1, i2⟩ := hi.two
  obtain ⟨_, rfl⟩ := i1.inv
  obtain ⟨_, rfl⟩ := i2.inv
  exact PyProof.Rows.eq_str (by rw [S_beq]; exact ⟨_, h, .refl ok, .bool _⟩)
theorem St_ne_str (h : K (.bool (x != y))) : StK G n μ [.str x, .str y] (b2 (compareOp .NotEq)) K := fun A W s vs hr ok hm' hi => by
  obtain ⟨_, _, rfl, i1, i2⟩ := hi.two
  obtain ⟨_, rfl⟩ := i1.inv
  obtain ⟨_, rfl⟩ := i2.inv
  exact PyProof.Rows.ne_str (by rw [S_bne]; exact ⟨_, h, .refl ok, .bool _⟩)
theorem St_lt_str (h : K (.bool (decide (x < y)))) : StK G n μ [.str x, .str y] (b2 (compareOp .Lt)) K := fun A W s vs hr ok hm' hi => by
  obtain ⟨_, _, rfl, i1, i2⟩ := hi.two
  obtain ⟨_, rfl⟩ := i1.inv
  obtain ⟨_, rfl⟩ := i2.inv
  exact PyProof.Rows.lt_str ⟨_, h, .refl ok, .bool _⟩
theorem St_le_str (h : K (.bool (!decide (y < x)))) : StK G n μ [.str x, .str y] (b2 (compareOp .LtE)) K := fun A W s vs hr ok hm' hi => by
  obtain ⟨_, _, rfl, i1, i2⟩ := hi.two
  obtain ⟨_, rfl⟩ := i1.inv
  obtain ⟨_, rfl⟩ := i2.inv
  exact P.le_str ⟨_, h, .refl ok, .bool _⟩
theorem St_gt_str (h : K (.bool (decide (y < x)))) : StK G n μ [.str x, .str y] (b2 (compareOp .Gt)) K := fun A W s vs hr ok hm' hi => by
  obtain ⟨_, _, rfl, i1, i2⟩ := hi.two
  obtain ⟨_, rfl⟩ := i1.inv
  obtain ⟨_, rfl⟩ := i2.inv
  exact P.gt_str ⟨_, h, .refl ok, .bool _⟩
end
theorem St_eq_bool {a b : Bool} (h : K (.bool (a == b))) : StK G n μ [.bool a, .bool b] (b2 (compareOp .Eq)) K := fun A W s vs hr ok hm' hi => by
  obtain ⟨_, _, rfl, i1, i2⟩ := hi.two
  obtain ⟨_, rfl⟩ := i1.inv
  obtain ⟨_, rfl⟩ := i2.inv
  exact SeqAt.RcAt.bool_bool a b G.prog G.w _ _ ⟨_, h, .refl ok, .bool _⟩
theorem St_is_bool {a b : Bool} (h : K (.bool (a == b))) : StK G n μ [.bool a, .bool b] (b2 (compareOp .Is)) K := fun A W s vs hr ok hm' hi => by
  obtain ⟨_, _, rfl, i1, i2⟩ := hi.two
  obtain ⟨_, rfl⟩ := i1.inv
  obtain ⟨_, rfl⟩ := i2.inv
  exact is_bool ⟨_, h, .refl ok, .bool _⟩
theorem St_isnot_bool {a b : Bool} (h : K (.bool (a != b))) : StK G n μ [.bool a, .bool b] (b2 (compareOp .IsNot)) K := fun A W s vs hr ok hm' hi => by
  obtain ⟨_, _, rfl, i1, i2⟩ := hi.two
  obtain ⟨_, rfl⟩ := i1.inv
  obtain ⟨_, rfl⟩ := i2.inv
  exact isnot_bool ⟨_, h, .refl ok, .bool _⟩
noncomputable def D.isNone : D → Bool | .none => true | _ => false
noncomputable def D.plain : D → Bool | .raw _ => false | _ => true
theorem no_some {α : Type} {x : α} {p : Prop} (e : Option.none = some x) : p := by cases e
theorem Is.none_iff {W : Wh} {h : Heap} {v : Value} {d : D} (i : Is W h v d) (hp : d.plain = true) : (v == .none) = d.isNone := by
  have j := i.inv
  cases d with
  | raw v => cases hp
  | rng a b c => obtain ⟨_, _, _, _, rfl, _⟩ := j; rfl
  | tup => obtain ⟨_, _, rfl, _⟩ := j; rfl
  | lst => obtain ⟨_, _, rfl, _⟩ := j; rfl
  | bm => obtain ⟨_, _, rfl, _⟩ := j; rfl
  | _ => obtain ⟨_, e⟩ := j; first | (subst e; rfl) | (obtain ⟨rfl, _⟩ := e; rfl)
theorem St_is_none {d : D} (hp : d.plain = true) (h : K (.bool d.isNone)) : StK G n μ [d, .none] (b2 (compareOp .Is)) K := fun A W s vs hr ok hm' hi => by
  obtain ⟨_, _, rfl, i1, i2⟩ := hi.two
  obtain ⟨_, rfl⟩ := i2.inv
  exact is_none_gen (by rw [i1.none_iff hp]; exact ⟨_, h, .refl ok, .bool _⟩)
theorem St_isnot_none {d : D} (hp : d.plain = true) (h : K (.bool (!d.isNone))) : StK G n μ [d, .none] (b2 (compareOp .IsNot)) K := fun A W s vs hr ok hm' hi => by
  obtain ⟨_, _, rfl, i1, i2⟩ := hi.two
  obtain ⟨_, rfl⟩ := i2.inv
  exact isnot_none_gen (by rw [i1.none_iff hp]; exact ⟨_, h, .refl ok, .bool _⟩)

/-- what a list, mutable or not, holds -/
noncomputable def D.items (μ : List (List D)) : D → Option (List D)
  | .lst ds => some ds
  | .mt i => μ[i]?
  | _ => Option.none
theorem Is.items {W : Wh} {h : Heap} {v : Value} {d : D} {ds : List D} (hm : MutOk W μ h) (i : Is W h v d) (e : d.items μ = some ds) : ∃ a vs, v = .ref a ∧ h.IsList a vs.toArray ∧ IsL W h vs ds := by
  cases d with
  | lst l => obtain ⟨a, vs, q, n, hl, hs⟩ := i.inv; exact ⟨a, vs, q, plain_isList hl, Option.some.inj e ▸ hs⟩
  | mt k =>
    obtain ⟨a, q, hw⟩ := i.inv
    obtain ⟨vs, p, r⟩ := hm.2.2.2 _ _ _ hw e
    exact ⟨a, vs, q, plain_isList p, r⟩
  | _ => exact no_some e
theorem St_eq_nil {d : D} {ds : List D} (hd : d.items μ = some ds) (h : K (.bool ds.isEmpty)) : StK G n μ [d, .lst []] (b2 (compareOp .Eq)) K := fun A W s vs hr ok hm hi => by
  obtain ⟨_, _, rfl, i1, i2⟩ := hi.two
  obtain ⟨a, vs, rfl, hl, hs⟩ := i1.items hm hd
  obtain ⟨_, _, rfl, n2, hl2, hs2⟩ := i2.inv
  cases hs2
  have hu : A.units < cLine := by have := hr.un; lia
  cases ds with
  | nil =>
    cases hs
    refine SeqAt.eq_listAt (e := fun _ => true) hl (plain_isList hl2) rfl hu (fun j h1 _ => absurd h1 (by simp)) ⟨_, h, .refl ok, .bool _⟩
  | cons d ds =>
    cases hs with | cons p q => exact SeqAt.eq_list_lengthsAt hl (plain_isList hl2) (by simp) hu ⟨_, h, .refl ok, .bool _⟩
theorem St_ne_nil {d : D} {ds : List D} (hd : d.items μ = some ds) (h : K (.bool (!ds.isEmpty))) : StK G n μ [d, .lst []] (b2 (compareOp .NotEq)) K := fun A W s vs hr ok hm hi => by
  obtain ⟨_, _, rfl, i1, i2⟩ := hi.two
  obtain ⟨a, vs, rfl, hl, hs⟩ := i1.items hm hd
  obtain ⟨_, _, rfl, n2, hl2, hs2⟩ := i2.inv
  cases hs2
  have hu : A.units < cLine := by have := hr.un; lia
  cases ds with
  | nil =>
    cases hs
    exact SeqAt.RcNeAt.lists (e := fun _ => true) hl (plain_isList hl2) rfl hu (fun j h1 _ => absurd h1 (by simp)) G.prog G.w _ _ ⟨_, h, .refl ok, .bool _⟩
  | cons d ds =>
    cases hs with | cons p q => exact SeqAt.RcNeAt.lists_lengths hl (plain_isList hl2) (by simp) hu G.prog G.w _ _ ⟨_, h, .refl ok, .bool _⟩
theorem IsL.ints {W : Wh} {h : Heap} {ns : List (Int)} : ∀ {vs : List Value}, IsL W h vs (ns.map D.int) → IntsAre vs ns := by
  induction ns with
  | nil =>
    intro vs i
    obtain rfl := i.inv
    exact .nil
  | cons x r ih =>
    intro vs i
    obtain ⟨_, _, rfl, a, r⟩ := i.inv
    obtain ⟨_, rfl⟩ := a.inv
    exact .cons _ _ (ih r)
theorem IsL.of_ints {W : Wh} {h : Heap} {vs : List Value} {ns : List Int} (i : IntsAre vs ns) : IsL W h vs (ns.map D.int) := by
  induction i with
  | nil => exact .nil
  | cons _ _ r ih => exact .cons (.int _ _) ih
theorem IsL.strs {W : Wh} {h : Heap} {ys : List (List Nat)} : ∀ {vs : List Value}, IsL W h vs (ys.map D.str) → StrsAre vs (ys.map S) := by
  induction ys with
  | nil =>
    intro vs i
    obtain rfl := i.inv
    exact .nil
  | cons x r ih =>
    intro vs i
    obtain ⟨_, _, rfl, a, r⟩ := i.inv
    obtain ⟨_, rfl⟩ := a.inv
    exact .cons _ _ (ih r)
theorem St_in_ints {k : Int} {d : D} {ns : List Int} (hd : d.items μ = some (ns.map .int)) (h : K (.bool (ns.any (· == k)))) : StK G n μ [.int k, d] (b2 (compareOp .In)) K := fun A W s vs hr ok hm hi => by
  obtain ⟨_, _, rfl, i1, i2⟩ := hi.two
  obtain ⟨a, vs, rfl, hl, hs⟩ := i2.items hm hd
  obtain ⟨_, rfl⟩ := i1.inv
  exact in_list_ints hl hs.ints ⟨_, h, .refl ok, .bool _⟩
theorem any_S (ys : List (List Nat)) (k : List Nat) : (ys.map S).any (· == S k) = ys.any (· == k) := by
  induction ys with
  | nil => rfl
  | cons y r ih => simp only [List.map_cons, List.any_cons, ih, S_beq]
theorem St_in_strs {k : List Nat} {d : D} {ys : List (List Nat)} (hd : d.items μ = some (ys.map .str)) (h : K (.bool (ys.any (· == k)))) : StK G n μ [.str k, d] (b2 (compareOp .In)) K := fun A W s vs hr ok hm hi => by
  obtain ⟨_, _, rfl, i1, i2⟩ := hi.two
  obtain ⟨a, vs, rfl, hl, hs⟩ := i2.items hm hd
  obtain ⟨_, rfl⟩ := i1.inv
  refine in_list_strs hl hs.strs ?_
  rw [any_S]
  exact ⟨_, h, .refl ok, .bool _⟩
end
section
open PySem PySem.W PyProof.Rows
set_option maxRecDepth 100000
set_option linter.unusedVariables false
set_option linter.unusedSimpArgs false
open PySem.Calls
variable {G : GX} {sc : Scope} {n : Nat} {vals : List (Option D)} {μ : List (List D)} {K : D → Prop}

/-! slices -/
noncomputable def clipI (n d : Nat) : Option Int → Nat
  | none => d
  | some i => (max 0 (min (if i < 0 then i + n else i) n)).toNat
noncomputable def pySlice {α : Type} (l : List α) (lo hi : Option Int) : List α := (l.drop (clipI l.length 0 lo)).take (clipI l.length l.length hi - clipI l.length 0 lo)

theorem clipI_le (n d : Nat) (hd : d ≤ n) (x : Option Int) : clipI n d x ≤ n := by
  cases x with
  | none => exact hd
  | some i => show (max 0 (min (if i < 0 then i + n else i) n)).toNat ≤ n; split <;> lia
theorem strIdx (lo hi : Option Int) (n : Nat) : Builtin.Str.strSliceIndices lo hi 1 n = (List.range (clipI n n hi - clipI n 0 lo)).map (clipI n 0 lo + ·) := by
  rw [← sliceRange_one]
  unfold Builtin.Str.strSliceIndices clipI
  cases lo <;> cases hi <;> simp only [show (1 : Int) > 0 by decide, if_true] <;> congr 1 <;> lia
theorem bndIdx (lo hi : Option Int) (n : Nat) : sliceBounds lo hi none n = (((clipI n 0 lo : Nat) : Int), ((clipI n n hi : Nat) : Int), (1 : Int)) := by
  unfold sliceBounds clipI
  cases lo <;> cases hi <;> simp only [Option.getD_none, show (1 : Int) > 0 by decide, if_true] <;> (refine Prod.ext ?_ (Prod.ext ?_ rfl)) <;> simp only <;> lia
theorem slicePick_eq (l : List Value) (lo hi : Option Int) : slicePick l.toArray lo hi none = (pySlice l lo hi).toArray := by
  unfold slicePick pySlice
  rw [bndIdx]
  simp only [List.size_toArray]
  rw [sliceRange_one, pick_run]
theorem txtSlice_eq (l : List Nat) (lo hi : Option Int) : Txt.slice (S l) lo hi = S (pySlice l lo hi) := by
  unfold Txt.slice
  rw [S_len, strIdx]
  have e : (⟨(List.filterMap (fun x => (S l).cps[x]?) (List.map (fun x => clipI l.length 0 lo + x) (List.range (clipI l.length l.length hi - clipI l.length 0 lo)))).toArray⟩ : Str) = S (pySlice l lo hi) := by
    rw [pick_run]; rfl
  rw [e]
  split
  · rename_i h
    simp only [List.length_map, List.length_range, Bool.and_eq_true, beq_iff_eq] at h
    have h1 := clipI_le l.length l.length (Nat.le_refl _) hi
    have h2 : clipI l.length 0 lo = 0 ∨ l.length = 0 := by lia
    unfold pySlice
    rw [h.2]
    rcases h2 with h2 | h2
    · rw [h2]; simp
    · have : l = [] := List.eq_nil_of_length_eq_zero h2
      subst this; simp
  · rfl
theorem IsL.slice {W : Wh} {h : Heap} {vs : List Value} {ds : List D} (i : IsL W h vs ds) (lo hi : Option Int) : IsL W h (pySlice vs lo hi) (pySlice ds lo hi) := by
  unfold pySlice
  rw [i.length]
  exact (i.drop _).take _

/-- an optional part of a slice -/
noncomputable def EvP (G : GX) (sc : Scope) (n : Nat) (vals : List (Option D)) (μ : List (List D)) : Option Expr → (Option Int → Prop) → Prop
  | none, K => K none
  | some e, K => EvK G sc n vals μ e fun d => ∃ i, d = .int i ∧ K (some i)

noncomputable def Ok5 (G : GX) (sc : Scope) (n : Nat) (vals : List (Option D)) (μ : List (List D)) (A : Around) (env : Env) (W : Wh) (s : Shared) : Prop :=
  EnvOk G sc env ∧ Room n A ∧ OkS G s ∧ Vars env sc vals W s.heap ∧ MutOk W μ s.heap
theorem Ok5.ext {A : Around} {env : Env} {W : Wh} {s s' : Shared} (x : Ok5 G sc n vals μ A env W s) (e : Ext G s s') : Ok5 G sc n vals μ A env W s' :=
  ⟨x.1, x.2.1, e.ok, x.2.2.2.1.ext x.2.2.1.tab e.keep, x.2.2.2.2.ext x.2.2.1.tab e.keep⟩
theorem EvK.use {A : Around} {env : Env} {W : Wh} {s : Shared} {e : Expr} {Q : Value → Shared → Prop} (h : EvK G sc n vals μ e K) (o : Ok5 G sc n vals μ A env W s)
    (hQ : ∀ v s' d, K d → Ext G s s' → Is W s'.heap v d → Q v s') : wpAny (model G.prog G.w) A (eval e env) Q No s :=
  wpAny_mono (h A env W s o.1 o.2.1 o.2.2.1 o.2.2.2.1 o.2.2.2.2) (fun v s' ⟨d, a, b, c⟩ => hQ v s' d a b c) fun _ _ y => y
theorem EvK.of {e : Expr} (h : ∀ A env W s, Ok5 G sc n vals μ A env W s → wpAny (model G.prog G.w) A (eval e env) (fun v s' => ∃ d, K d ∧ Ext G s s' ∧ Is W s'.heap v d) No s) : EvK G sc n vals μ e K :=
  fun A env W s a b c d f => h A env W s ⟨a, b, c, d, f⟩
theorem EvP.use {A : Around} {env : Env} {W : Wh} {s : Shared} {e : Option Expr} {K : Option Int → Prop} {Q : Value → Shared → Prop} (h : EvP G sc n vals μ e K) (o : Ok5 G sc n vals μ A env W s)
    (hQ : ∀ v s' i, K i → Ext G s s' → IsPart v i → Q v s') : wpAny (model G.prog G.w) A (evalPart e env) Q No s := by
  cases e with
  | none => exact wpAny_pure (hQ _ _ none h (.refl o.2.2.1) .none)
  | some e =>
    refine EvK.use h o fun v s' d ⟨i, hd, hk⟩ e is => ?_
    subst hd
    cases is
    exact hQ _ _ (some i) hk e (.int _ _)
theorem part_pair {v : Value} {i : Option Int} (h : IsPart v i) : ∃ l : Option (Int × Tok), v = partValue l ∧ i = l.map (·.1) := by
  cases h with
  | none => exact ⟨none, rfl, rfl⟩
  | int i t => exact ⟨some (i, t), rfl, rfl⟩

theorem Ev_slice_str {value : Expr} {lo hi : Option Expr} {p pos : Pos}
    (h : EvK G sc n vals μ value fun o => EvP G sc n vals μ lo fun l => EvP G sc n vals μ hi fun u => ∃ x, o = .str x ∧ x.length ≤ sizeLine ∧ K (.str (pySlice x l u))) (ht : ∀ o r, letTemporaryGo value o r = pure ()) :
    EvK G sc n vals μ (.Subscript value (.Slice lo hi none p) pos) K := EvK.of fun A env W s o => by
  refine wpAny_Subscript_str_slice (h.use o fun vo s₁ d hd e1 i1 => EvP.use hd (o.ext e1) fun vl s₂ l hl e2 p2 => EvP.use hl ((o.ext e1).ext e2) fun vu s₃ u hu e3 p3 => ?_) ht
  obtain ⟨x, rfl, hx, hk⟩ := hu
  obtain ⟨t, rfl⟩ := i1.inv
  obtain ⟨l', rfl, rfl⟩ := part_pair p2
  obtain ⟨u', rfl, rfl⟩ := part_pair p3
  refine ⟨S x, t, l', u', rfl, rfl, rfl, ?_⟩
  refine post_val_or_str ⟨Nat.le_trans (Txt.slice_le (S x) _ _) (by rw [S_len]; exact hx), fun t' k => ?_⟩
  show ∃ d, K d ∧ Ext G s _ ∧ Is W _ (.str (Txt.slice (S x) _ _) t') d
  rw [txtSlice_eq]
  exact ⟨_, hk, ((e1.trans e2).trans e3).trans (Ext.of_keep e3.ok fun b o e => Heap.get?_push_of_some _ e), .str _ _⟩

/-- a new list of what is there -/
theorem notin_fresh {W : Wh} {μ : List (List D)} {h : Heap} (hm : MutOk W μ h) : ¬ W.has h.objs.size := fun hw => by
  rcases hw with hw | hw
  · obtain ⟨vs, k, ho⟩ := hm.2.2.1 _ hw
    exact Nat.lt_irrefl _ (Heap.lt_size ho)
  · obtain ⟨i, hi, e⟩ := List.mem_iff_getElem.mp hw
    have hj : i < μ.length := hm.1 ▸ hi
    obtain ⟨vs, ⟨k, ho⟩, _⟩ := hm.2.2.2 i h.objs.size μ[i] (by rw [List.getElem?_eq_getElem hi, e]) (List.getElem?_eq_getElem hj)
    exact Nat.lt_irrefl _ (Heap.lt_size ho)
theorem new_list {W : Wh} {h : Heap} {vs : List Value} {ds : List D} (t : TabOk G h) (hm : MutOk W μ h) (i : IsL W h vs ds) : Is W (h.push { cls := .type "list", data := .seq vs.toArray }) (.ref h.objs.size) (.lst ds) :=
  .lst (notin_fresh hm) ⟨_, Heap.get?_push_size _ rfl⟩ (i.ext t (HExt.of_keep fun b o e => Heap.get?_push_of_some _ e))
theorem new_tup {W : Wh} {h : Heap} {vs : List Value} {ds : List D} (t : TabOk G h) (i : IsL W h vs ds) : Is W (h.push { cls := .type "tuple", data := .seq vs.toArray }) (.ref h.objs.size) (.tup ds) :=
  .tup ⟨_, Heap.get?_push_size _ rfl, rfl, _, rfl⟩ (i.ext t (HExt.of_keep fun b o e => Heap.get?_push_of_some _ e))

/-- with a step -/
noncomputable def pickD {α : Type} (l : List α) (lo hi st : Option Int) : List α := (sliceRange (sliceBounds lo hi st l.length).1 (sliceBounds lo hi st l.length).2.1 (sliceBounds lo hi st l.length).2.2).filterMap (l[·]?)
theorem IsL.pick {W : Wh} {h : Heap} {vs : List Value} {ds : List D} (i : IsL W h vs ds) (idx : List Nat) : IsL W h (idx.filterMap (vs[·]?)) (idx.filterMap (ds[·]?)) := by
  induction idx with
  | nil => exact .nil
  | cons k r ih =>
    rw [List.filterMap_cons, List.filterMap_cons]
    cases e : ds[k]? with
    | none =>
      have hk : ds.length ≤ k := List.getElem?_eq_none_iff.mp e
      have : vs[k]? = none := List.getElem?_eq_none_iff.mpr (by rw [i.length]; exact hk)
      rw [this]; exact ih
    | some d =>
      obtain ⟨v, hv, hi⟩ := i.get e
      rw [hv]; exact .cons hi ih
theorem pick_toArray (vs : List Value) (lo hi st : Option Int) : slicePick vs.toArray lo hi st = (pickD vs lo hi st).toArray := by
  unfold slicePick pickD
  simp only [List.size_toArray, List.getElem?_toArray]
theorem Ev_slice_step {value st : Expr} {lo hi : Option Expr} {p pos : Pos}
    (h : EvK G sc n vals μ value fun o => EvP G sc n vals μ lo fun l => EvP G sc n vals μ hi fun u => EvP G sc n vals μ (some st) fun c => ∃ ds, o.items μ = some ds ∧ ds.length ≤ sizeLine ∧ c ≠ some 0 ∧ K (.lst (pickD ds l u c)))
    (ht : ∀ o r, letTemporaryGo value o r = pure ()) :
    EvK G sc n vals μ (.Subscript value (.Slice lo hi (some st) p) pos) K := EvK.of fun A env W s o => by
  refine wpAny_Subscript_Slice_step (T := "list") slot_list_getitem.lookup (h.use o fun vo s₁ d hd e1 i1 => wpAny_Slice (EvP.use hd (o.ext e1) fun vl s₂ l hl e2 p2 => EvP.use hl ((o.ext e1).ext e2) fun vu s₃ u hu e3 p3 => EvP.use hu (((o.ext e1).ext e2).ext e3) fun vc s₄ c hc e4 p4 => ?_)) ht
  obtain ⟨ds, hds, hz, h0, hk⟩ := hc
  have o3 := (((o.ext e1).ext e2).ext e3).ext e4
  have i3 := ((i1.ext (o.ext e1).2.2.1.tab e2.keep).ext ((o.ext e1).ext e2).2.2.1.tab e3.keep).ext (((o.ext e1).ext e2).ext e3).2.2.1.tab e4.keep
  obtain ⟨a, vs, rfl, hl', hs'⟩ := i3.items o3.2.2.2.2 hds
  have kp : ∀ b o, s₄.heap.get? b = some o → (s₄.heap.push { cls := .type "slice", data := .fields #[vl, vu, vc] }).get? b = some o := fun b o e => Heap.get?_push_of_some _ e
  have e5 : Ext G s₄ { s₄ with heap := s₄.heap.push { cls := .type "slice", data := .fields #[vl, vu, vc] } } := Ext.of_keep (tk := s₄.toks) e4.ok kp
  have o4 := o3.ext e5
  have hl4 := list_ext o3.2.2.1.tab e5.keep hl'
  have hs4 := hs'.ext o3.2.2.1.tab e5.keep
  refine ⟨hl4.typeIs, wpAny_getItem_list_slice (lo := l) (hi := u) (st := c) hl4 (Heap.IsSliceOf.new ..) p2 p3 p4 h0 ?_ (by rw [List.size_toArray, hs'.length]; exact hz)⟩
  rw [pick_toArray]
  refine ⟨_, hk, ((((e1.trans e2).trans e3).trans e4).trans e5).trans (Ext.of_keep o4.2.2.1 fun b o e => Heap.get?_push_of_some _ e), new_list o4.2.2.1.tab o4.2.2.2.2 ?_⟩
  have := hs4.pick (sliceRange (sliceBounds l u c vs.length).1 (sliceBounds l u c vs.length).2.1 (sliceBounds l u c vs.length).2.2)
  unfold pickD
  rw [← hs'.length]
  exact this
end
section
open PySem PySem.W PyProof.Rows
set_option maxRecDepth 100000
set_option linter.unusedVariables false
set_option linter.unusedSimpArgs false
open PySem.Calls
variable {G : GX} {sc : Scope} {n : Nat} {vals : List (Option D)} {μ : List (List D)} {K : D → Prop}

/-! items -/
noncomputable def atD {α : Type} (l : List α) (k : Int) : Option α := (seqIndex? k l.length).bind (l[·]?)
theorem atD_nat {α : Type} (l : List α) (k : Nat) : atD l (k : Int) = l[k]? := by
  unfold atD seqIndex?
  have h1 : ¬ ((k : Int) < 0) := by lia
  simp only [h1, if_false]
  by_cases h : k < l.length
  · have : (decide (0 ≤ (k : Int)) && decide ((k : Int) < (l.length : Int))) = true := by simp; lia
    rw [if_pos this]; simp
  · have : ¬ (decide (0 ≤ (k : Int)) && decide ((k : Int) < (l.length : Int))) = true := by simp; lia
    rw [if_neg this]
    simp only [Option.bind_none]
    exact (List.getElem?_eq_none_iff.mpr (by lia)).symm
theorem seqIndex_lt {k : Int} {m j : Nat} (h : seqIndex? k m = some j) : j < m ∧ (0 ≤ k → j = k.toNat) ∧ (k < 0 → j = (k + m).toNat ∧ -(m : Int) ≤ k) := by
  unfold seqIndex? at h
  by_cases h0 : k < 0
  · simp only [h0, if_true] at h
    split at h
    · rename_i h'; simp only [Bool.and_eq_true, decide_eq_true_eq] at h'; cases h; exact ⟨by lia, fun _ => by lia, fun _ => ⟨rfl, by lia⟩⟩
    · cases h
  · simp only [h0, if_false] at h
    split at h
    · rename_i h'; simp only [Bool.and_eq_true, decide_eq_true_eq] at h'; cases h; exact ⟨by lia, fun _ => rfl, fun q => absurd q h0⟩
    · cases h

noncomputable def ItK (G : GX) (n : Nat) (μ : List (List D)) (o i : D) (K : D → Prop) : Prop :=
  ∀ (A : Around) (W : Wh) (s : Shared) (vo vi : Value), Room n A → OkS G s → MutOk W μ s.heap → Is W s.heap vo o → Is W s.heap vi i →
    ∃ T id, typeLookup (.type T) "__getitem__" = pure (some (.builtin id)) ∧ s.TypeIs vo T ∧ wpAny (model G.prog G.w) A (getItem vo vi) (fun v s' => ∃ d, K d ∧ Ext G s s' ∧ Is W s'.heap v d) No s

theorem It_lst {o : D} {ds : List D} {k : Int} {d : D} (ho : o.items μ = some ds) (hd : atD ds k = some d) (h1 : -(2 ^ 63) ≤ k) (h2 : k < 2 ^ 63) (h : K d) : ItK G n μ o (.int k) K := fun A W s vo vi hr ok hm i1 i2 => by
  obtain ⟨a, vs, rfl, hl, hs⟩ := i1.items hm ho
  obtain ⟨t, rfl⟩ := i2.inv
  refine ⟨"list", _, slot_list_getitem.lookup, hl.typeIs, ?_⟩
  unfold atD at hd
  cases hj : seqIndex? k ds.length with
  | none => rw [hj] at hd; cases hd
  | some j =>
    rw [hj] at hd
    obtain ⟨v, hv, hi⟩ := hs.get hd
    obtain ⟨l1, l2, l3⟩ := seqIndex_lt hj
    by_cases h0 : 0 ≤ k
    · exact wpAny_getItem_list hl h0 h2 (by rw [← l2 h0]; simpa using hv) ⟨_, h, .refl ok, hi⟩
    · have h0' : k < 0 := by lia
      obtain ⟨e, h3⟩ := l3 h0'
      refine wpAny_getItem_list_neg hl h0' (by rw [List.size_toArray, hs.length]; exact h3) h1 ?_ ⟨_, h, .refl ok, hi⟩
      rw [List.size_toArray, hs.length, ← e]; simpa using hv
theorem It_tup {ds : List D} {k : Int} {d : D} (hd : atD ds k = some d) (h1 : -(2 ^ 63) ≤ k) (h2 : k < 2 ^ 63) (h : K d) : ItK G n μ (.tup ds) (.int k) K := fun A W s vo vi hr ok hm i1 i2 => by
  obtain ⟨_, _, rfl, ht, hs⟩ := i1.inv
  obtain ⟨t, rfl⟩ := i2.inv
  refine ⟨"tuple", _, slot_tuple_getitem.lookup, ht.typeIs, ?_⟩
  unfold atD at hd
  cases hj : seqIndex? k ds.length with
  | none => rw [hj] at hd; cases hd
  | some j =>
    rw [hj] at hd
    obtain ⟨v, hv, hi⟩ := hs.get hd
    exact getItem_tuple ht h1 h2 (by rw [List.size_toArray, hs.length]; exact hj) (by simpa using hv) ⟨_, h, .refl ok, hi⟩
theorem It_str {x : List Nat} {k : Int} {c : Nat} (hd : atD x k = some c) (h1 : -(2 ^ 63) ≤ k) (h2 : k < 2 ^ 63) (h : K (.str [c])) : ItK G n μ (.str x) (.int k) K := fun A W s vo vi hr ok hm i1 i2 => by
  obtain ⟨t, rfl⟩ := i1.inv
  obtain ⟨u, rfl⟩ := i2.inv
  refine ⟨"str", _, F.slot_str_getitem.lookup, typeIs_str _ _ _, PyProof.Rows.getItem_str (c := c) (by simp; lia) ?_ ⟨_, h, .toks ok _, .str [c] _⟩⟩
  rw [S_len]
  unfold atD at hd
  rw [← hd]
  congr 1
  funext j
  simp [S]
theorem Ev_idx {value idx : Expr} {pos : Pos} (h : EvK G sc n vals μ value fun o => EvK G sc n vals μ idx fun i => ItK G n μ o i K) (hs : ∀ o i, subscripted idx false o i = operate [o, i] (getItem o i)) :
    EvK G sc n vals μ (.Subscript value idx pos) K := EvK.of fun A env W s o => by
  refine Subscript_ (h.use o fun vo s₁ d hd e1 i1 => EvK.use hd (o.ext e1) fun vi s₂ i hi e2 i2 => ?_)
  have o2 := (o.ext e1).ext e2
  obtain ⟨T, id, hl, hT, hg⟩ := hi A W s₂ vo vi o2.2.1 o2.2.2.1 o2.2.2.2.2 (i1.ext (o.ext e1).2.2.1.tab e2.keep) i2
  exact wpAny_mono (tail_any hT hl hg (hs _ _)) (fun v s₃ ⟨d, a, b, c⟩ => ⟨d, a, (e1.trans e2).trans b, c⟩) fun _ _ y => y

/-! lists of expressions -/
noncomputable def EvL (G : GX) (sc : Scope) (n : Nat) (vals : List (Option D)) (μ : List (List D)) : List Expr → (List D → Prop) → Prop
  | [], K => K []
  | e :: r, K => EvK G sc n vals μ e fun d => EvL G sc n vals μ r fun ds => K (d :: ds)
noncomputable def noStar : List Expr → Bool
  | [] => true
  | .Starred .. :: _ => false
  | _ :: r => noStar r
theorem starEach_eq : ∀ (es : List Expr) (env : Env), noStar es = true → starEach es env = (evalEach es env).map fun t => (false, t)
  | [], _, _ => rfl
  | e :: r, env, h => by
    have ih := starEach_eq r env
    cases e <;> first | (exact absurd h Bool.false_ne_true) | (exact congrArg (List.cons _) (ih h))
theorem backTo_eq (pos : Pos) (es : List Expr) (env : Env) (h : noStar es = true) : backTo pos (starEach es env) = (evalEach es env).map fun t => (false, t) := by
  rw [starEach_eq es env h]
  unfold backTo
  rw [List.map_map]
  rfl
theorem EvL.use {A : Around} {env : Env} {W : Wh} : ∀ {es : List Expr} {s : Shared} {KL : List D → Prop} {Q : List Value → Shared → Prop}, EvL G sc n vals μ es KL → Ok5 G sc n vals μ A env W s →
    (∀ vs s' ds, KL ds → Ext G s s' → IsL W s'.heap vs ds → Q vs s') → wpAny (model G.prog G.w) A (spliced ((evalEach es env).map fun t => (false, t))) Q No s
  | [], s, KL, Q, h, o, hQ => spliced_nil (hQ [] s [] h (.refl o.2.2.1) .nil)
  | e :: r, s, KL, Q, h, o, hQ => by
    show wpAny _ A (spliced ((false, eval e env) :: (evalEach r env).map fun t => (false, t))) Q No s
    refine spliced_cons (EvK.use h o fun v s₁ d hd e1 i1 => EvL.use hd (o.ext e1) fun vs s₂ ds hds e2 is => ?_)
    exact hQ _ _ _ hds (e1.trans e2) (.cons (i1.ext (o.ext e1).2.2.1.tab e2.keep) is)

theorem Ev_tuple {es : List Expr} {k : Nat} {pos : Pos} (h : EvL G sc n vals μ es fun ds => ds.length ≤ sizeLine ∧ K (.tup ds)) (hn : noStar es = true) : EvK G sc n vals μ (.Tuple es k pos) K := EvK.of fun A env W s o => by
  refine Tuple_ ?_
  rw [backTo_eq _ _ _ hn]
  refine h.use o fun vs s₁ ds ⟨hz, hk⟩ e1 is => ?_
  refine wpAny_newObj_type ⟨_, hk, e1.trans (Ext.of_keep e1.ok fun b o e => Heap.get?_push_of_some _ e), new_tup e1.ok.tab is⟩ ?_
  show vs.toArray.size ≤ sizeLine
  rw [List.size_toArray, is.length]; exact hz
theorem Ev_list {es : List Expr} {pos : Pos} (h : EvL G sc n vals μ es fun ds => ds.length ≤ sizeLine ∧ K (.lst ds)) (hn : noStar es = true) : EvK G sc n vals μ (.List es pos) K := EvK.of fun A env W s o => by
  refine List_ ?_
  rw [backTo_eq _ _ _ hn]
  refine h.use o fun vs s₁ ds ⟨hz, hk⟩ e1 is => ?_
  refine wpAny_newObj_type ⟨_, hk, e1.trans (Ext.of_keep e1.ok fun b o e => Heap.get?_push_of_some _ e), new_list e1.ok.tab (o.ext e1).2.2.2.2 is⟩ ?_
  show vs.toArray.size ≤ sizeLine
  rw [List.size_toArray, is.length]; exact hz

/-! operators -/
theorem Ev_un {op : UnaryOp} {e : Expr} {pos : Pos} (h : EvK G sc n vals μ e fun a => StK G n μ [a] (b1 (unaryOp op)) K) : EvK G sc n vals μ (.UnaryOp op e pos) K := EvK.of fun A env W s o =>
  UnaryOp_ (h.use o fun v s₁ d hd e1 i1 => wpAny_mono (hd A W s₁ [v] (o.ext e1).2.1 (o.ext e1).2.2.1 (o.ext e1).2.2.2.2 (.cons i1 .nil)) (fun v s₂ ⟨d, a, b, c⟩ => ⟨d, a, e1.trans b, c⟩) fun _ _ y => y)

/-- truth of a value -/
noncomputable def truthD (μ : List (List D)) : D → Option Bool
  | .none => some false
  | .bool b => some b
  | .int i => some (i != 0)
  | .str x => some (!x.isEmpty)
  | .lst ds => some (!ds.isEmpty)
  | .mt i => (μ[i]?).map fun ds => !ds.isEmpty
  | _ => Option.none
end
section
open PySem PySem.W PyProof.Rows
set_option maxRecDepth 100000
set_option linter.unusedVariables false
set_option linter.unusedSimpArgs false
open PySem.Calls
variable {G : GX} {sc : Scope} {n : Nat} {vals : List (Option D)} {μ : List (List D)} {K : D → Prop} {KB : Bool → Prop}

theorem EvT.use {A : Around} {env : Env} {W : Wh} {s : Shared} {e : Expr} {Q : Bool → Shared → Prop} (h : EvT G sc n vals μ e KB) (o : Ok5 G sc n vals μ A env W s)
    (hQ : ∀ b s', KB b → Ext G s s' → Q b s') : wpAny (model G.prog G.w) A (isTrue e env (eval e env)) Q No s :=
  wpAny_mono (h A env W s o.1 o.2.1 o.2.2.1 o.2.2.2.1 o.2.2.2.2) (fun b s' ⟨a, c⟩ => hQ b s' a c) fun _ _ y => y
theorem EvT.of {e : Expr} (h : ∀ A env W s, Ok5 G sc n vals μ A env W s → wpAny (model G.prog G.w) A (isTrue e env (eval e env)) (fun b s' => KB b ∧ Ext G s s') No s) : EvT G sc n vals μ e KB :=
  fun A env W s a b c d f => h A env W s ⟨a, b, c, d, f⟩
theorem StK.use {A : Around} {W : Wh} {s : Shared} {ds : List D} {f : List Value → Sem Value} {vs : List Value} {Q : Value → Shared → Prop} (h : StK G n μ ds f K) (hr : Room n A) (ok : OkS G s) (hm : MutOk W μ s.heap) (hi : IsL W s.heap vs ds)
    (hQ : ∀ v s' d, K d → Ext G s s' → Is W s'.heap v d → Q v s') : wpAny (model G.prog G.w) A (f vs) Q No s :=
  wpAny_mono (h A W s vs hr ok hm hi) (fun v s' ⟨d, a, b, c⟩ => hQ v s' d a b c) fun _ _ y => y

theorem truthy_D {A : Around} {W : Wh} {s : Shared} {v : Value} {d : D} {b : Bool} {Q : Bool → Shared → Prop} (ok : OkS G s) (hm : MutOk W μ s.heap) (i : Is W s.heap v d) (hb : truthD μ d = some b)
    (hz : ∀ x, d = .str x → x.length < 2 ^ 62) (hz' : ∀ ds, d.items μ = some ds → ds.length < 2 ^ 62) (hQ : ∀ s', Ext G s s' → Q b s') : wpAny (model G.prog G.w) A (truthy v) Q No s := by
  cases i with
  | none => cases hb; exact truthy_none (hQ _ (.refl ok))
  | bool b' => cases hb; exact wpAny_truthy_bool (hQ _ (.refl ok))
  | int a t => cases hb; exact truthy_int (hQ _ (.refl ok))
  | str x t =>
    cases hb
    refine P.truthy_str (by rw [S_len]; have := hz x rfl; lia) ?_
    have e : (((S x).length : Int) != 0) = !x.isEmpty := by
      rw [S_len]; cases x with
      | nil => rfl
      | cons c r => rw [show (!(c :: r).isEmpty) = true from rfl]; exact bne_iff_ne.mpr (by rw [List.length_cons]; lia)
    rw [e]
    exact hQ _ (.toks ok _)
  | tup _ _ => cases hb
  | lst hn hl hs =>
    cases hb
    rename_i vs ds
    have hz2 := hz' ds rfl
    refine wpAny_truthy_list (plain_isList hl) (by rw [List.size_toArray, hs.length]; lia) ?_
    have e : (!vs.toArray.isEmpty) = !ds.isEmpty := by
      cases hs with
      | nil => rfl
      | cons => simp
    rw [e]
    exact hQ _ (.toks ok _)
  | mt hw =>
    rename_i a i
    replace hb : (μ[i]?).map (fun ds => !ds.isEmpty) = some b := hb
    cases hμ : μ[i]? with
    | none => rw [hμ] at hb; cases hb
    | some ds =>
      rw [hμ] at hb
      cases hb
      obtain ⟨vs, hl, hs⟩ := hm.2.2.2 _ _ _ hw hμ
      have hz2 := hz' ds hμ
      refine wpAny_truthy_list (plain_isList hl) (by rw [List.size_toArray, hs.length]; lia) ?_
      have e : (!vs.toArray.isEmpty) = !ds.isEmpty := by
        cases hs with
        | nil => rfl
        | cons => simp
      show Q (!vs.toArray.isEmpty) _
      rw [e]
      exact hQ _ (.toks ok _)
  | raw v => cases hb
  | ws _ => cases hb
  | rng _ => cases hb
  | bm _ _ => cases hb

/-- sizes that a truth test wants -/
noncomputable def fitD (μ : List (List D)) : D → Prop
  | .str x => x.length < 2 ^ 62
  | .lst ds => ds.length < 2 ^ 62
  | .mt i => ∀ ds, μ[i]? = some ds → ds.length < 2 ^ 62
  | _ => True
theorem fitD.str {d : D} (h : fitD μ d) : ∀ x, d = .str x → x.length < 2 ^ 62 := fun x e => by subst e; exact h
theorem fitD.items {d : D} (h : fitD μ d) : ∀ ds, d.items μ = some ds → ds.length < 2 ^ 62 := fun ds e => by
  cases d <;> first | (cases e; done) | (cases e; exact h) | exact h ds e

theorem T_plain {e : Expr} (h : EvK G sc n vals μ e fun d => ∃ b, truthD μ d = some b ∧ fitD μ d ∧ KB b) (he : ∀ env whole, isTrue e env whole = (do let v ← whole; standAt e.pos; holding [v] (truthy v))) : EvT G sc n vals μ e KB :=
  EvT.of fun A env W s o => isTrue_plain (h.use o fun v s₁ d ⟨b, hb, hf, hk⟩ e1 i1 => truthy_D e1.ok (o.ext e1).2.2.2.2 i1 hb hf.str hf.items fun s' e2 => ⟨hk, e1.trans e2⟩) (he env _)
theorem T_not {e : Expr} {pos : Pos} (h : EvT G sc n vals μ e fun b => KB (!b)) : EvT G sc n vals μ (.UnaryOp .Not e pos) KB :=
  EvT.of fun A env W s o => isTrue_not (h.use o fun b s' hb e1 => ⟨hb, e1⟩)
theorem T_and_nil {pos : Pos} (h : KB true) : EvT G sc n vals μ (.BoolOp .And [] pos) KB := EvT.of fun A env W s o => isTrue_and_nil ⟨h, .refl o.2.2.1⟩
theorem T_or_nil {pos : Pos} (h : KB false) : EvT G sc n vals μ (.BoolOp .Or [] pos) KB := EvT.of fun A env W s o => isTrue_or_nil ⟨h, .refl o.2.2.1⟩
theorem T_and {x : Expr} {r : List Expr} {pos : Pos} (h : EvT G sc n vals μ x fun b => (b = true → EvT G sc n vals μ (.BoolOp .And r pos) KB) ∧ (b = false → KB false)) : EvT G sc n vals μ (.BoolOp .And (x :: r) pos) KB :=
  EvT.of fun A env W s o => isTrue_and (h.use o fun b s₁ hb e1 => by
    cases b with
    | true => simp only [if_true]; exact EvT.use (hb.1 rfl) (o.ext e1) fun c s₂ hc e2 => ⟨hc, e1.trans e2⟩
    | false => simp only [Bool.false_eq_true, if_false]; exact ⟨hb.2 rfl, e1⟩)
theorem T_or {x : Expr} {r : List Expr} {pos : Pos} (h : EvT G sc n vals μ x fun b => (b = true → KB true) ∧ (b = false → EvT G sc n vals μ (.BoolOp .Or r pos) KB)) : EvT G sc n vals μ (.BoolOp .Or (x :: r) pos) KB :=
  EvT.of fun A env W s o => isTrue_or (h.use o fun b s₁ hb e1 => by
    cases b with
    | true => simp only [if_true]; exact ⟨hb.1 rfl, e1⟩
    | false => simp only [Bool.false_eq_true, if_false]; exact EvT.use (hb.2 rfl) (o.ext e1) fun c s₂ hc e2 => ⟨hc, e1.trans e2⟩)
theorem T_cmp {op : CmpOp} {l r : Expr} {pos : Pos} (h : EvK G sc n vals μ l fun a => EvK G sc n vals μ r fun b => StK G n μ [a, b] (b2 (compareOp op)) fun d => ∃ c, d = .bool c ∧ KB c)
    (hm : behindInMarks op r = false) : EvT G sc n vals μ (.Compare l [op] [r] pos) KB := EvT.of fun A env W s o =>
  wpAny_isTrue_Compare1 (h.use o fun a s₁ da ha e1 i1 => EvK.use ha (o.ext e1) fun b s₂ db hb e2 i2 => by
    have o2 := (o.ext e1).ext e2
    exact StK.use (f := b2 (compareOp op)) (vs := [a, b]) hb o2.2.1 o2.2.2.1 o2.2.2.2.2 (.cons (i1.ext (o.ext e1).2.2.1.tab e2.keep) (.cons i2 .nil)) fun v s₃ d ⟨c, hd, hk⟩ e3 i3 => by
      subst hd
      obtain ⟨_, rfl⟩ := i3.inv
      exact wpAny_truthy_bool ⟨hk, (e1.trans e2).trans e3⟩) hm
theorem testChain_last {M : Model} {A : Around} {E : Value → Shared → Prop} {s : Shared} {pos : Pos} {a : Value} {op : CmpOp} {r : Sem Value} {Q : Bool → Shared → Prop}
    (h : wpAny M A r (fun b s₁ => wpAny M A (compareOp op a b) (fun c s₂ => wpAny M A (truthy c) Q E s₂) E s₁) E s) : wpAny M A (testChain pos a [op] [r]) Q E s := by
  show wpAny M A (do
    let rv ← holding [a] r
    standAt pos
    let c ← operate [a, rv] (compareOp op a rv)
    holding [c] (truthy c)) Q E s
  refine wpAny_bind (wpAny_holding (wpAny_mono h (fun b s₁ h₁ => wpAny_bind (wpAny_standAt (wpAny_bind (wpAny_operate' (wpAny_mono h₁ (fun c s₂ h₂ => wpAny_holding h₂) fun _ _ x => x))))) fun _ _ x => x))
theorem testChain_link {M : Model} {A : Around} {E : Value → Shared → Prop} {s : Shared} {pos : Pos} {a : Value} {op op' : CmpOp} {ops : List CmpOp} {r r' : Sem Value} {rs : List (Sem Value)} {Q : Bool → Shared → Prop}
    (h : wpAny M A r (fun b s₁ => wpAny M A (compareOp op a b) (fun c s₂ => wpAny M A (truthy c)
      (fun t s₃ => if t then wpAny M A (testChain pos b (op' :: ops) (r' :: rs)) Q E s₃ else Q false s₃) E s₂) E s₁) E s) :
    wpAny M A (testChain pos a (op :: op' :: ops) (r :: r' :: rs)) Q E s := by
  show wpAny M A (do
    let rv ← holding [a] r
    standAt pos
    let c ← holding [a, rv] (compareOp op a rv)
    release [a, rv] [c]
    if ← holding [c, rv] (truthy c) then testChain pos rv (op' :: ops) (r' :: rs) else pure false) Q E s
  refine wpAny_bind (wpAny_holding (wpAny_mono h (fun b s₁ h₁ => wpAny_bind (wpAny_standAt (wpAny_bind (wpAny_holding (wpAny_mono h₁ (fun c s₂ h₂ =>
    wpAny_bind (wpAny_release' (wpAny_bind (wpAny_holding (wpAny_mono h₂ (fun t s₃ h₃ => ?_) fun _ _ x => x))))) fun _ _ x => x))))) fun _ _ x => x))
  cases t with
  | false => exact wpAny_pure h₃
  | true => exact h₃
theorem T_chain {op op' : CmpOp} {l r r' : Expr} {pos : Pos}
    (h : EvK G sc n vals μ l fun a => EvK G sc n vals μ r fun b => StK G n μ [a, b] (b2 (compareOp op)) fun d => ∃ c, d = .bool c ∧ (c = false → KB false) ∧
      (c = true → EvK G sc n vals μ r' fun b' => StK G n μ [b, b'] (b2 (compareOp op')) fun d' => ∃ c', d' = .bool c' ∧ KB c'))
    (hm : lastMarks [op, op'] [r, r'] = false) : EvT G sc n vals μ (.Compare l [op, op'] [r, r'] pos) KB := EvT.of fun A env W s o =>
  isTrue_chain (h.use o fun a s₁ da ha e1 i1 => testChain_link (EvK.use ha (o.ext e1) fun b s₂ db hb e2 i2 => by
    have o2 := (o.ext e1).ext e2
    refine StK.use (f := b2 (compareOp op)) (vs := [a, b]) hb o2.2.1 o2.2.2.1 o2.2.2.2.2 (.cons (i1.ext (o.ext e1).2.2.1.tab e2.keep) (.cons i2 .nil)) fun v s₃ d ⟨c, hd, hk0, hk1⟩ e3 i3 => ?_
    subst hd
    obtain ⟨_, rfl⟩ := i3.inv
    refine wpAny_truthy_bool ?_
    cases c with
    | false => simp only [Bool.false_eq_true, if_false]; exact ⟨hk0 rfl, (e1.trans e2).trans e3⟩
    | true =>
      simp only [if_true]
      have o3 := o2.ext e3
      refine testChain_last (EvK.use (hk1 rfl) o3 fun b' s₄ db' hb' e4 i4 => ?_)
      have o4 := o3.ext e4
      exact StK.use (f := b2 (compareOp op')) (vs := [b, b']) hb' o4.2.1 o4.2.2.1 o4.2.2.2.2 (.cons ((i2.ext o2.2.2.1.tab e3.keep).ext o3.2.2.1.tab e4.keep) (.cons i4 .nil)) fun v s₅ d ⟨c', hd', hk⟩ e5 i5 => by
        subst hd'
        obtain ⟨_, rfl⟩ := i5.inv
        exact wpAny_truthy_bool ⟨hk, (((e1.trans e2).trans e3).trans e4).trans e5⟩)) hm

theorem Ev_ifexp {t a b : Expr} {pos : Pos} (h : EvT G sc n vals μ t fun c => (c = true → EvK G sc n vals μ a K) ∧ (c = false → EvK G sc n vals μ b K)) : EvK G sc n vals μ (.IfExp t a b pos) K := EvK.of fun A env W s o =>
  IfExp_ (h.use o fun c s₁ hc e1 => by
    cases c with
    | true => simp only [if_true]; exact EvK.use (hc.1 rfl) (o.ext e1) fun v s₂ d hd e2 i2 => ⟨d, hd, e1.trans e2, i2⟩
    | false => simp only [Bool.false_eq_true, if_false]; exact EvK.use (hc.2 rfl) (o.ext e1) fun v s₂ d hd e2 i2 => ⟨d, hd, e1.trans e2, i2⟩)
theorem Ev_and {x y : Expr} {pos : Pos} (h : EvK G sc n vals μ x fun d => ∃ b, truthD μ d = some b ∧ fitD μ d ∧ (b = true → EvK G sc n vals μ y K) ∧ (b = false → K d)) : EvK G sc n vals μ (.BoolOp .And [x, y] pos) K := EvK.of fun A env W s o =>
  wpAny_And2 (h.use o fun v s₁ d ⟨b, hb, hf, h1, h0⟩ e1 i1 => truthy_D e1.ok (o.ext e1).2.2.2.2 i1 hb hf.str hf.items fun s' e2 => by
    cases b with
    | true => simp only [if_true]; exact EvK.use (h1 rfl) ((o.ext e1).ext e2) fun v s₂ d hd e3 i2 => ⟨d, hd, (e1.trans e2).trans e3, i2⟩
    | false => simp only [Bool.false_eq_true, if_false]; exact ⟨d, h0 rfl, e1.trans e2, i1.ext (o.ext e1).2.2.1.tab e2.keep⟩)
/-- «not x» as a value -/
theorem Ev_not {e : Expr} {pos : Pos} (h : EvK G sc n vals μ e fun d => ∃ b, truthD μ d = some b ∧ fitD μ d ∧ K (.bool (!b))) : EvK G sc n vals μ (.UnaryOp .Not e pos) K := EvK.of fun A env W s o =>
  UnaryOp_ (h.use o fun v s₁ d ⟨b, hb, hf, hk⟩ e1 i1 => not_of (truthy_D e1.ok (o.ext e1).2.2.2.2 i1 hb hf.str hf.items fun s' e2 => ⟨_, hk, e1.trans e2, .bool _⟩))

/-! names of the module and of the builtins -/
theorem Ev_global (k : Nat) {x : Str} {pos : Pos} {v : Value} (hn : sc.names[k]? = some (x, .globalImplicit)) (hv : G.mg x = some v) (h : K (.raw v))
    (hd : (x == ("__debug__" : Str)) = false) : EvK G sc n vals μ (.Name x pos) K := fun A env W s he hr ok hvs hm =>
  Name_function_global (by rw [he.hsc]; exact he.kind) (kindOf_of he hn) (loadGlobal_global (env := env) (by rw [he.glob]; exact G.g.keeps ok.base) hv ⟨_, h, .refl ok, .raw _⟩) hd
theorem Ev_builtin (k : Nat) {x : Str} {pos : Pos} {v : Value} (hn : sc.names[k]? = some (x, .globalImplicit)) (hf : G.mg x = none) (hv : bootBuiltins x = some v) (h : K (.raw v))
    (hd : (x == ("__debug__" : Str)) = false) (hne : x ≠ "__name__") : EvK G sc n vals μ (.Name x pos) K := fun A env W s he hr ok hvs hm =>
  Name_function_global (by rw [he.hsc]; exact he.kind) (kindOf_of he hn) (loadGlobal_builtin (env := env) (by rw [he.glob]; exact G.g.keeps ok.base) hf (by rw [he.blt]; exact G.b.keeps ok.base) ((G.builtins x hne).trans hv) ⟨_, h, .refl ok, .raw _⟩) hd

/-! calls -/
theorem evalArgs_of {M : Model} {A : Around} {E : Value → Shared → Prop} {s : Shared} {f : Value} {ts : List (Sem Value)} {Q : Args → Shared → Prop}
    (h : wpAny M A (spliced (ts.map fun t => (false, t))) (fun vs s' => Q ⟨vs, []⟩ s') E s) : wpAny M A (evalArgs f true (ts.map fun t => (false, t)) []) Q E s := by
  cases ts with
  | nil =>
    unfold evalArgs
    show wpAny M A (spliced [] >>= _) Q E s
    refine wpAny_bind (wpAny_mono h (fun vs s' h' => ?_) fun _ _ x => x)
    refine wpAny_holding ?_
    exact wpAny_bind (wpAny_pure (wpAny_bind (wpAny_pure (wpAny_pure h'))))
  | cons t r => exact evalArgs_plain h
end
section
open PySem PySem.W PyProof.Rows
set_option maxRecDepth 100000
set_option linter.unusedVariables false
set_option linter.unusedSimpArgs false
open PySem.Calls
variable {G : GX} {sc : Scope} {n : Nat} {vals : List (Option D)} {μ : List (List D)}

mutual
noncomputable def D.pure : D → Bool
  | .mt _ => false
  | .bm _ => false
  | .tup ds => pureL ds
  | .lst ds => pureL ds
  | _ => true
noncomputable def pureL : List D → Bool
  | [] => true
  | d :: r => D.pure d && pureL r
end
theorem pureL_map {α : Type} (f : α → D) (h : ∀ a, (f a).pure = true) : ∀ l : List α, pureL (l.map f) = true
  | [] => rfl
  | a :: l => by rw [List.map_cons]; unfold pureL; rw [h a, pureL_map f h l]; rfl

theorem pure_two {d : D} {r : List D} (p : pureL (d :: r) = true) : d.pure = true ∧ pureL r = true := by unfold pureL at p; exact Bool.and_eq_true_iff.mp p
theorem Is.freeze {W : Wh} {h : Heap} {v : Value} {d : D} (i : Is W h v d) : d.pure = true → Is ⟨W.has, []⟩ h v d :=
  Is.rec (motive_1 := fun v d _ => d.pure = true → Is ⟨W.has, []⟩ h v d) (motive_2 := fun vs ds _ => pureL ds = true → IsL ⟨W.has, []⟩ h vs ds) (fun _ => .none) (fun b _ => .bool b) (fun i t _ => .int i t) (fun x t _ => .str x t)
    (fun a _ b p => .tup a (b (by unfold D.pure at p; exact p))) (fun n a _ b p => .lst (fun q => q.elim n fun m => nomatch m) a (b (by unfold D.pure at p; exact p))) (fun _ p => absurd p Bool.false_ne_true) (fun v _ => .raw v) (fun a _ => .ws a) (fun a _ => .rng a) (fun _ _ p => absurd p Bool.false_ne_true)
    (fun _ => .nil) (fun _ _ a b p => .cons (a (pure_two p).1) (b (pure_two p).2)) i
theorem IsL.freeze {W : Wh} {h : Heap} {ds : List D} {vs : List Value} (i : IsL W h vs ds) : pureL ds = true → IsL ⟨W.has, []⟩ h vs ds :=
  i.ind (P := fun vs ds => pureL ds = true → IsL ⟨W.has, []⟩ h vs ds) (fun _ => .nil) fun _ _ _ _ a _ r p => .cons (Is.freeze a (pure_two p).1) (r (pure_two p).2)
theorem Is.thaw {W : Wh} {h : Heap} {v : Value} {d : D} (i : Is ⟨W.has, []⟩ h v d) : Is W h v d :=
  Is.rec (W := ⟨W.has, []⟩) (h := h) (motive_1 := fun v d _ => Is W h v d) (motive_2 := fun vs ds _ => IsL W h vs ds) .none .bool .int .str (fun a _ b => .tup a b) (fun n a _ b => .lst (fun q => n (.inl q)) a b) (fun a => no_some a) .raw (fun a => .ws a) (fun a => .rng a) (fun a _ => no_some a) .nil (fun _ _ a b => .cons a b) i

/-! what must not change, and what may -/
noncomputable abbrev Kp := Addr → Option Obj
noncomputable def KExt (G : GX) (k : Kp) (h : Heap) : Prop := ∀ b o, (∀ q ∈ G.T, b ≠ q.2) → k b = some o → h.get? b = some o
noncomputable def AvIn (k : Kp) (av : Addr → Prop) : Prop := ∀ a, av a → ∃ o, k a = some o
noncomputable def Own (k : Kp) (W : Wh) : Prop := ∀ a ∈ W.w, k a = none
theorem Own.not_av {k : Kp} {W : Wh} (ha : AvIn k W.av) (ho : Own k W) {a : Addr} (h : a ∈ W.w) : ¬ W.av a := fun q => by
  obtain ⟨o, e⟩ := ha a q
  rw [ho a h] at e; cases e

noncomputable def iterTypes : List String := ["list_iterator", "tuple_iterator", "range_iterator", "longrange_iterator", "str_ascii_iterator", "str_iterator", "generator"]
structure Solid (W : Wh) (h : Heap) (b : Addr) (o : Obj) : Prop where
  at' : h.get? b = some o
  tab : ∀ ps, o ≠ tabObj ps
  own : W.has b → o.cls ≠ .type "list"
  cell : ∀ v, o.data ≠ .cell v
  dict : ∀ es ep, o.data = .dict es ep → ∃ x, nsFind es "norm" = some x
  iter : (∃ es ep, o.data = .dict es ep) ∨ ∀ c, o.cls = .type c → c ∉ iterTypes

theorem ty_ne {a b : String} (h : a ≠ b) {c : Value} (e : c = .type a) : c ≠ .type b := fun e' => h (by rw [e] at e'; exact Value.type.inj e')
theorem solid_tup {W : Wh} {h : Heap} {a : Addr} {vs : Array Value} (x : IsTup h a vs) : ∃ o, Solid W h a o ∧ o.cls = .type "tuple" ∧ ∃ n, o.data = .seq vs n := by
  obtain ⟨o, ho, hn, hc, n, hd⟩ := tup_notTab x
  exact ⟨o, ⟨ho, hn, fun _ => ty_ne (by decide) hc, (fun v e => by rw [hd] at e; cases e), (fun _ _ e => by rw [hd] at e; cases e), .inr (fun c e => by rw [hc] at e; cases e; decide)⟩, hc, n, hd⟩
theorem solid_list {W : Wh} {h : Heap} {a : Addr} {vs : Array Value} (hw : ¬ W.has a) (x : h.IsList a vs) : ∃ o, Solid W h a o ∧ o.cls = .type "list" ∧ ∃ n, o.data = .seq vs n := by
  obtain ⟨o, ho, hc, n, hd⟩ := x
  exact ⟨o, ⟨ho, (fun ps e => by rw [e] at hc; cases hc), (fun m => absurd m hw), (fun v e => by rw [hd] at e; cases e), (fun _ _ e => by rw [hd] at e; cases e), .inr (fun c e => by rw [hc] at e; cases e; decide)⟩, hc, n, hd⟩
theorem solid_ns1 {W : Wh} {h : Heap} {a : Addr} {m : Str → Option Value} {v : Value} (x : h.Ns1 a m) (hv : m "norm" = some v) (hW : ∀ b, W.has b → ∃ vs, h.PlainList b vs) : ∃ o, Solid W h a o ∧ ∃ es ep, o.data = .dict es ep ∧ StrKeys es ∧ UniqKeys es ∧ ∀ name, nsFind es name = m name := by
  obtain ⟨o, es, ep, ho, hd, r1, r2, r3⟩ := x
  refine ⟨o, ⟨ho, (fun ps e => by rw [e] at hd; cases hd), (fun m' => ?_), (fun v e => by rw [hd] at e; cases e), (fun es' ep' e => ?_), .inl ⟨es, ep, hd⟩⟩, es, ep, hd, r1, r2, r3⟩
  · obtain ⟨vs, n, e⟩ := hW a m'
    rw [ho] at e; cases e; cases hd
  · rw [hd] at e; cases e; exact ⟨v, (r3 _).trans hv⟩
noncomputable def WPl (W : Wh) (h : Heap) : Prop := ∀ b, W.has b → ∃ vs, h.PlainList b vs
theorem MutOk.pl {W : Wh} {μ : List (List D)} {h : Heap} (m : MutOk W μ h) : WPl W h := fun b hb => by
  rcases hb with hb | hb
  · exact m.2.2.1 b hb
  obtain ⟨i, hi, e⟩ := List.mem_iff_getElem.mp hb
  have hj : i < μ.length := m.1 ▸ hi
  obtain ⟨vs, x, _⟩ := m.2.2.2 i b μ[i] (by rw [List.getElem?_eq_getElem hi, e]) (List.getElem?_eq_getElem hj)
  exact ⟨_, x⟩
theorem Is.move {W W' : Wh} {h h' : Heap} (P : WPl W h) (H : ∀ b o, Solid W h b o → h'.get? b = some o) (HL : ∀ b o, Solid W h b o → ¬ W.has b → ¬ W'.has b) {v : Value} {d : D} (i : Is W h v d) :
    (d.pure = true ∨ ∀ (i : Nat) a, W.w[i]? = some a → W'.w[i]? = some a) → Is W' h' v d :=
  Is.rec (motive_1 := fun v d _ => (d.pure = true ∨ ∀ (i : Nat) a, W.w[i]? = some a → W'.w[i]? = some a) → Is W' h' v d) (motive_2 := fun vs ds _ => (pureL ds = true ∨ ∀ (i : Nat) a, W.w[i]? = some a → W'.w[i]? = some a) → IsL W' h' vs ds)
    (fun _ => .none) (fun b _ => .bool b) (fun i t _ => .int i t) (fun x t _ => .str x t)
    (fun a _ b p => by
      obtain ⟨o, s, hc, n, hd⟩ := solid_tup (W := W) a
      exact .tup ⟨o, H _ o s, hc, n, hd⟩ (b (p.imp (fun p => by unfold D.pure at p; exact p) id)))
    (fun x a _ b p => by
      obtain ⟨n, a⟩ := a
      have s : Solid W h _ _ := ⟨a, (fun ps e => by cases e), (fun m => absurd m x), (fun v e => by cases e), (fun _ _ e => by cases e), .inr (fun c e => by cases e; decide)⟩
      exact .lst (HL _ _ s x) ⟨n, H _ _ s⟩ (b (p.imp (fun p => by unfold D.pure at p; exact p) id)))
    (fun a p => .mt ((p.resolve_left Bool.false_ne_true) _ _ a))
    (fun v _ => .raw v)
    (fun a _ => by
      obtain ⟨dx, sl, mA, tn, tc, t1, t2, cs, h1, h2, h3, h4, h4', h5, h6, h7⟩ := a
      have s1 : Solid W h _ _ := ⟨h1, (fun ps e => by cases e), (fun _ e => by cases e), (fun v e => by cases e), (fun _ _ e => by cases e), .inr fun c e => by cases e⟩
      obtain ⟨o, s2, es, ep, hd, r⟩ := solid_ns1 (W := W) h3 h4 P
      obtain ⟨o3, s3, hc3, n3, hd3⟩ := solid_tup (W := W) h5
      obtain ⟨o4, s4, hc4, n4, hd4⟩ := solid_tup (W := W) h6
      exact .ws ⟨dx, sl, mA, tn, tc, t1, t2, cs, H _ _ s1, h2, ⟨o, es, ep, H _ _ s2, hd, r⟩, h4, h4', ⟨o3, H _ _ s3, hc3, n3, hd3⟩, ⟨o4, H _ _ s4, hc4, n4, hd4⟩, h7⟩)
    (fun a _ => .rng (H _ _ ⟨a, (fun ps e => by cases e), (fun _ => ty_ne (by decide) rfl), (fun v e => by cases e), (fun _ _ e => by cases e), .inr fun c e => by cases e; decide⟩))
    (fun a b p => .bm ((p.resolve_left Bool.false_ne_true) _ _ a) (H _ _ ⟨b, (fun ps e => by cases e), (fun _ => ty_ne (by decide) rfl), (fun v e => by cases e), (fun _ _ e => by cases e), .inr fun c e => by cases e; decide⟩))
    (fun _ => .nil) (fun _ _ a b p => .cons (a (p.imp (fun p => (pure_two p).1) id)) (b (p.imp (fun p => (pure_two p).2) id))) i
theorem IsL.move {W W' : Wh} {h h' : Heap} (P : WPl W h) (H : ∀ b o, Solid W h b o → h'.get? b = some o) (HL : ∀ b o, Solid W h b o → ¬ W.has b → ¬ W'.has b)
    {ds : List D} {vs : List Value} (i : IsL W h vs ds) : (pureL ds = true ∨ ∀ (i : Nat) a, W.w[i]? = some a → W'.w[i]? = some a) → IsL W' h' vs ds :=
  i.ind (P := fun vs ds => (pureL ds = true ∨ ∀ (i : Nat) a, W.w[i]? = some a → W'.w[i]? = some a) → IsL W' h' vs ds) (fun _ => .nil) fun _ _ _ _ a _ r p =>
    .cons (Is.move P H HL a (p.imp (fun p => (pure_two p).1) id)) (r (p.imp (fun p => (pure_two p).2) id))

/-- data with its mutable lists read off -/
inductive Rs (μ : List (List D)) : D → D → Prop
  | pure {d : D} : d.pure = true → Rs μ d d
  | mt {i : Nat} {ds : List D} : μ[i]? = some ds → pureL ds = true → Rs μ (.mt i) (.lst ds)
  | tup2 {a b a' b' : D} : Rs μ a a' → Rs μ b b' → Rs μ (.tup [a, b]) (.tup [a', b'])
  | tup3 {a b c a' b' c' : D} : Rs μ a a' → Rs μ b b' → Rs μ c c' → Rs μ (.tup [a, b, c]) (.tup [a', b', c'])
  | mtL {i : Nat} {ds ds' : List D} : μ[i]? = some ds → ds.length = ds'.length → (∀ (k : Nat) d d', ds[k]? = some d → ds'[k]? = some d' → Rs μ d d') → Rs μ (.mt i) (.lst ds')
theorem IsL.of_get {W : Wh} {h : Heap} {vs : List Value} : ∀ {ds : List D}, vs.length = ds.length → (∀ (k : Nat) v d, vs[k]? = some v → ds[k]? = some d → Is W h v d) → IsL W h vs ds := by
  induction vs with
  | nil =>
    intro ds e g
    cases ds with
    | nil => exact .nil
    | cons d ds => cases e
  | cons v vs ih =>
    intro ds e g
    cases ds with
    | nil => cases e
    | cons d ds => exact .cons (g 0 v d rfl rfl) (ih (Nat.succ.inj e) fun k v d a b => g (k + 1) v d a b)
theorem Is.avs {W : Wh} {h : Heap} (P : WPl W h) {v : Value} {d : D} (i : Is W h v d) (p : d.pure = true) : Is ⟨W.av, []⟩ h v d :=
  i.move (W' := ⟨W.av, []⟩) P (fun _ _ s => s.at') (fun b o s n q => n (.inl (q.elim id fun m => absurd m List.not_mem_nil))) (.inl p)
theorem IsL.avs {W : Wh} {h : Heap} (P : WPl W h) {v : List Value} {d : List D} (i : IsL W h v d) (p : pureL d = true) : IsL ⟨W.av, []⟩ h v d :=
  i.move (W' := ⟨W.av, []⟩) P (fun _ _ s => s.at') (fun b o s n q => n (.inl (q.elim id fun m => absurd m List.not_mem_nil))) (.inl p)
theorem Rs.is {W : Wh} {h : Heap} {k : Kp} (ha : AvIn k W.av) (ho : Own k W) (hm : MutOk W μ h) {d d' : D} (r : Rs μ d d') : ∀ {v : Value}, Is W h v d → Is ⟨W.av, []⟩ h v d' := by
  induction r with
  | pure p => exact fun i => i.avs hm.pl p
  | mt e p =>
    intro v i
    obtain ⟨_, rfl, hw⟩ := i.inv
    obtain ⟨vs, hl, hs⟩ := hm.2.2.2 _ _ _ hw e
    exact .lst (fun q => q.elim (ho.not_av ha (List.mem_of_getElem? hw)) fun m => nomatch m) hl (hs.avs hm.pl p)
  | tup2 _ _ ih1 ih2 =>
    intro v i
    obtain ⟨_, _, rfl, ht, hs⟩ := i.inv
    obtain ⟨_, _, rfl, a, b⟩ := hs.two
    exact .tup ht (.cons (ih1 a) (.cons (ih2 b) .nil))
  | tup3 _ _ _ ih1 ih2 ih3 =>
    intro v i
    obtain ⟨_, _, rfl, ht, hs⟩ := i.inv
    obtain ⟨_, _, _, rfl, a, b, c⟩ := hs.three
    exact .tup ht (.cons (ih1 a) (.cons (ih2 b) (.cons (ih3 c) .nil)))
  | mtL e hl _ ih =>
    intro v i
    obtain ⟨_, rfl, hw⟩ := i.inv
    obtain ⟨vs, hp, hs⟩ := hm.2.2.2 _ _ _ hw e
    refine .lst (fun q => q.elim (ho.not_av ha (List.mem_of_getElem? hw)) fun m => nomatch m) hp (IsL.of_get (by rw [hs.length, hl]) fun k v d' a b => ?_)
    have hk' : k < _ := hs.length ▸ (List.getElem?_eq_some_iff.mp a).1
    obtain ⟨v', hv', hi'⟩ := hs.get (List.getElem?_eq_getElem hk')
    obtain rfl := Option.some.inj (a.symm.trans hv')
    exact ih k _ d' (List.getElem?_eq_getElem hk') b hi'

inductive Out where
  | next (vals : List (Option D)) (μ : List (List D))
  | brk (vals : List (Option D)) (μ : List (List D))
  | cont (vals : List (Option D)) (μ : List (List D))
  | ret (d : D)

structure EnvOwn (G : GX) (sc : Scope) (k : Kp) (env : Env) (av : Addr → Prop) : Prop where
  loc : k env.locals = none
  cel : ∀ x c, env.cells.lookup x = some c → k c = none ∧ c ≠ env.locals
  apart : ∀ x y c, env.cells.lookup x = some c → env.cells.lookup y = some c → x = y
  has : ∀ (i : Nat) x, sc.names[i]? = some (x, .cell) → ∃ c, env.cells.lookup x = some c
  base : ∀ b o, G.g0.get? b = some o → k b = some o
  avin : AvIn k av
noncomputable def FrOk (env : Env) (h : Heap) : Prop := (∃ m, h.Ns env.locals m ∧ m "norm" = none) ∧ ∀ x c, env.cells.lookup x = some c → ∃ v, h.IsCell c v

/-- what stands in a block between two statements -/
structure Std (G : GX) (sc : Scope) (vals : List (Option D)) (μ : List (List D)) (env : Env) (k : Kp) (W : Wh) (s : Shared) : Prop where
  ok : OkS G s
  ext : KExt G k s.heap
  own : Own k W
  fr : FrOk env s.heap
  vars : Vars env sc vals W s.heap
  mts : MutOk W μ s.heap
inductive At (G : GX) (sc : Scope) (env : Env) (k : Kp) (av : Addr → Prop) (s : Shared) (os : OsState) (vals : List (Option D)) (μ : List (List D)) : Prop
  | mk (W : Wh) (hw : W.av = av) (ho : s.os = os) (st : Std G sc vals μ env k W s)
noncomputable def Post (G : GX) (sc : Scope) (env : Env) (k : Kp) (av : Addr → Prop) (os : OsState) (K : Out → Prop) : Flow → Shared → Prop
  | .next, s' => ∃ vals μ, K (.next vals μ) ∧ At G sc env k av s' os vals μ
  | .brk, s' => ∃ vals μ, K (.brk vals μ) ∧ At G sc env k av s' os vals μ
  | .cont, s' => ∃ vals μ, K (.cont vals μ) ∧ At G sc env k av s' os vals μ
  | .ret v, s' => ∃ d, K (.ret d) ∧ OkS G s' ∧ KExt G k s'.heap ∧ s'.os = os ∧ Is ⟨av, []⟩ s'.heap v d
structure Blk (G : GX) (sc : Scope) (n : Nat) (A : Around) (env : Env) (k : Kp) (av : Addr → Prop) : Prop where
  henv : EnvOk G sc env
  own : EnvOwn G sc k env av
  room : Room n A
/-- a statement, a block -/
noncomputable def ExS (G : GX) (sc : Scope) (n : Nat) (vals : List (Option D)) (μ : List (List D)) (st : Stmt) (K : Out → Prop) : Prop :=
  ∀ (A : Around) (env : Env) (k : Kp) (av : Addr → Prop) (s : Shared), Blk G sc n A env k av → At G sc env k av s s.os vals μ → wpAny (model G.prog G.w) A (exec st env) (Post G sc env k av s.os K) No s
noncomputable def ExK (G : GX) (sc : Scope) (n : Nat) (vals : List (Option D)) (μ : List (List D)) (sts : List Stmt) (K : Out → Prop) : Prop :=
  ∀ (A : Around) (env : Env) (k : Kp) (av : Addr → Prop) (s : Shared), Blk G sc n A env k av → At G sc env k av s s.os vals μ → wpAny (model G.prog G.w) A (execs sts env) (Post G sc env k av s.os K) No s

variable {K : Out → Prop}
theorem Post.mono {env : Env} {k : Kp} {av : Addr → Prop} {os : OsState} {K' : Out → Prop} (hK : ∀ o, K o → K' o) {f : Flow} {s : Shared} (p : Post G sc env k av os K f s) : Post G sc env k av os K' f s := by
  cases f with
  | next => obtain ⟨a, b, c, d⟩ := p; exact ⟨a, b, hK _ c, d⟩
  | brk => obtain ⟨a, b, c, d⟩ := p; exact ⟨a, b, hK _ c, d⟩
  | cont => obtain ⟨a, b, c, d⟩ := p; exact ⟨a, b, hK _ c, d⟩
  | ret v => obtain ⟨a, b, c⟩ := p; exact ⟨a, hK _ b, c⟩
theorem ExS.mono {st : Stmt} {K' : Out → Prop} (h : ExS G sc n vals μ st K) (hK : ∀ o, K o → K' o) : ExS G sc n vals μ st K' := fun A env k av s b a => wpAny_mono (h A env k av s b a) (fun _ _ p => p.mono hK) fun _ _ y => y
theorem At.os {env : Env} {k : Kp} {av : Addr → Prop} {s : Shared} {os : OsState} (a : At G sc env k av s os vals μ) : s.os = os := let ⟨_, _, h, _⟩ := a; h
theorem At.self {env : Env} {k : Kp} {av : Addr → Prop} {s : Shared} {os : OsState} (a : At G sc env k av s os vals μ) : At G sc env k av s s.os vals μ := let ⟨W, h1, _, h3⟩ := a; ⟨W, h1, rfl, h3⟩

theorem Ex_nil (h : K (.next vals μ)) : ExK G sc n vals μ [] K := fun A env k av s b a => wpAny_execs_nil ⟨_, _, h, a⟩
theorem Ex_cons {st : Stmt} {r : List Stmt} (h : ExS G sc n vals μ st fun o => match o with | .next vals' μ' => ExK G sc n vals' μ' r K | o => K o) : ExK G sc n vals μ (st :: r) K := fun A env k av s b a =>
  wpAny_execs_cons (wpAny_mono (h A env k av s b a) (fun f s' p => by
    cases f with
    | next =>
      obtain ⟨vals', μ', hk, a'⟩ := p
      have e := a'.os
      have := hk A env k av s' b a'.self
      rw [e] at this
      exact this
    | brk => exact p
    | cont => exact p
    | ret v => exact p) fun _ _ y => y)

theorem Std.ok5 {A : Around} {env : Env} {k : Kp} {av : Addr → Prop} {W : Wh} {s : Shared} (b : Blk G sc n A env k av) (x : Std G sc vals μ env k W s) : Ok5 G sc n vals μ A env W s := ⟨b.henv, b.room, x.ok, x.vars, x.mts⟩
theorem FrOk.ext {env : Env} {h h' : Heap} (t : TabOk G h) (x : HExt G h h') (f : FrOk env h) : FrOk env h' :=
  ⟨let ⟨m, a, e⟩ := f.1; ⟨m, ns_ext t x a, e⟩, fun y c e => let ⟨v, a⟩ := f.2 y c e; ⟨v, cell_ext t x a⟩⟩
theorem KExt.trans {k : Kp} {h h' : Heap} (x : KExt G k h) (y : HExt G h h') : KExt G k h' := fun b o n e => y b o n (x b o n e)
theorem Std.step {env : Env} {k : Kp} {W : Wh} {s s' : Shared} (x : Std G sc vals μ env k W s) (e : Ext G s s') : Std G sc vals μ env k W s' :=
  ⟨e.ok, x.ext.trans e.keep, x.own, x.fr.ext x.ok.tab e.keep, x.vars.ext x.ok.tab e.keep, x.mts.ext x.ok.tab e.keep⟩

theorem Ex_ret {e : Expr} {pos : Pos} (h : EvK G sc n vals μ e fun d => ∃ d', Rs μ d d' ∧ K (.ret d')) : ExS G sc n vals μ (.Return (some e) pos) K := fun A env k av s b ⟨W, hw, _, x⟩ =>
  wpAny_Return_some (h.use (x.ok5 b) fun v s' d ⟨d', hr, hk⟩ e1 i1 => by
    subst hw
    have x' := x.step e1
    exact ⟨d', hk, e1.ok, x'.ext, e1.os, hr.is b.own.avin x'.own x'.mts i1⟩)
theorem Ex_ret_none {pos : Pos} (h : K (.ret .none)) : ExS G sc n vals μ (.Return none pos) K := fun A env k av s b ⟨W, hw, _, x⟩ =>
  wpAny_Return_none ⟨_, h, x.ok, x.ext, rfl, .none⟩
theorem Ex_if {t : Expr} {a b : List Stmt} {pos : Pos} (h : EvT G sc n vals μ t fun c => (c = true → ExK G sc n vals μ a K) ∧ (c = false → ExK G sc n vals μ b K)) : ExS G sc n vals μ (.If t a b pos) K := fun A env k av s bl ⟨W, hw, _, x⟩ =>
  wpAny_If (h.use (x.ok5 bl) fun c s' hc e1 => by
    have a' : At G sc env k av s' s'.os vals μ := ⟨W, hw, rfl, x.step e1⟩
    have eo := e1.os
    cases c with
    | true => have := hc.1 rfl A env k av s' bl a'; rw [eo] at this; simp only [if_true]; exact this
    | false => have := hc.2 rfl A env k av s' bl a'; rw [eo] at this; simp only [Bool.false_eq_true, if_false]; exact this)
theorem Ex_pass {pos : Pos} (h : K (.next vals μ)) : ExS G sc n vals μ (.Pass pos) K := fun A env k av s b a => wpAny_Pass ⟨_, _, h, a⟩
theorem Ex_break {pos : Pos} (h : K (.brk vals μ)) : ExS G sc n vals μ (.Break pos) K := fun A env k av s b a => wpAny_Break ⟨_, _, h, a⟩
theorem Ex_assert {t : Expr} {m : Option Expr} {pos : Pos} (h : EvT G sc n vals μ t fun c => c = true ∧ K (.next vals μ)) : ExS G sc n vals μ (.Assert t m pos) K := fun A env k av s b ⟨W, hw, _, x⟩ =>
  wpAny_Assert_holds (h.use (x.ok5 b) fun c s' ⟨hc, hk⟩ e1 => ⟨hc, _, _, hk, W, hw, e1.os, x.step e1⟩)

/-! a step on one object that may change -/
structure Scr (env : Env) (W : Wh) (h : Heap) (L : Addr) : Prop where
  scr : ∀ o, ¬ Solid W h L o
  is : ∃ o, h.get? L = some o ∧ ∀ ps, o ≠ tabObj ps
theorem scr_locals {env : Env} {W : Wh} {h : Heap} (f : FrOk env h) : Scr env W h env.locals := by
  obtain ⟨m, ⟨o, es, ep, ho, hd, hk, hm⟩, hn⟩ := f.1
  refine ⟨fun o' s => ?_, o, ho, fun ps e => by rw [e] at hd; cases hd⟩
  have := s.at'
  rw [ho] at this; cases this
  obtain ⟨x, hx⟩ := s.dict _ _ hd
  rw [hm, hn] at hx; cases hx
theorem scr_cell {env : Env} {W : Wh} {h : Heap} {x : Str} {c : Addr} (f : FrOk env h) (hc : env.cells.lookup x = some c) : Scr env W h c := by
  obtain ⟨v, o, ho, hd⟩ := f.2 x c hc
  refine ⟨fun o' s => ?_, o, ho, fun ps e => by rw [e] at hd; cases hd⟩
  have := s.at'
  rw [ho] at this; cases this
  exact s.cell _ hd
theorem scr_own {env : Env} {W : Wh} {h : Heap} {a : Addr} (P : WPl W h) (ha : a ∈ W.w) : Scr env W h a := by
  obtain ⟨vs, n, ho⟩ := P a (.inr ha)
  refine ⟨fun o' s => ?_, _, ho, fun ps e => by cases e⟩
  have := s.at'
  rw [ho] at this; cases this
  exact s.own (.inr ha) rfl
/-- data outlives a change of L -/
theorem Is.upd {env : Env} {W : Wh} {h h' : Heap} {L : Addr} (P : WPl W h) (x : Scr env W h L) (k : ∀ b o, b ≠ L → h.get? b = some o → h'.get? b = some o) {v : Value} {d : D} (i : Is W h v d) : Is W h' v d :=
  i.move P (fun b o s => k b o (fun e => x.scr o (e ▸ s)) s.at') (fun _ _ _ y => y) (.inr fun _ _ e => e)
theorem IsL.upd {env : Env} {W : Wh} {h h' : Heap} {L : Addr} (P : WPl W h) (x : Scr env W h L) (k : ∀ b o, b ≠ L → h.get? b = some o → h'.get? b = some o) {v : List Value} {d : List D} (i : IsL W h v d) : IsL W h' v d :=
  i.move P (fun b o s => k b o (fun e => x.scr o (e ▸ s)) s.at') (fun _ _ _ y => y) (.inr fun _ _ e => e)
theorem ok_upd {s : Shared} {k : Kp} {env : Env} {W : Wh} {L : Addr} {h' : Heap} {tk : Nat} (ok : OkS G s) (x : Scr env W s.heap L) (hL : G.g0.get? L = none) (e : ∀ b o, b ≠ L → s.heap.get? b = some o → h'.get? b = some o) : OkS G { s with heap := h', toks := tk } := by
  refine ⟨fun b o h => e b o (fun q => by rw [q, hL] at h; cases h) (ok.base b o h), fun q hq => ?_, ok.bare⟩
  obtain ⟨ps, h1, h2⟩ := ok.tab q hq
  refine ⟨ps, e _ _ (fun h => ?_) h1, h2⟩
  obtain ⟨o, ho, hn⟩ := x.is
  rw [← h, h1] at ho; cases ho
  exact hn _ rfl
theorem EnvOwn.g0 {k : Kp} {env : Env} {av : Addr → Prop} (o : EnvOwn G sc k env av) {L : Addr} (h : k L = none) : G.g0.get? L = none := by
  cases e : G.g0.get? L with
  | none => rfl
  | some x => rw [o.base _ _ e] at h; cases h
theorem names_ne (he : (sc.names.map (·.1)).Nodup) {i j : Nat} {x y : Str} {kx ky : NameKind} (hi : sc.names[i]? = some (x, kx)) (hj : sc.names[j]? = some (y, ky)) (hne : i ≠ j) : x ≠ y := fun e => by
  subst e
  have h1 : (sc.names.map (·.1))[i]? = some x := by rw [List.getElem?_map, hi]; rfl
  have h2 : (sc.names.map (·.1))[j]? = some x := by rw [List.getElem?_map, hj]; rfl
  exact hne (((List.getElem?_inj (List.getElem?_eq_some_iff.mp h1).1 he).mp (h1.trans h2.symm)))

noncomputable def setV (vals : List (Option D)) (k : Nat) (d : D) : List (Option D) := vals.set k (some d)
theorem store_slot {A : Around} {env : Env} {kp : Kp} {av : Addr → Prop} {W : Wh} {s : Shared} (k : Nat) {x : Str} {kd : NameKind} {v : Value} {d : D} {Q : Unit → Shared → Prop}
    (b : Blk G sc n A env kp av) (st : Std G sc vals μ env kp W s) (hn : sc.names[k]? = some (x, kd)) (hkd : kd = .local ∨ kd = .cell) (i : Is W s.heap v d)
    (hQ : ∀ s', s'.os = s.os → Std G sc (setV vals k d) μ env kp W s' → (∀ u e, Is W s.heap u e → Is W s'.heap u e) → Q () s') : wpAny (model G.prog G.w) A (storeName env x v) Q No s := by
  have hf : env.scope.kind = .function := by rw [b.henv.hsc]; exact b.henv.kind
  have hk := kindOf_of b.henv hn
  have hxn : x ≠ "norm" := b.henv.nonorm _ (List.mem_of_getElem? hn)
  have vars (L : Addr) (h' : Heap) (sL : Scr env W s.heap L) (keep : ∀ b o, b ≠ L → s.heap.get? b = some o → h'.get? b = some o)
      (hx : Rd env h' x kd v) (hy : ∀ j y ky u, sc.names[j]? = some (y, ky) → j ≠ k → Rd env s.heap y ky u → Rd env h' y ky u) : Vars env sc (setV vals k d) W h' := by
    intro j y ky d' h1 h2
    by_cases e : j = k
    · subst e
      rw [hn] at h1; cases h1
      unfold setV at h2
      rw [List.getElem?_set] at h2
      simp only [if_true] at h2
      split at h2
      · cases h2; exact ⟨v, hx, i.upd st.mts.pl sL keep⟩
      · cases h2
    · unfold setV at h2
      rw [List.getElem?_set_ne (fun q => e q.symm)] at h2
      obtain ⟨u, p, q⟩ := st.vars j y ky d' h1 h2
      exact ⟨u, hy j y ky u h1 e p, q.upd st.mts.pl sL keep⟩
  have mts (L : Addr) (h' : Heap) (sL : Scr env W s.heap L) (keep : ∀ b o, b ≠ L → s.heap.get? b = some o → h'.get? b = some o) (hW : ∀ a, W.has a → a ≠ L) : MutOk W μ h' :=
    ⟨st.mts.1, st.mts.2.1, fun a ha => let ⟨vs, m, ho⟩ := st.mts.2.2.1 a ha; ⟨vs, m, keep _ _ (hW a (.inl ha)) ho⟩, fun j a ds e1 e2 => by
      obtain ⟨vs, p, q⟩ := st.mts.2.2.2 j a ds e1 e2
      exact ⟨vs, let ⟨m, ho⟩ := p; ⟨m, keep _ _ (hW a (.inr (List.mem_of_getElem? e1))) ho⟩, q.upd st.mts.pl sL keep⟩⟩
  have ext (L : Addr) (h' : Heap) (hL : kp L = none) (keep : ∀ b o, b ≠ L → s.heap.get? b = some o → h'.get? b = some o) : KExt G kp h' := fun a o hT hk => keep a o (fun e => by rw [e, hL] at hk; cases hk) (st.ext a o hT hk)
  rcases hkd with rfl | rfl
  · obtain ⟨m, hns, hnorm⟩ := st.fr.1
    refine wpAny_storeName_local hk hns (fun h' hn' hs' => ?_) (by rw [hf]; rfl)
    have keep : ∀ b o, b ≠ env.locals → s.heap.get? b = some o → h'.get? b = some o := fun b o hb e => hs'.extBut b o hb e
    have sL := scr_locals (W := W) st.fr
    have hWl : ∀ a, W.has a → a ≠ env.locals := fun a ha e => by
      obtain ⟨vs, p, ho⟩ := st.mts.pl a ha
      obtain ⟨o, es, ep, ho', hd, _⟩ := hns
      rw [e, ho'] at ho; cases ho; cases hd
    have cells : ∀ y c, env.cells.lookup y = some c → c ≠ env.locals := fun y c e => (b.own.cel y c e).2
    refine hQ _ rfl ⟨ok_upd (k := kp) st.ok sL (b.own.g0 b.own.loc) keep, ext _ _ b.own.loc keep, st.own, ⟨⟨_, hn', by simp [Ne.symm hxn, hnorm]⟩, fun y c e => ?_⟩, ?_, ?_⟩ fun u e i => i.upd st.mts.pl sL keep
    · obtain ⟨u, hc⟩ := st.fr.2 y c e
      exact ⟨u, hc.sameBut hs' (cells y c e)⟩
    · refine vars _ h' sL keep ⟨_, hn', by simp⟩ fun j y ky u hj hne r => ?_
      have hyx : y ≠ x := fun e => names_ne b.henv.nodup hj hn hne e
      cases ky <;> first
        | exact r.elim
        | (obtain ⟨m', a, e⟩ := r
           refine ⟨_, hn', ?_⟩
           rw [if_neg hyx]
           obtain ⟨o, es, ep, ho, hd, hk', hm⟩ := hns
           obtain ⟨o', es', ep', ho', hd', hk'', hm'⟩ := a
           rw [ho] at ho'; cases ho'
           rw [hd] at hd'; cases hd'
           rw [← hm, hm', e])
        | (obtain ⟨c, a, e⟩ := r; exact ⟨c, a, e.sameBut hs' (cells y c a)⟩)
        | (obtain ⟨q, c, a, e⟩ := r; exact ⟨q, c, a, e.sameBut hs' (cells y c a)⟩)
    · exact mts _ h' sL keep hWl
  · obtain ⟨c, hc⟩ := b.own.has k x hn
    obtain ⟨u, hcu⟩ := st.fr.2 x c hc
    refine wpAny_storeName_cell hf hk hc hcu fun h' hc' hs' => ?_
    have keep : ∀ b o, b ≠ c → s.heap.get? b = some o → h'.get? b = some o := fun b o hb e => hs'.extBut b o hb e
    have sL := scr_cell (W := W) st.fr hc
    have hcl := b.own.cel x c hc
    have hWl : ∀ a, W.has a → a ≠ c := fun a ha e => by
      obtain ⟨vs, p, ho⟩ := st.mts.pl a ha
      obtain ⟨o, ho', hd⟩ := hcu
      rw [e, ho'] at ho; cases ho; cases hd
    have frc : ∀ y c', env.cells.lookup y = some c' → y ≠ x → c' ≠ c := fun y c' e hne e' => hne (b.own.apart y x c (e' ▸ e) hc)
    have e0 := ok_upd (tk := s.toks) (k := kp) st.ok sL (b.own.g0 hcl.1) keep
    refine hQ _ rfl ⟨e0, ext _ _ hcl.1 keep, st.own, ⟨let ⟨m, a, e⟩ := st.fr.1; ⟨m, a.sameBut hs' (Ne.symm hcl.2), e⟩, fun y c' e => ?_⟩, ?_, ?_⟩ fun u e i => i.upd st.mts.pl sL keep
    · by_cases hyx : y = x
      · subst hyx; rw [hc] at e; cases e; exact ⟨_, hc'⟩
      · obtain ⟨u, hc⟩ := st.fr.2 y c' e
        exact ⟨u, hc.sameBut hs' (frc y c' e hyx)⟩
    · refine vars _ h' sL keep ⟨c, hc, hc'⟩ fun j y ky u hj hne r => ?_
      have hyx : y ≠ x := fun e => names_ne b.henv.nodup hj hn hne e
      cases ky <;> first
        | exact r.elim
        | (obtain ⟨m', a, e⟩ := r; exact ⟨m', a.sameBut hs' (Ne.symm hcl.2), e⟩)
        | (obtain ⟨c', a, e⟩ := r; exact ⟨c', a, e.sameBut hs' (frc y c' a hyx)⟩)
        | (obtain ⟨q, c', a, e⟩ := r; exact ⟨q, c', a, e.sameBut hs' (frc y c' a hyx)⟩)
    · exact mts _ h' sL keep hWl

theorem IsL.mapI {W W' : Wh} {h h' : Heap} (f : ∀ u e, Is W h u e → Is W' h' u e) {vs : List Value} {ds : List D} (i : IsL W h vs ds) : IsL W' h' vs ds :=
  i.ind (P := fun vs ds => IsL W' h' vs ds) .nil fun _ _ _ _ a _ r => .cons (f _ _ a) r
end
section
open PySem PySem.W PyProof.Rows
set_option maxRecDepth 100000
set_option linter.unusedVariables false
set_option linter.unusedSimpArgs false
open PySem.Calls
variable {G : GX} {sc : Scope} {n : Nat} {vals : List (Option D)} {μ : List (List D)} {K : Out → Prop}

/-! what the compiler reads off the scope -/
noncomputable def envOf (sc : Scope) : Env := { scope := sc, locals := 0, globals := 0, cells := [] }
theorem kindOf_sc {env : Env} (h : env.scope = sc) (x : Str) : env.kindOf x = (envOf sc).kindOf x := by unfold Env.kindOf; rw [h]; rfl
theorem swapsWith_sc {env : Env} (h : env.scope = sc) (e : Expr) (t : Option Expr) (l : Nat) : swapsWith e t l env = swapsWith e t l (envOf sc) := by
  subst h
  kernel_rfl
theorem swappedStores_sc {env : Env} (h : env.scope = sc) (ts : List Expr) (e : Expr) : swappedStores ts e env = swappedStores ts e (envOf sc) := by
  subst h
  kernel_rfl
noncomputable abbrev LC (kd : NameKind) : Prop := kd = .local ∨ kd = .cell

theorem Ex_aug (k : Nat) {x : Str} {kd : NameKind} {pos' pos : Pos} {op : Operator} {value : Expr} {old : D} (hn : sc.names[k]? = some (x, kd)) (hv : vals[k]? = some (some old))
    (h : EvK G sc n vals μ value fun d => StK G n μ [old, d] (b2 (inplaceOp op)) fun r => K (.next (setV vals k r) μ))
    (hkd : LC kd) : ExS G sc n vals μ (.AugAssign (.Name x pos') op value pos) K := fun A env kp av s b ⟨W, hw, _, st⟩ => by
  have o := st.ok5 b
  have hf : env.scope.kind = .function := by rw [b.henv.hsc]; exact b.henv.kind
  have hk := kindOf_of b.henv hn
  obtain ⟨v, hrd, hi⟩ := st.vars k x kd old hn hv
  have rest : wpAny (model G.prog G.w) A (eval value env) (fun v' s₂ => wpAny (model G.prog G.w) A (inplaceOp op v v') (fun r s₃ => wpAny (model G.prog G.w) A (storeName env x r) (fun _ => Post G sc env kp av s.os K .next) No s₃) No s₂) No s :=
    h.use o fun v' s₂ d hd e1 i1 => by
      have o2 := o.ext e1
      refine StK.use (f := b2 (inplaceOp op)) (vs := [v, v']) hd o2.2.1 o2.2.2.1 o2.2.2.2.2 (.cons (hi.ext o.2.2.1.tab e1.keep) (.cons i1 .nil)) fun r s₃ dr hk e2 i2 => ?_
      exact store_slot k b ((st.step e1).step e2) hn hkd i2 fun s'' ho st' _ => ⟨_, _, hk, W, hw, (ho.trans e2.os).trans e1.os, st'⟩
  refine wpAny_AugAssign_Name ?_
  rcases hkd with rfl | rfl
  · obtain ⟨m, a, e⟩ := hrd
    exact wpAny_loadName_local hf hk a e rest
  · obtain ⟨c, a, e⟩ := hrd
    exact wpAny_loadName_cell hf hk a e rest

/-- an assignment's left side -/
noncomputable def AsK (G : GX) (sc : Scope) (n : Nat) (vals : List (Option D)) (μ : List (List D)) (t : Expr) (d : D) (K : List (Option D) → Prop) : Prop :=
  ∀ (A : Around) (env : Env) (kp : Kp) (av : Addr → Prop) (W : Wh) (s : Shared) (v : Value), Blk G sc n A env kp av → W.av = av → Std G sc vals μ env kp W s → Is W s.heap v d →
    wpAny (model G.prog G.w) A (assign t env v) (fun _ s' => ∃ vals', K vals' ∧ s'.os = s.os ∧ Std G sc vals' μ env kp W s') No s
theorem As_name (k : Nat) {x : Str} {kd : NameKind} {pos : Pos} {d : D} {K : List (Option D) → Prop} (hn : sc.names[k]? = some (x, kd)) (h : K (setV vals k d)) (hkd : LC kd) :
    AsK G sc n vals μ (.Name x pos) d K := fun A env kp av W s v b hw st i => wpAny_assign_Name (store_slot k b st hn hkd i fun s' ho st' _ => ⟨_, h, ho, st'⟩)

/-- the names of a left side of several, in order -/
inductive Slots (sc : Scope) : List Expr → List Nat → Prop
  | nil : Slots sc [] []
  | cons {x : Str} {pos : Pos} {k : Nat} {kd : NameKind} {r : List Expr} {ks : List Nat} : sc.names[k]? = some (x, kd) → LC kd → Slots sc r ks → Slots sc (.Name x pos :: r) (k :: ks)
noncomputable def setAll (vals : List (Option D)) : List Nat → List D → List (Option D)
  | k :: ks, d :: ds => setAll (setV vals k d) ks ds
  | _, _ => vals
theorem stores_in_order {A : Around} {env : Env} {kp : Kp} {av : Addr → Prop} {W : Wh} {es : List Expr} {ks : List Nat} (hs : Slots sc es ks) : ∀ {vals : List (Option D)} {vs : List Value} {ds : List D} {s : Shared} {Q : Unit → Shared → Prop},
    Blk G sc n A env kp av → Std G sc vals μ env kp W s → IsL W s.heap vs ds → es.length = ds.length → (∀ s', s'.os = s.os → Std G sc (setAll vals ks ds) μ env kp W s' → Q () s') →
    wpAny (model G.prog G.w) A (assignInOrder ((assignEach es env).map (·.2)) vs) Q No s := by
  induction hs with
  | nil =>
    intro vals vs ds s Q b st i hl hQ
    cases i with
    | nil => exact wpAny_pure (hQ s rfl st)
    | cons i1 ir => cases hl
  | cons hn hkd hs ih =>
    rename_i x pos k kd r ks
    intro vals vs ds s Q b st i hl hQ
    cases i with
    | nil => cases hl
    | cons i1 ir =>
      rename_i v vs d ds
      show wpAny _ A (do holding vs (assign (.Name x pos) env v); assignInOrder ((assignEach r env).map (·.2)) vs) Q No s
      refine wpAny_bind (wpAny_holding (wpAny_assign_Name (store_slot k b st hn hkd i1 fun s' ho st' mv => ?_)))
      exact ih b st' (ir.mapI mv) (Nat.succ.inj hl) fun s'' ho' st'' => hQ s'' (ho'.trans ho) st''

inductive SlotsN (sc : Scope) : List Str → List Nat → Prop
  | nil : SlotsN sc [] []
  | cons {x : Str} {k : Nat} {kd : NameKind} {r : List Str} {ks : List Nat} : sc.names[k]? = some (x, kd) → LC kd → SlotsN sc r ks → SlotsN sc (x :: r) (k :: ks)
theorem names_in_order {A : Around} {env : Env} {kp : Kp} {av : Addr → Prop} {W : Wh} {es : List Str} {ks : List Nat} (hs : SlotsN sc es ks) : ∀ {vals : List (Option D)} {vs : List Value} {ds : List D} {s : Shared} {Q : Unit → Shared → Prop},
    Blk G sc n A env kp av → Std G sc vals μ env kp W s → IsL W s.heap vs ds → es.length = ds.length → (∀ s', s'.os = s.os → Std G sc (setAll vals ks ds) μ env kp W s' → Q () s') →
    wpAny (model G.prog G.w) A (assignInOrder (es.map fun x => bindName env x) vs) Q No s := by
  induction hs with
  | nil =>
    intro vals vs ds s Q b st i hl hQ
    cases i with
    | nil => exact wpAny_pure (hQ s rfl st)
    | cons i1 ir => cases hl
  | cons hn hkd hs ih =>
    rename_i x k kd r ks
    intro vals vs ds s Q b st i hl hQ
    cases i with
    | nil => cases hl
    | cons i1 ir =>
      rename_i v vs d ds
      show wpAny _ A (do holding vs (bindName env x v); assignInOrder (r.map fun x => bindName env x) vs) Q No s
      refine wpAny_bind (wpAny_holding (wpAny_bindName (store_slot k b st hn hkd i1 fun s' ho st' mv => ?_)))
      exact ih b st' (ir.mapI mv) (Nat.succ.inj hl) fun s'' ho' st'' => hQ s'' (ho'.trans ho) st''

theorem unpack_tup {A : Around} {env : Env} {W : Wh} {s : Shared} {v : Value} {ds : List D} {m : Nat} {Q : List Value → Shared → Prop} (hh : A.handled = none) (ok : OkS G s) (i : Is W s.heap v (.tup ds)) (hm : m = ds.length)
    (hQ : ∀ vs s', Ext G s s' → IsL W s'.heap vs ds → Q vs s') : wpAny (model G.prog G.w) A (unpackItems v m none) Q No s := by
  cases i with | tup ht hs =>
  rename_i a vs
  have e : m = vs.toArray.size := by rw [List.size_toArray, hs.length, hm]
  subst e
  refine unpackItems_tuple hh ht fun h' he => ?_
  have k : ∀ b o, s.heap.get? b = some o → h'.get? b = some o := fun b o e => he b o (Nat.ne_of_lt (Heap.lt_size e)) e
  have ex : Ext G s { s with heap := h' } := Ext.of_keep (tk := s.toks) ok k
  exact hQ _ _ ex (hs.ext ok.tab ex.keep)
theorem assignEach_names {es : List Expr} {ks : List Nat} (hs : Slots sc es ks) (env : Env) : (assignEach es env).length = es.length ∧ (assignEach es env).findIdx? (·.1) = none := by
  induction hs with
  | nil => exact ⟨rfl, rfl⟩
  | cons hn hk hs ih =>
    rename_i x pos k kd r ks
    refine ⟨congrArg Nat.succ ih.1, ?_⟩
    show ((false, assign (.Name x pos) env) :: assignEach r env).findIdx? (·.1) = none
    rw [List.findIdx?_cons, ih.2]; rfl
theorem As_tup (ks : List Nat) {es : List Expr} {q : Nat} {pos : Pos} {ds : List D} {K : List (Option D) → Prop} (hs : Slots sc es ks) (hl : es.length = ds.length) (h : K (setAll vals ks ds)) :
    AsK G sc n vals μ (.Tuple es q pos) (.tup ds) K := fun A env kp av W s v b hw st i => by
  rw [PySem.arm_assign_Tuple]
  refine wpAny_bind (wpAny_standAt ?_)
  obtain ⟨h1, h2⟩ := assignEach_names hs env
  unfold unpack
  rw [h1, h2]
  refine wpAny_bind (wpAny_holding (unpack_tup (env := env) b.room.hd st.ok i hl fun vs s' e is => ?_))
  exact stores_in_order hs b (st.step e) is hl fun s'' ho st' => ⟨_, h, ho.trans e.os, st'⟩
theorem Ex_assign_tup {es : List Expr} {q : Nat} {tpos pos : Pos} {value : Expr} (h : EvK G sc n vals μ value fun d => AsK G sc n vals μ (.Tuple es q tpos) d fun vals' => K (.next vals' μ))
    (hs : ∀ env, swapsWithSole [.Tuple es q tpos] value pos.line env = pure false) (hw : swappedStores [.Tuple es q tpos] value (envOf sc) = pure none) :
    ExS G sc n vals μ (.Assign [.Tuple es q tpos] value pos) K := fun A env kp av s b ⟨W, hw', _, st⟩ =>
  Assign_Tuple (h.use (st.ok5 b) fun v s' d hd e1 i1 => wpAny_mono (hd A env kp av W s' v b hw' (st.step e1) i1) (fun _ s'' ⟨vals', hk, ho, st'⟩ => ⟨vals', μ, hk, W, hw', ho.trans e1.os, st'⟩) fun _ _ y => y)
    (hs env) ((swappedStores_sc b.henv.hsc ..).trans hw)
/-- two or three stores in the order of the stack -/
theorem Ex_assign_swapped (names : List Str) (ks : List Nat) {es : List Expr} {q : Nat} {tpos pos : Pos} {value : Expr}
    (hk : SlotsN sc names.reverse ks)
    (h : EvK G sc n vals μ value fun d => ∃ ds, d = .tup ds ∧ names.length = ds.length ∧ K (.next (setAll vals ks ds.reverse) μ))
    (hw : swappedStores [.Tuple es q tpos] value (envOf sc) = pure (some names)) (hs : ∀ env, swapsWithSole [.Tuple es q tpos] value pos.line env = pure false) :
    ExS G sc n vals μ (.Assign [.Tuple es q tpos] value pos) K := fun A env kp av s b ⟨W, hw', _, st⟩ =>
  Assign_Tuple_swapped (h.use (st.ok5 b) fun v s' d ⟨ds, hd, hl, hK⟩ e1 i1 => by
    subst hd
    refine unpack_tup (env := env) b.room.hd e1.ok i1 hl fun vs s'' e is => ?_
    have rev : ∀ {vs : List Value} {ds : List D} {h : Heap}, IsL W h vs ds → IsL W h vs.reverse ds.reverse := fun {vs ds h} i => by
      clear is i1
      induction i using IsL.rec (motive_1 := fun _ _ _ => True) with
      | nil => exact .nil
      | cons a b iha ihb => rw [List.reverse_cons, List.reverse_cons]; exact ihb.append (.cons a .nil)
      | _ => trivial
    exact names_in_order hk b ((st.step e1).step e) (rev is) (by simpa using hl) fun s3 ho st' => ⟨_, _, hK, W, hw', ho.trans (e.os.trans e1.os), st'⟩)
    (hs env) ((swappedStores_sc b.henv.hsc ..).trans hw)

/-! while -/
theorem wpAny_noted0 {M : Model} {A : Around} {env : Env} {α : Type} {c : Sem α} {Q : α → Shared → Prop} {E : Value → Shared → Prop} {s : Shared} (h : wpAny M A c Q No s) : wpAny M A c Q E s := wpAny_mono h (fun _ _ x => x) fun _ _ x => x.elim
theorem Ex_while {t : Expr} {body : List Stmt} {pos : Pos} (I : Nat → List (Option D) → List (List D) → Prop) (m : Nat) (h0 : I m vals μ)
    (turn : ∀ m vals μ, I m vals μ → EvT G sc n vals μ t fun c => (c = true → ExK G sc n vals μ body fun o => match o with
      | .next v μ' => ∃ m', m' < m ∧ I m' v μ' | .cont v μ' => ∃ m', m' < m ∧ I m' v μ' | .brk v μ' => K (.next v μ') | .ret d => K (.ret d)) ∧ (c = false → K (.next vals μ))) :
    ExS G sc n vals μ (.While t body [] pos) K := fun A env kp av s b a => by
  refine wpAny_While (codeAny_whileLoop (fun m s' => ∃ vals μ, I m vals μ ∧ At G sc env kp av s' s.os vals μ) (fun m s' hI => ?_) m ⟨vals, μ, h0, a⟩)
  obtain ⟨vals', μ', hI, a'⟩ := hI
  have eo := a'.os
  obtain ⟨W, hw, _, st⟩ := a'
  refine wpAny_noted0 (env := env) (EvT.use (turn m vals' μ' hI) (st.ok5 b) fun c s₂ ⟨h1, h0⟩ e1 => ?_)
  have a2 : At G sc env kp av s₂ s₂.os vals' μ' := ⟨W, hw, rfl, st.step e1⟩
  have eo2 : s₂.os = s.os := e1.os.trans eo
  cases c with
  | false =>
    simp only [Bool.false_eq_true, if_false]
    exact wpAny_execs_nil ⟨vals', μ', h0 rfl, eo2 ▸ a2⟩
  | true =>
    simp only [if_true]
    refine wpAny_noted0 (env := env) (wpAny_mono (h1 rfl A env kp av s₂ b a2) (fun f s₃ p => ?_) fun _ _ y => y)
    rw [eo2] at p
    cases f with
    | next => obtain ⟨v, mu, ⟨m', hm, hi⟩, a3⟩ := p; exact ⟨m', hm, v, mu, hi, a3⟩
    | cont => obtain ⟨v, mu, ⟨m', hm, hi⟩, a3⟩ := p; exact ⟨m', hm, v, mu, hi, a3⟩
    | brk => exact p
    | ret v => exact p
end
section
open PySem PySem.W PyProof.Rows
set_option maxRecDepth 100000
set_option linter.unusedVariables false
set_option linter.unusedSimpArgs false
open PySem.Calls
variable {G : GX} {sc : Scope} {n : Nat} {vals : List (Option D)} {μ : List (List D)} {K : Out → Prop}

/-! lists that change -/
noncomputable def withL (h : Heap) (vs : List Value) : Heap := h.push { cls := .type "list", data := .seq vs.toArray }
theorem kp_fresh {k : Kp} {s : Shared} (ok : OkS G s) (x : KExt G k s.heap) (ht : ∀ q ∈ G.T, k q.2 = none ∨ True) {a : Addr} (ha : s.heap.objs.size ≤ a) : k a = none ∨ ∃ q ∈ G.T, a = q.2 := by
  by_cases h : ∃ q ∈ G.T, a = q.2
  · exact .inr h
  · left
    cases e : k a with
    | none => rfl
    | some o =>
      have := x a o (fun q hq e => h ⟨q, hq, e⟩) e
      exact absurd (Heap.lt_size this) (Nat.not_lt.mpr ha)
theorem kp_new {k : Kp} {s : Shared} (ok : OkS G s) (x : KExt G k s.heap) : k s.heap.objs.size = none := by
  rcases kp_fresh ok x (fun _ _ => .inr trivial) (Nat.le_refl _) with h | ⟨q, hq, e⟩
  · exact h
  · obtain ⟨ps, h1, _⟩ := ok.tab q hq
    rw [← e] at h1
    exact absurd (Heap.lt_size h1) (Nat.lt_irrefl _)
theorem has_lt {W : Wh} {h : Heap} (m : MutOk W μ h) {a : Addr} (ha : W.has a) : a < h.objs.size := by
  rcases ha with ha | ha
  · obtain ⟨vs, q, ho⟩ := m.2.2.1 a ha; exact Heap.lt_size ho
  · obtain ⟨vs, q, ho⟩ := m.pl a (.inr ha); exact Heap.lt_size ho
theorem Is.newOwn {W : Wh} {h : Heap} (P : WPl W h) (o : Obj) {v : Value} {d : D} (i : Is W h v d) : Is ⟨W.av, W.w ++ [h.objs.size]⟩ (h.push o) v d :=
  i.move (W' := ⟨W.av, W.w ++ [h.objs.size]⟩) P (fun b o s => Heap.get?_push_of_some _ s.at') (fun b o s hn hb => by
    rcases hb with hb | hb
    · exact hn (.inl hb)
    · rcases List.mem_append.mp hb with hb | hb
      · exact hn (.inr hb)
      · rw [List.mem_singleton] at hb
        exact absurd (Heap.lt_size s.at') (hb ▸ Nat.lt_irrefl _)) (.inr fun i a e => by
    show (W.w ++ [h.objs.size])[i]? = some a
    rw [List.getElem?_append_left (List.getElem?_eq_some_iff.mp e).1]; exact e)
theorem IsL.newOwn {W : Wh} {h : Heap} (P : WPl W h) (o : Obj) {vs : List Value} {ds : List D} (i : IsL W h vs ds) : IsL ⟨W.av, W.w ++ [h.objs.size]⟩ (h.push o) vs ds :=
  i.mapI fun _ _ x => x.newOwn P o
theorem Std.newOwn {env : Env} {k : Kp} {W : Wh} {s : Shared} {vs : List Value} {ds : List D} (st : Std G sc vals μ env k W s) (i : IsL W s.heap vs ds) :
    Std G sc vals (μ ++ [ds]) env k ⟨W.av, W.w ++ [s.heap.objs.size]⟩ { s with heap := withL s.heap vs } := by
  have kp : ∀ b o, s.heap.get? b = some o → (withL s.heap vs).get? b = some o := fun b o e => Heap.get?_push_of_some _ e
  have ex : Ext G s { s with heap := withL s.heap vs } := Ext.of_keep (tk := s.toks) st.ok kp
  have st' := st.step ex
  refine ⟨st'.ok, st'.ext, fun a ha => ?_, st'.fr, fun j x kd d h1 h2 => ?_, ?_, ?_, fun a ha => ?_, fun j a ds' e1 e2 => ?_⟩
  · rcases List.mem_append.mp ha with h | h
    · exact st.own a h
    · rw [List.mem_singleton] at h; exact h ▸ kp_new st.ok st.ext
  · obtain ⟨v, p, q⟩ := st.vars j x kd d h1 h2
    exact ⟨v, p.ext st.ok.tab ex.keep, q.newOwn st.mts.pl _⟩
  · show (W.w ++ [s.heap.objs.size]).length = (μ ++ [ds]).length
    rw [List.length_append, List.length_append, st.mts.1]; rfl
  · show (W.w ++ [s.heap.objs.size]).Nodup
    rw [List.nodup_append]
    refine ⟨st.mts.2.1, by simp, fun a ha b hb e => ?_⟩
    rw [List.mem_singleton] at hb
    exact Nat.lt_irrefl _ (hb ▸ e ▸ has_lt st.mts (.inr ha))
  · exact st'.mts.2.2.1 a ha
  · replace e1 : (W.w ++ [s.heap.objs.size])[j]? = some a := e1
    by_cases hj : j < W.w.length
    · rw [List.getElem?_append_left hj] at e1
      rw [List.getElem?_append_left (st.mts.1 ▸ hj)] at e2
      obtain ⟨us, p, q⟩ := st.mts.2.2.2 j a ds' e1 e2
      exact ⟨us, plain_ext st.ok.tab ex.keep p, q.newOwn st.mts.pl _⟩
    · rw [List.getElem?_append_right (by lia)] at e1
      rw [List.getElem?_append_right (by have := st.mts.1; lia)] at e2
      have hj0 : j - W.w.length = 0 := by
        rcases Nat.eq_zero_or_pos (j - W.w.length) with h | h
        · exact h
        · rw [List.getElem?_eq_none (by simp; lia)] at e1; cases e1
      have hj1 : j - μ.length = 0 := by rw [← st.mts.1]; exact hj0
      rw [hj0] at e1; rw [hj1] at e2
      simp at e1 e2
      subst e1; subst e2
      exact ⟨vs, ⟨_, Heap.get?_push_size _ rfl⟩, i.newOwn st.mts.pl _⟩

/-- one of one's own lists is set anew -/
theorem Std.setOwn {env : Env} {kp : Kp} {av : Addr → Prop} {W : Wh} {s : Shared} {A : Around} (b : Blk G sc n A env kp av) (st : Std G sc vals μ env kp W s) {i : Nat} {a : Addr} (hi : W.w[i]? = some a) {h' : Heap} {tk : Nat} {vs : List Value} {ds : List D}
    (hs : Heap.SameBut a s.heap h') (hp : h'.PlainList a vs.toArray) (is : IsL W s.heap vs ds) : Std G sc vals (μ.set i ds) env kp W { s with heap := h', toks := tk } ∧ ∀ u e, Is W s.heap u e → Is W h' u e := by
  have hm : a ∈ W.w := List.mem_of_getElem? hi
  have keep : ∀ b o, b ≠ a → s.heap.get? b = some o → h'.get? b = some o := fun b o hb e => hs.extBut b o hb e
  have sL := scr_own (env := env) st.mts.pl hm
  have mv : ∀ u e, Is W s.heap u e → Is W h' u e := fun u e i => i.upd st.mts.pl sL keep
  have hk : kp a = none := st.own a hm
  obtain ⟨us, q0, ho⟩ := st.mts.pl a (.inr hm)
  have hloc : env.locals ≠ a := fun e => by
    obtain ⟨m, ⟨o, es, ep, ho', hd, _⟩, _⟩ := st.fr.1
    rw [e, ho] at ho'; cases ho'; cases hd
  have hcel : ∀ x c, env.cells.lookup x = some c → c ≠ a := fun x c e e' => by
    obtain ⟨v, o, ho', hd⟩ := st.fr.2 x c e
    rw [e', ho] at ho'; cases ho'; cases hd
  refine ⟨⟨ok_upd (k := kp) st.ok sL (b.own.g0 hk) keep, fun c o hT hc => keep c o (fun e => by rw [e, hk] at hc; cases hc) (st.ext c o hT hc), st.own,
    ⟨let ⟨m, x, e⟩ := st.fr.1; ⟨m, x.sameBut hs hloc, e⟩, fun x c e => let ⟨v, y⟩ := st.fr.2 x c e; ⟨v, y.sameBut hs (hcel x c e)⟩⟩, fun j x kd d h1 h2 => ?_, ?_, st.mts.2.1, fun c hc => ?_, fun j c ds' e1 e2 => ?_⟩, mv⟩
  · obtain ⟨v, p, q⟩ := st.vars j x kd d h1 h2
    refine ⟨v, ?_, mv _ _ q⟩
    cases kd <;> first
      | exact p.elim
      | (obtain ⟨m, x, e⟩ := p; exact ⟨m, x.sameBut hs hloc, e⟩)
      | (obtain ⟨c, x, e⟩ := p; exact ⟨c, x, e.sameBut hs (hcel _ _ x)⟩)
      | (obtain ⟨z, c, x, e⟩ := p; exact ⟨z, c, x, e.sameBut hs (hcel _ _ x)⟩)
  · rw [List.length_set]; exact st.mts.1
  · obtain ⟨us, z, h1⟩ := st.mts.2.2.1 c hc
    by_cases e : c = a
    · subst e
      exact ⟨_, hp⟩
    · exact ⟨us, z, keep c _ e h1⟩
  · by_cases e : j = i
    · subst e
      rw [hi] at e1; cases e1
      rw [List.getElem?_set] at e2
      simp only [if_true] at e2
      split at e2
      · cases e2; exact ⟨vs, hp, is.mapI mv⟩
      · cases e2
    · rw [List.getElem?_set_ne (fun q => e q.symm)] at e2
      obtain ⟨us, p, q⟩ := st.mts.2.2.2 j c ds' e1 e2
      refine ⟨us, let ⟨m, ho⟩ := p; ⟨m, keep _ _ (fun h => e ?_) ho⟩, q.mapI mv⟩
      subst h
      have hj := (List.getElem?_eq_some_iff.mp e1).1
      exact (List.getElem?_inj hj st.mts.2.1).mp (e1.trans hi.symm)

/-- an expression that may make lists of one's own -/
inductive PM (G : GX) (sc : Scope) (vals : List (Option D)) (env : Env) (k : Kp) (av : Addr → Prop) (W : Wh) (s : Shared) (K : D → List (List D) → Prop) (v : Value) (s' : Shared) : Prop
  | mk (d : D) (μ' : List (List D)) (W' : Wh) (hk : K d μ') (hw : W'.av = av) (ho : s'.os = s.os) (st : Std G sc vals μ' env k W' s') (i : Is W' s'.heap v d) (hx : HExt G s.heap s'.heap) (mv : ∀ u e, Is W s.heap u e → Is W' s'.heap u e) (ix : ∀ (i : Nat) a, W.w[i]? = some a → W'.w[i]? = some a)
noncomputable def EvM (G : GX) (sc : Scope) (n : Nat) (vals : List (Option D)) (μ : List (List D)) (e : Expr) (K : D → List (List D) → Prop) : Prop :=
  ∀ (A : Around) (env : Env) (k : Kp) (av : Addr → Prop) (W : Wh) (s : Shared), Blk G sc n A env k av → W.av = av → Std G sc vals μ env k W s →
    wpAny (model G.prog G.w) A (eval e env) (PM G sc vals env k av W s K) No s
variable {KM : D → List (List D) → Prop}
theorem EvM.use {e : Expr} {A : Around} {env : Env} {k : Kp} {av : Addr → Prop} {W : Wh} {s : Shared} {Q : Value → Shared → Prop} (h : EvM G sc n vals μ e KM) (b : Blk G sc n A env k av) (hw : W.av = av) (st : Std G sc vals μ env k W s)
    (hQ : ∀ v s' d μ' W', KM d μ' → W'.av = av → s'.os = s.os → Std G sc vals μ' env k W' s' → Is W' s'.heap v d → HExt G s.heap s'.heap → (∀ u e, Is W s.heap u e → Is W' s'.heap u e) → (∀ (i : Nat) a, W.w[i]? = some a → W'.w[i]? = some a) → Q v s') :
    wpAny (model G.prog G.w) A (eval e env) Q No s :=
  wpAny_mono (h A env k av W s b hw st) (fun v s' x => by
    obtain ⟨d, μ', W', hk, hw', ho, st', i, hx, mv, ix⟩ := x
    exact hQ v s' d μ' W' hk hw' ho st' i hx mv ix) fun _ _ y => y
theorem EvM_of {e : Expr} (h : EvK G sc n vals μ e fun d => KM d μ) : EvM G sc n vals μ e KM := fun A env k av W s b hw st =>
  h.use (st.ok5 b) fun v s' d hk e i => ⟨d, μ, W, hk, hw, e.os, st.step e, i, e.keep, fun u x y => y.ext st.ok.tab e.keep, fun _ _ x => x⟩
theorem EvM_nil {pos : Pos} (h : KM (.mt μ.length) (μ ++ [[]])) : EvM G sc n vals μ (.List [] pos) KM := fun A env k av W s b hw st => by
  refine List_ ?_
  rw [backTo_eq _ _ _ rfl]
  refine spliced_nil ?_
  refine wpAny_newObj_type ⟨_, _, ⟨W.av, W.w ++ [s.heap.objs.size]⟩, h, hw, rfl, st.newOwn .nil, .mt ?_, HExt.of_keep fun b o e => Heap.get?_push_of_some _ e, fun u e i => i.newOwn st.mts.pl _, fun i a e => ?_⟩ (Nat.zero_le _)
  · show (W.w ++ [s.heap.objs.size])[μ.length]? = some s.heap.objs.size
    rw [← st.mts.1]; simp
  · show (W.w ++ [s.heap.objs.size])[i]? = some a
    rw [List.getElem?_append_left (List.getElem?_eq_some_iff.mp e).1]; exact e
theorem EvM_one {e : Expr} {pos : Pos} (h : EvM G sc n vals μ e fun d μ' => KM (.mt μ'.length) (μ' ++ [[d]])) (hn : noStar [e] = true) : EvM G sc n vals μ (.List [e] pos) KM := fun A env k av W s b hw st => by
  refine List_ ?_
  rw [backTo_eq _ _ _ hn]
  show wpAny _ _ (spliced [(false, eval e env)]) _ _ _
  refine spliced_cons (h.use b hw st fun v s₁ d μ' W' hk hw' ho st' i hx mv ix => spliced_nil ?_)
  refine wpAny_newObj_type ⟨_, _, ⟨W'.av, W'.w ++ [s₁.heap.objs.size]⟩, hk, hw', ho, st'.newOwn (.cons i .nil), .mt ?_, hx.trans (HExt.of_keep fun b o e => Heap.get?_push_of_some _ e), fun u e i => (mv u e i).newOwn st'.mts.pl _, fun i a e => ?_⟩ (by show 1 ≤ sizeLine; decide)
  · show (W'.w ++ [s₁.heap.objs.size])[μ'.length]? = some s₁.heap.objs.size
    rw [← st'.mts.1]; simp
  · show (W'.w ++ [s₁.heap.objs.size])[i]? = some a
    have := ix i a e
    rw [List.getElem?_append_left (List.getElem?_eq_some_iff.mp this).1]; exact this
theorem EvM_tup2 {e e' : Expr} {q : Nat} {pos : Pos} (h : EvK G sc n vals μ e fun d => EvM G sc n vals μ e' fun d' μ' => KM (.tup [d, d']) μ') (hn : noStar [e, e'] = true) : EvM G sc n vals μ (.Tuple [e, e'] q pos) KM := fun A env k av W s b hw st => by
  refine Tuple_ ?_
  rw [backTo_eq _ _ _ hn]
  show wpAny _ _ (spliced [(false, eval e env), (false, eval e' env)]) _ _ _
  refine spliced_cons (h.use (st.ok5 b) fun v₀ s₀ d₀ h₀ e₀ i₀ => spliced_cons (EvM.use h₀ b hw (st.step e₀) fun v s₁ d μ' W' hk hw' ho st' i hx mv ix => spliced_nil ?_))
  have kp : ∀ b o, s₁.heap.get? b = some o → (s₁.heap.push { cls := .type "tuple", data := .seq [v₀, v].toArray }).get? b = some o := fun b o e => Heap.get?_push_of_some _ e
  have ex : Ext G s₁ { s₁ with heap := s₁.heap.push { cls := .type "tuple", data := .seq [v₀, v].toArray } } := Ext.of_keep (tk := s₁.toks) st'.ok kp
  refine wpAny_newObj_type ⟨_, _, W', hk, hw', ho.trans e₀.os, st'.step ex, new_tup st'.ok.tab (.cons (mv _ _ i₀) (.cons i .nil)), (e₀.keep.trans hx).trans ex.keep, fun u e i => (mv u e (i.ext st.ok.tab e₀.keep)).ext st'.ok.tab ex.keep, ix⟩ (by show 2 ≤ sizeLine; decide)

/-- an assignment of such an expression -/
theorem Ex_assignM (k : Nat) {x : Str} {kd : NameKind} {pos' pos : Pos} {value : Expr} (hn : sc.names[k]? = some (x, kd)) (h : EvM G sc n vals μ value fun d μ' => K (.next (setV vals k d) μ'))
    (hkd : LC kd) (hs : swapsWith value (some (.Name x pos')) pos.line (envOf sc) = pure false) : ExS G sc n vals μ (.Assign [.Name x pos'] value pos) K := fun A env kp av s b x => by
  obtain ⟨W, hw, _, st⟩ := x
  exact wpAny_Assign_Name (h.use b hw st fun v s' d μ' W' hk hw' ho st' i _ _ _ => store_slot k b st' hn hkd i fun s'' ho' st'' _ => ⟨_, _, hk, W', hw', ho'.trans ho, st''⟩) ((swapsWith_sc b.henv.hsc ..).trans hs)

/-- «o.append(e)» -/
theorem Ex_append {o elt : Expr} {apos pos' pos : Pos}
    (h : EvK G sc n vals μ o fun d => ∃ i, d = .mt i ∧ EvM G sc n vals μ elt fun d' μ' => ∃ ds, μ'[i]? = some ds ∧ ds.length ≤ sizeLine ∧ K (.next vals (μ'.set i (ds ++ [d']))))
    (hbase : ∀ env, attributeBase o "append" env (eval o env) = eval o env)
    (hfew : ∀ env, ((backTo pos (starEach [elt] env)).all (fun x => !x.1) && (backToKw pos (keywordEach [] env)).all (fun x => x.1.isSome)
      && decide (([elt] : List Expr).length + ([] : List Keyword).length + (if ([] : List Keyword).isEmpty then 0 else 1) < 30)) = true)
    (hline : (apos.endLine == pos.line) = true)
    (htrees : ∀ env, backTo pos (starEach [elt] env) = [(false, eval elt env)])
    (hi : ∀ env, env.scope.kind = .function → interactive env = false)
    (hs : ∀ env, swapsWith (.Call (.Attribute o "append" apos) [elt] [] pos) none pos'.line env = pure false) :
    ExS G sc n vals μ (.Expr (.Call (.Attribute o "append" apos) [elt] [] pos) pos') K := fun A env kp av s b x => by
  obtain ⟨W, hw, _, st⟩ := x
  refine wpAny_Expr (wpAny_Call_append (hbase env) (hfew env) hline (htrees env) (h.use (st.ok5 b) fun vo s₁ d hx e1 i1 => ?_)) (hi env (by rw [b.henv.hsc]; exact b.henv.kind)) (hs env)
  obtain ⟨i, hd, hm⟩ := hx
  subst hd
  obtain ⟨a, rfl, hi⟩ := i1.inv
  have st1 := st.step e1
  obtain ⟨us, q, ho⟩ := st1.mts.pl a (.inr (List.mem_of_getElem? hi))
  refine ⟨a, us, rfl, ⟨_, q, ho, rfl, rfl, rfl⟩, EvM.use hm b hw st1 fun v s₂ d' μ' W' hk hw' ho' st' iv hx mv ix => ?_⟩
  obtain ⟨ds, hds, hz, hk⟩ := hk
  obtain ⟨vs, hp, hs⟩ := st'.mts.2.2.2 i a ds (ix i a hi) hds
  refine wpAny_list_append_plain hp (fun h' hl' hs' => ?_) (by rw [List.size_toArray, hs.length]; exact hz)
  have := st'.setOwn (tk := s₂.toks) b (ix i a hi) hs' (vs := vs ++ [v]) (by simpa using hl') (hs.append (.cons iv .nil))
  exact ⟨_, _, hk, W', hw', ho'.trans e1.os, this.1⟩
end
section
open PySem PySem.W PyProof.Rows
set_option maxRecDepth 100000
set_option linter.unusedVariables false
set_option linter.unusedSimpArgs false
open PySem.Calls
variable {G : GX} {sc : Scope} {n : Nat} {vals : List (Option D)} {μ : List (List D)} {K : Out → Prop}

/-! everything but the frame, its cells and one's own lists -/
open Classical in
noncomputable def protK (env : Env) (W : Wh) (h : Heap) : Kp := fun b => if b ∈ W.w ∨ b = env.locals ∨ ∃ x, env.cells.lookup x = some b then none else h.get? b
theorem prot_some {env : Env} {W : Wh} {h : Heap} {b : Addr} {o : Obj} (e : h.get? b = some o) (h1 : b ∉ W.w) (h2 : b ≠ env.locals) (h3 : ∀ x, env.cells.lookup x ≠ some b) : protK env W h b = some o := by
  unfold protK
  rw [if_neg (fun q => q.elim h1 fun q => q.elim h2 fun ⟨y, x⟩ => h3 y x)]; exact e
theorem prot_get {env : Env} {W : Wh} {h : Heap} {b : Addr} {o : Obj} (e : protK env W h b = some o) : h.get? b = some o ∧ b ∉ W.w := by
  unfold protK at e
  split at e
  · cases e
  · rename_i q; exact ⟨e, fun x => q (.inl x)⟩
theorem prot_none {env : Env} {W : Wh} {h : Heap} {b : Addr} (x : b ∈ W.w ∨ b = env.locals ∨ ∃ x, env.cells.lookup x = some b) : protK env W h b = none := by
  unfold protK; rw [if_pos x]
theorem prot_sub {A : Around} {env : Env} {kp : Kp} {av : Addr → Prop} {W : Wh} {s : Shared} (b : Blk G sc n A env kp av) (st : Std G sc vals μ env kp W s) {c : Addr} {o : Obj} (hT : ∀ q ∈ G.T, c ≠ q.2) (e : kp c = some o) : protK env W s.heap c = some o :=
  prot_some (st.ext c o hT e) (fun h => by rw [st.own c h] at e; cases e) (fun h => by rw [h, b.own.loc] at e; cases e) (fun x h => by rw [(b.own.cel x c h).1] at e; cases e)
theorem prot_solid {env : Env} {W : Wh} {h : Heap} (f : FrOk env h) (P : WPl W h) {b : Addr} {o : Obj} (s : Solid W h b o) : protK env W h b = some o :=
  prot_some s.at' (fun m => (scr_own (env := env) P m).scr o s) (fun e => (scr_locals (W := W) f).scr o (e ▸ s)) (fun x e => (scr_cell (W := W) f e).scr o s)
theorem Blk.prot {A : Around} {env : Env} {kp : Kp} {av : Addr → Prop} {W : Wh} {s : Shared} (hw : W.av = av) (b : Blk G sc n A env kp av) (st : Std G sc vals μ env kp W s) : Blk G sc n A env (protK env W s.heap) av where
  henv := b.henv
  room := b.room
  own := {
    loc := prot_none (.inr (.inl rfl))
    cel := fun x c e => ⟨prot_none (.inr (.inr ⟨x, e⟩)), (b.own.cel x c e).2⟩
    apart := b.own.apart
    has := b.own.has
    base := fun c o e => prot_sub b st (OkS.g0_notT e) (b.own.base c o e)
    avin := fun a ha => by
      obtain ⟨o, e⟩ := b.own.avin a ha
      obtain ⟨vs, z, e'⟩ := st.mts.2.2.1 a (hw ▸ ha)
      refine ⟨o, prot_sub b st (fun q hq h => ?_) e⟩
      obtain ⟨ps, h1, _⟩ := st.ok.tab q hq
      rw [← h, e'] at h1
      cases h1 }
theorem Std.prot {env : Env} {kp : Kp} {W : Wh} {s : Shared} (st : Std G sc vals μ env kp W s) : Std G sc vals μ env (protK env W s.heap) W s :=
  ⟨st.ok, fun b o _ e => (prot_get e).1, fun a ha => prot_none (.inl ha), st.fr, st.vars, st.mts⟩
/-- back from there -/
theorem Std.unprot {A : Around} {env : Env} {kp : Kp} {av : Addr → Prop} {W W' : Wh} {s s' : Shared} {vals' : List (Option D)} {μ' : List (List D)} (b : Blk G sc n A env kp av) (st : Std G sc vals μ env kp W s) (st' : Std G sc vals' μ' env (protK env W s.heap) W' s') : Std G sc vals' μ' env kp W' s' := by
  refine ⟨st'.ok, fun c o hT e => st'.ext c o hT (prot_sub b st hT e), fun a ha => ?_, st'.fr, st'.vars, st'.mts⟩
  cases e : kp a with
  | none => rfl
  | some o =>
    by_cases hT : ∀ q ∈ G.T, a ≠ q.2
    · have := prot_sub b st hT e
      rw [st'.own a ha] at this; cases this
    · have ⟨q, hq, h⟩ : ∃ q ∈ G.T, a = q.2 := Classical.byContradiction fun x => hT fun q hq h => x ⟨q, hq, h⟩
      obtain ⟨ps, h1, _⟩ := st'.ok.tab q hq
      obtain ⟨vs, m, ho⟩ := st'.mts.pl a (.inr ha)
      rw [h, h1] at ho; cases ho
theorem Is.unprot {env : Env} {kp : Kp} {W W' : Wh} {s s' : Shared} {vals' : List (Option D)} {μ' : List (List D)} (st : Std G sc vals μ env kp W s) (hav : W'.av = W.av) (st' : Std G sc vals' μ' env (protK env W s.heap) W' s')
    {v : Value} {d : D} (i : Is W s.heap v d) (hp : d.pure = true) : Is W' s'.heap v d :=
  i.move st.mts.pl (fun b o so => by
    have e := prot_solid st.fr st.mts.pl so
    refine st'.ext b o (fun q hq h => ?_) e
    obtain ⟨ps, h1, _⟩ := st.ok.tab q hq
    rw [← h, so.at'] at h1
    exact so.tab ps (Option.some.inj h1)) (fun b o so hn hb => by
    rcases hb with hb | hb
    · exact hn (.inl (hav ▸ hb))
    · have e := prot_solid st.fr st.mts.pl so
      rw [st'.own b hb] at e; cases e) (.inl hp)

/-- the object of an iterator -/
noncomputable def ItObj (h : Heap) (I : Addr) : Prop := ∃ o, h.get? I = some o ∧ (∃ c, o.cls = .type c ∧ c ∈ iterTypes) ∧ (∀ es ep, o.data ≠ .dict es ep) ∧ (∀ v, o.data ≠ .cell v)
theorem ItObj.scr {env : Env} {W : Wh} {h : Heap} {I : Addr} (x : ItObj h I) : Scr env W h I := by
  obtain ⟨o, ho, ⟨c, hc, hm⟩, hd, hl⟩ := x
  refine ⟨fun o' s => ?_, o, ho, fun ps e => ?_⟩
  · have := s.at'
    rw [ho] at this; cases this
    rcases s.iter with ⟨es, ep, e⟩ | e
    · exact hd _ _ e
    · exact e c hc hm
  · rw [e] at hc; cases hc
theorem ItObj.ne_locals {env : Env} {h : Heap} {I : Addr} (x : ItObj h I) (f : FrOk env h) : I ≠ env.locals := fun e => by
  obtain ⟨o, ho, _, hd, _⟩ := x
  obtain ⟨m, ⟨o', es, ep, ho', hd', _⟩, _⟩ := f.1
  rw [e, ho'] at ho; cases ho; exact hd _ _ hd'
theorem ItObj.ne_cell {env : Env} {h : Heap} {I : Addr} (x : ItObj h I) (f : FrOk env h) (y : Str) : env.cells.lookup y ≠ some I := fun e => by
  obtain ⟨o, ho, _, _, hd⟩ := x
  obtain ⟨v, o', ho', hd'⟩ := f.2 y I e
  rw [ho'] at ho; cases ho; exact hd _ hd'
theorem ItObj.ne_own {W : Wh} {h : Heap} {I : Addr} (x : ItObj h I) (P : WPl W h) : I ∉ W.w := fun e => by
  obtain ⟨o, ho, ⟨c, hc, hm⟩, _⟩ := x
  obtain ⟨vs, k, ho'⟩ := P I (.inr e)
  rw [ho'] at ho; cases ho; cases hc; revert hm; decide
theorem ItObj.notT {h : Heap} {I : Addr} (x : ItObj h I) (t : TabOk G h) : ∀ q ∈ G.T, I ≠ q.2 := fun q hq e => by
  obtain ⟨o, ho, ⟨c, hc, hm⟩, _⟩ := x
  obtain ⟨ps, h1, _⟩ := t q hq
  rw [← e, ho] at h1; cases h1; cases hc

/-- what an iterator goes over -/
structure ItIs (G : GX) (A : Around) (W : Wh) (s s₂ : Shared) (it : Value) (its : List D) (I : Addr) (fp : List Addr) (P : Nat → Value → Prop) (St : Nat → Heap → Prop) : Prop where
  ref : it = .ref I
  walks : ∀ A' : Around, A'.handled = none → Walks G.prog G.w A' I fp [I] its.length P St
  st : St 0 s₂.heap
  ext : Ext G s s₂
  fresh : s.heap.get? I = none
  obj : ∀ i h, St i h → ItObj h I
  foot : ∀ b ∈ fp, b ≠ I → ∃ o, Solid W s₂.heap b o
  item : ∀ i v, i < its.length → P i v → ∃ d, its[i]? = some d ∧ d.pure = true ∧ Is W s₂.heap v d
noncomputable def IterK (G : GX) (n : Nat) (μ : List (List D)) (d : D) (its : List D) : Prop := ∀ (A : Around) (W : Wh) (s : Shared) (v : Value), A.handled = none → OkS G s → MutOk W μ s.heap → Is W s.heap v d →
  wpAny (model G.prog G.w) A (pyIter v) (fun it s₂ => ∃ I fp P St, ItIs G A W s s₂ it its I fp P St) No s

theorem get_pure : ∀ {ds : List D} {i : Nat} {d : D}, pureL ds = true → ds[i]? = some d → d.pure = true
  | [], _, _, _, e => by simp at e
  | a :: r, 0, d, h, e => by
    unfold pureL at h; rw [Bool.and_eq_true] at h; simp at e; exact e ▸ h.1
  | a :: r, i + 1, d, h, e => by
    unfold pureL at h; rw [Bool.and_eq_true] at h; exact get_pure h.2 (by simpa using e)
theorem IsL.get' {W : Wh} {h : Heap} {vs : List Value} {ds : List D} (x : IsL W h vs ds) {i : Nat} {v : Value} (hv : vs[i]? = some v) : ∃ d, ds[i]? = some d ∧ Is W h v d := by
  have hi : i < vs.length := (List.getElem?_eq_some_iff.mp hv).1
  have hj : i < ds.length := x.length ▸ hi
  obtain ⟨v', h1, h2⟩ := x.get (List.getElem?_eq_getElem hj)
  rw [hv] at h1; cases h1
  exact ⟨_, List.getElem?_eq_getElem hj, h2⟩
theorem push_ext {s : Shared} (ok : OkS G s) (o : Obj) : Ext G s { s with heap := s.heap.push o } := Ext.of_keep (tk := s.toks) ok fun b x e => Heap.get?_push_of_some _ e
theorem Iter_lst {ds : List D} (hp : pureL ds = true) : IterK G n μ (.lst ds) ds := fun A W s v hr ok hm i => by
  cases i with | lst hn hl hs =>
  rename_i a vs
  have hne : a ≠ s.heap.objs.size := by obtain ⟨o, ho⟩ := hl; exact Nat.ne_of_lt (Heap.lt_size ho)
  have e1 := push_ext ok { cls := .type "list_iterator", data := .fields #[.ref a, .int 0 0] }
  have hl0 := plain_isList hl
  have hl' := list_ext ok.tab e1.keep hl0
  refine wpAny_pyIter_list (plain_isList hl) ?_
  refine ⟨s.heap.objs.size, [s.heap.objs.size, a], (fun i v => vs.toArray[i]? = some v), (fun i h => h.IsListIter s.heap.objs.size a i ∧ h.IsList a vs.toArray), rfl, fun A' hA => ?_, ⟨⟨_, Heap.get?_push_size _ rfl, rfl, rfl⟩, hl'⟩, e1, ?_, ?_, ?_, ?_⟩
  · have := Walks.list (prog := G.prog) (w := G.w) hA s.heap.objs.size a hne vs.toArray
    rw [show vs.toArray.size = ds.length by rw [List.size_toArray, hs.length]] at this
    exact this
  · cases e : s.heap.get? s.heap.objs.size with
    | none => rfl
    | some o => exact absurd (Heap.lt_size e) (Nat.lt_irrefl _)
  · rintro i h ⟨⟨o, ho, hc, hd⟩, _⟩
    exact ⟨o, ho, ⟨_, hc, by decide⟩, (fun es ep e => by rw [hd] at e; cases e), fun v e => by rw [hd] at e; cases e⟩
  · intro b hb hbI
    simp only [List.mem_cons, List.not_mem_nil, or_false] at hb
    rcases hb with hb | hb
    · exact absurd hb hbI
    · subst hb
      obtain ⟨o, so, _⟩ := solid_list (W := W) hn hl'
      exact ⟨o, so⟩
  · intro i v _ hv
    obtain ⟨d, h1, h2⟩ := (hs.ext ok.tab e1.keep).get' (by simpa using hv)
    exact ⟨d, h1, get_pure hp h1, h2⟩
theorem Iter_str {x : List Nat} : IterK G n μ (.str x) (x.map fun c => .str [c]) := fun A W s v hr ok hm i => by
  cases i with | str _ t =>
  have sz : (S x).cps.size = (x.map fun c => D.str [c]).length := by simp [S]
  have item : ∀ (o : Obj) i v, i < (x.map fun c => D.str [c]).length → SignAt (S x) i v → ∃ d, (x.map fun c => D.str [c])[i]? = some d ∧ d.pure = true ∧ Is W (s.heap.push o) v d := by
    rintro o i v _ ⟨c, u, hc, rfl⟩
    refine ⟨.str [c], ?_, rfl, .str [c] u⟩
    have : x[i]? = some c := by simpa [S] using hc
    rw [List.getElem?_map, this]; rfl
  have fresh : s.heap.get? s.heap.objs.size = none := by
    cases e : s.heap.get? s.heap.objs.size with
    | none => rfl
    | some o => exact absurd (Heap.lt_size e) (Nat.lt_irrefl _)
  cases ha : (S x).cps.all (· < 128) with
  | false =>
    refine wpAny_pyIter_wide ha ?_
    refine ⟨_, [s.heap.objs.size], SignAt (S x), (fun i h => h.IsStrIter s.heap.objs.size "str_iterator" (S x) t i), rfl, fun A' hA => ?_, ⟨_, Heap.get?_push_size _ rfl, rfl, rfl⟩, push_ext ok _, fresh, ?_, fun b hb hne => absurd (List.mem_singleton.mp hb) hne, item _⟩
    · have := Walks.strWide (prog := G.prog) (w := G.w) hA s.heap.objs.size (S x) t
      rw [sz] at this; exact this
    · rintro i h ⟨o, ho, hc, hd⟩
      exact ⟨o, ho, ⟨_, hc, by decide⟩, (fun es ep e => by rw [hd] at e; cases e), fun v e => by rw [hd] at e; cases e⟩
  | true =>
    refine wpAny_pyIter_ascii ha ?_
    refine ⟨_, [s.heap.objs.size], SignAt (S x), (fun i h => h.IsStrIter s.heap.objs.size "str_ascii_iterator" (S x) t i), rfl, fun A' hA => ?_, ⟨_, Heap.get?_push_size _ rfl, rfl, rfl⟩, push_ext ok _, fresh, ?_, fun b hb hne => absurd (List.mem_singleton.mp hb) hne, item _⟩
    · have := Walks.strAscii (prog := G.prog) (w := G.w) hA s.heap.objs.size (S x) t
      rw [sz] at this; exact this
    · rintro i h ⟨o, ho, hc, hd⟩
      exact ⟨o, ho, ⟨_, hc, by decide⟩, (fun es ep e => by rw [hd] at e; cases e), fun v e => by rw [hd] at e; cases e⟩
noncomputable def rngL (a c : Int) (m : Nat) : List D := (List.range m).map fun (i : Nat) => D.int (a + (i : Int) * c)
theorem Iter_rng {a b c : Int} {m : Nat} (hm : Builtin.Range.rangeSize a b c = (m : Int)) (hsm : Builtin.Range.small a b c = true) : IterK G n μ (.rng a b c) (rngL a c m) := fun A W s v hr ok hmu i => by
  cases i with | rng hrg =>
  have fresh : s.heap.get? s.heap.objs.size = none := by
    cases e : s.heap.get? s.heap.objs.size with
    | none => rfl
    | some o => exact absurd (Heap.lt_size e) (Nat.lt_irrefl _)
  refine wpAny_pyIter_range hrg hsm ?_
  refine ⟨_, [s.heap.objs.size], (fun i v => ∃ t, v = .int (a + i * c) t), (fun i h => IsRangeIter h s.heap.objs.size (a + (i : Nat) * c) ((m : Int) - (i : Nat)) c), rfl, fun A' hA => ?_, ?_, push_ext ok _, fresh, ?_, fun b hb hne => absurd (List.mem_singleton.mp hb) hne, ?_⟩
  · have := Walks.range (prog := G.prog) (w := G.w) hA s.heap.objs.size a c m
    rw [show (rngL a c m).length = m by simp [rngL]]
    exact this
  · show IsRangeIter _ _ _ _ _
    rw [hm]; simpa using Heap.get?_push_size _ rfl
  · intro i h ho
    exact ⟨_, ho, ⟨_, rfl, by decide⟩, (fun es ep e => by cases e), fun v e => by cases e⟩
  · rintro i v hi ⟨t, rfl⟩
    refine ⟨.int (a + i * c), ?_, rfl, .int _ _⟩
    have hi' : i < m := by simpa [rngL] using hi
    unfold rngL
    rw [List.getElem?_map, List.getElem?_range hi']; rfl

/-- an iterator's own step leaves the block's ground as it was -/
theorem Std.updIt {A : Around} {env : Env} {kp : Kp} {av : Addr → Prop} {W : Wh} {s : Shared} {I : Addr} {h' : Heap} {tk : Nat} (b : Blk G sc n A env kp av) (st : Std G sc vals μ env kp W s) (x : ItObj s.heap I) (hk : kp I = none)
    (hav : ¬ av I) (hw : W.av = av) (keep : ∀ b o, b ≠ I → s.heap.get? b = some o → h'.get? b = some o) :
    Std G sc vals μ env kp W { s with heap := h', toks := tk } ∧ ∀ u e, Is W s.heap u e → Is W h' u e := by
  have sL := x.scr (env := env) (W := W)
  have mv : ∀ u e, Is W s.heap u e → Is W h' u e := fun u e i => i.upd st.mts.pl sL keep
  have hloc := x.ne_locals st.fr
  have hcel := x.ne_cell st.fr
  have hown := x.ne_own st.mts.pl
  have at' : ∀ {c : Addr}, c ≠ I → ∀ o, s.heap.get? c = some o → h'.get? c = some o := fun h o e => keep _ o h e
  refine ⟨⟨ok_upd (k := kp) st.ok sL (b.own.g0 hk) keep, fun c o hT hc => keep c o (fun e => by rw [e, hk] at hc; cases hc) (st.ext c o hT hc), st.own,
    ⟨let ⟨m, x, e⟩ := st.fr.1; ⟨m, x.at' (at' (Ne.symm hloc)), e⟩, fun y c e => let ⟨v, o, ho, hd⟩ := st.fr.2 y c e; ⟨v, o, keep c o (fun h => hcel y (h ▸ e)) ho, hd⟩⟩, fun j x kd d h1 h2 => ?_, st.mts.1, st.mts.2.1, fun c hc => ?_, fun j c ds' e1 e2 => ?_⟩, mv⟩
  · obtain ⟨v, p, q⟩ := st.vars j x kd d h1 h2
    refine ⟨v, ?_, mv _ _ q⟩
    cases kd <;> first
      | exact p.elim
      | (obtain ⟨m, x, e⟩ := p; exact ⟨m, x.at' (at' (Ne.symm hloc)), e⟩)
      | (obtain ⟨c, x, o, ho, hd⟩ := p; exact ⟨c, x, o, keep c o (fun h => hcel _ (h ▸ x)) ho, hd⟩)
      | (obtain ⟨z, c, x, o, ho, hd⟩ := p; exact ⟨z, c, x, o, keep c o (fun h => hcel _ (h ▸ x)) ho, hd⟩)
  · obtain ⟨vs, z, h1⟩ := st.mts.2.2.1 c hc
    exact ⟨vs, z, keep c _ (fun e => hav (hw ▸ e ▸ hc)) h1⟩
  · obtain ⟨us, p, q⟩ := st.mts.2.2.2 j c ds' e1 e2
    exact ⟨us, let ⟨m, ho⟩ := p; ⟨m, keep _ _ (fun h => hown (h ▸ List.mem_of_getElem? e1)) ho⟩, q.mapI mv⟩

theorem not_owner {c : String} (h : c ∈ iterTypes) : ["enumerate", "zip", "dict_itemiterator", "dict_reverseitemiterator", "odict_iterator", "itertools.zip_longest", "itertools.pairwise"].contains c = false := by
  have : ∀ c ∈ iterTypes, ["enumerate", "zip", "dict_itemiterator", "dict_reverseitemiterator", "odict_iterator", "itertools.zip_longest", "itertools.pairwise"].contains c = false := by decide
  exact this c h
theorem owned_step {A : Around} {s : Shared} {J : Addr} {t : Expr} {v : Value} {Q : Unit → Shared → Prop} {E : Value → Shared → Prop} (x : ItObj s.heap J) (hQ : Q () s) : wpAny (model G.prog G.w) A (letOwnedTupleGo t (.ref J) v) Q E s := by
  obtain ⟨o, ho, ⟨c, hc, hm⟩, _⟩ := x
  have core : ∀ a : Addr, wpAny (model G.prog G.w) A (do
      let o ← load J
      match o.cls, o.data with
      | .type n, .fields vs =>
        if ["enumerate", "zip", "dict_itemiterator", "dict_reverseitemiterator", "odict_iterator", "itertools.zip_longest", "itertools.pairwise"].contains n && vs[0]? == some (rawInt a) then do
          rule "for.unpacks-the-owned-tuple"
          updateField J 0 .none
        else pure ()
      | _, _ => pure ()) Q E s := fun a => by
    refine wpAny_bind (wpAny_load ho ?_)
    rw [hc]
    generalize o.data = dd
    cases dd with
    | fields vs =>
      show wpAny _ _ (if (List.contains _ c && _) = true then _ else _) _ _ _
      rw [not_owner hm]
      exact wpAny_pure hQ
    | _ => exact wpAny_pure hQ
  cases t with
  | Tuple => cases v with
    | ref a => exact core a
    | _ => exact wpAny_pure hQ
  | List => cases v with
    | ref a => exact core a
    | _ => exact wpAny_pure hQ
  | _ => exact wpAny_pure hQ

inductive FB (G : GX) (sc : Scope) (env : Env) (kp : Kp) (av : Addr → Prop) (s : Shared) (its : List D) (St : Nat → Heap → Prop) (P : Nat → Value → Prop) (fp : List Addr) (J : Addr) (i : Nat) (v : List (Option D)) (mu : List (List D)) (s' : Shared) : Prop
  | mk (W' : Wh) (hw : W'.av = av) (ho : s'.os = s.os) (st : Std G sc v mu env kp W' s') (hst : St i s'.heap) (hf : ∀ b ∈ fp, b ≠ J → ∃ o, Solid W' s'.heap b o) (hi : ∀ i v, i < its.length → P i v → ∃ d, its[i]? = some d ∧ d.pure = true ∧ Is W' s'.heap v d)
inductive FJ (G : GX) (sc : Scope) (env : Env) (kp : Kp) (av : Addr → Prop) (s : Shared) (its : List D) (I : Nat → List (Option D) → List (List D) → Prop) (St : Nat → Heap → Prop) (P : Nat → Value → Prop) (fp : List Addr) (J : Addr) (m : Nat) (s' : Shared) : Prop
  | mk (i : Nat) (v : List (Option D)) (mu : List (List D)) (hm : m = its.length + 1 - i) (hi : i ≤ its.length) (hI : I i v mu) (fb : FB G sc env kp av s its St P fp J i v mu s')
theorem For_at {t iter : Expr} {body : List Stmt} {pos : Pos} {A : Around} {env : Env} {kp : Kp} {av : Addr → Prop} {W : Wh} {s : Shared} (b : Blk G sc n A env kp av) (hw : W.av = av) (st : Std G sc vals μ env kp W s)
    (h : wpAny (model G.prog G.w) A (eval iter env) (fun x s₁ => ∃ d, (∃ its, IterK G n μ d its ∧ ∃ I : Nat → List (Option D) → List (List D) → Prop, I 0 vals μ ∧ (∀ v m, I its.length v m → K (.next v m)) ∧
      ∀ i d v m, its[i]? = some d → I i v m → AsK G sc n v m t d fun v' => ExK G sc n v' m body fun o => match o with
        | .next v m => I (i + 1) v m | .cont v m => I (i + 1) v m | .brk v m => K (.next v m) | .ret d => K (.ret d)) ∧ Ext G s s₁ ∧ Is W s₁.heap x d) No s)
    (hs : ∀ env x, foldedSetIterable iter env x = pure x) : wpAny (model G.prog G.w) A (exec (.For t iter body [] pos) env) (Post G sc env kp av s.os K) No s := by
  refine wpAny_For (wpAny_mono h (fun x s₁ hx => ?_) fun _ _ y => y) (hs env)
  obtain ⟨d, ⟨its, hit, I, hI0, hIend, turn⟩, e1, i1⟩ := hx
  have st1 := st.step e1
  refine wpAny_mono (hit A W s₁ x b.room.hd e1.ok st1.mts i1) (fun it s₂ hx => ?_) fun _ _ y => y.elim
  obtain ⟨J, fp, P, St, q⟩ := hx
  have st2 := st1.step q.ext
  have eo2 : s₂.os = s.os := q.ext.os.trans e1.os
  obtain ⟨hit', hwk, hst0, hex, hfresh, hobj, hfoot, hitem⟩ := q
  subst hit'
  have hkJ : kp J = none := by
    cases e : kp J with
    | none => rfl
    | some o =>
      by_cases hT : ∀ q ∈ G.T, J ≠ q.2
      · have := st1.ext J o hT e
        rw [hfresh] at this; cases this
      · exact absurd ((hobj 0 s₂.heap hst0).notT st2.ok.tab) hT
  have hav : ¬ av J := fun ha => by
    obtain ⟨vs, z, e⟩ := st1.mts.2.2.1 J (hw ▸ ha)
    rw [hfresh] at e; cases e
  refine codeAny_forLoop_any (FJ G sc env kp av s its I St P fp J) (fun m s' hJ => ?_) (its.length + 1) (.mk 0 vals μ (by lia) (Nat.zero_le _) hI0 (.mk W hw eo2 st2 hst0 hfoot hitem))
  obtain ⟨i, v, mu, hm, hile, hI, W', hw', ho', st', hst', hfoot', hitem'⟩ := hJ
  have hx := hobj i _ hst'
  rcases Nat.lt_or_ge i its.length with hlt | hge
  · refine (hwk A b.room.hd).item i s' _ _ hlt hst' fun y h' tk hP hst'' hk => ?_
    have hkeep : ∀ b o, b ≠ J → s'.heap.get? b = some o → h'.get? b = some o := fun b o hb e => hk b o (fun hm => hb (List.mem_singleton.mp hm)) e
    have hx' := hobj (i + 1) _ hst''
    obtain ⟨st3, mv⟩ := st'.updIt (tk := tk) b hx hkJ hav hw' hkeep
    obtain ⟨d, hd, hpd, id⟩ := hitem' i y hlt hP
    have b' := b.prot hw' st3
    refine owned_step hx' ?_
    refine wpAny_noted0 (env := env) (wpAny_mono (turn i d v mu hd hI A env _ av W' { s' with heap := h', toks := tk } y b' hw' st3.prot (mv _ _ id)) (fun _ s₄ hx => ?_) fun _ _ y => y)
    obtain ⟨v', hbody, ho4, st4⟩ := hx
    refine wpAny_noted0 (env := env) (wpAny_mono (hbody A env _ av s₄ b' ⟨W', hw', rfl, st4⟩) (fun f s₅ p => ?_) fun _ _ y => y)
    have eo4 : s₄.os = s.os := ho4.trans ho'
    have back : ∀ {v'' mu''}, At G sc env (protK env W' h') av s₅ s₄.os v'' mu'' → FB G sc env kp av s its St P fp J (i + 1) v'' mu'' s₅ := fun {v'' mu''} at5 => by
      obtain ⟨W5, hw5, ho5, st5⟩ := at5
      have hexJ : ∀ c o, c ∉ W'.w → c ≠ env.locals → (∀ x, env.cells.lookup x ≠ some c) → (∀ q ∈ G.T, c ≠ q.2) → h'.get? c = some o → s₅.heap.get? c = some o := fun c o h1 h2 h3 h4 e => st5.ext c o h4 (prot_some e h1 h2 h3)
      have hsol : ∀ c o, Solid W' h' c o → s₅.heap.get? c = some o ∧ c ∉ W5.w := fun c o so => by
        have e := prot_solid st3.fr st3.mts.pl so
        refine ⟨st5.ext c o (fun q hq h => ?_) e, fun hm => by rw [st5.own c hm] at e; cases e⟩
        obtain ⟨ps, h1, _⟩ := st3.ok.tab q hq
        rw [← h, so.at'] at h1
        exact so.tab ps (Option.some.inj h1)
      have hfoot3 : ∀ b ∈ fp, b ≠ J → ∃ o, Solid W' h' b o := fun c hc hne => let ⟨o, so⟩ := hfoot' c hc hne; ⟨o, ⟨hkeep c o hne so.at', so.tab, so.own, so.cell, so.dict, so.iter⟩⟩
      refine ⟨W5, hw5, ho5.trans eo4, Std.unprot b st3 st5, (hwk A b.room.hd).frame _ _ _ hst'' fun c hc o e => ?_, fun c hc hne => ?_, fun j u hj hu => ?_⟩
      · by_cases hcJ : c = J
        · subst hcJ
          exact hexJ c o (hx'.ne_own st3.mts.pl) (hx'.ne_locals st3.fr) (hx'.ne_cell st3.fr) (hx'.notT st3.ok.tab) e
        · obtain ⟨o', so⟩ := hfoot3 c hc hcJ
          have := so.at'
          rw [e] at this; cases this
          exact (hsol c o so).1
      · obtain ⟨o, so⟩ := hfoot3 c hc hne
        exact ⟨o, (hsol c o so).1, so.tab, (fun hm => hm.elim (fun q => so.own (.inl (by rw [hw', ← hw5]; exact q))) fun q => absurd q (hsol c o so).2), so.cell, so.dict, so.iter⟩
      · obtain ⟨d, h1, h2, h3⟩ := hitem' j u hj hu
        exact ⟨d, h1, h2, Is.unprot (s := { s' with heap := h', toks := tk }) st3 (hw5.trans hw'.symm) st5 (mv _ _ h3) h2⟩
    cases f with
    | next =>
      obtain ⟨v5, m5, hK5, a5⟩ := p
      exact ⟨its.length + 1 - (i + 1), by lia, .mk (i + 1) v5 m5 rfl hlt hK5 (back a5)⟩
    | cont =>
      obtain ⟨v5, m5, hK5, a5⟩ := p
      exact ⟨its.length + 1 - (i + 1), by lia, .mk (i + 1) v5 m5 rfl hlt hK5 (back a5)⟩
    | brk =>
      obtain ⟨v5, m5, hK5, a5⟩ := p
      obtain ⟨W5, hw5, ho5, st5, _⟩ := back a5
      exact ⟨v5, m5, hK5, W5, hw5, ho5, st5⟩
    | ret u =>
      obtain ⟨d5, hK5, ok5, ex5, ho5, i5⟩ := p
      exact ⟨d5, hK5, ok5, fun c o hT e => ex5 c o hT (prot_sub b st3 hT e), ho5.trans eo4, i5⟩
  · have hie : i = its.length := by lia
    subst hie
    refine (hwk A b.room.hd).done s' _ _ hst' fun h' tk hk => ?_
    obtain ⟨st3, _⟩ := st'.updIt (h' := h') (tk := tk) b hx hkJ hav hw' fun b o hb e => hk b o (fun hm => hb (List.mem_singleton.mp hm)) e
    exact wpAny_execs_nil ⟨v, mu, hIend v mu hI, W', hw', ho', st3⟩
theorem Ex_for {t iter : Expr} {body : List Stmt} {pos : Pos}
    (h : EvK G sc n vals μ iter fun d => ∃ its, IterK G n μ d its ∧ ∃ I : Nat → List (Option D) → List (List D) → Prop, I 0 vals μ ∧ (∀ v m, I its.length v m → K (.next v m)) ∧
      ∀ i d v m, its[i]? = some d → I i v m → AsK G sc n v m t d fun v' => ExK G sc n v' m body fun o => match o with
        | .next v m => I (i + 1) v m | .cont v m => I (i + 1) v m | .brk v m => K (.next v m) | .ret d => K (.ret d))
    (hs : ∀ env x, foldedSetIterable iter env x = pure x) :
    ExS G sc n vals μ (.For t iter body [] pos) K := fun A env kp av s b ⟨W, hw, _, st⟩ =>
  For_at b hw st (h.use (st.ok5 b) fun x s₁ d hd e1 i1 => ⟨d, hd, e1, i1⟩) hs
end
section
open PySem PySem.W PyProof.Rows
set_option maxRecDepth 100000
set_option linter.unusedVariables false
set_option linter.unusedSimpArgs false
open PySem.Calls
variable {G : GX} {sc : Scope} {n : Nat} {vals : List (Option D)} {μ : List (List D)} {K : D → Prop}

theorem bindL_other (k : Str → Option NameKind) (bs : List (Str × Value)) : ∀ (m : Str → Option Value) (x : Str), (∀ p ∈ bs, p.1 ≠ x) → bindL k bs m x = m x := by
  induction bs with
  | nil => exact fun _ _ _ => rfl
  | cons p r ih =>
    intro m x h
    obtain ⟨y, v⟩ := p
    have hy : (if x = y then some v else m x) = m x := if_neg fun e => h (y, v) List.mem_cons_self e.symm
    refine (ih _ x fun p hp => h p (List.mem_cons_of_mem _ hp)).trans ?_
    by_cases hk : k y = some .local
    · rw [if_pos hk]; exact hy
    · rw [if_neg hk]
theorem bindL_get (k : Str → Option NameKind) (bs : List (Str × Value)) : ∀ (m : Str → Option Value) (x : Str) (v : Value), (bs.map (·.1)).Nodup → (x, v) ∈ bs → k x = some .local → bindL k bs m x = some v := by
  induction bs with
  | nil => exact fun _ _ _ _ hm _ => absurd hm List.not_mem_nil
  | cons p r ih =>
    intro m x v hn hm hk
    obtain ⟨y, u⟩ := p
    rw [List.map_cons, List.nodup_cons] at hn
    rcases List.mem_cons.mp hm with e | e
    · cases e
      refine (bindL_other k r _ x (fun p hp e => hn.1 (List.mem_map.mpr ⟨p, hp, e⟩))).trans ?_
      rw [if_pos hk]
      exact if_pos rfl
    · exact ih _ x v hn.2 e hk
theorem bindC_other (k : Str → Option NameKind) (bs : List (Str × Value)) : ∀ (m : Str → Option Value) (x : Str), (∀ p ∈ bs, p.1 ≠ x) → bindC k bs m x = m x := by
  induction bs with
  | nil => exact fun _ _ _ => rfl
  | cons p r ih =>
    intro m x h
    obtain ⟨y, v⟩ := p
    have hy : (if x = y then some v else m x) = m x := if_neg fun e => h (y, v) List.mem_cons_self e.symm
    refine (ih _ x fun p hp => h p (List.mem_cons_of_mem _ hp)).trans ?_
    by_cases hk : k y = some .local
    · rw [if_pos hk]
    · rw [if_neg hk]; exact hy
theorem bindC_get (k : Str → Option NameKind) (bs : List (Str × Value)) : ∀ (m : Str → Option Value) (x : Str) (v : Value), (bs.map (·.1)).Nodup → (x, v) ∈ bs → k x ≠ some .local → bindC k bs m x = some v := by
  induction bs with
  | nil => exact fun _ _ _ _ hm _ => absurd hm List.not_mem_nil
  | cons p r ih =>
    intro m x v hn hm hk
    obtain ⟨y, u⟩ := p
    rw [List.map_cons, List.nodup_cons] at hn
    rcases List.mem_cons.mp hm with e | e
    · cases e
      refine (bindC_other k r _ x (fun p hp e => hn.1 (List.mem_map.mpr ⟨p, hp, e⟩))).trans ?_
      rw [if_neg hk]
      exact if_pos rfl
    · exact ih _ x v hn.2 e hk
theorem cells_has : ∀ (names : List (Str × NameKind)) (m : Nat) (acc : List (Str × Addr)) (x : Str), ((x, NameKind.cell) ∈ names ∨ ∃ c, acc.lookup x = some c) → ∃ c, (cellsFrom m names acc).lookup x = some c
  | [], m, acc, x, h => h.elim (fun h => absurd h List.not_mem_nil) id
  | (y, k) :: r, m, acc, x, h => by
    have look : ∀ a : Addr, (x = y ∨ ∃ c, acc.lookup x = some c) → ∃ c, ((y, a) :: acc).lookup x = some c := fun a h => by
      rw [List.lookup_cons]
      cases e : x == y with
      | true => exact ⟨_, rfl⟩
      | false =>
        rcases h with h | h
        · rw [h] at e; simp at e
        · exact h
    unfold cellsFrom
    split
    · rename_i hk
      refine cells_has r _ _ x ?_
      rcases h with h | h
      · rcases List.mem_cons.mp h with e | e
        · cases e; exact .inr (look _ (.inl rfl))
        · exact .inl e
      · exact .inr (look _ (.inr h))
    · rename_i hk
      refine cells_has r _ _ x ?_
      rcases h with h | h
      · rcases List.mem_cons.mp h with e | e
        · cases e; exact absurd rfl hk
        · exact .inl e
      · exact .inr h

structure FnAt (G : GX) (a : Addr) (ps : List Str) (sc : Scope) (body : List Stmt) : Prop where
  ex : ∃ o fd, G.g0.get? a = some o ∧ o.data = .func fd ∧ fd.body = .stmts body ∧ fd.scope = sc ∧ fd.globals = mainGlobals ∧ fd.builtins = builtinsNs ∧ fd.closure = [] ∧ G.g0.CodeRec fd.code fd.qualname ∧
    (∀ c, codeOf sc = some c → fd.code = .ref c) ∧ ∀ vs, vs.length = ps.length → bindArgs fd ⟨vs, []⟩ = pure (ps.zip vs)
  kind : sc.kind = .function
  co : sc.isCoroutine = false
  gen : sc.isGenerator = false
  nodup : (sc.names.map (·.1)).Nodup
  nonorm : ∀ p ∈ sc.names, p.1 ≠ "norm"
  par : (sc.names.take ps.length).map (·.1) = ps
  lc : ∀ p ∈ sc.names.take ps.length, LC p.2
noncomputable def vals0 (sc : Scope) (ds : List D) : List (Option D) := ds.map some ++ List.replicate (sc.names.length - ds.length) none

theorem lookup_at {l : List (Str × NameKind)} (hd : (l.map (·.1)).Nodup) {k : Nat} {x : Str} {kd : NameKind} (hn : l[k]? = some (x, kd)) : l.lookup x = some kd := by
  induction l generalizing k with
  | nil => simp at hn
  | cons p r ih =>
    obtain ⟨y, ky⟩ := p
    rw [List.map_cons, List.nodup_cons] at hd
    cases k with
    | zero =>
      simp only [List.getElem?_cons_zero, Option.some.injEq, Prod.mk.injEq] at hn
      rw [List.lookup_cons, hn.1]; simp [hn.2]
    | succ k =>
      simp only [List.getElem?_cons_succ] at hn
      have hm : x ∈ r.map (·.1) := List.mem_map.mpr ⟨_, List.mem_of_getElem? hn, rfl⟩
      have hne : (x == y) = false := beq_eq_false_iff_ne.mpr fun e => hd.1 (e ▸ hm)
      rw [List.lookup_cons, hne]
      exact ih hd.2 hn

theorem FnAt.go {a : Addr} {ps : List Str} {body : List Stmt} (F : FnAt G a ps sc body) {ds : List D} (hl : ds.length = ps.length) (hp : pureL ds = true) {A : Around} {W : Wh} {s : Shared} {vs : List Value} (hr : Room (n + 1) A) (ok : OkS G s) (hm : MutOk W μ s.heap)
    (hi : IsL W s.heap vs ds) (kp : Kp) (hs : ∀ c o, kp c = some o → s.heap.get? c = some o) (hbs : ∀ c o, G.g0.get? c = some o → kp c = some o) (hav : AvIn kp W.has) {R : Result → Shared → Prop}
    (h : ∀ (A' : Around) (env : Env) (h₁ : Heap) (tk : Nat), Blk G sc n A' env kp W.has → At G sc env kp W.has { s with heap := h₁, toks := tk } s.os (vals0 sc ds) [] → (∀ c o, s.heap.get? c = some o → h₁.get? c = some o) →
      s.heap.get? env.locals = none → (∀ x c, env.cells.lookup x = some c → s.heap.get? c = none) →
      wpAny (model G.prog G.w) A' (execs body env) (fun f s' => R (.ok (.ret (match f with | .ret v => v | _ => .none))) s') No { s with heap := h₁, toks := tk }) : codeAny (model G.prog G.w) A (.call (.ref a) ⟨vs, []⟩) R s := by
  obtain ⟨o, fd, ho, hd, hb, hsc, hg, hbl, hcl, hcr, hcode, hbind⟩ := F.ex
  subst hsc
  have hvl : vs.length = ps.length := hi.length.trans hl
  have hpl : ps.length ≤ fd.scope.names.length := by
    have := congrArg List.length F.par
    rw [List.length_map, List.length_take] at this
    lia
  have hzip : (ps.zip vs).map (·.1) = ps := by rw [List.map_fst_zip]; lia
  have hpn : ((ps.zip vs).map (·.1)).Nodup := by
    rw [hzip]
    rw [← F.par]
    exact (List.Sublist.nodup ((List.take_sublist _ _).map _) F.nodup)
  have at' : ∀ (j : Nat) x, ps[j]? = some x → ∃ kd, fd.scope.names[j]? = some (x, kd) ∧ LC kd := fun j x hj => by
    have hjl := (List.getElem?_eq_some_iff.mp hj).1
    have e : ((fd.scope.names.take ps.length).map (·.1))[j]? = some x := by rw [F.par]; exact hj
    rw [List.getElem?_map, List.getElem?_take, if_pos hjl] at e
    cases hq : fd.scope.names[j]? with
    | none => rw [hq] at e; cases e
    | some p =>
      rw [hq] at e
      obtain ⟨y, kd⟩ := p
      cases e
      refine ⟨kd, rfl, F.lc (y, kd) ?_⟩
      rw [List.mem_iff_getElem?]
      exact ⟨j, by rw [List.getElem?_take, if_pos hjl]; exact hq⟩
  have cellAt : ∀ (i : Nat) x, fd.scope.names[i]? = some (x, .cell) → ∃ c, (cellsFrom (s.heap.objs.size + 1) fd.scope.names []).lookup x = some c := fun i x e =>
    cells_has _ _ _ x (.inl (List.mem_of_getElem? e))
  refine codeAny_call_cells (by have := hr.dp; lia) (ok.base a o ho) hd ?_ ?_ hb (hbind vs hvl) hcl ?_ (fun s₁ X => ?_) F.co F.gen F.kind
  · exact G.nolimit.keeps ok.base
  · exact hcr.keeps ok.base
  · intro x hx
    obtain ⟨j, hj, e⟩ := List.mem_iff_getElem.mp hx
    have hjp : ps[j]? = some x.1 := by
      have : (ps.zip vs)[j]? = some x := by rw [List.getElem?_eq_getElem hj, e]
      have := congrArg (Option.map (·.1)) this
      rwa [← List.getElem?_map, hzip] at this
    obtain ⟨kd, hn, hlc⟩ := at' j x.1 hjp
    rcases hlc with rfl | rfl
    · exact .inl (lookup_at F.nodup hn)
    · obtain ⟨c, hc⟩ := cellAt j x.1 hn
      exact .inr ⟨lookup_at F.nodup hn, by rw [hc]; rfl⟩
  · have fresh : ∀ c, s.heap.objs.size ≤ c → s.heap.get? c = none := fun c hc => by
      cases e : s.heap.get? c with
      | none => rfl
      | some o' => exact absurd (Heap.lt_size e) (Nat.not_lt.mpr hc)
    have hroom : Room n (A.deeper (callEnvC fd s.heap.objs.size a)) := ⟨hr.hd, by have := hr.dp; show A.depth + 1 + n < _; lia, by have := hr.un; show A.units + 3 + 8 * n + 40 < _; lia⟩
    have hk : ∀ (j : Nat) x kd, fd.scope.names[j]? = some (x, kd) → (callEnvC fd s.heap.objs.size a).kindOf x = some kd := fun j x kd e => lookup_at F.nodup e
    have kn : ∀ c, s.heap.objs.size ≤ c → kp c = none := fun c hc => by
      cases e : kp c with
      | none => rfl
      | some o' => exact absurd (hs c o' e) (by rw [fresh c hc]; exact fun e => nomatch e)
    have b : Blk G fd.scope n (A.deeper (callEnvC fd s.heap.objs.size a)) (callEnvC fd s.heap.objs.size a) kp W.has := {
      henv := ⟨rfl, F.kind, hg, hbl, F.nodup, F.nonorm, hcode⟩
      room := hroom
      own := {
        loc := kn _ (Nat.le_refl _)
        cel := fun x c e => ⟨kn c (Nat.le_of_lt (X.above x c (mem_of_lookup e))), Nat.ne_of_gt (X.above x c (mem_of_lookup e))⟩
        apart := fun x y c e1 e2 => name_of_addr X.apart (mem_of_lookup e1) (mem_of_lookup e2)
        has := cellAt
        base := hbs
        avin := hav } }
    obtain ⟨h₁, tk, rfl⟩ := X.toInCall.same
    have keep : ∀ c o, s.heap.get? c = some o → h₁.get? c = some o := X.toInCall.keep
    have ex : Ext G s { s with heap := h₁, toks := tk } := Ext.of_keep ok keep
    have bindAt : ∀ (j : Nat) x v, ps[j]? = some x → vs[j]? = some v → (x, v) ∈ ps.zip vs := fun j x v h1 h2 => List.mem_of_getElem? (i := j) (by rw [List.getElem?_zip_eq_some]; exact ⟨h1, h2⟩)
    have a0 : At G fd.scope (callEnvC fd s.heap.objs.size a) kp W.has { s with heap := h₁, toks := tk } s.os (vals0 fd.scope ds) [] := by
      refine ⟨⟨W.has, []⟩, rfl, rfl, ex.ok, fun c o _ e => keep c o (hs c o e), fun c hc => absurd hc List.not_mem_nil, ⟨⟨_, X.toInCall.ns, ?_⟩, fun x c e => ⟨_, X.cell x c e⟩⟩, fun j x kd d h1 h2 => ?_, rfl, List.nodup_nil, fun c hc => ?_, fun i c ds e => by simp at e⟩
      · rw [bindL_other]
        intro p hp e
        have : p.1 ∈ ps := by rw [← hzip]; exact List.mem_map.mpr ⟨p, hp, rfl⟩
        rw [← F.par] at this
        obtain ⟨q, hq, e'⟩ := List.mem_map.mp this
        exact F.nonorm q (List.mem_of_mem_take hq) (e'.trans e)
      · unfold vals0 at h2
        by_cases hj : j < ds.length
        · rw [List.getElem?_append_left (by simpa using hj), List.getElem?_map] at h2
          cases e : ds[j]? with
          | none => rw [e] at h2; cases h2
          | some d' =>
            rw [e] at h2; cases h2
            obtain ⟨v, hv, iv⟩ := hi.get e
            have hps : ps[j]? = some x := by
              rw [← F.par, List.getElem?_map, List.getElem?_take, if_pos (by lia), h1]; rfl
            have hmem := bindAt j x v hps hv
            have iv' : Is ⟨W.has, []⟩ h₁ v d := (iv.freeze (get_pure hp e)).ext ok.tab ex.keep
            obtain ⟨kd', hn', hlc⟩ := at' j x hps
            rw [h1] at hn'; cases hn'
            rcases hlc with rfl | rfl
            · exact ⟨v, ⟨_, X.toInCall.ns, bindL_get _ _ _ _ _ hpn hmem (hk j x _ h1)⟩, iv'⟩
            · obtain ⟨c, hc⟩ := cellAt j x h1
              have := X.cell x c hc
              rw [bindC_get _ _ _ _ _ hpn hmem (fun q => by rw [hk j x _ h1] at q; cases q)] at this
              exact ⟨v, ⟨c, hc, this⟩, iv'⟩
        · rw [List.getElem?_append_right (by simpa using hj), List.getElem?_replicate] at h2
          split at h2 <;> cases h2
      · obtain ⟨vs, q, h1⟩ := hm.pl c hc
        exact ⟨vs, q, keep c _ h1⟩
    have := h _ _ _ _ b a0 keep (fresh _ (Nat.le_refl _)) fun x c e => fresh c (Nat.le_of_lt (X.above x c (mem_of_lookup e)))
    refine wpAny_mono this (fun f s' p => ?_) fun _ _ y => y.elim
    exact p
theorem FnAt.call {a : Addr} {ps : List Str} {body : List Stmt} (F : FnAt G a ps sc body) {ds : List D} (hl : ds.length = ps.length) (hp : pureL ds = true)
    (h : ExK G sc n (vals0 sc ds) [] body fun o => match o with | .ret d => K d | .next _ _ => K .none | _ => False) : StK G (n + 1) μ ds (fun vs => call (.ref a) vs) K := fun A W s vs hr ok hm hi => by
  refine wpAny_call (F.go hl hp hr ok hm hi (fun c => s.heap.get? c) (fun _ _ e => e) ok.base (fun c hc => by
    obtain ⟨vs, q, h1⟩ := hm.pl c hc
    exact ⟨_, h1⟩) fun A' env h₁ tk b a0 _ _ _ => wpAny_mono (h _ _ _ _ _ b a0) (fun f s' p => ?_) fun _ _ y => y)
  cases f with
  | next =>
    obtain ⟨v, m, hK, W', hw', ho', st⟩ := p
    exact ⟨.none, hK, ⟨fun c o hT e => st.ext c o hT e, ho', st.ok⟩, .none⟩
  | brk => obtain ⟨v, m, hK, _⟩ := p; exact hK.elim
  | cont => obtain ⟨v, m, hK, _⟩ := p; exact hK.elim
  | ret v =>
    obtain ⟨d, hK, ok', ex', ho', i'⟩ := p
    exact ⟨d, hK, ⟨fun c o hT e => ex' c o hT e, ho', ok'⟩, i'.thaw⟩

/-- what may be called by «callWith» -/
noncomputable def CbK (G : GX) (f : Value) : Prop := (∃ id, f = .builtin id) ∨ (∃ T, f = .type T) ∨ ∃ a o fd, f = .ref a ∧ G.g0.get? a = some o ∧ o.data = .func fd
theorem Ev_call {func : Expr} {args : List Expr} {pos : Pos} (h : EvK G sc n vals μ func fun df => ∃ f, df = .raw f ∧ CbK G f ∧ EvL G sc n vals μ args fun ds => StK G n μ ds (fun vs => call f vs) K)
    (hn : noStar args = true)
    (he : ∀ env, eval (.Call func args [] pos) env = (do callWith pos (← eval func env) [] (backTo pos (starEach args env)) (backToKw pos (keywordEach [] env)))) :
    EvK G sc n vals μ (.Call func args [] pos) K := EvK.of fun A env W s o => by
  refine Call_ (h.use o fun vf s₁ df ⟨f, hf, hcb, hl⟩ e1 i1 => ?_) (he env)
  subst hf
  have hvf : vf = f := by cases i1; rfl
  subst hvf
  rw [backTo_eq _ _ _ hn]
  have hpl : ((evalEach args env).map fun t => (false, t)).any (·.1) = false := by
    rw [List.any_eq_false]
    intro x hx
    obtain ⟨t, _, rfl⟩ := List.mem_map.mp hx
    exact Bool.false_ne_true
  have main : wpAny (model G.prog G.w) A (evalArgs vf true ((evalEach args env).map fun t => (false, t)) []) (fun x s₂ => wpAny (model G.prog G.w) A (call vf ([] ++ x.pos) x.kw) (fun v s' => ∃ d, K d ∧ Ext G s s' ∧ Is W s'.heap v d) No s₂ ∧ OkS G s₂) No s₁ :=
    evalArgs_of (hl.use (o.ext e1) fun vs s₂ ds hk e2 is => ⟨by
      have o2 := (o.ext e1).ext e2
      exact StK.use hk o2.2.1 o2.2.2.1 o2.2.2.2.2 is fun v s₃ d hK e3 i3 => ⟨d, hK, (e1.trans e2).trans e3, i3⟩, e2.ok⟩)
  rcases hcb with ⟨id, rfl⟩ | ⟨T, rfl⟩ | ⟨a, ob, fd, rfl, h1, h2⟩
  · exact Calls.callWith_builtin hpl (wpAny_mono main (fun _ _ x => x.1) fun _ _ y => y)
  · exact PyProof.Rows.callWith_type hpl (wpAny_mono main (fun _ _ x => x.1) fun _ _ y => y)
  · exact Calls.callWith_function (o := ob) (fd := fd) (wpAny_mono main (fun _ s₂ x => ⟨⟨x.2.base a ob h1, h2⟩, x.1⟩) fun _ _ y => y)
end
section
open PySem PySem.W PyProof.Rows
set_option maxRecDepth 100000
set_option linter.unusedVariables false
set_option linter.unusedSimpArgs false
open PySem.Calls
variable {G : GX} {sc : Scope} {n : Nat} {vals : List (Option D)} {μ : List (List D)}

/-! the scope of a comprehension -/
noncomputable def compSc (csc sc : Scope) : Scope := relabel csc (envOf sc)
theorem relabel_sc {env : Env} (csc : Scope) (h : env.scope = sc) : relabel csc env = compSc csc sc := by
  unfold compSc relabel
  simp only [kindOf_sc h, h]
  rfl
noncomputable def compV (mp : List (Option Nat)) (vals : List (Option D)) : List (Option D) := mp.map fun o => match o with | some i => vals.getD i none | none => none
noncomputable def okMp (csc sc : Scope) (mp : List (Option Nat)) : Bool := mp.length == csc.names.length && (mp.zip csc.names).all fun (o, (y, k)) => match o with | some i => k == .free && sc.names[i]? == some (y, .cell) | none => k != .free
noncomputable def okSet (mp : List (Option Nat)) (vals : List (Option D)) : Bool := mp.all fun o => match o with | some i => (vals.getD i none).isSome | none => true
structure OkC (csc : Scope) : Prop where
  kind : csc.kind = .function
  nodup : (csc.names.map (·.1)).Nodup
  nonorm : ∀ p ∈ csc.names, p.1 ≠ "norm"
  nocell : ∀ p ∈ csc.names, p.2 ≠ .cell
  nocode : codeOf csc = none
noncomputable def okC (csc : Scope) : Bool := csc.kind == .function && decide ((csc.names.map (·.1)).Nodup) && csc.names.all (fun p => p.1 != "norm" && p.2 != .cell) && codeOf csc == none
theorem okC_of {csc : Scope} (h : okC csc = true) : OkC csc := by
  unfold okC at h
  rw [Bool.and_eq_true, Bool.and_eq_true, Bool.and_eq_true] at h
  obtain ⟨⟨⟨h1, h2⟩, h3⟩, h4⟩ := h
  rw [List.all_eq_true] at h3
  exact ⟨eq_of_beq h1, of_decide_eq_true h2, fun p hp e => by have := h3 p hp; rw [Bool.and_eq_true] at this; exact absurd e (bne_iff_ne.mp this.1),
    fun p hp e => by have := h3 p hp; rw [Bool.and_eq_true] at this; exact absurd e (bne_iff_ne.mp this.2), eq_of_beq h4⟩

theorem closure_go {env : Env} (f : Str × NameKind → List (Str × Addr) → Sem (ForInStep (List (Str × Addr))))
    (hf : ∀ x cs, f x cs = if x.2 == .free then (do let a ← cellOf env x.1; pure (.yield ((x.1, a) :: cs))) else pure (.yield cs)) :
    ∀ (names : List (Str × NameKind)) (acc : List (Str × Addr)), (∀ y, (y, NameKind.free) ∈ names → ∃ c, env.cells.lookup y = some c) →
      ∃ cl, forIn names acc f = pure cl ∧ ∀ y, ((y, NameKind.free) ∈ names ∨ acc.lookup y = env.cells.lookup y) → cl.lookup y = env.cells.lookup y
  | [], acc, _ => ⟨acc, by rw [List.forIn_nil], fun y h => h.elim (fun h => absurd h List.not_mem_nil) id⟩
  | (x, k) :: r, acc, h => by
    have hr : ∀ y, (y, NameKind.free) ∈ r → ∃ c, env.cells.lookup y = some c := fun y hy => h y (List.mem_cons_of_mem _ hy)
    cases hk : k == NameKind.free with
    | true =>
      have hk' : k = .free := eq_of_beq hk
      subst hk'
      obtain ⟨c, hc⟩ := h x List.mem_cons_self
      obtain ⟨cl, h1, h2⟩ := closure_go f hf r ((x, c) :: acc) hr
      refine ⟨cl, ?_, fun y hy => h2 y ?_⟩
      · rw [List.forIn_cons, hf]
        have : cellOf env x = pure c := by unfold cellOf; rw [hc]
        simp only [hk, if_true, this]
        exact h1
      · have look : (x = y ∨ acc.lookup y = env.cells.lookup y) → ((x, c) :: acc).lookup y = env.cells.lookup y := fun q => by
          rw [List.lookup_cons]
          cases e : y == x with
          | true => rw [eq_of_beq e, hc]
          | false =>
            rcases q with q | q
            · rw [q] at e; simp at e
            · exact q
        rcases hy with hy | hy
        · rcases List.mem_cons.mp hy with e | e
          · cases e; exact .inr (look (.inl rfl))
          · exact .inl e
        · exact .inr (look (.inr hy))
    | false =>
      obtain ⟨cl, h1, h2⟩ := closure_go f hf r acc hr
      refine ⟨cl, ?_, fun y hy => h2 y ?_⟩
      · rw [List.forIn_cons, hf]
        simp only [hk, Bool.false_eq_true, if_false]
        exact h1
      · rcases hy with hy | hy
        · rcases List.mem_cons.mp hy with e | e
          · cases e; simp at hk
          · exact .inl e
        · exact .inr hy
theorem closure_of {env : Env} {csc : Scope} (h : ∀ y, (y, NameKind.free) ∈ csc.names → ∃ c, env.cells.lookup y = some c) :
    ∃ cl, closureFor csc env = pure cl ∧ ∀ y, (y, NameKind.free) ∈ csc.names → cl.lookup y = env.cells.lookup y := by
  obtain ⟨cl, h1, h2⟩ := closure_go (env := env) (fun x cs => if x.2 == .free then (do let a ← cellOf env x.1; pure (.yield ((x.1, a) :: cs))) else pure (.yield cs)) (fun _ _ => rfl) csc.names [] h
  refine ⟨cl, ?_, fun y hy => h2 y (.inl hy)⟩
  rw [← h1]
  unfold closureFor
  simp only [bind_pure]

/-- the conditions of a comprehension, one behind the other -/
noncomputable def EvIfs (G : GX) (sc : Scope) (n : Nat) (vals : List (Option D)) (μ : List (List D)) : List Expr → (Bool → Prop) → Prop
  | [], K => K true
  | c :: r, K => EvT G sc n vals μ c fun b => (b = true → EvIfs G sc n vals μ r K) ∧ (b = false → K false)
theorem ifs_false {M : Model} {A : Around} {E : Value → Shared → Prop} {s : Shared} {Q : Bool → Shared → Prop} (env : Env) (h : Q false s) : ∀ (ifs : List Expr),
    wpAny M A (forIn ifs false fun c r => if r = true then do let ok ← isTrue c env (eval c env); pure (ForInStep.yield ok) else pure (ForInStep.yield r)) Q E s
  | [] => by rw [List.forIn_nil]; exact wpAny_pure h
  | c :: r => by
    rw [List.forIn_cons]
    simp only [Bool.false_eq_true, if_false]
    exact wpAny_bind (wpAny_pure (ifs_false env h r))
theorem EvIfs.use {A : Around} {env : Env} {W : Wh} : ∀ {ifs : List Expr} {s : Shared} {KB : Bool → Prop} {Q : Bool → Shared → Prop}, EvIfs G sc n vals μ ifs KB → Ok5 G sc n vals μ A env W s →
    (∀ b s', KB b → Ext G s s' → Q b s') → wpAny (model G.prog G.w) A (forIn ifs true fun c r => if r = true then do let ok ← isTrue c env (eval c env); pure (ForInStep.yield ok) else pure (ForInStep.yield r)) Q No s
  | [], s, KB, Q, h, o, hQ => by rw [List.forIn_nil]; exact wpAny_pure (hQ _ _ h (.refl o.2.2.1))
  | c :: r, s, KB, Q, h, o, hQ => by
    rw [List.forIn_cons]
    simp only [if_true]
    refine wpAny_bind (wpAny_bind (EvT.use h o fun b s' ⟨h1, h0⟩ e => wpAny_pure ?_))
    cases b with
    | true => exact EvIfs.use (h1 rfl) (o.ext e) fun b s'' hb e' => hQ b s'' hb (e.trans e')
    | false => exact ifs_false env (hQ _ _ (h0 rfl) e) r

/-- a frame of a comprehension -/
theorem scr_ns {env : Env} {W : Wh} {h : Heap} {C : Addr} {m : Str → Option Value} (x : h.Ns C m) (hn : m "norm" = none) : Scr env W h C := by
  obtain ⟨o, es, ep, ho, hd, hk, hm⟩ := x
  refine ⟨fun o' s => ?_, o, ho, fun ps e => by rw [e] at hd; cases hd⟩
  have := s.at'
  rw [ho] at this; cases this
  obtain ⟨x, hx⟩ := s.dict _ _ hd
  rw [hm, hn] at hx; cases hx
theorem scr_has {env : Env} {W : Wh} {h : Heap} {a : Addr} (P : WPl W h) (ha : W.has a) : Scr env W h a := by
  obtain ⟨vs, n, ho⟩ := P a ha
  refine ⟨fun o' s => ?_, _, ho, fun ps e => by cases e⟩
  have := s.at'
  rw [ho] at this; cases this
  exact s.own ha rfl

noncomputable def Wh.plus (W : Wh) (R : Addr) : Wh := ⟨fun a => W.av a ∨ a = R, W.w⟩
theorem Wh.plus_has {W : Wh} {R a : Addr} : (W.plus R).has a ↔ W.has a ∨ a = R := by
  unfold Wh.has Wh.plus
  constructor
  · rintro ((h | h) | h)
    · exact .inl (.inl h)
    · exact .inr h
    · exact .inl (.inr h)
  · rintro ((h | h) | h)
    · exact .inl (.inl h)
    · exact .inr h
    · exact .inl (.inr h)
theorem Is.plus {W : Wh} {h : Heap} {R : Addr} (P : WPl W h) (hR : h.get? R = Option.none) {v : Value} {d : D} (i : Is W h v d) : Is (W.plus R) h v d :=
  i.move P (fun b o s => s.at') (fun b o s hn hb => (Wh.plus_has.mp hb).elim hn fun e => by have := s.at'; rw [e, hR] at this; cases this) (.inr fun i a e => e)
theorem Is.minus {W : Wh} {h : Heap} {R : Addr} (P : WPl (W.plus R) h) {v : Value} {d : D} (i : Is (W.plus R) h v d) : Is W h v d :=
  i.move P (fun b o s => s.at') (fun b o s hn hb => hn (Wh.plus_has.mpr (.inl hb))) (.inr fun i a e => e)

/-- a comprehension under way -/
structure CS (G : GX) (μ : List (List D)) (W : Wh) (s₁ : Shared) (R C I : Addr) (fp : List Addr) (P : Nat → Value → Prop) (its : List D) (s' : Shared) (ys : List Value) (ds : List D) : Prop where
  ok : OkS G s'
  keep : HExt G s₁.heap s'.heap
  os : s'.os = s₁.os
  acc : s'.heap.PlainList R ys.toArray
  ns : ∃ m, s'.heap.Ns C m ∧ m "norm" = none
  mts : MutOk (W.plus R) μ s'.heap
  foot : ∀ b ∈ fp, b ≠ I → ∃ o, Solid (W.plus R) s'.heap b o
  item : ∀ i v, i < its.length → P i v → ∃ d, its[i]? = some d ∧ d.pure = true ∧ Is (W.plus R) s'.heap v d
  res : IsL (W.plus R) s'.heap ys ds
section
variable {W : Wh} {s₁ : Shared} {R C I : Addr} {fp : List Addr} {P : Nat → Value → Prop} {its : List D} {s' : Shared} {ys : List Value} {ds : List D}
theorem CS.extd (x : CS G μ W s₁ R C I fp P its s' ys ds) {s'' : Shared} (e : Ext G s' s'') : CS G μ W s₁ R C I fp P its s'' ys ds where
  ok := e.ok
  keep := x.keep.trans e.keep
  os := e.os.trans x.os
  acc := plain_ext x.ok.tab e.keep x.acc
  ns := let ⟨m, a, b⟩ := x.ns; ⟨m, ns_ext x.ok.tab e.keep a, b⟩
  mts := x.mts.ext x.ok.tab e.keep
  foot := fun b hb hne => let ⟨o, s⟩ := x.foot b hb hne; ⟨o, e.keep.get x.ok.tab s.at' s.tab, s.tab, s.own, s.cell, s.dict, s.iter⟩
  item := fun i v hi hv => let ⟨d, a, b, c⟩ := x.item i v hi hv; ⟨d, a, b, c.ext x.ok.tab e.keep⟩
  res := x.res.ext x.ok.tab e.keep
/-- a change at L: the frame, the iterator, the list -/
theorem CS.upd {env : Env} (x : CS G μ W s₁ R C I fp P its s' ys ds) (h0 : OkS G s₁) (m0 : MutOk W μ s₁.heap) (hR : s₁.heap.get? R = none) {L : Addr} {h' : Heap} {tk : Nat} (sL : Scr env (W.plus R) s'.heap L) (hL : s₁.heap.get? L = none)
    (keep : ∀ b o, b ≠ L → s'.heap.get? b = some o → h'.get? b = some o) {ys' : List Value} {ds' : List D} (acc : h'.PlainList R ys'.toArray) (ns : ∃ m, h'.Ns C m ∧ m "norm" = none) (hi : L = R ∨ ∀ vs, ¬ s'.heap.PlainList L vs)
    (res : IsL (W.plus R) s'.heap ys' ds') : CS G μ W s₁ R C I fp P its { s' with heap := h', toks := tk } ys' ds' := by
  have mv : ∀ u e, Is (W.plus R) s'.heap u e → Is (W.plus R) h' u e := fun u e i => i.upd x.mts.pl sL keep
  have g0L : G.g0.get? L = none := by
    cases e : G.g0.get? L with
    | none => rfl
    | some o => rw [h0.base _ _ e] at hL; cases hL
  have pls : ∀ a, (W.plus R).has a → a ≠ R → ∀ vs, s'.heap.PlainList a vs → h'.PlainList a vs := fun a ha hne vs ⟨z, ho⟩ => ⟨z, keep _ _ (fun e => by
    rcases hi with h | h
    · exact hne (e.trans h)
    · exact h vs (e ▸ ⟨z, ho⟩)) ho⟩
  have hRw : R ∉ W.w := fun h => by
    obtain ⟨vs, z, ho⟩ := m0.pl R (.inr h)
    rw [hR] at ho; cases ho
  exact {
    ok := ok_upd (k := fun _ => none) x.ok sL g0L keep
    keep := fun b o hT e => keep b o (fun h => by rw [h, hL] at e; cases e) (x.keep b o hT e)
    os := x.os
    acc := acc
    ns := ns
    mts := ⟨x.mts.1, x.mts.2.1, fun a ha => by
        by_cases h : a = R
        · exact ⟨_, h ▸ acc⟩
        · obtain ⟨vs, p⟩ := x.mts.2.2.1 a ha
          exact ⟨vs, pls a (.inl ha) h vs p⟩, fun i a ds e1 e2 => by
        obtain ⟨vs, p, q⟩ := x.mts.2.2.2 i a ds e1 e2
        have hm := List.mem_of_getElem? e1
        exact ⟨vs, pls a (.inr hm) (fun e => hRw (e ▸ hm)) _ p, q.mapI mv⟩⟩
    foot := fun b hb hne => let ⟨o, s⟩ := x.foot b hb hne; ⟨o, keep b o (fun e => sL.scr o (e ▸ s)) s.at', s.tab, s.own, s.cell, s.dict, s.iter⟩
    item := fun i v hi hv => let ⟨d, a, b, c⟩ := x.item i v hi hv; ⟨d, a, b, mv _ _ c⟩
    res := res.mapI mv }
end
theorem ns_notPlain {h : Heap} {C : Addr} {m : Str → Option Value} (x : h.Ns C m) : ∀ vs, ¬ h.PlainList C vs := fun vs ⟨z, ho⟩ => by
  obtain ⟨o, es, ep, ho', hd, _⟩ := x
  rw [ho] at ho'; cases ho'; cases hd
theorem it_notPlain {h : Heap} {I : Addr} (x : ItObj h I) : ∀ vs, ¬ h.PlainList I vs := fun vs ⟨z, ho⟩ => by
  obtain ⟨o, ho', ⟨c, hc, hm⟩, _⟩ := x
  rw [ho] at ho'; cases ho'; cases hc; revert hm; decide
theorem filterMap_take {α β : Type} (f : α → Option β) (l : List α) (i : Nat) (a : α) (h : l[i]? = some a) : (l.take (i + 1)).filterMap f = (l.take i).filterMap f ++ (match f a with | some b => [b] | none => []) := by
  rw [List.take_add_one, h, List.filterMap_append]
  simp only [Option.toList_some, List.filterMap_cons, List.filterMap_nil]
  cases f a <;> rfl

theorem ext_fresh {s s' : Shared} (ok : OkS G s) (e : Ext G s s') {a : Addr} (h : s'.heap.get? a = none) : s.heap.get? a = none := by
  cases q : s.heap.get? a with
  | none => rfl
  | some o =>
    by_cases hT : ∀ q ∈ G.T, a ≠ q.2
    · rw [e.keep a o hT q] at h; cases h
    · have ⟨t, ht, h'⟩ : ∃ q ∈ G.T, a = q.2 := Classical.byContradiction fun x => hT fun q hq h => x ⟨q, hq, h⟩
      obtain ⟨ps, h1, _⟩ := e.ok.tab t ht
      rw [← h', h] at h1; cases h1
theorem compSc_names {csc sc : Scope} (hk : sc.kind = .function) {mp : List (Option Nat)} (hn : (sc.names.map (·.1)).Nodup) (hmp : okMp csc sc mp = true) {j : Nat} {y : Str} {kd : NameKind} (hj : (compSc csc sc).names[j]? = some (y, kd)) :
    (∃ i, mp[j]? = some (some i) ∧ csc.names[j]? = some (y, .free) ∧ sc.names[i]? = some (y, .cell) ∧ kd = .cell) ∨ (mp[j]? = some none ∧ csc.names[j]? = some (y, kd) ∧ kd ≠ .free) := by
  unfold okMp at hmp
  rw [Bool.and_eq_true, List.all_eq_true] at hmp
  obtain ⟨hlen, hall⟩ := hmp
  have hlen := beq_iff_eq.mp hlen
  have e : (compSc csc sc).names = csc.names.map fun (n, k) => if (k == NameKind.free && (envOf sc).scope.kind == .function && (envOf sc).kindOf n == some .cell) then (n, NameKind.cell) else (n, k) := rfl
  rw [e, List.getElem?_map] at hj
  cases hc : csc.names[j]? with
  | none => rw [hc] at hj; cases hj
  | some p =>
    obtain ⟨z, k⟩ := p
    rw [hc] at hj
    have hjl : j < mp.length := hlen ▸ (List.getElem?_eq_some_iff.mp hc).1
    have hm : (mp[j], (z, k)) ∈ mp.zip csc.names := List.mem_of_getElem? (i := j) (by rw [List.getElem?_zip_eq_some]; exact ⟨List.getElem?_eq_getElem hjl, hc⟩)
    have hmj : mp[j]? = some mp[j] := List.getElem?_eq_getElem hjl
    have hok := hall _ hm
    generalize mp[j] = o at hok hmj
    cases o with
    | none =>
      have hkf : k ≠ .free := bne_iff_ne.mp hok
      have hkb : (k == NameKind.free) = false := beq_eq_false_iff_ne.mpr hkf
      simp only [Option.map_some, hkb, Bool.false_and, Bool.false_eq_true, if_false, Option.some.injEq, Prod.mk.injEq] at hj
      obtain ⟨rfl, rfl⟩ := hj
      exact .inr ⟨hmj, rfl, hkf⟩
    | some i =>
      rw [Bool.and_eq_true] at hok
      have hkf : k = .free := eq_of_beq hok.1
      subst hkf
      have hsn : sc.names[i]? = some (z, .cell) := eq_of_beq hok.2
      have hko : (envOf sc).kindOf z = some .cell := lookup_at hn hsn
      have h1 : ((envOf sc).scope.kind == ScopeKind.function) = true := by show (sc.kind == _) = true; rw [hk]; rfl
      simp only [Option.map_some, beq_self_eq_true, h1, hko, Bool.and_self, if_true, Option.some.injEq, Prod.mk.injEq] at hj
      obtain ⟨rfl, rfl⟩ := hj
      exact .inl ⟨i, hmj, rfl, hsn, rfl⟩
noncomputable def compSc2 (csc : Scope) (mp : List (Option Nat)) : Scope := { csc with names := List.zipWith (fun p o => match o with | some _ => (p.1, NameKind.cell) | none => p) csc.names mp }
theorem compSc2_eq {csc sc : Scope} (hk : sc.kind = .function) {mp : List (Option Nat)} (hn : (sc.names.map (·.1)).Nodup) (hmp : okMp csc sc mp = true) : compSc csc sc = compSc2 csc mp := by
  have hlen : mp.length = csc.names.length := by
    unfold okMp at hmp
    rw [Bool.and_eq_true] at hmp
    exact beq_iff_eq.mp hmp.1
  have e : (compSc csc sc).names = List.zipWith (fun p o => match o with | some _ => (p.1, NameKind.cell) | none => p) csc.names mp := by
    apply List.ext_getElem?
    intro j
    cases hj : (compSc csc sc).names[j]? with
    | none =>
      have e : (compSc csc sc).names = csc.names.map fun (n, k) => if (k == NameKind.free && (envOf sc).scope.kind == .function && (envOf sc).kindOf n == some .cell) then (n, NameKind.cell) else (n, k) := rfl
      rw [e, List.getElem?_map] at hj
      cases hc : csc.names[j]? with
      | none =>
        rw [List.getElem?_zipWith, hc]
      | some p => rw [hc] at hj; cases hj
    | some p =>
      obtain ⟨y, kd⟩ := p
      rw [List.getElem?_zipWith]
      rcases compSc_names hk hn hmp hj with ⟨i, h1, h2, h3, rfl⟩ | ⟨h1, h2, h3⟩
      · rw [h1, h2]
      · rw [h1, h2]
  unfold compSc2
  rw [← e]
  rfl
theorem comp_env {env : Env} {csc : Scope} {cl : List (Str × Addr)} {C : Addr} (he : EnvOk G sc env) (hc : OkC csc) : EnvOk G (compSc csc sc) (compEnvC csc cl C env) := by
  have e : (compSc csc sc).names = csc.names.map fun (n, k) => if (k == NameKind.free && (envOf sc).scope.kind == .function && (envOf sc).kindOf n == some .cell) then (n, NameKind.cell) else (n, k) := rfl
  have e1 : (compSc csc sc).names.map (·.1) = csc.names.map (·.1) := by
    rw [e, List.map_map]
    apply List.map_congr_left
    rintro ⟨y, k⟩ _
    simp only [Function.comp]
    split <;> rfl
  refine ⟨relabel_sc csc he.hsc, hc.kind, he.glob, he.blt, by rw [e1]; exact hc.nodup, fun p hp h => ?_, fun c h => by
    unfold codeOf at h
    rw [e1] at h
    exact absurd (hc.nocode.symm.trans h) (by simp)⟩
  have : p.1 ∈ csc.names.map (·.1) := by rw [← e1]; exact List.mem_map.mpr ⟨p, hp, rfl⟩
  obtain ⟨q, hq, hq'⟩ := List.mem_map.mp this
  exact hc.nonorm q hq (hq'.trans h)

inductive CJ (G : GX) (μ : List (List D)) (W : Wh) (s₁ : Shared) (R C J : Addr) (fp : List Addr) (P : Nat → Value → Prop) (its : List D) (f : D → Option D) (St : Nat → Heap → Prop) (k : Nat) (s' : Shared) : Prop
  | mk (i : Nat) (ys : List Value) (hk : k = its.length + 1 - i) (hi : i ≤ its.length) (hst : St i s'.heap) (x : CS G μ W s₁ R C J fp P its s' ys ((its.take i).filterMap f))
/-- the walk of a comprehension's loop -/
theorem comp_core {A : Around} {env : Env} {W : Wh} {s₁ : Shared} {xv : Value} {d : D} {its : List D} {csc : Scope} {mp : List (Option Nat)} {cl : List (Str × Addr)} {kx : Nat} {x : Str} {px pos : Pos} {elt iter : Expr} {ifs : List Expr} {f : D → Option D}
    {RR : Value → Addr → Result → Shared → Prop} (o : Ok5 G sc n vals μ A env W s₁) (i : Is W s₁.heap xv d) (hit : IterK G n μ d its) (hz : its.length ≤ sizeLine)
    (hc : OkC csc) (hmp : okMp csc sc mp = true) (hcl2 : ∀ y, (y, NameKind.free) ∈ csc.names → cl.lookup y = env.cells.lookup y)
    (hx : csc.names[kx]? = some (x, .local))
    (hf : ∀ e ∈ its, EvIfs G (compSc csc sc) n (setV (compV mp vals) kx e) μ ifs fun b => (b = true → EvK G (compSc csc sc) n (setV (compV mp vals) kx e) μ elt fun r => f e = some r) ∧ (b = false → f e = none))
    (hRR : ∀ R C s' m, Ext G s₁ s' → Is W s'.heap (.ref R) (.lst (its.filterMap f)) → s₁.heap.get? C = none → s'.heap.Ns C m → m "norm" = none → RR (.ref R) C (.ok .next) s') :
    wpAny (model G.prog G.w) A (pyIter xv) (fun it s₂ => wpAny (model G.prog G.w) A (newList []) (fun acc s₃ =>
      wpAny (model G.prog G.w) A (newFunctionEnv csc env.globals cl [] env.qual none .none (some env)) (fun cenv s₄ =>
        codeAny (model G.prog G.w) A (.compStart (.ListComp elt [⟨.Name x px, iter, ifs, 0⟩] csc pos) 0 it acc { cenv with scope := relabel csc env }) (RR acc cenv.locals) s₄) No s₃) No s₂) No s₁ := by
  refine wpAny_mono (hit A W s₁ xv o.2.1.hd o.2.2.1 o.2.2.2.2 i) (fun it s₂ hx => ?_) fun _ _ y => y.elim
  obtain ⟨J, fp, P, St, q⟩ := hx
  obtain ⟨hit', hwk, hst0, hex, hfresh, hobj, hfoot, hitem⟩ := q
  subst hit'
  have o2 := o.ext hex
  have nocell : ∀ y ∈ csc.names, y.2 ≠ .cell := hc.nocell
  refine wpAny_newObj_type (wpAny_newFunctionEnv nocell (by intro y hy; simp at hy) (fun h₁ hns₁ hsb₁ => ?_) hc.kind)
  dsimp only at hns₁ hsb₁ ⊢
  generalize hH2 : s₂.heap.push { cls := .type "list", dict := Option.none, data := .seq ([] : List Value).toArray } = H2 at hns₁ hsb₁ ⊢
  have hRC : s₂.heap.objs.size ≠ H2.objs.size := by rw [← hH2, Heap.size_push]; exact Nat.ne_of_lt (Nat.lt_succ_self _)
  have hCge : s₂.heap.objs.size ≤ H2.objs.size := by rw [← hH2, Heap.size_push]; exact Nat.le_succ _
  have fresh2 : ∀ a, s₂.heap.objs.size ≤ a → s₂.heap.get? a = Option.none := fun a ha => by
    cases e : s₂.heap.get? a with
    | none => rfl
    | some o' => exact absurd (Heap.lt_size e) (Nat.not_lt.mpr ha)
  have hR2 := fresh2 _ (Nat.le_refl _)
  have hC2 := fresh2 _ hCge
  generalize hCdef : H2.objs.size = C at hns₁ hsb₁ hRC hCge hC2 ⊢
  generalize hRdef : s₂.heap.objs.size = R at hRC hCge fresh2 hR2 ⊢
  have hR1 := ext_fresh o.2.2.1 hex hR2
  have hC1 := ext_fresh o.2.2.1 hex hC2
  have old : ∀ b o, s₂.heap.get? b = some o → h₁.get? b = some o := fun b o e => hsb₁.extBut b o (fun h => by rw [h, hC2] at e; cases e) (by
    have := Heap.get?_push_of_some { cls := .type "list", dict := Option.none, data := .seq ([] : List Value).toArray } e
    rw [hH2] at this
    exact Heap.get?_push_of_some _ this)
  have acc0 : h₁.PlainList R ([] : List Value).toArray := ⟨_, hsb₁.extBut _ _ hRC (by
    have : (s₂.heap.push { cls := .type "list", dict := Option.none, data := .seq ([] : List Value).toArray }).get? s₂.heap.objs.size = some { cls := .type "list", dict := Option.none, data := .seq ([] : List Value).toArray } := Heap.get?_push_size _ rfl
    rw [hH2, hRdef] at this
    exact Heap.get?_push_of_some _ this)⟩
  obtain ⟨oJ, hoJ, _⟩ := hobj 0 _ hst0
  have hJR : J ≠ R := fun e => by rw [e, hR2] at hoJ; cases hoJ
  have hJC : J ≠ C := fun e => by rw [e, hC2] at hoJ; cases hoJ
  have vars1 : ∀ (k : Nat) y kd e, sc.names[k]? = some (y, kd) → vals[k]? = some (some e) → ∃ v, Rd env s₁.heap y kd v ∧ Is (W.plus R) s₁.heap v e := fun k y kd e h1 h2 => by
    obtain ⟨v, a, b⟩ := o.2.2.2.1 k y kd e h1 h2
    exact ⟨v, a, b.plus o.2.2.2.2.pl hR1⟩
  have key : ∀ s₄ : Shared, s₄ = { s₂ with heap := h₁, toks := s₂.toks + ([] : List (Str × Value)).length } →
      codeAny (model G.prog G.w) A (.compLoop (.ListComp elt [⟨.Name x px, iter, ifs, 0⟩] csc pos) 0 (.ref J) (.ref R) (compEnvC csc cl C env)) (RR (.ref R) C) s₄ ∧ St 0 s₄.heap := by
    rintro s₄ rfl
    have e4 : Ext G s₂ { s₂ with heap := h₁, toks := s₂.toks + ([] : List (Str × Value)).length } := Ext.of_keep o2.2.2.1 old
    have st4 : St 0 h₁ := (hwk A o.2.1.hd).frame _ _ _ hst0 fun b _ o e => old b o e
    have x0 : CS G μ W s₁ R C J fp P its { s₂ with heap := h₁, toks := s₂.toks + ([] : List (Str × Value)).length } [] ((its.take 0).filterMap f) := {
      ok := e4.ok
      keep := hex.keep.trans e4.keep
      os := hex.os
      acc := acc0
      ns := ⟨_, hns₁, rfl⟩
      mts := ⟨o2.2.2.2.2.1, o2.2.2.2.2.2.1, fun a ha => by
          rcases ha with ha | ha
          · obtain ⟨vs, z, e⟩ := o2.2.2.2.2.2.2.1 a ha
            exact ⟨vs, z, old _ _ e⟩
          · exact ⟨_, ha ▸ acc0⟩, fun i a ds e1 e2 => by
          obtain ⟨vs, ⟨z, p⟩, q⟩ := o2.2.2.2.2.2.2.2 i a ds e1 e2
          exact ⟨vs, ⟨z, old _ _ p⟩, (q.mapI fun u e i => i.plus o2.2.2.2.2.pl hR2).ext o2.2.2.1.tab e4.keep⟩⟩
      foot := fun b hb hne => by
        obtain ⟨ob, so⟩ := hfoot b hb hne
        refine ⟨ob, old _ _ so.at', so.tab, fun h => ?_, so.cell, so.dict, so.iter⟩
        rcases Wh.plus_has.mp h with h | h
        · exact so.own h
        · have := so.at'; rw [h, hR2] at this; cases this
      item := fun i v hi hv => let ⟨d, a, b, c⟩ := hitem i v hi hv; ⟨d, a, b, (c.plus o2.2.2.2.2.pl hR2).ext o2.2.2.1.tab e4.keep⟩
      res := .nil }
    refine ⟨?_, st4⟩
    have hkx : (compEnvC csc cl C env).kindOf x = some .local := lookup_relabel_local (lookup_at hc.nodup hx)
    have hxn : x ≠ "norm" := hc.nonorm _ (List.mem_of_getElem? hx)
    have W0 := hwk A o.2.1.hd
    refine codeAny_compLoop_tests (CJ G μ W s₁ R C J fp P its f St) (fun k s' hI => ?_) (its.length + 1) ⟨0, [], rfl, Nat.zero_le _, st4, x0⟩
    obtain ⟨i, ys, hk, hile, hst', x⟩ := hI
    have hx' := hobj i _ hst'
    have hkeepJ : ∀ {h' : Heap}, (∀ b o, b ∉ [J] → s'.heap.get? b = some o → h'.get? b = some o) → ∀ b o, b ≠ J → s'.heap.get? b = some o → h'.get? b = some o := fun hk b o hb e => hk b o (fun hm => hb (List.mem_singleton.mp hm)) e
    rcases Nat.lt_or_ge i its.length with hlt | hge
    · refine W0.item i s' _ _ hlt hst' fun v ha tk hP hsta hka => ?_
      have hka := hkeepJ hka
      obtain ⟨m, hm, hmn⟩ := x.ns
      have x1 := x.upd (env := env) (tk := tk) o.2.2.1 o.2.2.2.2 hR1 hx'.scr hfresh hka (let ⟨z, p⟩ := x.acc; ⟨z, hka _ _ (Ne.symm hJR) p⟩) ⟨m, hm.at' (fun o e => hka C o (Ne.symm hJC) e), hmn⟩ (.inr (it_notPlain hx')) x.res
      obtain ⟨e, he, hpe, ie⟩ := x1.item i v hlt hP
      have hxa := hobj _ _ hsta
      obtain ⟨m1, hm1, hmn1⟩ := x1.ns
      refine wpAny_noted0 (env := compEnvC csc cl C env) (wpAny_assign_Name (wpAny_storeName_local hkx hm1 (fun hb hnb hsb => ?_) (by rw [show (compEnvC csc cl C env).scope.kind = .function from hc.kind]; rfl)))
      have hkb : ∀ b o, b ≠ C → ha.get? b = some o → hb.get? b = some o := fun b o h e => hsb.extBut b o h e
      have x2 := x1.upd (env := env) (tk := tk + 1) o.2.2.1 o.2.2.2.2 hR1 (scr_ns hm1 hmn1) hC1 hkb (let ⟨z, p⟩ := x1.acc; ⟨z, hkb _ _ hRC p⟩) ⟨_, hnb, by simp [Ne.symm hxn, hmn1]⟩ (.inr (ns_notPlain hm1)) x1.res
      have ie2 : Is (W.plus R) hb v e := ie.upd (env := env) x1.mts.pl (scr_ns hm1 hmn1) hkb
      have stb : St (i + 1) hb := W0.frame _ _ _ hsta fun b hb' o h => by
        by_cases hbJ : b = J
        · exact hkb b o (hbJ ▸ hJC) h
        · obtain ⟨o', so⟩ := x1.foot b hb' hbJ
          exact hkb b o (fun q => (scr_ns (env := env) hm1 hmn1).scr o' (q ▸ so)) h
      have vb : Vars (compEnvC csc cl C env) (compSc csc sc) (setV (compV mp vals) kx e) (W.plus R) hb := fun j y kd d' h1 h2 => by
        have hn := o.1.nodup
        rcases compSc_names o.1.kind hn hmp h1 with ⟨i', hmi, hcn, hsn, rfl⟩ | ⟨hmi, hcn, hkf⟩
        · have hj : kx ≠ j := fun q => by rw [← q, hx] at hcn; cases hcn
          unfold setV compV at h2
          rw [List.getElem?_set_ne hj, List.getElem?_map, hmi] at h2
          have h3 : vals.getD i' Option.none = some d' := Option.some.inj h2
          have h4 : vals[i']? = some (some d') := by
            rw [List.getD_eq_getElem?_getD] at h3
            cases q : vals[i']? with
            | none => rw [q] at h3; cases h3
            | some u => rw [q] at h3; simp at h3; rw [h3]
          obtain ⟨u, ⟨c, hcc, hcv⟩, iu⟩ := vars1 i' y .cell d' hsn h4
          refine ⟨u, ⟨c, (hcl2 y (List.mem_of_getElem? hcn)).trans hcc, cell_ext o.2.2.1.tab x2.keep hcv⟩, iu.ext o.2.2.1.tab x2.keep⟩
        · by_cases hj : j = kx
          · subst hj
            rw [hx] at hcn
            cases hcn
            unfold setV at h2
            rw [List.getElem?_set] at h2
            simp only [if_true] at h2
            split at h2
            · cases h2; exact ⟨v, ⟨_, hnb, by simp⟩, ie2⟩
            · cases h2
          · unfold setV compV at h2
            rw [List.getElem?_set_ne (fun q => hj q.symm), List.getElem?_map, hmi] at h2
            cases h2
      have o3 : Ok5 G (compSc csc sc) n (setV (compV mp vals) kx e) μ A (compEnvC csc cl C env) (W.plus R) { s' with heap := hb, toks := tk + 1 } := ⟨comp_env o.1 hc, o.2.1, x2.ok, vb, x2.mts⟩
      have hfe := hf e (List.mem_of_getElem? he)
      have stE : ∀ {s5 : Shared}, Ext G { s' with heap := hb, toks := tk + 1 } s5 → St (i + 1) s5.heap := fun {s5} ex => W0.frame _ _ _ stb fun b hb' o h => by
        by_cases hbJ : b = J
        · exact ex.keep b o (hbJ ▸ (hobj _ _ stb).notT x2.ok.tab) h
        · obtain ⟨o', so⟩ := x2.foot b hb' hbJ
          have := so.at'
          rw [h] at this; cases this
          exact ex.keep.get x2.ok.tab h so.tab
      refine wpAny_noted0 (env := compEnvC csc cl C env) (EvIfs.use hfe o3 fun b s5 ⟨ht, hfl⟩ e5 => ?_)
      have x5 := x2.extd e5
      cases b with
      | false =>
        simp only [Bool.false_eq_true, if_false]
        refine ⟨its.length + 1 - (i + 1), by lia, .mk (i + 1) ys rfl hlt (stE e5) ?_⟩
        rw [filterMap_take f its i e he, hfl rfl, List.append_nil]
        exact x5
      | true =>
        simp only [if_true]
        refine wpAny_noted0 (env := compEnvC csc cl C env) (EvK.use (ht rfl) (o3.ext e5) fun y s6 r hr e6 iy => ?_)
        have x6 := x5.extd e6
        have hys : ys.toArray.size ≤ sizeLine := by
          rw [List.size_toArray, x6.res.length]
          exact Nat.le_trans (List.length_filterMap_le _ _) (Nat.le_trans (by rw [List.length_take]; exact Nat.min_le_right _ _) hz)
        refine wpAny_list_append_plain x6.acc (fun h7 hl7 hs7 => ?_) hys
        have hk7 : ∀ b o, b ≠ R → s6.heap.get? b = some o → h7.get? b = some o := fun b o h e => hs7.extBut b o h e
        have sR : Scr env (W.plus R) s6.heap R := scr_has x6.mts.pl (Wh.plus_has.mpr (.inr rfl))
        obtain ⟨m6, hm6, hmn6⟩ := x6.ns
        have x7 := x6.upd (env := env) (tk := s6.toks) (ys' := ys ++ [y]) (ds' := (its.take (i + 1)).filterMap f) o.2.2.1 o.2.2.2.2 hR1 sR hR1 hk7 (by simpa using hl7) ⟨m6, hm6.at' (fun o e => hk7 C o (Ne.symm hRC) e), hmn6⟩ (.inl rfl) (by
          rw [filterMap_take f its i e he, hr]
          exact x6.res.append (.cons iy .nil))
        refine ⟨its.length + 1 - (i + 1), by lia, .mk (i + 1) _ rfl hlt (W0.frame _ _ _ (stE (e5.trans e6)) fun b hb' o h => ?_) x7⟩
        by_cases hbJ : b = J
        · exact hk7 b o (hbJ ▸ hJR) h
        · obtain ⟨o', so⟩ := x6.foot b hb' hbJ
          exact hk7 b o (fun q => sR.scr o' (q ▸ so)) h
    · have hie : i = its.length := by lia
      subst hie
      refine W0.done s' _ _ hst' fun ha tk hka => ?_
      have hka := hkeepJ hka
      obtain ⟨m, hm, hmn⟩ := x.ns
      have x1 := x.upd (env := env) (tk := tk) o.2.2.1 o.2.2.2.2 hR1 hx'.scr hfresh hka (let ⟨z, p⟩ := x.acc; ⟨z, hka _ _ (Ne.symm hJR) p⟩) ⟨m, hm.at' (fun o e => hka C o (Ne.symm hJC) e), hmn⟩ (.inr (it_notPlain hx')) x.res
      obtain ⟨m1, hm1, hmn1⟩ := x1.ns
      refine hRR R C _ m1 ⟨x1.keep, x1.os, x1.ok⟩ (.lst (fun h => ?_) x1.acc ?_) hC1 hm1 hmn1
      · have := has_lt o.2.2.2.2 h
        obtain ⟨vs, z, e⟩ := o.2.2.2.2.pl R h
        rw [hR1] at e; cases e
      · have := x1.res
        rw [List.take_length] at this
        exact this.mapI fun u e i => i.minus x1.mts.pl
  have k4 := key _ rfl
  exact codeAny_compStart_list k4.1 ((hwk A o.2.1.hd).self 0 _ _ _ k4.2 k4.1)

theorem free_cells {env : Env} {W : Wh} {h : Heap} {csc : Scope} {mp : List (Option Nat)} (hmp : okMp csc sc mp = true) (hset : okSet mp vals = true) (hv : Vars env sc vals W h) : ∀ y, (y, NameKind.free) ∈ csc.names → ∃ c, env.cells.lookup y = some c := fun y hy => by
  unfold okMp at hmp
  rw [Bool.and_eq_true, List.all_eq_true] at hmp
  obtain ⟨hlen, hall⟩ := hmp
  have hlen := beq_iff_eq.mp hlen
  obtain ⟨j, hj, e⟩ := List.mem_iff_getElem.mp hy
  have hc : csc.names[j]? = some (y, .free) := by rw [List.getElem?_eq_getElem hj, e]
  have hjl : j < mp.length := hlen ▸ hj
  have hm : (mp[j], (y, NameKind.free)) ∈ mp.zip csc.names := List.mem_of_getElem? (i := j) (by rw [List.getElem?_zip_eq_some]; exact ⟨List.getElem?_eq_getElem hjl, hc⟩)
  have hok := hall _ hm
  have hmem : mp[j] ∈ mp := List.getElem_mem hjl
  generalize mp[j] = o at hok hmem
  cases o with
  | none => exact absurd rfl (bne_iff_ne.mp hok)
  | some i =>
    rw [Bool.and_eq_true] at hok
    have hsn : sc.names[i]? = some (y, .cell) := eq_of_beq hok.2
    unfold okSet at hset
    rw [List.all_eq_true] at hset
    have := hset _ hmem
    obtain ⟨d, hd⟩ := Option.isSome_iff_exists.mp this
    have h4 : vals[i]? = some (some d) := by
      rw [List.getD_eq_getElem?_getD] at hd
      cases q : vals[i]? with
      | none => rw [q] at hd; cases hd
      | some u => rw [q] at hd; simp at hd; rw [hd]
    obtain ⟨v, ⟨c, hc, _⟩, _⟩ := hv i y .cell d hsn h4
    exact ⟨c, hc⟩
theorem okC_local {csc : Scope} (hc : OkC csc) : ∀ z ∈ csc.names, z.2 = .local → csc.names.lookup z.1 = some .local := fun z hz e => by
  obtain ⟨j, hj, e'⟩ := List.mem_iff_getElem.mp hz
  exact lookup_at hc.nodup (k := j) (by rw [List.getElem?_eq_getElem hj, e', ← e])

/-- what the loop of a comprehension is to be shown -/
noncomputable def CompK (G : GX) (sc csc : Scope) (n : Nat) (vals : List (Option D)) (μ : List (List D)) (mp : List (Option Nat)) (kx : Nat) (ifs : List Expr) (elt : Expr) (d : D) (K : D → Prop) : Prop :=
  ∃ its, IterK G n μ d its ∧ its.length ≤ sizeLine ∧ ∃ f : D → Option D, K (.lst (its.filterMap f)) ∧
    ∀ e ∈ its, EvIfs G (compSc2 csc mp) n (setV (compV mp vals) kx e) μ ifs fun b => (b = true → EvK G (compSc2 csc mp) n (setV (compV mp vals) kx e) μ elt fun r => f e = some r) ∧ (b = false → f e = none)

theorem Ev_comp (mp : List (Option Nat)) (kx : Nat) {x : Str} {px pos : Pos} {elt iter : Expr} {ifs : List Expr} {csc : Scope} {K : D → Prop} (hc : okC csc = true) (hmp : okMp csc sc mp = true) (hset : okSet mp vals = true) (hx : csc.names[kx]? = some (x, .local))
    (h : EvK G sc n vals μ iter fun d => CompK G sc csc n vals μ mp kx ifs elt d K) (hs : ∀ env x, foldedSetIterable iter env x = pure x := by intro _ _; with_unfolding_all rfl) :
    EvK G sc n vals μ (.ListComp elt [⟨.Name x px, iter, ifs, 0⟩] csc pos) K := EvK.of fun A env W s o => by
  have hc := okC_of hc
  obtain ⟨cl, h1, h2⟩ := closure_of (free_cells hmp hset o.2.2.2.1)
  rw [eval_ListComp]
  refine wpAny_comprehension_free (use := none) rfl (hs env) h1 hc.kind (okC_local hc) (h.use o fun xv s₁ d ⟨its, hit, hz, f, hK, hf⟩ e1 i1 => ?_)
  refine comp_core (RR := fun acc C => compPost (model G.prog G.w) A No none _ acc C) (o.ext e1) i1 hit hz hc hmp h2 hx (by rw [compSc2_eq o.1.kind o.1.nodup hmp]; exact hf) fun R C s' m ex iR hC hns hmn => ?_
  refine ⟨m, hns, fun h' hs' => ?_⟩
  have sL : Scr env W s'.heap C := scr_ns hns hmn
  have keep : ∀ b o, b ≠ C → s'.heap.get? b = some o → h'.get? b = some o := fun b o hb e => hs'.extBut b o hb e
  have g0C : G.g0.get? C = none := by
    cases e : G.g0.get? C with
    | none => rfl
    | some o => rw [e1.ok.base _ _ e] at hC; cases hC
  have ok' : OkS G { s' with heap := h' } := ok_upd (tk := s'.toks) (k := fun _ => none) ex.ok sL g0C keep
  have o1 := (o.ext e1).ext ex
  exact ⟨_, hK, e1.trans ⟨fun b o hT e => keep b o (fun h => by rw [h, hC] at e; cases e) (ex.keep b o hT e), ex.os, ok'⟩, iR.upd o1.2.2.2.2.pl sL keep⟩

/-- a change of an object that the block does not know -/
theorem Std.updL {A : Around} {env : Env} {kp : Kp} {av : Addr → Prop} {W : Wh} {s : Shared} {L : Addr} {h' : Heap} {tk : Nat} (b : Blk G sc n A env kp av) (st : Std G sc vals μ env kp W s) (sL : Scr env W s.heap L) (hk : kp L = none)
    (hloc : L ≠ env.locals) (hcel : ∀ y, env.cells.lookup y ≠ some L) (hown : ¬ W.has L) (keep : ∀ b o, b ≠ L → s.heap.get? b = some o → h'.get? b = some o) :
    Std G sc vals μ env kp W { s with heap := h', toks := tk } ∧ ∀ u e, Is W s.heap u e → Is W h' u e := by
  have mv : ∀ u e, Is W s.heap u e → Is W h' u e := fun u e i => i.upd st.mts.pl sL keep
  have at' : ∀ {c : Addr}, c ≠ L → ∀ o, s.heap.get? c = some o → h'.get? c = some o := fun h o e => keep _ o h e
  refine ⟨⟨ok_upd (k := kp) st.ok sL (b.own.g0 hk) keep, fun c o hT hc => keep c o (fun e => by rw [e, hk] at hc; cases hc) (st.ext c o hT hc), st.own,
    ⟨let ⟨m, x, e⟩ := st.fr.1; ⟨m, x.at' (at' (Ne.symm hloc)), e⟩, fun y c e => let ⟨v, o, ho, hd⟩ := st.fr.2 y c e; ⟨v, o, keep c o (fun h => hcel y (h ▸ e)) ho, hd⟩⟩, fun j x kd d h1 h2 => ?_, st.mts.1, st.mts.2.1, fun c hc => ?_, fun j c ds' e1 e2 => ?_⟩, mv⟩
  · obtain ⟨v, p, q⟩ := st.vars j x kd d h1 h2
    refine ⟨v, ?_, mv _ _ q⟩
    cases kd <;> first
      | exact p.elim
      | (obtain ⟨m, x, e⟩ := p; exact ⟨m, x.at' (at' (Ne.symm hloc)), e⟩)
      | (obtain ⟨c, x, o, ho, hd⟩ := p; exact ⟨c, x, o, keep c o (fun h => hcel _ (h ▸ x)) ho, hd⟩)
      | (obtain ⟨z, c, x, o, ho, hd⟩ := p; exact ⟨z, c, x, o, keep c o (fun h => hcel _ (h ▸ x)) ho, hd⟩)
  · obtain ⟨vs, z, h1⟩ := st.mts.2.2.1 c hc
    exact ⟨vs, z, keep c _ (fun e => hown (e ▸ .inl hc)) h1⟩
  · obtain ⟨us, p, q⟩ := st.mts.2.2.2 j c ds' e1 e2
    exact ⟨us, let ⟨m, ho⟩ := p; ⟨m, keep _ _ (fun h => hown (h ▸ .inr (List.mem_of_getElem? e1))) ho⟩, q.mapI mv⟩

theorem Ex_assign_comp (k : Nat) (mp : List (Option Nat)) (kx : Nat) {y : Str} {py spos : Pos} {x : Str} {px pos : Pos} {elt iter : Expr} {ifs : List Expr} {csc : Scope} {K : Out → Prop} (hc : okC csc = true) (hmp : okMp csc sc mp = true) (hset : okSet mp vals = true)
    (hx : csc.names[kx]? = some (x, .local)) (hn : sc.names[k]? = some (y, .local))
    (h : EvK G sc n vals μ iter fun d => CompK G sc csc n vals μ mp kx ifs elt d fun r => K (.next (setV vals k r) μ))
    (hsw : swapsWith (.ListComp elt [⟨.Name x px, iter, ifs, 0⟩] csc pos) (some (.Name y py)) spos.line (envOf sc) = pure true := by with_unfolding_all rfl)
    (hs : ∀ env x, foldedSetIterable iter env x = pure x := by intro _ _; with_unfolding_all rfl) :
    ExS G sc n vals μ (.Assign [.Name y py] (.ListComp elt [⟨.Name x px, iter, ifs, 0⟩] csc pos) spos) K := fun A env kp av s b ⟨W, hw, _, st⟩ => by
  have hc := okC_of hc
  have o := st.ok5 b
  obtain ⟨cl, h1, h2⟩ := closure_of (free_cells hmp hset o.2.2.2.1)
  rw [exec_Assign_Name_used _ _ _ _ ((swapsWith_sc b.henv.hsc ..).trans hsw)]
  refine wpAny_bind (wpAny_standAt (wpAny_bind ?_))
  show wpAny _ A (do let _ ← comprehension (.ListComp elt [⟨.Name x px, iter, ifs, 0⟩] csc pos) csc env _ (newList []) false (eval iter env) (some (assign (.Name y py) env))) _ _ s
  refine wpAny_bind (wpAny_mono (wpAny_comprehension_free (use := some (assign (.Name y py) env)) (Q := fun _ s' => Post G sc env kp av s.os K .next s') rfl (hs env) h1 hc.kind (okC_local hc) (h.use o fun xv s₁ d ⟨its, hit, hz, f, hK, hf⟩ e1 i1 => ?_))
    (fun _ s' hq => wpAny_pure (wpAny_pure hq)) fun _ _ e => e)
  refine comp_core (RR := fun acc C => compPost (model G.prog G.w) A No (some (assign (.Name y py) env)) (fun _ s' => Post G sc env kp av s.os K .next s') acc C) (o.ext e1) i1 hit hz hc hmp h2 hx (by rw [compSc2_eq o.1.kind o.1.nodup hmp]; exact hf) fun R C s' m ex iR hC hns hmn => ?_
  show wpAny _ A (assign (.Name y py) env (.ref R)) _ _ s'
  have st1 := st.step e1
  have st' := st1.step ex
  have sL : Scr env W s'.heap C := scr_ns hns hmn
  have hCloc : C ≠ env.locals := fun e => by
    obtain ⟨m', ⟨o, es, ep, ho, _⟩, _⟩ := st1.fr.1
    rw [← e, hC] at ho; cases ho
  have hCcel : ∀ y, env.cells.lookup y ≠ some C := fun y e => by
    obtain ⟨v, o, ho, _⟩ := st1.fr.2 y C e
    rw [hC] at ho; cases ho
  have hChas : ¬ W.has C := fun e => by
    obtain ⟨vs, z, ho⟩ := st1.mts.pl C e
    rw [hC] at ho; cases ho
  have b' := b.prot hw st'
  obtain ⟨oC, esC, epC, hoC, hdC, hrC⟩ := hns
  refine wpAny_assign_Name (store_slot k b' st'.prot hn (.inl rfl) iR fun s'' ho'' st'' _ => ?_)
  have hC'' : s''.heap.get? C = some oC := st''.ext C oC (fun q hq e => by
    obtain ⟨ps, h1, _⟩ := st'.ok.tab q hq
    rw [← e, hoC] at h1; cases h1; cases hdC) (prot_some hoC (fun e => hChas (.inr e)) hCloc hCcel)
  have hns'' : s''.heap.Ns C m := ⟨oC, esC, epC, hC'', hdC, hrC⟩
  refine ⟨m, hns'', fun h3 hs3 => ?_⟩
  have st3 := Std.unprot b st' st''
  have hkC : kp C = none := by
    cases e : kp C with
    | none => rfl
    | some o =>
      by_cases hT : ∀ q ∈ G.T, C ≠ q.2
      · have := st1.ext C o hT e
        rw [hC] at this; cases this
      · have ⟨t, ht, h'⟩ : ∃ q ∈ G.T, C = q.2 := Classical.byContradiction fun x => hT fun q hq h => x ⟨q, hq, h⟩
        obtain ⟨ps, h1, _⟩ := st1.ok.tab t ht
        rw [← h', hC] at h1; cases h1
  obtain ⟨st4, _⟩ := st3.updL (h' := h3) (tk := s''.toks) b (scr_ns hns'' hmn) hkC hCloc hCcel hChas fun b o hb e => hs3.extBut b o hb e
  exact ⟨_, _, hK, W, hw, ho''.trans (ex.os.trans e1.os), st4⟩
end
section
open PySem PySem.W PyProof.Rows
set_option maxRecDepth 100000
set_option linter.unusedVariables false
set_option linter.unusedSimpArgs false
open PySem.Calls
variable {G : GX} {sc : Scope} {n : Nat} {vals : List (Option D)} {μ : List (List D)} {K : D → Prop}

noncomputable abbrev CallK (G : GX) (n : Nat) (μ : List (List D)) (f : Value) (ds : List D) (K : D → Prop) : Prop := StK G n μ ds (fun vs => call f vs) K

theorem C_len_str {x : List Nat} (hz : x.length < 2 ^ 62) (h : K (.int x.length)) : CallK G n μ (.builtin "len") [.str x] K := fun A W s vs hr ok hm hi => by
  obtain ⟨_, rfl, i1⟩ := hi.one
  obtain ⟨_, rfl⟩ := i1.inv
  exact len_str (by rw [S_len]; lia) (by rw [S_len]; exact ⟨_, h, .toks ok _, .int _ _⟩)
theorem C_len_lst {d : D} {ds : List D} (hd : d.items μ = some ds) (hz : ds.length < 2 ^ 62) (h : K (.int ds.length)) : CallK G n μ (.builtin "len") [d] K := fun A W s vs hr ok hm hi => by
  obtain ⟨_, rfl, i1⟩ := hi.one
  obtain ⟨a, vs, rfl, hl, hs⟩ := i1.items hm hd
  have e : vs.toArray.size = ds.length := by rw [List.size_toArray, hs.length]
  exact len_list hl (by rw [e]; lia) (by rw [e]; exact ⟨_, h, .toks ok _, .int _ _⟩)
theorem C_len_tup {ds : List D} (hz : ds.length < 2 ^ 62) (h : K (.int ds.length)) : CallK G n μ (.builtin "len") [.tup ds] K := fun A W s vs hr ok hm hi => by
  obtain ⟨_, rfl, i1⟩ := hi.one
  obtain ⟨_, _, rfl, ht, hs⟩ := i1.inv
  rename_i a vs
  have e : vs.toArray.size = ds.length := by rw [List.size_toArray, hs.length]
  exact len_tuple ht (by rw [e]; lia) (by rw [e]; exact ⟨_, h, .toks ok _, .int _ _⟩)
theorem range_new {W : Wh} {s : Shared} {a b c : Int} {t u v : Tok} {tk : Nat} (ok : OkS G s) (h : K (.rng a b c)) : ∃ d, K d ∧ Ext G s { s with heap := s.heap.push { cls := .type "range", data := .fields #[.int a t, .int b u, .int c v] }, toks := tk } ∧
    Is W (s.heap.push { cls := .type "range", data := .fields #[.int a t, .int b u, .int c v] }) (.ref s.heap.objs.size) d :=
  ⟨_, h, Ext.of_keep ok fun b o e => Heap.get?_push_of_some _ e, .rng (Heap.get?_push_size _ rfl)⟩
theorem C_range1 {a : Int} (h : K (.rng 0 a 1)) : CallK G n μ (.type "range") [.int a] K := fun A W s vs hr ok hm hi => by
  obtain ⟨_, rfl, i1⟩ := hi.one
  obtain ⟨_, rfl⟩ := i1.inv
  exact call_range_1 (range_new ok h)
theorem C_range2 {a b : Int} (h : K (.rng a b 1)) : CallK G n μ (.type "range") [.int a, .int b] K := fun A W s vs hr ok hm hi => by
  obtain ⟨_, _, rfl, i1, i2⟩ := hi.two
  obtain ⟨_, rfl⟩ := i1.inv
  obtain ⟨_, rfl⟩ := i2.inv
  exact call_range_2 (range_new ok h)
theorem C_range3 {a b c : Int} (hc : c ≠ 0) (hs : c.natAbs < 1073741824) (h : K (.rng a b c)) : CallK G n μ (.type "range") [.int a, .int b, .int c] K := fun A W s vs hr ok hm hi => by
  obtain ⟨_, _, _, rfl, i1, i2, i3⟩ := hi.three
  obtain ⟨_, rfl⟩ := i1.inv
  obtain ⟨_, rfl⟩ := i2.inv
  obtain ⟨_, rfl⟩ := i3.inv
  exact call_range_3 hc (range_new ok h) (.inl (PyProof.noPylong_small hs))
theorem C_max2 {a b : Int} (h : K (.int (if b > a then b else a))) : CallK G n μ (.builtin "max") [.int a, .int b] K := fun A W s vs hr ok hm hi => by
  obtain ⟨_, _, rfl, i1, i2⟩ := hi.two
  obtain ⟨_, rfl⟩ := i1.inv
  obtain ⟨_, rfl⟩ := i2.inv
  refine max_two_ints hr.hd fun h' tk hk => ⟨_, h, Ext.of_keep ok hk, ?_⟩
  split <;> exact .int _ _

theorem toString_S (a : Int) : Str.ofString (toString a) = S ((toString a).toList.map Char.toNat) := by rw [Str.ofString_eq_toList]
theorem C_str_int {a : Int} (ha : a.natAbs.log2 < 1920) (h : K (.str ((toString a).toList.map Char.toNat))) : CallK G n μ (.type "str") [.int a] K := fun A W s vs hr ok hm hi => by
  obtain ⟨_, rfl, i1⟩ := hi.one
  obtain ⟨_, rfl⟩ := i1.inv
  exact P.str_of_int ha ⟨_, h, .toks ok _, by rw [toString_S]; exact .str _ _⟩

/-! walks over data -/
theorem restrict_walks {prog : Program} {w : World} {A : Around} {I : Addr} {fp wr : List Addr} {m : Nat} {P : Nat → Value → Prop} {St : Nat → Heap → Prop} (W : Walks prog w A I fp wr m P St) : Walks prog w A I fp wr m (fun i v => i < m ∧ P i v) St where
  sub := W.sub
  frame := W.frame
  item := fun i s Q E hi st hQ => W.item i s Q E hi st fun v h' tk hP hs hk => hQ v h' tk ⟨hi, hP⟩ hs hk
  done := W.done
  self := W.self
theorem foot_lt {A : Around} {W : Wh} {s s₂ : Shared} {it : Value} {its : List D} {I : Addr} {fp : List Addr} {P : Nat → Value → Prop} {St : Nat → Heap → Prop} (q : ItIs G A W s s₂ it its I fp P St) : ∀ b ∈ fp, b < s₂.heap.objs.size := fun b hb => by
  by_cases h : b = I
  · obtain ⟨o, ho, _⟩ := q.obj 0 _ q.st
    exact h ▸ Heap.lt_size ho
  · obtain ⟨o, so⟩ := q.foot b hb h
    exact Heap.lt_size so.at'
/-- when an iterator of one's own is spent -/
theorem spent {A : Around} {W : Wh} {s s₂ : Shared} {it : Value} {its : List D} {I : Addr} {fp : List Addr} {P : Nat → Value → Prop} {St : Nat → Heap → Prop} (ok : OkS G s) (q : ItIs G A W s s₂ it its I fp P St) {h' : Heap} {tk : Nat}
    (hk : ∀ b o, b ∉ [I] → s₂.heap.get? b = some o → h'.get? b = some o) : Ext G s { s₂ with heap := h', toks := tk } := by
  have keep : ∀ b o, b ≠ I → s₂.heap.get? b = some o → h'.get? b = some o := fun b o hb e => hk b o (fun hm => hb (List.mem_singleton.mp hm)) e
  have g0 : G.g0.get? I = Option.none := by
    cases e : G.g0.get? I with
    | none => rfl
    | some o => have := ok.base _ _ e; rw [q.fresh] at this; cases this
  exact ⟨fun b o hT e => keep b o (fun h => by rw [h, q.fresh] at e; cases e) (q.ext.keep b o hT e), q.ext.os, ok_upd (env := envOf default) (W := W) (k := fun _ => Option.none) q.ext.ok (ItObj.scr (q.obj 0 _ q.st)) g0 keep⟩

theorem int_at {W : Wh} {h : Heap} {v : Value} {ns : List Int} {i : Nat} {d : D} (hd : (ns.map D.int)[i]? = some d) (i' : Is W h v d) : ∃ t, v = .int (ns.getD i 0) t := by
  rw [List.getElem?_map] at hd
  cases e : ns[i]? with
  | none => rw [e] at hd; cases hd
  | some k =>
    rw [e] at hd; cases hd
    cases i' with | int _ t => exact ⟨t, by rw [List.getD_eq_getElem?_getD, e]; rfl⟩
theorem C_sum {d : D} {ns : List Int} (hit : IterK G n μ d (ns.map .int)) (hz : ∀ j, j < ns.length → InLong (ns.getD j 0) ∧ InLong (preSum (fun i => ns.getD i 0) (j + 1))) (h : K (.int (preSum (fun i => ns.getD i 0) ns.length))) : CallK G n μ (.builtin "sum") [d] K := fun A W s vs hr ok hm hi => by
  obtain ⟨_, rfl, i1⟩ := hi.one
  rename_i v
  refine call_sum_walk (wpAny_mono (hit A.in1 W s v hr.hd ok hm i1) (fun it s₂ ⟨I, fp, P, St, q⟩ => ?_) fun _ _ y => y)
  have hl : (ns.map D.int).length = ns.length := List.length_map _
  refine ⟨I, fp, [I], _, _, St, fun i => ns.getD i 0, q.ref, restrict_walks (q.walks A.in1 hr.hd), q.st, foot_lt q, fun i v ⟨hi, hP⟩ => ?_, fun j hj => hz j (hl ▸ hj), fun h' tk t' hk => ⟨_, by rw [hl]; exact h, spent ok q hk, .int _ _⟩⟩
  obtain ⟨d, hd, _, hv⟩ := q.item i v hi hP
  exact int_at hd hv
theorem cmp_gt {A : Around} {P : Nat → Value → Prop} {ns : List Int} (h : ∀ i v, P i v → ∃ t, v = .int (ns.getD i 0) t) : CmpOf G.prog G.w A .Gt P fun i j => decide (ns.getD j 0 < ns.getD i 0) := fun i j vi vj s Q E h1 h2 hq => by
  obtain ⟨t, rfl⟩ := h i vi h1
  obtain ⟨u, rfl⟩ := h j vj h2
  exact gt_int hq
theorem cmp_lt {A : Around} {P : Nat → Value → Prop} {ns : List Int} (h : ∀ i v, P i v → ∃ t, v = .int (ns.getD i 0) t) : CmpOf G.prog G.w A .Lt P fun i j => decide (ns.getD i 0 < ns.getD j 0) := fun i j vi vj s Q E h1 h2 hq => by
  obtain ⟨t, rfl⟩ := h i vi h1
  obtain ⟨u, rfl⟩ := h j vj h2
  exact lt_int hq
noncomputable def bestD (bt : Nat → Nat → Bool) (ns : List Int) : Int := ns.getD (argBest bt (ns.length - 1)) 0
theorem C_max {d : D} {ns : List Int} (hit : IterK G n μ d (ns.map .int)) (hne : ns ≠ []) (h : K (.int (bestD (fun i j => decide (ns.getD j 0 < ns.getD i 0)) ns))) : CallK G n μ (.builtin "max") [d] K := fun A W s vs hr ok hm hi => by
  obtain ⟨_, rfl, i1⟩ := hi.one
  rename_i v
  refine call_max_walk (wpAny_mono (hit A.in1 W s v hr.hd ok hm i1) (fun it s₂ ⟨I, fp, P, St, q⟩ => ?_) fun _ _ y => y)
  have hl : (ns.map D.int).length = ns.length := List.length_map _
  have hP : ∀ i v, (i < (ns.map D.int).length ∧ P i v) → ∃ t, v = .int (ns.getD i 0) t := fun i v ⟨hi, hP⟩ => by
    obtain ⟨d, hd, _, hv⟩ := q.item i v hi hP
    exact int_at hd hv
  refine ⟨I, fp, [I], _, _, St, _, q.ref, restrict_walks (q.walks A.in1 hr.hd), q.st, foot_lt q, by rw [hl]; exact List.length_pos_iff.mpr hne, cmp_gt hP, fun v h' tk hv hk => ?_⟩
  obtain ⟨t, rfl⟩ := hP _ _ hv
  exact ⟨_, by rw [hl]; exact h, spent ok q hk, .int _ _⟩
theorem C_min {d : D} {ns : List Int} (hit : IterK G n μ d (ns.map .int)) (hne : ns ≠ []) (h : K (.int (bestD (fun i j => decide (ns.getD i 0 < ns.getD j 0)) ns))) : CallK G n μ (.builtin "min") [d] K := fun A W s vs hr ok hm hi => by
  obtain ⟨_, rfl, i1⟩ := hi.one
  rename_i v
  refine call_min_walk (wpAny_mono (hit A.in1 W s v hr.hd ok hm i1) (fun it s₂ ⟨I, fp, P, St, q⟩ => ?_) fun _ _ y => y)
  have hl : (ns.map D.int).length = ns.length := List.length_map _
  have hP : ∀ i v, (i < (ns.map D.int).length ∧ P i v) → ∃ t, v = .int (ns.getD i 0) t := fun i v ⟨hi, hP⟩ => by
    obtain ⟨d, hd, _, hv⟩ := q.item i v hi hP
    exact int_at hd hv
  refine ⟨I, fp, [I], _, _, St, _, q.ref, restrict_walks (q.walks A.in1 hr.hd), q.st, foot_lt q, by rw [hl]; exact List.length_pos_iff.mpr hne, cmp_lt hP, fun v h' tk hv hk => ?_⟩
  obtain ⟨t, rfl⟩ := hP _ _ hv
  exact ⟨_, by rw [hl]; exact h, spent ok q hk, .int _ _⟩
theorem C_tuple {d : D} {ds : List D} (hd : d.items μ = some ds) (hz : ds.length ≤ sizeLine) (h : K (.tup ds)) : CallK G n μ (.type "tuple") [d] K := fun A W s vs hr ok hm hi => by
  obtain ⟨_, rfl, i1⟩ := hi.one
  obtain ⟨a, vs, rfl, hl, hs⟩ := i1.items hm hd
  refine call_tuple_list hl (fun h' hk => ?_) (by rw [List.size_toArray, hs.length]; exact hz)
  have e1 : Ext G s { s with heap := h' } := Ext.of_keep (tk := s.toks) ok hk
  exact ⟨_, h, e1.trans (push_ext e1.ok _), new_tup e1.ok.tab (hs.ext ok.tab e1.keep)⟩

/-! operators on texts and lists -/
theorem St_isnot_raw_str {x : List Nat} {a : Addr} (h : K (.bool true)) : StK G n μ [.str x, .raw (.ref a)] (b2 (compareOp .IsNot)) K := fun A W s vs hr ok hm hi => by
  obtain ⟨_, _, rfl, i1, i2⟩ := hi.two
  obtain ⟨_, rfl⟩ := i1.inv
  obtain ⟨_, rfl⟩ := i2.inv
  show wpAny _ A (do return Value.bool (!(← isSame (.str (S x) _) (.ref a)))) _ _ s
  exact wpAny_bind (wpAny_pure (wpAny_pure ⟨_, h, .refl ok, .bool _⟩))
theorem St_isnot_raw_same {a : Addr} (h : K (.bool false)) : StK G n μ [.raw (.ref a), .raw (.ref a)] (b2 (compareOp .IsNot)) K := fun A W s vs hr ok hm hi => by
  obtain ⟨_, _, rfl, i1, i2⟩ := hi.two
  obtain ⟨_, rfl⟩ := i1.inv
  obtain ⟨_, rfl⟩ := i2.inv
  exact wpAny_isNot_ref_self ⟨_, h, .refl ok, .bool _⟩
theorem St_is_raw_str {x : List Nat} {a : Addr} (h : K (.bool false)) : StK G n μ [.str x, .raw (.ref a)] (b2 (compareOp .Is)) K := fun A W s vs hr ok hm hi => by
  obtain ⟨_, _, rfl, i1, i2⟩ := hi.two
  obtain ⟨_, rfl⟩ := i1.inv
  obtain ⟨_, rfl⟩ := i2.inv
  show wpAny _ A (do return Value.bool (← isSame (.str (S x) _) (.ref a))) _ _ s
  exact wpAny_bind (wpAny_pure (wpAny_pure ⟨_, h, .refl ok, .bool _⟩))
theorem St_is_raw_same {a : Addr} (h : K (.bool true)) : StK G n μ [.raw (.ref a), .raw (.ref a)] (b2 (compareOp .Is)) K := fun A W s vs hr ok hm hi => by
  obtain ⟨_, _, rfl, i1, i2⟩ := hi.two
  obtain ⟨_, rfl⟩ := i1.inv
  obtain ⟨_, rfl⟩ := i2.inv
  exact wpAny_is_ref_self ⟨_, h, .refl ok, .bool _⟩
theorem St_add_lst {xs ys : List D} (hz : xs.length + ys.length ≤ sizeLine) (h : K (.lst (xs ++ ys))) : StK G n μ [.lst xs, .lst ys] (b2 (binaryOp .Add)) K := fun A W s vs hr ok hm hi => by
  obtain ⟨_, _, rfl, i1, i2⟩ := hi.two
  obtain ⟨_, _, rfl, n1, hl1, hs1⟩ := i1.inv
  obtain ⟨_, _, rfl, n2, hl2, hs2⟩ := i2.inv
  obtain ⟨k1, hl1⟩ := hl1
  obtain ⟨k2, hl2⟩ := hl2
  rename_i a1 v1 a2 v2
  refine P.add_list hl1 hl2 ⟨_, h, push_ext ok _, ?_⟩ (by rw [List.size_toArray, List.size_toArray, hs1.length, hs2.length]; exact hz)
  have := new_list (vs := v1 ++ v2) ok.tab hm (hs1.append hs2)
  simpa using this
theorem foldl_rep (x : List Nat) : ∀ (m : Nat) (acc : Array Nat), ((List.replicate m x.toArray).foldl (· ++ ·) acc) = (acc.toList ++ (List.replicate m x).flatten).toArray
  | 0, acc => by simp
  | m + 1, acc => by
    rw [List.replicate_succ, List.foldl_cons, foldl_rep x m, List.replicate_succ, List.flatten_cons]
    simp
theorem S_mul (x : List Nat) (k : Int) : Txt.mul (S x) k = S (List.replicate k.toNat x).flatten := by
  unfold Txt.mul
  split
  · rename_i h
    have : k.toNat = 0 := by lia
    rw [this]; rfl
  · split
    · rename_i h h'
      rw [Bool.or_eq_true] at h'
      rcases h' with h' | h'
      · have : k = 1 := by simpa using h'
        subst this
        simp
      · have h2 : (S x).length = 0 := by simpa using h'
        rw [S_len] at h2
        have : x = [] := List.eq_nil_of_length_eq_zero h2
        subst this
        simp
    · have := foldl_rep x k.toNat #[]
      show (⟨_⟩ : Str) = _
      rw [this]; simp
theorem St_mul_str {x : List Nat} {k : Int} (hx : x.length ≤ 100) (h0 : -1000 ≤ k) (hk : k ≤ 1000) (h : K (.str (List.replicate k.toNat x).flatten)) : StK G n μ [.str x, .int k] (b2 (binaryOp .Mult)) K := fun A W s vs hr ok hm hi => by
  obtain ⟨_, _, rfl, i1, i2⟩ := hi.two
  obtain ⟨_, rfl⟩ := i1.inv
  obtain ⟨_, rfl⟩ := i2.inv
  refine SB.mul ⟨?_, fun h1 h2 h3 => ?_, fun h1 h2 => ?_⟩ fun t' tk => ⟨_, h, .toks ok _, by rw [S_mul]; exact .str _ _⟩
  · have a1 : ¬ k < -(2 ^ 63 : Int) := by lia
    have a2 : ¬ k ≥ 2 ^ 63 := by lia
    rw [decide_eq_false a1, decide_eq_false a2]; rfl
  · rw [S_len] at h3
    have : (2 ^ 63 - 1) / k ≥ 100 := by
      have h4 : (2 ^ 63 - 1 : Int) / k ≥ 100 ↔ 100 * k ≤ 2 ^ 63 - 1 := by
        rw [ge_iff_le, Int.le_ediv_iff_mul_le (by lia)]
      rw [h4]; lia
    lia
  · rw [S_len]
    unfold Builtin.Str.tooLong sizeLine
    have h4 : x.length * k.toNat ≤ 100 * 1000 := Nat.mul_le_mul hx (by lia)
    exact decide_eq_false (by lia)
theorem foldl_repV (x : List Value) : ∀ (m : Nat) (acc : Array Value), ((List.replicate m x.toArray).foldl (fun x1 x2 => x1 ++ x2) acc) = (acc.toList ++ (List.replicate m x).flatten).toArray
  | 0, acc => by simp
  | m + 1, acc => by
    rw [List.replicate_succ, List.foldl_cons, foldl_repV x m, List.replicate_succ, List.flatten_cons]
    simp
theorem rep_is {W : Wh} {h : Heap} {vs : List Value} {ds : List D} (i : IsL W h vs ds) : ∀ m : Nat, IsL W h (List.replicate m vs).flatten (List.replicate m ds).flatten
  | 0 => .nil
  | m + 1 => by rw [List.replicate_succ, List.replicate_succ, List.flatten_cons, List.flatten_cons]; exact i.append (rep_is i m)
theorem St_mul_lst {xs : List D} {k : Int} (hx : xs.length ≤ 100) (h0 : -1000 ≤ k) (hk : k ≤ 1000) (h : K (.lst (List.replicate k.toNat xs).flatten)) : StK G n μ [.lst xs, .int k] (b2 (binaryOp .Mult)) K := fun A W s vs hr ok hm hi => by
  obtain ⟨_, _, rfl, i1, i2⟩ := hi.two
  obtain ⟨_, _, rfl, n1, hl, hs⟩ := i1.inv
  obtain ⟨_, rfl⟩ := i2.inv
  obtain ⟨q, hl⟩ := hl
  rename_i a v u
  have hv : v.length = xs.length := hs.length
  refine wpAny_binaryOp_repeat_ref (T := "list") (U := "int") (by decide) ⟨_, hl, rfl⟩ (fun s' => typeIs_int s' k u) noFill_list_mul F.fills_int_mul F.slot_int_rmul repeat_list F.slot_int_index.lookup
    (call_meets F.slot_int_rmul (typeIs_int s k u) F.entry_int_rmul (F.args_int_rmul_2 _ _) (int___rmul___int_list k u a v.toArray q)
    ⟨hl, rfl, ⟨_, hl, rfl⟩, call_meets F.slot_list_mul ⟨_, hl, rfl⟩ F.entry_list_mul (F.args_list_mul_2 _ _)
      (AutoListH.list___mul___list_int_3 a v.toArray q k u (by simp [Builtin.List.listFitsIndex]; lia) (fun h3 => ?_) ?_)
      ⟨hl, ⟨_, h, push_ext ok _, ?_⟩⟩⟩)
  · have h4 : v.toArray.size * k.toNat ≤ 100 * 1000 := Nat.mul_le_mul (by rw [List.size_toArray, hv]; exact hx) (by lia)
    lia
  · have h4 : v.toArray.size * k.toNat ≤ 100 * 1000 := Nat.mul_le_mul (by rw [List.size_toArray, hv]; exact hx) (by lia)
    unfold Builtin.List.listTooLong sizeLine
    simp only [decide_eq_true_eq]
    lia
  · have e : List.foldl (fun x1 x2 => x1 ++ x2) #[] (List.replicate (if v.toArray.isEmpty = true then 0 else k.toNat) v.toArray) = ((List.replicate k.toNat v).flatten).toArray := by
      have := fun m => foldl_repV v m #[]
      rw [this]
      by_cases hvn : v = []
      · subst hvn; simp
      · have : v.toArray.isEmpty = false := by simpa using hvn
        rw [this]; simp
    rw [e]
    exact new_list ok.tab hm (rep_is hs k.toNat)
theorem St_notin_str {x y : List Nat} (h : K (.bool (Builtin.Str.occurrences (S x) (S y) 0 x.length 1).isEmpty)) : StK G n μ [.str y, .str x] (b2 (compareOp .NotIn)) K := fun A W s vs hr ok hm hi => by
  obtain ⟨_, _, rfl, i1, i2⟩ := hi.two
  obtain ⟨_, rfl⟩ := i1.inv
  obtain ⟨_, rfl⟩ := i2.inv
  refine notIn_str ?_
  rw [Bool.not_not, S_len]
  exact ⟨_, h, .refl ok, .bool _⟩
end
section
open PySem PySem.W PyProof.Rows
set_option maxRecDepth 100000
set_option linter.unusedVariables false
set_option linter.unusedSimpArgs false
open PySem.Calls
variable {G : GX} {sc : Scope} {n : Nat} {vals : List (Option D)} {μ : List (List D)} {K : D → Prop}

theorem any_plain {args : List Expr} {env : Env} : ((evalEach args env).map fun t => (false, t)).any (·.1) = false := by
  rw [List.any_eq_false]
  intro x hx
  obtain ⟨t, _, rfl⟩ := List.mem_map.mp hx
  exact Bool.false_ne_true
theorem Ev_strmeth {o : Expr} {name : Str} {id : String} {apos pos : Pos} {args : List Expr} {pl : Env → Sem Bool} (slot : Slot "str" name id) (ty : typeOf (.builtin id) = pure (.type "method_descriptor"))
    (h : EvK G sc n vals μ o fun d => ∃ x, d = .str x ∧ EvL G sc n vals μ args fun ds => CallK G n μ (.builtin id) (.str x :: ds) K)
    (he : ∀ env, eval (.Call (.Attribute o name apos) args [] pos) env = (do
      let ov ← eval o env
      standAt apos.atName
      let (f, first) ← holding [ov] (getMethod ov name (pl env))
      callWith pos f first (backTo pos (starEach args env)) [])) (hn : noStar args = true) :
    EvK G sc n vals μ (.Call (.Attribute o name apos) args [] pos) K := EvK.of fun A env W s ok => by
  refine MethodCall_ (pl := pl env) (h.use ok fun vo s₁ d ⟨x, hd, hl⟩ e1 i1 => ?_) (he env)
  subst hd
  obtain ⟨t, rfl⟩ := i1.inv
  refine GM.of (.str (S x) t) (typeIs_str _ _ _) slot ty GM.noRef ?_
  rw [backTo_eq _ _ _ hn]
  refine Calls.callWith_builtin any_plain (evalArgs_of (hl.use (ok.ext e1) fun vs s₂ ds hk e2 is => ?_))
  have o2 := (ok.ext e1).ext e2
  exact StK.use (f := fun vs => call (.builtin id) vs) (vs := .str (S x) t :: vs) hk o2.2.1 o2.2.2.1 o2.2.2.2.2 (.cons (.str x t) is) fun v s₃ d hK e3 i3 => ⟨d, hK, (e1.trans e2).trans e3, i3⟩

/-! f-texts -/
noncomputable def EvJ (G : GX) (sc : Scope) (n : Nat) (vals : List (Option D)) (μ : List (List D)) : List Expr → List Nat → (List Nat → Prop) → Prop
  | [], acc, K => K acc ∧ acc.length ≤ sizeLine
  | e :: r, acc, K => EvK G sc n vals μ e fun d => ∃ y, d = .str y ∧ (acc ++ y).length ≤ sizeLine ∧ EvJ G sc n vals μ r (acc ++ y) K
theorem EvJ.use {A : Around} {env : Env} {W : Wh} : ∀ {es : List Expr} {acc : List Nat} {s : Shared} {KJ : List Nat → Prop} {Q : Str → Shared → Prop}, EvJ G sc n vals μ es acc KJ → Ok5 G sc n vals μ A env W s →
    (∀ y s', KJ y → y.length ≤ sizeLine → Ext G s s' → Q (S y) s') → Joins (model G.prog G.w) A No (evalEach es env) (S acc) Q s
  | [], acc, s, KJ, Q, h, o, hQ => hQ acc s h.1 h.2 (.refl o.2.2.1)
  | e :: r, acc, s, KJ, Q, h, o, hQ => EvK.use h o fun v s₁ d ⟨y, hd, hz, hr⟩ e1 i1 => by
    subst hd
    obtain ⟨t, rfl⟩ := i1.inv
    refine ⟨S y, t, rfl, by rw [S_app, S_len]; exact hz, ?_⟩
    rw [S_app]
    exact EvJ.use hr (o.ext e1) fun y s₂ hk hl e2 => hQ y s₂ hk hl (e1.trans e2)
theorem S_nil : Str.empty = S [] := rfl
theorem Ev_fstr {v₁ v₂ : Expr} {rest : List Expr} {pos : Pos} (h : EvJ G sc n vals μ (v₁ :: v₂ :: rest) [] fun y => K (.str y)) : EvK G sc n vals μ (.JoinedStr (v₁ :: v₂ :: rest) pos) K := EvK.of fun A env W s o =>
  wpAny_JoinedStr (by rw [S_nil]; exact EvJ.use h o fun y s' hk hl e => ⟨by rw [S_len]; exact hl, _, hk, e.trans (.toks e.ok _), .str _ _⟩)
theorem Ev_fmt {value : Expr} {pos : Pos} (h : EvK G sc n vals μ value fun d => ∃ x, d = .str x ∧ x.length ≤ sizeLine ∧ K (.str x)) : EvK G sc n vals μ (.FormattedValue value (-1) none pos) K := EvK.of fun A env W s o =>
  wpAny_FormattedValue_plain (h.use o fun v s₁ d ⟨x, hd, hz, hk⟩ e1 i1 => by
    subst hd
    obtain ⟨t, rfl⟩ := i1.inv
    exact SB.field_str (fun t' k => ⟨_, hk, e1.trans (.toks e1.ok _), .str _ _⟩) (by rw [S_len]; exact hz))

/-! joined texts -/
noncomputable def joinL (sep : List Nat) : List (List Nat) → List Nat
  | [] => []
  | x :: r => x ++ (r.map fun y => sep ++ y).flatten
theorem glued_go (sep : List Nat) : ∀ (r : List (List Nat)) (acc : Array Nat), (r.map S).foldl (fun acc p => acc ++ (S sep).cps ++ p.cps) acc = (acc.toList ++ (r.map fun y => sep ++ y).flatten).toArray
  | [], acc => by simp
  | y :: r, acc => by
    rw [List.map_cons, List.foldl_cons, glued_go sep r, List.map_cons, List.flatten_cons]
    simp
theorem S_join (sep : List Nat) (ys : List (List Nat)) : Txt.join (S sep) (ys.map S) = S (joinL sep ys) := by
  unfold Txt.join Builtin.Str.glued
  cases ys with
  | nil => rfl
  | cons y r =>
    rw [List.map_cons, List.drop_succ_cons, List.drop_zero]
    have := glued_go sep r (S y).cps
    show (⟨_⟩ : Str) = _
    simp only [List.headD_cons]
    rw [this]
    simp [joinL]
theorem C_join {sep : List Nat} {d : D} {ys : List (List Nat)} (hd : d.items μ = some (ys.map .str)) (hz : (ys.map List.length).sum + ys.length * sep.length ≤ 16777216) (h : K (.str (joinL sep ys))) : CallK G n μ (.builtin "str.join") [.str sep, d] K := fun A W s vs hr ok hm hi => by
  obtain ⟨_, _, rfl, i0, i1⟩ := hi.two
  obtain ⟨_, rfl⟩ := i0.inv
  obtain ⟨a, vs, rfl, hl, hs⟩ := i1.items hm hd
  refine join_list hl hs.strs ?_ fun t' k => ⟨_, h, .toks ok _, by rw [S_join]; exact .str _ _⟩
  rw [List.map_map, List.length_map, S_len]
  have : (fun x => Str.length x) ∘ S = List.length := by funext x; exact S_len x
  rw [this]; exact hz
theorem C_replace {x y z : List Nat} (he : Builtin.Str.occurrences (S x) (S y) 0 x.length (x.length + 1) = []) (h : K (.str x)) : CallK G n μ (.builtin "str.replace") [.str x, .str y, .str z] K := fun A W s vs hr ok hm hi => by
  obtain ⟨_, _, _, rfl, i0, i1, i2⟩ := hi.three
  obtain ⟨_, rfl⟩ := i0.inv
  obtain ⟨_, rfl⟩ := i1.inv
  obtain ⟨_, rfl⟩ := i2.inv
  have he' : Builtin.Str.occurrences (S x) (S y) 0 (S x).length ((S x).length + 1) = [] := by rw [S_len]; exact he
  refine call_gives F.slot_str_replace (typeIs_str _ _ _) F.entry_str_replace (F.args_str_replace_3 _ _ _) (PySem.gives_str_replace (S x) (S y) (S z) _ _ _ fun q => ?_) ?_
  · rw [he'] at q; simp at q
  · rw [he']
    simp only [List.isEmpty_nil, Bool.true_or, if_true]
    exact ⟨_, h, .refl ok, .str _ _⟩

theorem gives_find4 (x y : Str) (i j : Int) (t u v w : Tok) : Gives (Builtin.«str.find» ⟨[.str x t, .str y u, .int i v, .int j w], []⟩)
    (.int (match Builtin.Str.occurrences x y (fromIndex x.length i) (min (fromIndex x.length j) x.length) 1 with | k :: _ => (k : Int) | [] => -1)) := by
  show Gives (match Builtin.Str.occurrences x y (fromIndex x.length i) (min (fromIndex x.length j) x.length) 1 with | k :: _ => retInt k | [] => (do rule "str.find.not-found"; retInt (-1))) _
  cases Builtin.Str.occurrences x y (fromIndex x.length i) (min (fromIndex x.length j) x.length) 1 with
  | nil => exact .rule (.of_eq rfl)
  | cons k _ => exact .of_eq rfl
theorem C_find4 {x y : List Nat} {i j : Int} {r : Int} (hr : (match Builtin.Str.occurrences (S x) (S y) (fromIndex x.length i) (min (fromIndex x.length j) x.length) 1 with | k :: _ => (k : Int) | [] => -1) = r) (h : K (.int r)) :
    CallK G n μ (.builtin "str.find") [.str x, .str y, .int i, .int j] K := fun A W s vs hr' ok hm hi => by
  obtain ⟨_, _, rfl, i0, q⟩ := hi.inv
  obtain ⟨_, _, _, rfl, i1, i2, i3⟩ := q.three
  obtain ⟨_, rfl⟩ := i0.inv
  obtain ⟨_, rfl⟩ := i1.inv
  obtain ⟨_, rfl⟩ := i2.inv
  obtain ⟨_, rfl⟩ := i3.inv
  refine call_gives F.slot_str_find (typeIs_str _ _ _) F.entry_str_find ?_ (gives_find4 (S x) (S y) i j _ _ _ _) ?_
  · exact F.args_str_find_4 _ _ _ _
  · rw [S_len, hr]; exact ⟨_, h, .toks ok _, .int _ _⟩
end
section
open PySem PySem.W PyProof.Rows
set_option maxRecDepth 100000
set_option linter.unusedVariables false
set_option linter.unusedSimpArgs false
open PySem.Calls
variable {G : GX} {sc : Scope} {n : Nat} {vals : List (Option D)} {μ : List (List D)} {K : D → Prop}

section
variable {prog : Program} {w : World} {A : Around} {E : Value → Shared → Prop} {s : Shared}
theorem sliceApplied_two {sl : Addr} {u : Tok} {Q : Int × Int × Nat → Shared → Prop} (hs : s.heap.IsSliceOf sl .none (.int 2 u) .none) (h : Q (0, 1, 2) s) :
    wpAny (model prog w) A (Builtin.Slice.sliceApplied (.ref sl) (pure (3 : Int))) Q E s := by
  obtain ⟨os, hos, hcs, hds⟩ := id hs
  unfold Builtin.Slice.sliceApplied Builtin.Slice.sliceFields
  refine wpAny_bind (wpAny_bind (wpAny_field hos hds (x := .none) rfl (wpAny_bind (wpAny_field hos hds (x := .int 2 u) rfl (wpAny_bind (wpAny_field hos hds (x := .none) rfl (wpAny_pure ?_)))))))
  refine wpAny_bind (slicePart_none ?_)
  show wpAny _ _ (if ((1 : Int) == 0) = true then _ else _) _ _ s
  rw [if_neg (by decide)]
  refine wpAny_bind (slicePart_none (wpAny_bind (slicePart_int (wpAny_bind (wpAny_pure ?_)))))
  exact wpAny_pure h
theorem getItem_tuple_two {t sl : Addr} {a b c : Value} {u : Tok} {Q : Value → Shared → Prop} (ht : IsTup s.heap t #[a, b, c]) (hs : s.heap.IsSliceOf sl .none (.int 2 u) .none)
    (h : Q (.ref s.heap.objs.size) { s with heap := s.heap.push { cls := .type "tuple", data := .seq [a, b].toArray } }) : wpAny (model prog w) A (getItem (.ref t) (.ref sl)) Q E s := by
  have hdrop : sizeOk (.seq ([a, b].toArray : Array Value) 0) := by
    show (2 : Nat) ≤ sizeLine
    decide
  obtain ⟨os, hos, hcs, hds⟩ := id hs
  have hTs : s.TypeIs (.ref sl) "slice" := ⟨os, hos, hcs⟩
  unfold getItem
  try with_reducible refine wpAny_holding ?_
  first | refine wpAny_bind (wpAny_pure ?_) | skip
  refine wpAny_bind (wpAny_sequenceKey ht.typeIs (by decide) ?_)
  refine wpAny_bind (wpAny_callSpecial?_slot (name := Str.ofString "__getitem__") ht.typeIs slot_tuple_getitem
    (wpAny_call_entry slot_tuple_getitem ht.typeIs entry_tuple_getitem ?_ (args_tuple_getitem _ _)))
  show wpAny _ _ (Builtin.Tuple.tupleItemsOf (.ref t) >>= _) _ _ s
  refine wpAny_bind (tupleItemsOf_ ht ?_)
  refine wpAny_bind (wpAny_typeOf hTs ?_)
  rw [if_pos (by decide)]
  refine wpAny_bind (sliceApplied_two hs ?_)
  show wpAny _ _ (if ((0 : Int) == 0 && (1 : Int) == 1 && ((2 : Nat) == 3)) = true then _ else _) _ _ s
  rw [if_neg (by decide)]
  have e : ((List.range 2).filterMap fun (k : Nat) => (#[a, b, c] : Array Value)[((0 : Int) + (k : Int) * 1).toNat]?).toArray = [a, b].toArray := rfl
  rw [e]
  first
    | exact wpAny_bind (m := Builtin.Tuple.tupleExact _) (wpAny_newObj_type (wpAny_pure ⟨_, rfl, wpAny_pure h⟩) hdrop)
    | exact wpAny_bind (m := Builtin.Tuple.tupleExact _) (wpAny_newObj_type (wpAny_bind (wpAny_pure (wpAny_pure ⟨_, rfl, wpAny_pure h⟩))) hdrop)
    | exact wpAny_bind (wpAny_bind (m := Builtin.Tuple.tupleExact _) (wpAny_newObj_type (wpAny_pure (wpAny_pure ⟨_, rfl, wpAny_pure h⟩)) hdrop))
    | exact wpAny_bind (wpAny_bind (m := Builtin.Tuple.tupleExact _) (wpAny_newObj_type (wpAny_pure ⟨_, rfl, wpAny_pure h⟩) hdrop))
end
theorem Ev_two {value e : Expr} {p pos : Pos} (h : EvK G sc n vals μ value fun o => EvK G sc n vals μ e fun d => d = .int 2 ∧ ∃ a b c, o = .tup [a, b, c] ∧ K (.tup [a, b])) (ht : ∀ o r, letTemporaryGo value o r = pure ()) :
    EvK G sc n vals μ (.Subscript value (.Slice none (some e) none p) pos) K := EvK.of fun A env W s o => by
  refine wpAny_Subscript_Slice (T := "tuple") slot_tuple_getitem.lookup (h.use o fun vo s₁ d hd e1 i1 => wpAny_Slice (EvP.use (e := none) (K := fun l => l = none) rfl (o.ext e1) fun vl s₂ l hl e2 p2 => EvK.use hd ((o.ext e1).ext e2) fun vu s₃ u hu e3 p3 => wpAny_pure ?_)) ht
  obtain ⟨rfl, a, b, c, rfl, hk⟩ := hu
  subst hl
  cases p2
  cases p3 with | int _ tk =>
  have o3 := ((o.ext e1).ext e2).ext e3
  have i3 := (i1.ext (o.ext e1).2.2.1.tab e2.keep).ext ((o.ext e1).ext e2).2.2.1.tab e3.keep
  obtain ⟨_, _, rfl, ht3, hs3⟩ := i3.inv
  obtain ⟨_, _, _, rfl, ia, ib, ic⟩ := hs3.three
  rename_i t va vb vc
  have e4 := push_ext e3.ok { cls := .type "slice", data := .fields #[Value.none, .int 2 tk, .none] }
  have o4 := o3.ext e4
  have ht4 := tup_ext o3.2.2.1.tab e4.keep ht3
  refine ⟨ht4.typeIs, getItem_tuple_two ht4 (Heap.IsSliceOf.new ..) ?_⟩
  refine ⟨_, hk, (((e1.trans e2).trans e3).trans e4).trans (push_ext o4.2.2.1 _), new_tup o4.2.2.1.tab (.cons (ia.ext o3.2.2.1.tab e4.keep) (.cons (ib.ext o3.2.2.1.tab e4.keep) .nil))⟩
end
section
open PySem PySem.W PyProof.Rows
set_option maxRecDepth 100000
set_option maxHeartbeats 4000000
set_option linter.unusedVariables false
set_option linter.unusedSimpArgs false
open PySem.Calls
variable {prog : Program} {w : World} {A : Around} {E : Value → Shared → Prop}

theorem slot_md_get : Slot "method_descriptor" "__get__" "method_descriptor.__get__" :=
  .of (owner := "method_descriptor") (n := "__get__") (by rw [typeLookup_type, builtinLookup_eq_fast]; kernel_rfl) (by decide +kernel) (by decide +kernel) (by decide +kernel)
    (by first | exact .inl (by decide +kernel) | exact .inr (by decide +kernel)) (by rw [isSubtype_type]; kernel_rfl)
theorem entry_md_get : entryFor table "method_descriptor.__get__" = some Builtin.«method_descriptor.__get__» := entryFor_of_tree (by kernel_rfl)
theorem args_md_get (a b c : Value) : argsOk "method_descriptor.__get__" ⟨[a, b, c], []⟩ := by unfold argsOk; kernel_rfl
theorem owner_la : (kfb_private% "ownerAndName") "list.append" = ("list", "append") := by first | decide +kernel | kernel_rfl
theorem run_md_get {M : Model} {s : Shared} {a : Addr} {P : Fin → Shared → Prop} (hT : s.TypeIs (.ref a) "list") (h : P (.done (.ret (.ref s.heap.objs.size))) { s with heap := s.heap.push (boundAppend a) }) :
    wpAny M A (Builtin.«method_descriptor.__get__» ⟨[.builtin "list.append", .ref a, .type "list"], []⟩) P E s := by
  unfold Builtin.«method_descriptor.__get__»
  refine wpAny_bind (wpAny_of_eq (a := (.builtin "list.append", some (.ref a), some (.type "list"))) (by first | rfl | kernel_rfl) ?_)
  dsimp only
  have hsub : isSubtype (.type "list") (.type "list") = pure true := by rw [isSubtype_type]; kernel_rfl
  have ho := owner_la
  have hcut : "list.append".cutAt '.' = ["list", "append"] := by first | decide +kernel | kernel_rfl
  refine wpAny_bind ?_
  iterate 4 wp_step
  rw [hcut]
  show wpAny M A (do
    let b ← isInstance (.ref a) (.type "list")
    if (!b) = true then _ else pure ()) _ _ _
  refine wpAny_bind (wpAny_isInstance hT hsub ?_)
  refine wpAny_ite_false rfl (wpAny_pure ?_)
  exact wpAny_bind (wpAny_newObj_type (wpAny_pure h))

theorem lk_append : typeLookup (.type "list") (Str.ofString "append") = pure (some (.builtin "list.append")) := by rw [typeLookup_type, builtinLookup_eq_fast]; kernel_rfl
theorem lk_md_set : typeLookup (.type "method_descriptor") (Str.ofString "__set__") = pure none := by rw [typeLookup_type, builtinLookup_eq_fast]; kernel_rfl
theorem lk_md_delete : typeLookup (.type "method_descriptor") (Str.ofString "__delete__") = pure none := by rw [typeLookup_type, builtinLookup_eq_fast]; kernel_rfl
theorem meets_getattribute_append (a : Addr) (xs : Array Value) (k : Nat) (u : Tok) :
    Meets (Builtin.«object.__getattribute__» ⟨[.ref a, .str "append" u], []⟩) (fun A R s => s.heap.get? a = some { cls := .type "list", dict := none, data := .seq xs k, slots := #[] } ∧ R (.ok (.ret (.ref s.heap.objs.size))) { s with heap := s.heap.push (boundAppend a) }) :=
  Meets.of_wp fun prog w A R s hs => by
    obtain ⟨hp, g, d, tk, os⟩ := s
    obtain ⟨hx, hs⟩ := hs
    have hT : (⟨hp, g, d, tk, os⟩ : Shared).TypeIs (.ref a) "list" := ⟨_, hx, rfl⟩
    have f1 := lk_append
    have f2 := F.type_list_append
    have f3 := slot_md_get.lookup
    have f4 := lk_md_set
    have f5 := lk_md_delete
    unfold Builtin.«object.__getattribute__»
    repeat (any_goals (first | assumption | ((with_reducible show wpAny _ _ (call (Value.builtin "method_descriptor.__get__") _ _) _ _ _); refine wpAny_call_entry slot_md_get f2 entry_md_get (run_md_get hT ?_) (args_md_get _ _ _)) | wp_step))
    exact ⟨_, rfl, wpAny_pure ⟨_, rfl, hs⟩⟩

theorem getAttr_append {s : Shared} {a : Addr} {xs : Array Value} {Q : Value → Shared → Prop} (hl : s.heap.PlainList a xs) (h : ∀ tk, Q (.ref s.heap.objs.size) { s with heap := s.heap.push (boundAppend a), toks := tk }) :
    wpAny (model prog w) A (getAttr (.ref a) "append" true) Q E s := by
  obtain ⟨k, hx⟩ := hl
  obtain ⟨hp, g, d, tk, os⟩ := s
  have hT : ∀ tk', (⟨hp, g, d, tk', os⟩ : Shared).TypeIs (.ref a) "list" := fun _ => ⟨_, hx, rfl⟩
  have f3 := F.slot_list_getattribute.lookup
  have f4 := F.slot_list_getattribute.bind (.ref a)
  have f5 := am_list_getattr_none
  unfold getAttr getAttrBy
  repeat (any_goals (first | assumption | exact hT _ | ((with_reducible show wpAny _ _ (call (Value.builtin "list.__getattribute__") _ _) _ _ _); refine call_meets F.slot_list_getattribute (hT _) am_entry_list_getattribute (F.args_list_getattribute_2 _ _) (meets_getattribute_append a xs k _) ⟨hx, ?_⟩) | wp_step))
  exact wpAny_pure (h _)
theorem sig_la : Manifest.signature? "list.append" = some ⟨.oneArg, "list.append", "append", .self, [⟨"object", .posOnly, true⟩]⟩ := by
  first | kernel_rfl | decide +kernel
theorem kind_la : builtinKind "list.append" = some .method := by first | decide +kernel | kernel_rfl
theorem sub_lm : isSubtype (.type "list") (.type "module") = pure false := by rw [isSubtype_type]; kernel_rfl
theorem sub_lt : isSubtype (.type "list") (.type "type") = pure false := by rw [isSubtype_type]; kernel_rfl
theorem var_la : Manifest.varargsMethods.contains "list.append" = false := by first | decide +kernel | kernel_rfl
theorem check_la (a : Addr) (x : Value) : Bind.checkArgs "list.append" ⟨.oneArg, "list.append", "append", .self, [⟨"object", .posOnly, true⟩]⟩ ⟨[.ref a, x], []⟩ = pure () := by
  have h := args_list_append (.ref a) x
  unfold argsOk at h
  rw [sig_la] at h
  exact h
theorem last_la : Bind.lastOf "list.append" = "append" := by first | decide +kernel | kernel_rfl
theorem last_l : Bind.lastOf "list" = "list" := by first | decide +kernel | kernel_rfl
theorem check_bound {M : Model} {s : Shared} {a : Addr} {x : Value} {items : Array Value} {n : Nat} {Q : Unit → Shared → Prop} (ho : s.heap.get? a = some { cls := .type "list", data := .seq items n }) (hQ : Q () s) : wpAny M A (checkBoundCall "list.append" ⟨[.ref a, x], []⟩) Q E s := by
  have hT : s.TypeIs (.ref a) "list" := ⟨_, ho, rfl⟩
  unfold checkBoundCall
  rw [sig_la, kind_la]
  dsimp only
  have h1 := sub_lm
  have h2 := sub_lt
  have h3 := check_la a x
  refine wpAny_ite_false rfl ?_
  refine wpAny_bind (wpAny_isInstance hT h1 ?_)
  rw [var_la]
  refine wpAny_ite_false rfl ?_
  have h4 : (toString (Bind.lastOf "list") ++ toString "." ++ toString (Bind.lastOf "list.append")) = "list.append" := by rw [last_l, last_la]; decide
  refine wpAny_bind ?_
  unfold isType
  refine wpAny_bind (m := loadHead a) (wpAny_loadPart_at ho ?_)
  refine wpAny_pure ?_
  refine wpAny_ite_false (by rfl) ?_
  refine wpAny_bind (wpAny_typeOf hT ?_)
  dsimp only
  rw [h4]
  exact wpAny_of_eq h3 hQ
theorem call_bound_append {s : Shared} {a b : Addr} {xs : Array Value} {x : Value} {Q : Value → Shared → Prop} (hb : s.heap.get? b = some (boundAppend a)) (hl : s.heap.PlainList a xs) (hQ : ∀ h', h'.PlainList a (xs.push x) → Heap.SameBut a s.heap h' → Q .none { s with heap := h' }) (hsz : xs.size ≤ sizeLine) :
    wpAny (model prog w) A (call (.ref b) [x]) Q E s := by
  refine wpAny_call (codeAny_of_tree ?_)
  show wpAny _ A.in1 (callAny (.ref b) ⟨[x], []⟩) _ _ s
  refine wpAny_bind (m := load b) (wpAny_load hb ?_)
  refine wpAny_ite_true (by rfl) ?_
  show wpAny _ _ (if (Value.type "builtin_function_or_method" != Value.type "method") = true then (do
          checkBoundCall "list.append" { pos := [.ref a, x] }
          again (Code.builtin "list.append" { pos := [.ref a, x] }))
        else again (Code.call (.builtin "list.append") { pos := [.ref a, x] })) _ _ _
  refine wpAny_ite_true (by decide) ?_
  obtain ⟨n, ho⟩ := hl
  refine wpAny_bind (check_bound ho (wpAny_pure ⟨Code.quiet_builtin _ (by decide +kernel), ?_⟩))
  refine codeAny_builtin entry_list_append ?_
  rw [Around.under_plainId (by decide +kernel)]
  show wpAny _ _ (updateSeq a (·.push x) >>= fun _ => ret .none) _ _ s
  refine wpAny_bind ?_
  refine wpAny_updateSeq ho rfl (wpAny_pure ?_)
  refine hQ _ ⟨n + 1, ?_⟩ (Heap.SameBut.update ..)
  rw [Heap.get?_update_self _ ho (by rw [Obj.mapSeq_push_plain]; rfl), Obj.mapSeq_push_plain]
end
section
open PySem PySem.W PyProof.Rows
set_option maxRecDepth 100000
set_option maxHeartbeats 1000000
set_option linter.unusedVariables false
set_option linter.unusedSimpArgs false
open PySem.Calls
variable {G : GX} {sc : Scope} {n : Nat} {vals : List (Option D)} {μ : List (List D)} {K : D → Prop}

theorem callWith_bm {M : Model} {A : Around} {E : Value → Shared → Prop} {s : Shared} {pos : Pos} {a b : Addr} {args : List (Bool × Sem Value)} {Q : Value → Shared → Prop} (hplain : args.any (·.1) = false)
    (h : wpAny M A (evalArgs (.ref b) true args []) (fun x s₁ => s₁.heap.get? b = some (boundAppend a) ∧ wpAny M A (call (.ref b) ([] ++ x.pos) x.kw) Q E s₁) E s) : wpAny M A (callWith pos (.ref b) [] args []) Q E s := by
  unfold callWith
  refine wpAny_bind (wpAny_holding (wpAny_mono h (fun x s₁ h₁ => wpAny_bind (wpAny_standAt ?_)) fun _ _ x => x))
  rw [hplain]
  refine wpAny_bind (m := keeperOf (.ref b)) ?_
  unfold keeperOf
  refine wpAny_bind (wpAny_load h₁.1 ?_)
  refine wpAny_ite_true (by rfl) ?_
  refine wpAny_pure ?_
  rw [show ((boundAppend a).cls == Value.type "builtin_function_or_method" || (boundAppend a).cls == Value.type "method-wrapper") = true from rfl]
  exact wpAny_bind (wpAny_mono h₁.2 (fun r s₂ hr => wpAny_bind (wpAny_holding (wpAny_point (wpAny_pure hr)))) fun _ _ x => x)

/-- «res.append» as a value -/
theorem Ev_append {x : Str} {xp pos : Pos} (h : EvK G sc n vals μ (.Name x xp) fun d => ∃ i, d = .mt i ∧ K (.bm i)) : EvK G sc n vals μ (.Attribute (.Name x xp) "append" pos) K := EvK.of fun A env W s o => by
  refine Attribute_name (h.use o fun v s₁ d ⟨i, hd, hk⟩ e1 i1 => ?_)
  subst hd
  obtain ⟨_, rfl, hw⟩ := i1.inv
  rename_i a
  obtain ⟨vs, hp⟩ := (o.ext e1).2.2.2.2.pl a (.inr (List.mem_of_getElem? hw))
  refine getAttr_append hp fun tk => ⟨_, hk, e1.trans (Ext.of_keep e1.ok fun b o e => Heap.get?_push_of_some _ e), .bm hw (Heap.get?_push_size _ rfl)⟩
variable {KO : Out → Prop}
/-- «add(e)» -/
theorem Ex_add {x : Str} {xp pos pos' : Pos} {elt : Expr}
    (h : EvK G sc n vals μ (.Name x xp) fun d => ∃ i, d = .bm i ∧ EvM G sc n vals μ elt fun d' μ' => ∃ ds, μ'[i]? = some ds ∧ ds.length ≤ sizeLine ∧ KO (.next vals (μ'.set i (ds ++ [d']))))
    (hn : noStar [elt] = true)
    (hi : ∀ env, env.scope.kind = .function → interactive env = false)
    (hs : ∀ env, swapsWith (.Call (.Name x xp) [elt] [] pos) none pos'.line env = pure false)
    (he : ∀ env, eval (.Call (.Name x xp) [elt] [] pos) env = (do callWith pos (← eval (.Name x xp) env) [] (backTo pos (starEach [elt] env)) (backToKw pos (keywordEach [] env)))) :
    ExS G sc n vals μ (.Expr (.Call (.Name x xp) [elt] [] pos) pos') KO := fun A env kp av s b x => by
  obtain ⟨W, hw, _, st⟩ := x
  refine wpAny_Expr (Call_ (h.use (st.ok5 b) fun vo s₁ d hx e1 i1 => ?_) (he env)) (hi env (by rw [b.henv.hsc]; exact b.henv.kind)) (hs env)
  obtain ⟨i, hd, hm⟩ := hx
  subst hd
  obtain ⟨a, bb, rfl, hwi, hb⟩ := i1.inv
  have st1 := st.step e1
  rw [backTo_eq _ _ _ hn]
  refine callWith_bm (a := a) any_plain (evalArgs_of ?_)
  show wpAny _ A (spliced [(false, eval elt env)]) _ _ s₁
  refine spliced_cons (EvM.use hm b hw st1 fun v s₂ d' μ' W' hk hw' ho' st' iv hx mv ix => spliced_nil ?_)
  obtain ⟨ds, hds, hz, hk⟩ := hk
  have hb2 : s₂.heap.get? bb = some (boundAppend a) := hx.get st1.ok.tab hb (fun ps e => by cases e)
  refine ⟨hb2, ?_⟩
  obtain ⟨vs, hp, hs⟩ := st'.mts.2.2.2 i a ds (ix i a hwi) hds
  refine call_bound_append hb2 hp (fun h' hl' hs' => ?_) (by rw [List.size_toArray, hs.length]; exact hz)
  have := st'.setOwn (tk := s₂.toks) b (ix i a hwi) hs' (vs := vs ++ [v]) (by simpa using hl') (hs.append (.cons iv .nil))
  exact ⟨_, _, hk, W', hw', ho'.trans e1.os, this.1⟩
end
section
open PySem PySem.W PyProof.Rows
set_option maxRecDepth 100000
set_option maxHeartbeats 4000000
set_option linter.unusedVariables false
set_option linter.unusedSimpArgs false
open PySem.Calls
section
variable {prog : Program} {w : World} {A : Around} {E : Value → Shared → Prop} {s : Shared}
theorem sub_KeyLookup : isSubtype (.type "KeyError") (.type "LookupError") = pure true := by rw [isSubtype_type]; kernel_rfl
theorem tableLookup_hit {d : Addr} {c : Nat} {f : Int → Option Value} {x : Str} {t : Tok} {Q : Builtin.Str.Mapped → Shared → Prop} (hm : s.heap.MapOf (intKind prog w) d f) (hv : f (c : Int) = some (.str x t)) (h : ∀ tk, Q (.text x) { s with toks := tk }) :
    wpAny (model prog w) A (Builtin.Str.tableLookup (.ref d) c) Q E s := by
  unfold Builtin.Str.tableLookup
  refine wpAny_bind (wpAny_attempt (wpAny_bind (wpAny_mkInt ?_)))
  refine wpAny_getItem_of (knd := intKind prog w) (k := (c : Int)) (by simp [intKind, Value.isInt]) hm hv ?_
  repeat (any_goals (first | assumption | wp_step))
  exact h _
theorem tableLookup_miss {d : Addr} {c : Nat} {f : Int → Option Value} {Q : Builtin.Str.Mapped → Shared → Prop} (hh : A.handled = none) (hd : (d == sysModules) = false) (hm : s.heap.MapOf (intKind prog w) d f) (hv : f (c : Int) = none)
    (h : ∀ h' tk, (∀ b o, s.heap.get? b = some o → h'.get? b = some o) → Q .keep { s with heap := h', toks := tk }) :
    wpAny (model prog w) A (Builtin.Str.tableLookup (.ref d) c) Q E s := by
  unfold Builtin.Str.tableLookup
  refine wpAny_bind (wpAny_attempt (wpAny_bind (wpAny_mkInt ?_)))
  refine wpAny_getItem_missing_of (knd := intKind prog w) (k := (c : Int)) (by simp [intKind, Value.isInt]) hd hh hm hv fun h' e hx => ?_
  have hs := sub_KeyLookup
  have hk : ∀ b o, s.heap.get? b = some o → h'.get? b = some o := hx.keeps
  have hT : (⟨h', s.gens, s.drawn, s.toks + 1 + 1, s.os⟩ : Shared).TypeIs (.ref e) "KeyError" := let ⟨ob, _, h1, h2, _⟩ := hx.there; ⟨ob, h1, h2⟩
  dsimp only
  refine wpAny_bind (wpAny_isInstance hT hs ?_)
  refine wpAny_ite_true rfl ?_
  exact wpAny_bind (wpAny_rule (wpAny_pure (h h' _ hk)))

theorem translate_hit {d : Addr} {c : Nat} {f : Int → Option Value} {x : Str} {t u : Tok} {Q : Value → Shared → Prop} (hc : c < 128) (hx : x.length = 2) (hm : s.heap.MapOf (intKind prog w) d f) (hv : f (c : Int) = some (.str x t))
    (h : ∀ tk t', Q (.str x t') { s with toks := tk }) : wpAny (model prog w) A (call (.builtin "str.translate") [.str (S [c]) u, .ref d]) Q E s := by
  refine wpAny_call_entry F.slot_str_translate (typeIs_str _ _ _) F.entry_str_translate ?_ (F.args_str_translate_2 _ _)
  unfold Builtin.«str.translate»
  repeat (any_goals (first | assumption | ((with_reducible show wpAny _ _ (Builtin.Str.tableLookup _ _) _ _ _); refine tableLookup_hit (c := c) hm hv fun tk => ?_) | wp_step))
  have e1 : (x.length == 1 && x.cps.all fun x => decide (x < 128)) = false := by rw [hx]; rfl
  simp only [e1, Bool.false_eq_true, if_false]
  repeat (any_goals (first | assumption | ((with_reducible show wpAny _ _ (Builtin.Str.tableLookup _ _) _ _ _); refine tableLookup_hit (c := c) hm hv fun tk => ?_) | wp_step))
  have e2 : Builtin.Str.tooLong (0 + x.length) = false := by rw [hx]; decide +kernel
  have e3 : (⟨List.foldl (fun acc (p : Str) => acc ++ p.cps) #[] [x].reverse⟩ : Str) = x := by simp
  show wpAny _ _ (if Builtin.Str.tooLong (0 + x.length) = true then _ else retStr ⟨List.foldl (fun acc (p : Str) => acc ++ p.cps) #[] [x].reverse⟩) _ _ _
  rw [e2, e3]
  refine wpAny_ite_false (by rfl) ?_
  unfold retStr
  repeat (any_goals (first | assumption | wp_step))
  exact ⟨_, rfl, h _ _⟩
theorem translate_miss {d : Addr} {c : Nat} {f : Int → Option Value} {u : Tok} {Q : Value → Shared → Prop} (hc : c < 128) (hh : A.handled = none) (hd : (d == sysModules) = false) (hm : s.heap.MapOf (intKind prog w) d f) (hv : f (c : Int) = none)
    (h : ∀ h' tk t', (∀ b o, s.heap.get? b = some o → h'.get? b = some o) → Q (.str (S [c]) t') { s with heap := h', toks := tk }) : wpAny (model prog w) A (call (.builtin "str.translate") [.str (S [c]) u, .ref d]) Q E s := by
  refine wpAny_call_entry F.slot_str_translate (typeIs_str _ _ _) F.entry_str_translate ?_ (F.args_str_translate_2 _ _)
  unfold Builtin.«str.translate»
  repeat (any_goals (first | assumption | ((with_reducible show wpAny _ _ (Builtin.Str.tableLookup _ _) _ _ _); refine tableLookup_miss (c := c) hh hd hm hv fun h' tk hk => ?_) | wp_step))
  exact ⟨_, rfl, h h' _ _ hk⟩
end
end
section
open PySem PySem.W PyProof.Rows
set_option maxRecDepth 100000
set_option linter.unusedVariables false
set_option linter.unusedSimpArgs false
open PySem.Calls
variable {G : GX} {sc : Scope} {n : Nat} {vals : List (Option D)} {μ : List (List D)} {K : D → Prop}

/-! code of one's own: the table of the running code grows -/
theorem Ext.grown {s : Shared} (ok : OkS G s) {c P : Addr} (hq : (c, P) ∈ G.T) {h' : Heap} {tk : Nat} {gs : Array GenState} (keep : ∀ b o, b ≠ P → s.heap.get? b = some o → h'.get? b = some o)
    {ps : Array Value} (hP : h'.get? P = some (tabObj ps)) (ht : TriplesOk ps.toList) (hb : AllBare gs) : Ext G s { s with heap := h', toks := tk, gens := gs } where
  keep := fun b o hT e => keep b o (hT (c, P) hq) e
  os := rfl
  ok := ⟨fun b o e => keep b o (OkS.g0_notT e (c, P) hq) (ok.base b o e), fun q hq' => by
    by_cases e : q.2 = P
    · exact ⟨ps, by rw [e]; exact hP, ht⟩
    · obtain ⟨ps', h1, h2⟩ := ok.tab q hq'
      exact ⟨ps', keep _ _ e h1, h2⟩, hb⟩
theorem code_tab {s : Shared} (ok : OkS G s) {c P : Addr} (hq : (c, P) ∈ G.T) : ∃ ps, CodeHd s.heap c P ∧ s.heap.get? P = some (tabObj ps) ∧ TriplesOk ps.toList := by
  obtain ⟨ps, h1, h2⟩ := ok.tab (c, P) hq
  exact ⟨ps, (G.code (c, P) hq).keeps ok.base, h1, h2⟩
theorem bmain_at {s : Shared} (ok : OkS G s) {c P : Addr} (hq : (c, P) ∈ G.T) : s.heap.BuiltinsAt G.mg P := by
  obtain ⟨bm, ob, h1, h2, h3, h4, h5, h6⟩ := G.bmain
  refine ⟨bm, ob, h1, h2, fun e => ?_, fun e => OkS.g0_notT h3 (c, P) hq e, ok.base _ _ h3, h4, h5, h6⟩
  obtain ⟨o, es, ep, ho, hd, _⟩ := G.g
  rw [e, ho] at h3; cases h3
  rw [hd] at h6; cases h6
noncomputable def noFree (csc : Scope) : Bool := csc.names.all fun p => p.2 != .free
theorem closure_free {csc : Scope} (h : noFree csc = true) (env : Env) : ∃ cl, closureFor csc env = pure cl := by
  obtain ⟨cl, h1, _⟩ := closure_of (env := env) (csc := csc) fun y hy => by
    unfold noFree at h
    rw [List.all_eq_true] at h
    have := h _ hy
    simp at this
  exact ⟨cl, h1⟩
theorem glob_notP {c P : Addr} (hq : (c, P) ∈ G.T) : mainGlobals ≠ P := by
  obtain ⟨o, es, ep, ho, _⟩ := G.g
  exact OkS.g0_notT ho (c, P) hq
theorem grown_ok {ps : Array Value} (h : TriplesOk ps.toList) (a b : Int) (v : Value) : TriplesOk (ps ++ #[rawInt a, rawInt b, v]).toList := by
  have e : (ps ++ #[rawInt a, rawInt b, v]).toList = ps.toList ++ [rawInt a, rawInt b, v] := by simp
  rw [e]
  exact TriplesOk_snoc _ _ _ _ h
/-! a generator expression whose own footprint is small -/
noncomputable def isTupB (h : Heap) (b : Addr) : Bool := match h.get? b with | some o => (match o.cls, o.data with | .type t, .seq _ _ => t == "tuple" | _, _ => false) | none => false
theorem isTupB_of {h : Heap} {a : Addr} {vs : Array Value} (x : IsTup h a vs) : isTupB h a = true := by
  obtain ⟨o, ho, hc, nn, hd⟩ := x
  unfold isTupB
  rw [ho]
  simp only [hc, hd, beq_self_eq_true]
theorem isTupB_not_dict {h : Heap} {b : Addr} {o : Obj} (x : isTupB h b = true) (ho : h.get? b = some o) : ∀ es ep, o.data ≠ .dict es ep := fun es ep e => by
  revert x
  unfold isTupB
  rw [ho]
  dsimp only
  rw [e]
  generalize o.cls = c
  cases c <;> intro x <;> cases x
noncomputable def genFp (h : Heap) (ifp : List Addr) : List Addr := cStatics :: mainGlobals :: builtinsNs :: (ifp ++ (List.range h.objs.size).filter (isTupB h))

/-- what the element of a generator expression comes to -/
noncomputable def EltK (G : GX) (csc : Scope) (x : Str) (elt : Expr) (d : D) (F : Value → Prop) : Prop :=
  ∀ (A : Around) (E : Value → Shared → Prop) (cenv : Env) (s : Shared) (m : Str → Option Value) (v : Value) (W : Wh) (h : Heap), A.handled = none → cenv.scope = csc → cenv.globals = mainGlobals → cenv.builtins = builtinsNs →
    s.heap.Ns cenv.locals m → m x = some v → s.heap.Ns mainGlobals G.mg → s.heap.Ns builtinsNs G.mb → Is W h v d → (∀ a vs, IsTup h a vs → IsTup s.heap a vs) →
    wpAny (model G.prog G.w) A (eval elt cenv) (fun y s' => F y ∧ Keeps s s') E s

/-- what an iterator goes over, the list being anyone's -/
structure ItW (G : GX) (A : Around) (W : Wh) (s s₂ : Shared) (it : Value) (its : List D) (I : Addr) (fp : List Addr) (P : Nat → Value → Prop) (St : Nat → Heap → Prop) : Prop where
  ref : it = .ref I
  walks : ∀ A' : Around, A'.handled = none → Walks G.prog G.w A' I fp [I] its.length P St
  st : St 0 s₂.heap
  ext : Ext G s s₂
  fresh : s.heap.get? I = none
  obj : ∀ i h, St i h → ItObj h I
  foot : ∀ b ∈ fp, b ≠ I → ∃ o, s₂.heap.get? b = some o ∧ o.cls = .type "list" ∧ ∀ es ep, o.data ≠ .dict es ep
  item : ∀ i v, i < its.length → P i v → ∃ d, its[i]? = some d ∧ Is W s₂.heap v d
noncomputable def IterW (G : GX) (n : Nat) (μ : List (List D)) (d : D) (its : List D) : Prop := ∀ (A : Around) (W : Wh) (s : Shared) (v : Value), A.handled = none → OkS G s → MutOk W μ s.heap → Is W s.heap v d →
  wpAny (model G.prog G.w) A (pyIter v) (fun it s₂ => ∃ I fp P St, ItW G A W s s₂ it its I fp P St) No s
theorem IterW_items {d : D} {ds : List D} (hd : d.items μ = some ds) : IterW G n μ d ds := fun A W s v hr ok hm i => by
  obtain ⟨a, vs, rfl, hl, hs⟩ := i.items hm hd
  have hne : a ≠ s.heap.objs.size := by obtain ⟨o, ho, _⟩ := hl; exact Nat.ne_of_lt (Heap.lt_size ho)
  have e1 := push_ext ok { cls := .type "list_iterator", data := .fields #[.ref a, .int 0 0] }
  have hl' := list_ext ok.tab e1.keep hl
  refine wpAny_pyIter_list hl ?_
  refine ⟨s.heap.objs.size, [s.heap.objs.size, a], (fun i v => vs.toArray[i]? = some v), (fun i h => h.IsListIter s.heap.objs.size a i ∧ h.IsList a vs.toArray), rfl, fun A' hA => ?_, ⟨⟨_, Heap.get?_push_size _ rfl, rfl, rfl⟩, hl'⟩, e1, ?_, ?_, ?_, ?_⟩
  · have := Walks.list (prog := G.prog) (w := G.w) hA s.heap.objs.size a hne vs.toArray
    have e : vs.toArray.size = ds.length := by rw [← hs.length]; exact List.size_toArray
    rw [e] at this
    exact this
  · cases e : s.heap.get? s.heap.objs.size with
    | none => rfl
    | some o => exact absurd (Heap.lt_size e) (Nat.lt_irrefl _)
  · rintro i h ⟨⟨o, ho, hc, hd⟩, _⟩
    exact ⟨o, ho, ⟨_, hc, by decide⟩, (fun es ep e => by rw [e] at hd; cases hd), fun v e => by rw [e] at hd; cases hd⟩
  · intro b hb hbI
    rcases List.mem_cons.mp hb with rfl | hb
    · exact absurd rfl hbI
    · rw [List.mem_singleton.mp hb]
      obtain ⟨o, ho, hc, nn, hd⟩ := hl'
      exact ⟨o, ho, hc, fun es ep e => by rw [hd] at e; cases e⟩
  · intro i v _ hv
    have hv' : vs[i]? = some v := by simpa using hv
    obtain ⟨d, h1, h2⟩ := hs.get' hv'
    exact ⟨d, h1, h2.ext ok.tab e1.keep⟩
theorem pass_all (m : Nat) : passing (fun _ => true) m 0 = List.range m := by
  unfold passing
  simp
theorem gen_core {A : Around} {env : Env} {W : Wh} {s : Shared} (o : Ok5 G sc n vals μ A env W s) {c P : Addr} (hcd : codeOf sc = some c) (hq : (c, P) ∈ G.T) {elt iter : Expr} {x : Str} {px pos : Pos} {csc : Scope} {Q : Value → Shared → Prop}
    (hco : csc.isCoroutine = false) (hfree : noFree csc = true) (hcell : ∀ y ∈ csc.names, y.2 ≠ .cell) (h0 : csc.names.lookup (".0" : Str) = some NameKind.local) (hx : csc.names.lookup x = some .local) (hkind : csc.kind = .function)
    (h : EvK G sc n vals μ iter fun d => ∃ its, IterW G n μ d its ∧ ∃ F : Nat → Value → Prop, (∀ i d', its[i]? = some d' → EltK G csc x elt d' (F i)) ∧
      ∀ (a C I : Addr) (ifp : List Addr) (hp : Heap) (St : Nat → Shared → Prop) (s₅ : Shared) (g : Nat), Ext G s s₅ → s.heap.get? a = none → s.heap.get? C = none → s.heap.get? I = none → (∀ b ∈ ifp, b ≠ I → ∃ ob, s₅.heap.get? b = some ob ∧ ∀ es ep, ob.data ≠ .dict es ep) → ItObj s₅.heap I →
        (∀ b ∈ genFp hp ifp, ∃ ob, hp.get? b = some ob ∧ s₅.heap.get? b = some ob) → a ≠ C → a ∉ genFp hp ifp → C ∉ genFp hp ifp →
        WalksS G.prog G.w A.in4 a (a :: C :: genFp hp ifp) [C, I] (GenOnlyQ g) its.length F St → St 0 s₅ → (∀ i t, St i t → t.TypeIs (.ref a) "generator") →
        s₅.heap.get? a ≠ none → s₅.heap.get? C ≠ none → Q (.ref a) s₅)
    (hs : ∀ x, genFold iter env x = pure x) :
    wpAny (model G.prog G.w) A (eval (.GeneratorExp elt [⟨.Name x px, iter, [], 0⟩] csc pos) env) Q No s := by
  obtain ⟨cl, hcl⟩ := closure_free hfree env
  refine wpAny_GeneratorExp_make hco hcl hcell h0 hkind (by have := o.2.1.dp; lia) (h.use o fun xv s₁ d ⟨its, hit, F, hel, hQ⟩ e1 i1 => ?_) hs
  have o1 := o.ext e1
  refine wpAny_mono (hit A W s₁ xv o1.2.1.hd o1.2.2.1 o1.2.2.2.2 i1) (fun it s₂ ⟨I, ifp, Pi, St₀, q⟩ => ?_) fun _ _ y => y
  have o2 := o1.ext q.ext
  have ok2 := o2.2.2.1
  refine ⟨G.nolimit.keeps ok2.base, ?_⟩
  obtain ⟨ps, k1, k2, k3⟩ := code_tab ok2 hq
  have main : ∀ (code : Value) (h₃ : Heap) (tk : Nat) (ps' : Array Value), Heap.ExtBut P s₂.heap h₃ → s₂.heap.objs.size ≤ h₃.objs.size → h₃.get? P = some (tabObj ps') → TriplesOk ps'.toList →
      wpAny (model G.prog G.w) A (builtinsFor env.globals env.builtins) (fun bi s₄ => ∀ h', h'.Ns s₄.heap.objs.size (fun y => if y = (".0" : Str) then some it else none) → Heap.SameBut s₄.heap.objs.size (s₄.heap.push { cls := .type "frame", data := .dict #[] }) h' →
          Q (.ref h'.objs.size) { s₄ with
            gens := s₄.gens.push (.fresh (.compStart (.GeneratorExp elt [⟨.Name x px, iter, [], 0⟩] csc pos) 0 it .none (genEnv csc cl s₄.heap.objs.size code bi env))),
            toks := s₄.toks + 1 + 1 + 1,
            heap := h'.push { cls := .type "generator", data := .fields #[.int s₄.gens.size 0, .str "<genexpr>" (s₄.toks + 1), .str (env.qual ++ "<genexpr>") (s₄.toks + 1 + 1)] } }) No { s₂ with heap := h₃, toks := tk } := by
    intro code h₃ tk ps' hx3 hsz3 hP3 ht3
    have e3 : Ext G s₂ { s₂ with heap := h₃, toks := tk } := Ext.grown ok2 hq (gs := s₂.gens) hx3 hP3 ht3 ok2.bare
    have ok3 := e3.ok
    obtain ⟨bm, ob, b1, b2, b3, b4, b5, b6, b7, b8⟩ := bmain_at ok3 hq
    refine wpAny_builtinsFor (by rw [o.1.glob]; exact G.g.keeps ok3.base) b1 b2 b5 b6 b7 b8 ?_
    intro h' hn' hs'
    obtain ⟨hit', hwk, hst0, hex, hfresh, hobj, hfoot, hitem⟩ := q
    subst hit'
    have keep' : ∀ b o, h₃.get? b = some o → h'.get? b = some o := fun b o e => hs'.extBut b o (Nat.ne_of_lt (Heap.lt_size e)) (Heap.get?_push_of_some _ e)
    have hsz : h'.objs.size = h₃.objs.size + 1 := by rw [hs'.1, Heap.size_push]
    have notP : ∀ b ∈ ifp, b ≠ P := fun b hb hbP => by
      by_cases hI : b = I
      · exact (hobj 0 _ hst0).notT ok2.tab (c, P) hq (hI ▸ hbP)
      · obtain ⟨ob, h1, h2, _⟩ := hfoot b hb hI
        rw [hbP, k2] at h1
        cases h1; cases h2
    have ifp3 : ∀ b ∈ ifp, ∀ ob, s₂.heap.get? b = some ob → h₃.get? b = some ob := fun b hb ob e => hx3 b ob (notP b hb) e
    have lt2 : ∀ b ∈ ifp, b < s₂.heap.objs.size := fun b hb => by
      by_cases h : b = I
      · obtain ⟨o, ho, _⟩ := hobj 0 _ hst0
        exact h ▸ Heap.lt_size ho
      · obtain ⟨o, ho, _⟩ := hfoot b hb h
        exact Heap.lt_size ho
    have g0lt : ∀ b ob, G.g0.get? b = some ob → b < h₃.objs.size := fun b ob e => Heap.lt_size (ok3.base b ob e)
    have lts : cStatics < h₃.objs.size ∧ mainGlobals < h₃.objs.size ∧ builtinsNs < h₃.objs.size := by
      obtain ⟨_, ⟨o1, _, _, e1, _⟩, _⟩ := G.nolimit
      obtain ⟨o2, _, _, e2, _⟩ := G.g
      obtain ⟨o3, _, _, e3, _⟩ := G.b
      exact ⟨g0lt _ _ e1, g0lt _ _ e2, g0lt _ _ e3⟩
    have hfp : ∀ b ∈ genFp h₃ ifp, b < h₃.objs.size := fun b hb => by
      unfold genFp at hb
      rcases List.mem_cons.mp hb with rfl | hb
      · exact lts.1
      rcases List.mem_cons.mp hb with rfl | hb
      · exact lts.2.1
      rcases List.mem_cons.mp hb with rfl | hb
      · exact lts.2.2
      rcases List.mem_append.mp hb with hb | hb
      · exact Nat.lt_of_lt_of_le (lt2 b hb) hsz3
      · exact List.mem_range.mp (List.mem_filter.mp hb).1
    have hIs : s.heap.get? I = none := ext_fresh o.2.2.1 e1 hfresh
    have hcI : cStatics ≠ I := fun e => by
      obtain ⟨_, ⟨o1, _, _, e1, _⟩, _⟩ := G.nolimit
      rw [← e, o.2.2.1.base _ _ e1] at hIs; cases hIs
    have hgI : mainGlobals ≠ I := fun e => by
      obtain ⟨o1, _, _, e1, _⟩ := G.g
      rw [← e, o.2.2.1.base _ _ e1] at hIs; cases hIs
    have hbI : builtinsNs ≠ I := fun e => by
      obtain ⟨o1, _, _, e1, _⟩ := G.b
      rw [← e, o.2.2.1.base _ _ e1] at hIs; cases hIs
    have hC : (h₃.objs.size : Nat) ∉ genFp h₃ ifp := fun hm => Nat.lt_irrefl _ (hfp _ hm)
    have ha : (h'.objs.size : Nat) ∉ genFp h₃ ifp := fun hm => absurd (hfp _ hm) (by rw [hsz]; exact Nat.not_lt.mpr (Nat.le_succ _))
    have hIfp : I ∈ ifp := (hwk A o.2.1.hd).sub I (List.mem_singleton.mpr rfl)
    have hsub : ∀ b ∈ [I], b ∈ genFp h₃ ifp := fun b hb => by
      rw [List.mem_singleton.mp hb]
      unfold genFp
      exact List.mem_cons_of_mem _ (List.mem_cons_of_mem _ (List.mem_cons_of_mem _ (List.mem_append_left _ hIfp)))
    have haC : h'.objs.size ≠ h₃.objs.size := by lia
    have e5 : Ext G s { s₂ with
            gens := s₂.gens.push (.fresh (.compStart (.GeneratorExp elt [⟨.Name x px, iter, [], 0⟩] csc pos) 0 (.ref I) .none (genEnv csc cl h₃.objs.size code builtinsNs env))),
            toks := tk + 1 + 1 + 1,
            heap := h'.push { cls := .type "generator", data := .fields #[.int s₂.gens.size 0, .str "<genexpr>" (tk + 1), .str (env.qual ++ "<genexpr>") (tk + 1 + 1)] } } := by
      refine (e1.trans hex).trans (Ext.grown ok2 hq (ps := ps') (fun b ob hb e => Heap.get?_push_of_some _ (keep' b ob (hx3 b ob hb e))) (Heap.get?_push_of_some _ (keep' _ _ hP3)) ht3 (ok2.bare.push rfl))
    have keep5 : ∀ b o, h₃.get? b = some o → (h'.push { cls := .type "generator", data := .fields #[.int s₂.gens.size 0, .str "<genexpr>" (tk + 1), .str (env.qual ++ "<genexpr>") (tk + 1 + 1)] }).get? b = some o := fun b o e => Heap.get?_push_of_some _ (keep' b o e)
    have fr3 : ∀ b, s₂.heap.objs.size ≤ b → s.heap.get? b = none := fun b hb => by
      refine ext_fresh o.2.2.1 (e1.trans hex) ?_
      cases q : s₂.heap.get? b with
      | none => rfl
      | some ob => exact absurd (Heap.lt_size q) (Nat.not_lt.mpr hb)
    have tup3 : ∀ a vs, IsTup s₂.heap a vs → a ≠ P := fun a vs x e => by
      obtain ⟨ob, ho, hc, _⟩ := x
      rw [e, k2] at ho; cases ho; cases hc
    have WW := WalksS.genexpQ (prog := G.prog) (w := G.w) (A := A.in4) o.2.1.hd h'.objs.size s₂.gens.size h₃.objs.size (genFp h₃ ifp) [I] (fun _ => true) its.length F haC ha hsub (by have := o.2.1.dp; show A.depth < _; lia) (by unfold genFp; exact List.mem_cons_self ..) (Nat.ne_of_lt lts.1) (fun hm => hcI (List.mem_singleton.mp hm))
    have GA := GenAt.fresh (prog := G.prog) (w := G.w) (A := A.in4) (s := { s₂ with
            gens := s₂.gens.push (.fresh (.compStart (.GeneratorExp elt [⟨.Name x px, iter, [], 0⟩] csc pos) 0 (.ref I) .none (genEnv csc cl h₃.objs.size code builtinsNs env))),
            toks := tk + 1 + 1 + 1,
            heap := h'.push { cls := .type "generator", data := .fields #[.int s₂.gens.size 0, .str "<genexpr>" (tk + 1), .str (env.qual ++ "<genexpr>") (tk + 1 + 1)] } })
        (a := h'.objs.size) (g := s₂.gens.size) (fp := genFp h₃ ifp) (wr := [I]) (n₀ := its.length) (cenv := genEnv csc cl h₃.objs.size code builtinsNs env) (elt := elt) (iter := iter) (px := px) (pos := pos) (scope := csc) (ifs := []) (I := I) (St₀ := St₀) (P := fun i v => i < its.length ∧ Pi i v)
        (m := fun y => if y = (".0" : Str) then some (.ref I) else none) o.2.1.hd
        (fun A' hA => (restrict_walks (hwk A' hA)).mono_fp fun b hb => List.mem_cons_of_mem _ (List.mem_cons_of_mem _ (List.mem_cons_of_mem _ (List.mem_append_left _ hb)))) (fun _ => true) F hx (by simp [genEnv, hkind]) hco hC
        ⟨fun A' E' i v t m₂ _ _ _ _ _ => wpAny_pure ⟨rfl, ⟨t.heap, t.toks, rfl, fun _ _ e => e⟩⟩, fun A' E' i v t m₂ hA hP _ hn hm hk => by
          obtain ⟨d', hd', id⟩ := hitem i v hP.1 hP.2
          refine hel i d' hd' A' E' (genEnv csc cl h₃.objs.size code builtinsNs env) t m₂ v W s₂.heap hA rfl o.1.glob rfl hn hm ?_ ?_ id fun a vs x => ?_
          · exact (G.g.keeps ok3.base).at' fun ob e => hk _ (by unfold genFp; simp) (fun hm => hgI (List.mem_singleton.mp hm)) ob (keep5 _ _ e)
          · exact (G.b.keeps ok3.base).at' fun ob e => hk _ (by unfold genFp; simp) (fun hm => hbI (List.mem_singleton.mp hm)) ob (keep5 _ _ e)
          · obtain ⟨ob, ho, hc, r⟩ := x
            have ho3 := hx3 a ob (tup3 a vs ⟨ob, ho, hc, r⟩) ho
            have hx4 : IsTup h₃ a vs := ⟨ob, ho3, hc, r⟩
            have hm : a ∈ genFp h₃ ifp := by
              unfold genFp
              exact List.mem_cons_of_mem _ (List.mem_cons_of_mem _ (List.mem_cons_of_mem _ (List.mem_append_right _ (List.mem_filter.mpr ⟨List.mem_range.mpr (Heap.lt_size ho3), isTupB_of hx4⟩))))
            have haI : a ∉ [I] := fun e => by
              have e := List.mem_singleton.mp e
              obtain ⟨o', ho', ⟨c', hc', hm'⟩, _⟩ := hobj 0 _ hst0
              rw [← e, ho] at ho'; cases ho'
              rw [hc] at hc'; cases hc'
              revert hm'; decide
            exact ⟨ob, hk a hm haI ob (keep5 _ _ ho3), hc, r⟩⟩
        ⟨_, _, _, Heap.get?_push_size _ rfl, rfl, rfl, rfl⟩ (Array.getElem?_push_size ..) ((hwk A o.2.1.hd).frame _ _ _ hst0 fun b hb ob e => keep5 _ _ (ifp3 b hb ob e)) (hn'.push _) ((G.nolimit.keeps ok3.base).keeps keep5)
    rw [pass_all] at WW
    rw [List.length_range] at WW
    refine hQ h'.objs.size h₃.objs.size I ifp h₃ _ _ s₂.gens.size e5 (fr3 _ (Nat.le_trans hsz3 (Nat.le_of_lt (by rw [hsz]; exact Nat.lt_succ_self _)))) (fr3 _ hsz3) hIs (fun b hb hI => ?_) ?_ (fun b hb => ?_) haC ha hC
      { sub := WW.sub, grefl := WW.grefl, gtrans := WW.gtrans, frame := WW.frame, done := WW.done, self := WW.self,
        item := fun i t Q E hi st hq => WW.item i t Q E hi st fun v t' ⟨j, hj, hF⟩ st' hm => hq v t' (by
          rw [List.getElem?_range hi] at hj
          cases hj
          exact hF) st' hm } GA (fun i t st => st.1.typeIs) ?_ ?_
    · obtain ⟨ob, h1, _, h3⟩ := hfoot b hb hI
      exact ⟨ob, keep5 _ _ (ifp3 b hb ob h1), h3⟩
    · obtain ⟨ob, ho, r⟩ := hobj 0 _ hst0
      exact ⟨ob, keep5 _ _ (ifp3 I hIfp ob ho), r⟩
    · cases e : h₃.get? b with
      | none =>
        exfalso
        have := hfp b hb
        unfold genFp at hb
        rcases List.mem_cons.mp hb with rfl | hb
        · obtain ⟨_, ⟨o1, _, _, e1, _⟩, _⟩ := G.nolimit
          rw [ok3.base _ _ e1] at e; cases e
        rcases List.mem_cons.mp hb with rfl | hb
        · obtain ⟨o1, _, _, e1, _⟩ := G.g
          rw [ok3.base _ _ e1] at e; cases e
        rcases List.mem_cons.mp hb with rfl | hb
        · obtain ⟨o1, _, _, e1, _⟩ := G.b
          rw [ok3.base _ _ e1] at e; cases e
        rcases List.mem_append.mp hb with hb | hb
        · by_cases hI : b = I
          · obtain ⟨ob, ho, _⟩ := hobj 0 _ hst0
            rw [hI, ifp3 I hIfp ob ho] at e; cases e
          · obtain ⟨ob, h1, _⟩ := hfoot b hb hI
            rw [ifp3 b hb ob h1] at e; cases e
        · have := (List.mem_filter.mp hb).2
          unfold isTupB at this
          rw [e] at this; cases this
      | some ob => exact ⟨ob, rfl, keep5 _ _ e⟩
    · show (h'.push _).get? h'.objs.size ≠ none
      rw [Heap.get?_push_size _ rfl]; exact fun e => by cases e
    · intro e
      obtain ⟨ob, es, ep, ho, _⟩ := hn'
      have : (h'.push { cls := .type "generator", data := .fields #[.int s₂.gens.size 0, .str "<genexpr>" (tk + 1), .str (env.qual ++ "<genexpr>") (tk + 1 + 1)] }).get? h₃.objs.size = some ob := Heap.get?_push_of_some _ ho
      rw [this] at e; cases e
  cases hc : codeAmong pos ps.toList with
  | none =>
    refine wpAny_genexprCodeX (o.1.code c hcd) (k1.code k2 k3) (k1.tab k2) hc fun c' h₃ tk hx3 hge hlt hcode hrec htab _ => ?_
    exact main _ h₃ tk _ hx3 (Nat.le_of_lt (Nat.lt_of_le_of_lt hge hlt)) htab.2 (grown_ok k3 _ _ _)
  | some cv =>
    refine wpAny_genexprCode_hit (o.1.code c hcd) (k1.code k2 k3) hc ?_
    exact main _ s₂.heap s₂.toks ps (fun _ _ _ e => e) (Nat.le_refl _) k2 k3

theorem moved_ext {s s₅ s' : Shared} (ok : OkS G s) (e : Ext G s s₅) {C I : Addr} (hC : s.heap.get? C = none) (hI : s.heap.get? I = none) {g : Nat} (m : Moved [C, I] (GenOnlyQ g) s₅ s') : Ext G s s' := by
  have nm : ∀ b o, s.heap.get? b = some o → b ∉ [C, I] := fun b o e hm => by
    rcases List.mem_cons.mp hm with rfl | hm
    · rw [hC] at e; cases e
    · rw [List.mem_singleton.mp hm, hI] at e; cases e
  refine ⟨fun b o hT hb => m.heap b o (nm b o hb) (e.keep b o hT hb), m.os.trans e.os, ⟨fun b o hb => m.heap b o (nm b o (ok.base b o hb)) (e.ok.base b o hb), fun q hq => ?_, m.gens.bare e.ok.bare⟩⟩
  obtain ⟨ps, h1, _⟩ := ok.tab q hq
  obtain ⟨ps', h2, h3⟩ := e.ok.tab q hq
  exact ⟨ps', m.heap _ _ (nm _ _ h1) h2, h3⟩
theorem join_walk {A : Around} {s₅ : Shared} {a C I : Addr} {fp : List Addr} {g : Nat} {sep : List Nat} {t : Tok} {ys : List (List Nat)} {St : Nat → Shared → Prop} {Q : Value → Shared → Prop}
    (W : WalksS G.prog G.w A.in4 a fp [C, I] (GenOnlyQ g) ys.length (fun i y => ∃ t, y = .str (S (ys.getD i [])) t) St) (hst : St 0 s₅) (hT : ∀ i t, St i t → t.TypeIs (.ref a) "generator") (hfp : ∀ b ∈ fp, b < s₅.heap.objs.size) (ha : a ∈ fp)
    (hz : (ys.map List.length).sum + ys.length * sep.length ≤ 16777216) (hlen : ys.length ≤ sizeLine) (hQ : ∀ s' t' k, Moved [C, I] (GenOnlyQ g) s₅ s' → Q (.str (S (joinL sep ys)) t') { s' with toks := k }) :
    wpAny (model G.prog G.w) A (call (.builtin "str.join") [.str (S sep) t, .ref a]) Q No s₅ := by
  refine SC.joinGen W.in4_2 hT hst hfp ha (fun i v ⟨t, e⟩ => ⟨_, t, e⟩) (fun s' l hm hacc => ?_) hlen
  have e : l.map (·.1) = ys.map S := by
    apply List.ext_getElem?
    intro j
    have hsz : l.length = ys.length := by simpa [strValues] using hacc.1
    by_cases hj : j < ys.length
    · have hj' : j < l.length := hsz ▸ hj
      obtain ⟨u, hv⟩ := hacc.2 j (.str l[j].1 l[j].2) (by simp [strValues, List.getElem?_eq_getElem hj'])
      injection hv with h1 _
      simp [List.getElem?_eq_getElem hj', List.getElem?_eq_getElem hj, h1]
    · rw [List.getElem?_eq_none (by simpa [hsz] using Nat.le_of_not_lt hj), List.getElem?_eq_none (by simpa using Nat.le_of_not_lt hj)]
  rw [e]
  refine ⟨joinOk_of ?_, fun t' k => by rw [S_join]; exact hQ s' t' k hm⟩
  rw [List.map_map, List.length_map, S_len]
  have : (fun x => Str.length x) ∘ S = List.length := by funext x; exact S_len x
  rw [this]; exact hz
theorem Ev_join_gen {sep : List Nat} {c P : Addr} (hcd : codeOf sc = some c) (hq : (c, P) ∈ G.T) {sepE elt iter : Expr} {x : Str} {apos px pos gpos : Pos} {csc : Scope} {pl : Env → Sem Bool}
    (hco : csc.isCoroutine = false) (hfree : noFree csc = true) (hcell : csc.names.all (fun y => y.2 != .cell) = true) (h0 : csc.names.lookup (".0" : Str) = some NameKind.local) (hx : csc.names.lookup x = some .local) (hkind : csc.kind = .function)
    (h : EvK G sc n vals μ sepE fun d => d = .str sep ∧ EvK G sc n vals μ iter fun d => ∃ its ys, IterW G n μ d its ∧ ys.length = its.length ∧ (∀ i d', its[i]? = some d' → EltK G csc x elt d' (fun y => ∃ t, y = .str (S (ys.getD i [])) t)) ∧
      (ys.map List.length).sum + ys.length * sep.length ≤ 16777216 ∧ ys.length ≤ 1000 ∧ K (.str (joinL sep ys)))
    (hs : ∀ env x, genFold iter env x = pure x)
    (he : ∀ env, eval (.Call (.Attribute sepE "join" apos) [.GeneratorExp elt [⟨.Name x px, iter, [], 0⟩] csc gpos] [] pos) env = (do
      let ov ← eval sepE env
      standAt apos.atName
      let (f, first) ← holding [ov] (getMethod ov "join" (pl env))
      callWith pos f first (backTo pos (starEach [.GeneratorExp elt [⟨.Name x px, iter, [], 0⟩] csc gpos] env)) [])) :
    EvK G sc n vals μ (.Call (.Attribute sepE "join" apos) [.GeneratorExp elt [⟨.Name x px, iter, [], 0⟩] csc gpos] [] pos) K := EvK.of fun A env W s ok => by
  refine MethodCall_ (pl := pl env) (h.use ok fun vo s₁ d ⟨hd, hit⟩ e1 i1 => ?_) (he env)
  subst hd
  obtain ⟨t, rfl⟩ := i1.inv
  refine GM.of (.str (S sep) t) (typeIs_str _ _ _) F.slot_str_join F.type_str_join GM.noRef ?_
  rw [backTo_eq _ _ _ rfl]
  refine Calls.callWith_builtin any_plain (evalArgs_of ?_)
  show wpAny _ _ (spliced [(false, eval (.GeneratorExp elt [⟨.Name x px, iter, [], 0⟩] csc gpos) env)]) _ _ _
  refine spliced_cons (gen_core (ok.ext e1) hcd hq hco hfree (fun y hy => by
    rw [List.all_eq_true] at hcell
    simpa using hcell y hy) h0 hx hkind (hit.mono fun d ⟨its, ys, hi, hl, hel, hz, hy, hK⟩ => ⟨its, hi, fun i y => ∃ t, y = .str (S (ys.getD i [])) t, hel, fun a C I ifp hp St s₅ g e5 ha hC hI hsol hobj hfp haC han hCn W hst hT na nC => spliced_nil ?_⟩) (hs env))
  rw [← hl] at W
  have lt : ∀ b, s₅.heap.get? b ≠ none → b < s₅.heap.objs.size := fun b hb => by
    cases e : s₅.heap.get? b with
    | none => exact absurd e hb
    | some o => exact Heap.lt_size e
  refine join_walk W hst hT (fun b hb => ?_) (List.mem_cons_self ..) hz (by unfold sizeLine; lia) fun s' t' k hm => ⟨_, hK, ?_, .str _ _⟩
  · rcases List.mem_cons.mp hb with rfl | hb
    · exact lt _ na
    rcases List.mem_cons.mp hb with rfl | hb
    · exact lt _ nC
    · obtain ⟨ob, _, h2⟩ := hfp b hb
      exact Heap.lt_size h2
  · have e6 := moved_ext (ok.ext e1).2.2.1 e5 hC hI hm
    exact (e1.trans e6).trans (.toks e6.ok _)
end
section
open PySem PySem.W PyProof.Rows
set_option maxRecDepth 100000
set_option maxHeartbeats 4000000
set_option linter.unusedVariables false
set_option linter.unusedSimpArgs false
open PySem.Calls
section
variable {prog : Program} {w : World} {A : Around} {E : Value → Shared → Prop} {s : Shared}
theorem slot_re_sub : Slot "re.Pattern" "sub" "re.Pattern.sub" :=
  .of (owner := "re.Pattern") (n := "sub") (by rw [typeLookup_type, builtinLookup_eq_fast]; kernel_rfl) (by decide +kernel) (by decide +kernel) (by decide +kernel)
    (by first | exact .inl (by decide +kernel) | exact .inr (by decide +kernel)) (by rw [isSubtype_type]; kernel_rfl)
theorem entry_re_sub : entryFor table "re.Pattern.sub" = some Builtin.«re.Pattern.sub» := entryFor_of_tree (by kernel_rfl)
theorem entry_re_loop : entryFor table "re.Pattern.sub.loop" = some Builtin.«re.Pattern.sub.loop» := entryFor_of_tree (by kernel_rfl)
theorem type_re_sub : typeOf (.builtin "re.Pattern.sub") = pure (.type "method_descriptor") := by first | rfl | kernel_rfl
theorem args_re_sub (a b c : Value) : argsOk "re.Pattern.sub" ⟨[a, b, c], []⟩ := by unfold argsOk; kernel_rfl

open Builtin Builtin.Re in
noncomputable def turnsF : Nat → Sre.M → Option Sre.M
  | 0, _ => none
  | j + 1, m => if (m.runFor reTurnSteps).outcome.isSome then some (m.runFor reTurnSteps) else turnsF j (m.runFor reTurnSteps)
open Builtin Builtin.Re in
theorem wpAny_reDrive {Q : Sre.M → Shared → Prop} {r : Sre.M} (hQ : Q r s) : ∀ (j k : Nat) (m : Sre.M), j ≤ k → turnsF j m = some r → wpAny (model prog w) A (reDrive k m) Q E s
  | 0, _, _, _, e => by cases e
  | j + 1, 0, _, h, _ => absurd h (by lia)
  | j + 1, k + 1, m, h, e => by
    unfold turnsF at e
    unfold reDrive
    dsimp only
    cases ho : (m.runFor reTurnSteps).outcome.isSome with
    | true =>
      rw [ho] at e
      simp only [if_true] at e ⊢
      cases e
      exact wpAny_pure hQ
    | false =>
      rw [ho] at e
      simp only [Bool.false_eq_true, if_false] at e ⊢
      exact wpAny_bind (wpAny_rule (wpAny_reDrive hQ j k _ (by lia) e))
theorem wpAny_rules (f : Nat → Bool) (g : Nat → String) {Q : PUnit → Shared → Prop} (hQ : Q ⟨⟩ s) : ∀ (l : List Nat),
    wpAny (model prog w) A (forIn l PUnit.unit fun i _ => if f i = true then (do rule (g i); pure (ForInStep.yield PUnit.unit)) else pure (ForInStep.yield PUnit.unit)) Q E s
  | [] => wpAny_pure hQ
  | i :: l => by
    rw [List.forIn_cons]
    refine wpAny_bind ?_
    cases f i with
    | true =>
      simp only [if_true]
      exact wpAny_bind (wpAny_rule (wpAny_pure (wpAny_rules f g hQ l)))
    | false =>
      simp only [Bool.false_eq_true, if_false]
      first
        | exact wpAny_bind (wpAny_pure (wpAny_pure (wpAny_rules f g hQ l)))
        | exact wpAny_pure (wpAny_rules f g hQ l)
open Builtin Builtin.Re in
theorem wpAny_reRunToEnd {Q : Option Sre.M → Shared → Prop} {m r : Sre.M} (j : Nat) (hj : j ≤ 2 ^ 64) (ht : turnsF j m = some r) (ho : r.outcome = some .failed) (hQ : Q none s) : wpAny (model prog w) A (reRunToEnd m) Q E s := by
  unfold reRunToEnd
  refine wpAny_bind (wpAny_reDrive ?_ j _ m hj ht)
  refine wpAny_bind (wpAny_rules (fun i => r.seen.has i) (fun i => Sre.names.getD i "") ?_ _)
  rw [ho]
  exact wpAny_pure hQ
noncomputable def reCode : Array Nat := #[14, 14, 4, 1, 1, 9, 0, 64, 0, 1342177280, 0, 0, 0, 0, 0, 17, 0, 13, 11, 9, 0, 64, 0, 1342177280, 0, 0, 0, 0, 0, 17, 1, 1]
noncomputable def failsB (x : List Nat) : Bool := match turnsF 60 (Sre.forSearch reCode x.toArray 1 0 x.length false) with | some r => (match r.outcome with | some .failed => true | _ => false) | none => false
theorem fails0 : failsB [32] = true := by decide +kernel
theorem fails1 : failsB [32, 45, 43] = true := by decide +kernel
theorem fails2 : failsB [44] = true := by decide +kernel
theorem fails3 : failsB [33, 48, 45, 57] = true := by decide +kernel
theorem fails4 : failsB [49, 45, 57] = true := by decide +kernel
theorem fails5 : failsB [48, 45, 57] = true := by decide +kernel
theorem fails_of {x : List Nat} (h : failsB x = true) : ∃ r, turnsF 60 (Sre.forSearch reCode x.toArray 1 0 x.length false) = some r ∧ r.outcome = some .failed := by
  unfold failsB at h
  split at h
  · rename_i r hr
    split at h
    · rename_i ho; exact ⟨r, hr, ho⟩
    · cases h
  · cases h

open Builtin Builtin.Re in
theorem wpAny_reWhole {p q : Addr} {x : List Nat} {t : Tok} {pat : Value} {t1 t2 t3 : Tok} {codes : Array Value} {Q : ReTarget → Shared → Prop} (hp : s.heap.get? p = some { cls := .type "re.Pattern", data := .fields #[pat, .int 32 t1, .int 1 t2, .none, .none, .ref q, .int 0 t3] })
    (hq : IsTup s.heap q codes) (hc : (codes.map reRawOf).map (·.toNat) = reCode)
    (hQ : Q { pattern := .ref p, string := .str (S x) t, code := reCode, text := x.toArray, kind := 0, groups := 1, pos := 0, lim := x.toArray.size } s) : wpAny (model prog w) A (reWholeTarget (.ref p) (.str (S x) t)) Q E s := by
  obtain ⟨o, ho, hcls, nn, hd⟩ := hq
  unfold reWholeTarget
  refine wpAny_bind (wpAny_fieldsOf hp rfl ?_)
  refine wpAny_bind (wpAny_of_eq (t := reTextOf (.str (S x) t)) (a := (x.toArray, 0)) (by rfl) ?_)
  dsimp only
  refine wpAny_ite_false (by rfl) ?_
  refine wpAny_ite_false (by rfl) ?_
  refine wpAny_bind (wpAny_of_eq (t := reNoCollectionInside (.str (S x) t) 0) (a := ()) (by rfl) ?_)
  refine wpAny_bind ?_
  unfold reRawItems
  refine wpAny_bind (wpAny_seqItems ho hd ?_)
  refine wpAny_pure (wpAny_pure ?_)
  simp only [Option.getD_some, hc]
  exact hQ
theorem lk_fn_call : typeLookup (.type "function") (Str.ofString "__call__") = pure (some (.builtin "function.__call__")) := by rw [typeLookup_type, builtinLookup_eq_fast]; kernel_rfl
theorem sub_str_ba : isSubtype (.type "str") (.type "bytearray") = pure false := by rw [isSubtype_type]; kernel_rfl
open Builtin Builtin.Re in
theorem sub_miss {p q f : Addr} {x : List Nat} {t : Tok} {pat : Value} {t1 t2 t3 : Tok} {codes : Array Value} {Q : Value → Shared → Prop} (hp : s.heap.get? p = some { cls := .type "re.Pattern", data := .fields #[pat, .int 32 t1, .int 1 t2, .none, .none, .ref q, .int 0 t3] })
    (hq : IsTup s.heap q codes) (hc : (codes.map reRawOf).map (·.toNat) = reCode) (hf : s.TypeIs (.ref f) "function") (hx : failsB x = true) (hx1 : 0 < x.length) (hz : x.length ≤ 100)
    (hQ : ∀ h' tk t', (∀ b o, s.heap.get? b = some o → h'.get? b = some o) → Q (.str (S x) t') { s with heap := h', toks := tk }) :
    wpAny (model prog w) A (call (.builtin "re.Pattern.sub") [.ref p, .ref f, .str (S x) t]) Q E s := by
  have hT : s.TypeIs (.ref p) "re.Pattern" := ⟨_, hp, rfl⟩
  refine wpAny_call (codeAny_call_builtin slot_re_sub.plain entry_re_sub (slot_re_sub.check _ _ _ _ _ _ _ _ hT (args_re_sub _ _ _) ?_))
  show wpAny _ _ (reSubstitute "re.Pattern.sub" "sub" false ⟨[.ref p, .ref f, .str (S x) t], []⟩) _ _ s
  unfold reSubstitute
  dsimp only
  refine wpAny_bind (wpAny_of_eq (t := reNamed _ _ _ _ _ _) (a := ([some (.ref f), some (.str (S x) t), none] : List (Option Value))) (by rfl) ?_)
  dsimp only
  refine wpAny_bind (wpAny_pure ?_)
  refine wpAny_bind ?_
  unfold specialOf
  refine wpAny_bind (wpAny_typeOf hf ?_)
  refine wpAny_of_eq lk_fn_call ?_
  dsimp only [Option.isSome_some]
  refine wpAny_ite_true rfl ?_
  refine wpAny_bind (wpAny_pure ?_)
  refine wpAny_ite_true rfl ?_
  refine wpAny_bind (wpAny_pure ?_)
  dsimp only
  refine wpAny_bind (wpAny_holding (wpAny_reWhole hp hq hc ?_))
  refine wpAny_ite_true rfl ?_
  refine wpAny_bind ?_
  unfold reNotHeld
  refine wpAny_bind (wpAny_isInstance (typeIs_str _ _ _) sub_str_ba ?_)
  refine wpAny_ite_false rfl ?_
  refine wpAny_pure ?_
  refine wpAny_bind ?_
  unfold newList
  refine wpAny_newObj_type ?_ (by size_fits)
  have hk1 : ∀ b o, s.heap.get? b = some o → (s.heap.push { cls := .type "list", data := .seq #[] }).get? b = some o := fun b o e => Heap.get?_push_of_some _ e
  have hn1 : (s.heap.push { cls := .type "list", data := .seq #[] }).get? s.heap.objs.size = some { cls := .type "list", data := .seq #[] } := Heap.get?_push_size _ rfl
  refine wpAny_pure ⟨Code.quiet_builtin _ (by decide +kernel), ?_⟩
  refine codeAny_builtin entry_re_loop ?_
  rw [Around.under_plainId (by decide +kernel)]
  unfold Builtin.«re.Pattern.sub.loop»
  dsimp only [rawInt]
  refine wpAny_bind (wpAny_reWhole (hk1 _ _ hp) (hq.keeps hk1) hc ?_)
  obtain ⟨r, hr1, hr2⟩ := fails_of hx
  refine wpAny_ite_false (by decide) ?_
  refine wpAny_bind ?_
  refine wpAny_ite_false (by decide) ?_
  unfold reNextFound
  refine wpAny_reRunToEnd (r := r) 60 (by decide) (by simpa using hr1) hr2 ?_
  dsimp only
  refine wpAny_ite_true (by simpa using hx1) ?_
  refine wpAny_bind ?_
  show wpAny _ _ (mkStr ⟨x.toArray.extract 0 x.toArray.size⟩) _ _ _
  have ex : (⟨x.toArray.extract 0 x.toArray.size⟩ : Str) = S x := by simp
  rw [ex]
  have ey : (⟨x.toArray.extract 0 0⟩ : Str) = S [] := by simp
  have hsl : (S x).length ≤ sizeLine := by rw [S_len]; unfold sizeLine; lia
  refine wpAny_mkStr ?_ hsl
  refine wpAny_bind (wpAny_updateSeq hn1 rfl ?_)
  have hn2 : ((s.heap.push { cls := .type "list", data := .seq #[] }).update s.heap.objs.size (Obj.mapSeq fun z => z.push (.str (S x) s.toks))).get? s.heap.objs.size = some { cls := .type "list", data := .seq #[.str (S x) s.toks] 1 } := by
    rw [Heap.get?_update_self _ hn1 (by rw [Obj.mapSeq_push_plain]; rfl), Obj.mapSeq_push_plain]; rfl
  have hk2 : ∀ b o, s.heap.get? b = some o → ((s.heap.push { cls := .type "list", data := .seq #[] }).update s.heap.objs.size (Obj.mapSeq fun z => z.push (.str (S x) s.toks))).get? b = some o := fun b o e => by
    have := (Heap.SameBut.update (s.heap.push { cls := .type "list", data := .seq #[] }) s.heap.objs.size (Obj.mapSeq fun z => z.push (.str (S x) s.toks))).extBut b o (Nat.ne_of_lt (Heap.lt_size e)) (hk1 b o e)
    exact this
  refine wpAny_bind ?_
  show wpAny _ _ (mkStr ⟨x.toArray.extract 0 0⟩) _ _ _
  rw [ey]
  refine wpAny_mkStr ?_ (by decide)
  refine wpAny_bind (wpAny_seqItems hn2 rfl ?_)
  refine wpAny_ite_false (by rfl) ?_
  refine wpAny_bind ?_
  show wpAny _ _ (call (.builtin "str.join") [.str (S []) _, .ref s.heap.objs.size]) _ _ _
  refine join_list (ys := [S x]) ⟨_, hn2, rfl, _, rfl⟩ (.cons _ _ .nil) (by simp only [List.map_cons, List.map_nil, List.sum_cons, List.sum_nil, S_len]; simp; lia) fun t' k => ?_
  refine wpAny_ite_false (by decide) ?_
  have ej : Txt.join (S []) [S x] = S x := by
    rw [show [S x] = [x].map S from rfl, S_join]; simp [joinL]
  rw [ej]
  exact wpAny_pure (hQ _ k t' hk2)

theorem plain_re : PlainAttrs "re.Pattern" :=
  ⟨⟨"object.__getattribute__", by rw [typeLookup_type, builtinLookup_eq_fast]; kernel_rfl, by decide +kernel⟩, by rw [typeLookup_type, builtinLookup_eq_fast]; kernel_rfl⟩
end
variable {G : GX} {sc : Scope} {n : Nat} {vals : List (Option D)} {μ : List (List D)} {K : D → Prop}
theorem lambda_core {A : Around} {env : Env} {W : Wh} {s : Shared} {c P : Addr} {params : Arguments} {body : Expr} {lsc : Scope} {pos : Pos} (o : Ok5 G sc n vals μ A env W s) (hcd : codeOf sc = some c) (hq : (c, P) ∈ G.T) (hf : noFree lsc = true)
    (hdef : ∀ env, defaultsOf params env = ([], [])) : wpAny (model G.prog G.w) A (eval (.Lambda params body lsc pos) env) (fun v s' => ∃ f ob, v = .ref f ∧ s'.heap.get? f = some ob ∧ ob.cls = .type "function" ∧ Ext G s s') No s := by
  obtain ⟨ps, h1, h2, h3⟩ := code_tab o.2.2.1 hq
  obtain ⟨cl, hcl⟩ := closure_free hf env
  refine kla_eval (hdef env) ?_
  cases hc : codeAmong pos ps.toList with
  | none =>
    refine kla_makeFunction (mg := G.mg) hcl o.1.glob (G.g.keeps o.2.2.1.base) (o.1.code c hcd) h1 h2 h3 hc (glob_notP hq) (bmain_at o.2.2.1 hq) fun c' ctv h' tk hx hge hlt hrec htb => ?_
    exact ⟨_, _, rfl, Heap.get?_push_size _ rfl, rfl, Ext.grown o.2.2.1 hq (fun b ob hb e => Heap.get?_push_of_some _ (hx b ob hb e)) (Heap.get?_push_of_some _ htb) (grown_ok h3 _ _ _) o.2.2.1.bare⟩
  | some cv =>
    refine kla_makeFunctionHit (mg := G.mg) hcl o.1.glob (G.g.keeps o.2.2.1.base) (o.1.code c hcd) h1 h2 h3 hc (bmain_at o.2.2.1 hq) fun ctv h' tk hk hsz => ?_
    exact ⟨_, _, rfl, Heap.get?_push_size _ rfl, rfl, Ext.of_keep o.2.2.1 fun b ob e => Heap.get?_push_of_some _ (hk b ob e)⟩
/-- the pattern object that the text compiles -/
noncomputable def PatAt (G : GX) (p : Addr) : Prop := ∃ pat t1 t2 t3 q codes, G.g0.get? p = some { cls := .type "re.Pattern", data := .fields #[pat, .int 32 t1, .int 1 t2, .none, .none, .ref q, .int 0 t3] } ∧ IsTup G.g0 q codes ∧ (codes.map Builtin.Re.reRawOf).map (·.toNat) = reCode
theorem Ev_sub {c P p : Addr} (hcd : codeOf sc = some c) (hq : (c, P) ∈ G.T) (hp : PatAt G p) {pe arg body : Expr} {params : Arguments} {lsc : Scope} {apos lpos pos : Pos} {pl : Env → Sem Bool} (hf : noFree lsc = true)
    (h : EvK G sc n vals μ pe fun d => d = .raw (.ref p) ∧ EvK G sc n vals μ arg fun d => ∃ x, d = .str x ∧ failsB x = true ∧ 0 < x.length ∧ x.length ≤ 100 ∧ K (.str x))
    (hdef : ∀ env, defaultsOf params env = ([], []))
    (hn : noStar [.Lambda params body lsc lpos, arg] = true)
    (he : ∀ env, eval (.Call (.Attribute pe "sub" apos) [.Lambda params body lsc lpos, arg] [] pos) env = (do
      let ov ← eval pe env
      standAt apos.atName
      let (f, first) ← holding [ov] (getMethod ov "sub" (pl env))
      callWith pos f first (backTo pos (starEach [.Lambda params body lsc lpos, arg] env)) [])) :
    EvK G sc n vals μ (.Call (.Attribute pe "sub" apos) [.Lambda params body lsc lpos, arg] [] pos) K := EvK.of fun A env W s o => by
  obtain ⟨pat, t1, t2, t3, q, codes, hp1, hp2, hp3⟩ := hp
  refine MethodCall_ (pl := pl env) (h.use o fun vo s₁ d ⟨hd, ha⟩ e1 i1 => ?_) (he env)
  subst hd
  obtain ⟨_, rfl⟩ := i1.inv
  refine getMethod_builtin (T := "re.Pattern") ⟨_, e1.ok.base _ _ hp1, rfl⟩ plain_re slot_re_sub type_re_sub (fun a e => by cases e; exact ⟨_, e1.ok.base _ _ hp1, rfl⟩) ?_
  rw [backTo_eq _ _ _ hn]
  refine Calls.callWith_builtin any_plain (evalArgs_of ?_)
  show wpAny _ _ (spliced [(false, eval (.Lambda params body lsc lpos) env), (false, eval arg env)]) _ _ _
  have o1 := o.ext e1
  refine spliced_cons (wpAny_mono (lambda_core o1 hcd hq hf hdef) (fun v s₂ ⟨f, ob, hv, hfo, hfc, e2⟩ => spliced_cons (ha.use (o1.ext e2) fun v₂ s₃ d ⟨x, hd, h1, h2, h3, hK⟩ e3 i3 => spliced_nil ?_)) fun _ _ y => y)
  subst hd
  subst hv
  obtain ⟨t, rfl⟩ := i3.inv
  have ok3 := e3.ok
  refine sub_miss (p := p) (f := f) (ok3.base _ _ hp1) (hp2.keeps ok3.base) hp3 ⟨ob, e3.keep.get e2.ok.tab hfo (fun ps e => by rw [e] at hfc; cases hfc), hfc⟩ h1 h2 h3 fun h' tk t' hk => ?_
  exact ⟨_, hK, ((e1.trans e2).trans e3).trans (Ext.of_keep ok3 hk), .str _ _⟩
end
section
open PySem PySem.W PyProof.Rows
set_option maxRecDepth 100000
set_option maxHeartbeats 4000000
set_option linter.unusedVariables false
set_option linter.unusedSimpArgs false
open PySem.Calls
variable {G : GX} {sc : Scope} {n : Nat} {vals : List (Option D)} {μ : List (List D)} {K : D → Prop}
theorem replace_none {prog : Program} {w : World} {A : Around} {E : Value → Shared → Prop} {s : Shared} {x y z : List Nat} {t u v : Tok} {Q : Value → Shared → Prop} (he : Builtin.Str.occurrences (S x) (S y) 0 x.length (x.length + 1) = []) (h : Q (.str (S x) t) s) :
    wpAny (model prog w) A (call (.builtin "str.replace") [.str (S x) t, .str (S y) u, .str (S z) v]) Q E s := by
  have he' : Builtin.Str.occurrences (S x) (S y) 0 (S x).length ((S x).length + 1) = [] := by rw [S_len]; exact he
  refine call_gives F.slot_str_replace (typeIs_str _ _ _) F.entry_str_replace (F.args_str_replace_3 _ _ _) (PySem.gives_str_replace (S x) (S y) (S z) _ _ _ fun q => ?_) ?_
  · rw [he'] at q; simp at q
  · rw [he']
    simp only [List.isEmpty_nil, Bool.true_or, if_true]
    exact h
theorem rep_method {prog : Program} {w : World} {A : Around} {E : Value → Shared → Prop} {s : Shared} {env : Env} {oE : Expr} {a b : Str} {y z x : List Nat} {k1 k2 : Nat} {q1 q2 apos pos : Pos} {Q : Value → Shared → Prop} {pl : Sem Bool} (ha : a = S y) (hb : b = S z)
    (he : Builtin.Str.occurrences (S x) (S y) 0 x.length (x.length + 1) = [])
    (h : wpAny (model prog w) A (eval oE env) (fun v s' => ∃ t, v = .str (S x) t ∧ ∀ tk, Q (.str (S x) t) { s' with toks := tk }) E s)
    (hev : eval (.Call (.Attribute oE "replace" apos) [.Constant (.str a) k1 q1, .Constant (.str b) k2 q2] [] pos) env = (do
      let ov ← eval oE env
      standAt apos.atName
      let (f, first) ← holding [ov] (getMethod ov "replace" pl)
      callWith pos f first (backTo pos (starEach [.Constant (.str a) k1 q1, .Constant (.str b) k2 q2] env)) [])) :
    wpAny (model prog w) A (eval (.Call (.Attribute oE "replace" apos) [.Constant (.str a) k1 q1, .Constant (.str b) k2 q2] [] pos) env) Q E s := by
  subst ha; subst hb
  refine MethodCall_ (wpAny_mono h (fun v s' ⟨t, hv, hQ⟩ => ?_) fun _ _ y => y) hev
  subst hv
  refine GM.of (.str (S x) t) (typeIs_str _ _ _) F.slot_str_replace F.type_str_replace GM.noRef ?_
  rw [backTo_eq _ _ _ rfl]
  refine Calls.callWith_builtin any_plain (evalArgs_of ?_)
  show wpAny _ _ (spliced [(false, eval (.Constant (.str (S y)) k1 q1) env), (false, eval (.Constant (.str (S z)) k2 q2) env)]) _ _ _
  exact spliced_cons (Constant_str (spliced_cons (Constant_str (spliced_nil (replace_none he (hQ _))))))
theorem Elt_esc {csc : Scope} {x : Str} {xs : List Nat} {a b a' b' : Str} {y z y' z' : List Nat} {k1 k2 k3 k4 : Nat} {px q1 q2 q3 q4 ap1 ap2 p1 p2 : Pos} {pl pl' : Env → Sem Bool} (hx : csc.names.lookup x = some .local) (hk : csc.kind = .function) (hd : (x == ("__debug__" : Str)) = false)
    (ha : a = S y) (hb : b = S z) (ha' : a' = S y') (hb' : b' = S z') (h1 : Builtin.Str.occurrences (S xs) (S y) 0 xs.length (xs.length + 1) = []) (h2 : Builtin.Str.occurrences (S xs) (S y') 0 xs.length (xs.length + 1) = [])
    (hev : ∀ env, eval (.Call (.Attribute (.Name x px) "replace" ap1) [.Constant (.str a) k1 q1, .Constant (.str b) k2 q2] [] p1) env = (do
      let ov ← eval (.Name x px) env
      standAt ap1.atName
      let (f, first) ← holding [ov] (getMethod ov "replace" (pl env))
      callWith p1 f first (backTo p1 (starEach [.Constant (.str a) k1 q1, .Constant (.str b) k2 q2] env)) []))
    (hev' : ∀ env, eval (.Call (.Attribute (.Call (.Attribute (.Name x px) "replace" ap1) [.Constant (.str a) k1 q1, .Constant (.str b) k2 q2] [] p1) "replace" ap2) [.Constant (.str a') k3 q3, .Constant (.str b') k4 q4] [] p2) env = (do
      let ov ← eval (.Call (.Attribute (.Name x px) "replace" ap1) [.Constant (.str a) k1 q1, .Constant (.str b) k2 q2] [] p1) env
      standAt ap2.atName
      let (f, first) ← holding [ov] (getMethod ov "replace" (pl' env))
      callWith p2 f first (backTo p2 (starEach [.Constant (.str a') k3 q3, .Constant (.str b') k4 q4] env)) [])) :
    EltK G csc x (.Call (.Attribute (.Call (.Attribute (.Name x px) "replace" ap1) [.Constant (.str a) k1 q1, .Constant (.str b) k2 q2] [] p1) "replace" ap2) [.Constant (.str a') k3 q3, .Constant (.str b') k4 q4] [] p2) (.str xs) (fun y => ∃ t, y = .str (S xs) t) := by
  intro A E cenv s m v W h hA hs hg hbi hn hm hgm hbm hi ht
  cases hi with | str _ t =>
  refine rep_method (pl := pl' cenv) ha' hb' h2 (rep_method (pl := pl cenv) ha hb h1 ?_ (hev cenv)) (hev' cenv)
  refine ldG hn hm ?_ (by rw [hs]; exact hk) (by rw [hs]; exact hx) hd
  exact ⟨t, rfl, fun tk => ⟨t, rfl, fun tk => ⟨⟨t, rfl⟩, s.heap, tk, rfl, fun _ _ e => e⟩⟩⟩
end
section
open PySem PySem.W PyProof.Rows
set_option maxRecDepth 100000
set_option linter.unusedVariables false
set_option linter.unusedSimpArgs false
open PySem.Calls Builtin.Str
noncomputable def occStep (s sub : Str) (hi limit : Nat) (st : Array Nat × Nat) (i : Nat) : Array Nat × Nat :=
  if (decide (st.1.size < limit) && decide (st.2 ≤ i) && decide (i + sub.length ≤ hi) && subAt s sub i) = true then (st.1.push i, i + sub.length) else st
theorem forIn_yield {α β : Type} (f : β → α → β) (g : α → β → Id (ForInStep β)) (hg : ∀ a b, g a b = pure (ForInStep.yield (f b a))) : ∀ (l : List α) (b : β), (forIn l b g : Id β) = pure (l.foldl f b)
  | [], b => rfl
  | a :: l, b => by
    rw [List.forIn_cons, hg]
    show forIn l (f b a) g = _
    rw [forIn_yield f g hg l (f b a)]; rfl
theorem occ_fold (s sub : Str) (lo hi limit : Nat) : occurrences s sub lo hi limit = ((List.range' lo (hi + 1 - lo)).foldl (occStep s sub hi limit) (#[], lo)).1.toList := by
  unfold occurrences
  simp only [Id.run, Std.Legacy.Range.forIn_eq_forIn_range', Std.Legacy.Range.size, Nat.add_sub_cancel, Nat.div_one]
  rw [forIn_yield (occStep s sub hi limit)]
  · rfl
  · rintro i ⟨a, b⟩
    unfold occStep
    dsimp only
    split <;> rfl
theorem occ_stay (s sub : Str) (hi : Nat) (a : Array Nat) (b : Nat) (ha : 1 ≤ a.size) : ∀ l : List Nat, l.foldl (occStep s sub hi 1) (a, b) = (a, b)
  | [] => rfl
  | i :: l => by
    rw [List.foldl_cons]
    have : occStep s sub hi 1 (a, b) i = (a, b) := by
      unfold occStep
      rw [if_neg]
      simp only [Bool.and_eq_true, decide_eq_true_eq]
      lia
    rw [this]
    exact occ_stay s sub hi a b ha l
theorem occ_none (s sub : Str) (lo hi limit : Nat) (h : hi < lo) : occurrences s sub lo hi limit = [] := by
  rw [occ_fold, show hi + 1 - lo = 0 by lia]; rfl
theorem occ_hit (x : List Nat) (c lo hi : Nat) (h : lo + 1 ≤ hi) (hc : x[lo]? = some c) : occurrences (S x) (S [c]) lo hi 1 = [lo] := by
  have hs : subAt (S x) (S [c]) lo = true := by
    unfold subAt
    have hl : lo < x.length := (List.getElem?_eq_some_iff.mp hc).1
    have e : (S x).cps.extract lo (lo + (S [c]).length) = [c].toArray := by
      show x.toArray.extract lo (lo + 1) = _
      apply Array.ext'
      simp
      rw [List.drop_eq_getElem_cons hl]
      have := (List.getElem?_eq_some_iff.mp hc).2
      simp [this]
    rw [e]
    exact beq_self_eq_true _
  rw [occ_fold, show hi + 1 - lo = (hi - lo) + 1 by lia, List.range'_succ, List.foldl_cons]
  have : occStep (S x) (S [c]) hi 1 (#[], lo) lo = (#[lo], lo + 1) := by
    unfold occStep
    rw [hs]
    have : lo + (S [c]).length ≤ hi := h
    simp [this]
    rfl
  rw [this, occ_stay (S x) (S [c]) hi #[lo] (lo + 1) (by simp)]
theorem fromIndex_nat (len k : Nat) : fromIndex len (k : Int) = k := by
  unfold fromIndex
  rw [if_neg (by lia)]
  lia
/-- «find» of one sign that stands where the search begins, or beyond its end -/
theorem find_here {x : List Nat} {c lo hi : Nat} (h : lo + 1 ≤ hi) (hh : hi ≤ x.length) (hc : x[lo]? = some c) :
    (match occurrences (S x) (S [c]) (fromIndex x.length (lo : Int)) (min (fromIndex x.length (hi : Int)) x.length) 1 with | k :: _ => (k : Int) | [] => -1) = (lo : Int) := by
  rw [fromIndex_nat, fromIndex_nat, Nat.min_eq_left hh, occ_hit x c lo hi h hc]
theorem find_gone {x : List Nat} {c lo hi : Nat} (h : hi < lo) (hh : hi ≤ x.length) :
    (match occurrences (S x) (S [c]) (fromIndex x.length (lo : Int)) (min (fromIndex x.length (hi : Int)) x.length) 1 with | k :: _ => (k : Int) | [] => -1) = -1 := by
  rw [fromIndex_nat, fromIndex_nat, Nat.min_eq_left hh, occ_none _ _ _ _ _ h]

section
variable {G : GX} {n : Nat} {μ : List (List D)} {K : D → Prop}
theorem St_in_tstrs {k : List Nat} {ys : List (List Nat)} (h : K (.bool (ys.any (· == k)))) : StK G n μ [.str k, .tup (ys.map .str)] (b2 (compareOp .In)) K := fun A W s vs hr ok hm hi => by
  obtain ⟨_, _, rfl, i1, i2⟩ := hi.two
  obtain ⟨_, _, rfl, ht, hs⟩ := i2.inv
  obtain ⟨_, rfl⟩ := i1.inv
  refine in_tuple_strs ht (by simpa using hs.strs) ?_
  rw [any_S]
  exact ⟨_, h, .refl ok, .bool _⟩
end
end
section
open PySem PySem.W PyProof.Rows
set_option maxRecDepth 100000
set_option maxHeartbeats 4000000
set_option linter.unusedVariables false
set_option linter.unusedSimpArgs false
open PySem.Calls
section
theorem mro_object : mroOf (.type "object") = pure [.type "object"] := by rw [mroOf_type]; kernel_rfl
theorem lookup_object_new : typeLookup (.type "object") "__new__" = pure (some (.builtin "object.__new__")) := by rw [typeLookup_type, builtinLookup_eq_fast]; kernel_rfl
theorem slot_object_init : Slot "object" "__init__" "object.__init__" :=
  .of (owner := "object") (n := "__init__") (by rw [typeLookup_type, builtinLookup_eq_fast]; kernel_rfl) (by decide +kernel) (by decide +kernel) (by decide +kernel)
    (by first | exact .inl (by decide +kernel) | exact .inr (by decide +kernel)) (by rw [isSubtype_type]; kernel_rfl)
theorem called_object : TypeCalled "object" "object.__new__" "object.__init__" :=
  ⟨by decide +kernel, by decide +kernel, ⟨_, _, mro_object⟩, madeBy_type mro_object lookup_object_new (by decide +kernel), by decide +kernel, by rw [isSubtype_type]; kernel_rfl, slot_object_init⟩
theorem typeCall_object : checkTypeCall "object" ⟨[], []⟩ = pure () := by kernel_rfl
theorem newCall_object : checkBuiltinCall "object.__new__" ⟨[.type "object"], []⟩ = pure () := by kernel_rfl
theorem args_object_init (a : Value) : argsOk "object.__init__" ⟨[a], []⟩ := by unfold argsOk; kernel_rfl
theorem meets_object_init (a : Value) : Meets (Builtin.«object.__init__» ⟨[a], []⟩) (fun _ R s => R (.ok (.ret .none)) s) :=
  Meets.of_wp fun prog w A R s hs => wpAny_pure ⟨_, rfl, hs⟩
theorem dict_object : typeHasDict (.type "object") = false := by first | rfl | decide +kernel | kernel_rfl
theorem here_object : Bind.madeHere "object.__new__" (.type "object") = pure () := by kernel_rfl
theorem dies_object : diesByItsTypesDel "object" = false := by first | rfl | decide +kernel | kernel_rfl
theorem meets_object_new : Meets (Builtin.«object.__new__» ⟨[.type "object"], []⟩) (fun _ R s => R (.ok (.ret (.ref s.heap.objs.size))) { s with heap := s.heap.push { cls := .type "object", data := .plain } }) :=
  Meets.of_wp fun prog w A R s hs => by
    have h1 := dict_object
    have h2 := here_object
    have h3 := dies_object
    unfold Builtin.«object.__new__»
    repeat (any_goals (first | assumption | wp_step))
    exact ⟨_, rfl, hs⟩
end
theorem C_object {G : GX} {n : Nat} {μ : List (List D)} {K : D → Prop} (h : ∀ a : Addr, K (.raw (.ref a))) : CallK G n μ (.type "object") [] K := fun A W s vs hr ok hm hi => by
  cases hi
  refine callType_meets (Q₁ := fun v s' => v = .ref s.heap.objs.size ∧ s' = { s with heap := s.heap.push { cls := .type "object", data := .plain } }) called_object typeCall_object newCall_object F.entry_object_new F.entry_object_init meets_object_new ⟨rfl, rfl⟩ ?_
  rintro obj s₁ ⟨rfl, rfl⟩
  exact ⟨⟨_, Heap.get?_push_size _ rfl, rfl⟩, args_object_init _, _, meets_object_init _, rfl, _, h _, push_ext ok _, .raw _⟩
end
section
open PySem PySem.W PyProof.Rows
set_option Elab.async false
set_option maxRecDepth 100000
set_option maxHeartbeats 8000000
open PySem.Challenge (pw_aa0030_01)
noncomputable def stT (i : Nat) : Option Stmt := pw_aa0030_01.main.body[i]?
noncomputable def stC (i : Nat) : Option Stmt := match stT 3 with
  | some (.ClassDef _ _ _ body _ _ _ _ _ _ _) => body[i]?
  | _ => none
noncomputable def vS (x : Str) (t : Tok) : Value := .str x t
noncomputable def ke (P : Params) (x : Str) (t : Tok) (v : Value) : DictEntry := { hash := PyData.keyHash P x, key := .str x t, val := v }
noncomputable def ki (i : Int) (t : Tok) (x : Str) (u : Tok) : DictEntry := { hash := i, key := .int i t, val := .str x u }
noncomputable def kc (x : Str) (t0 : Tok) (q : Str) (t1 t2 : Tok) (l n fl : Int) (a8 : Value) (i10 : Int) (a11 a13 a14 a15 : Value) (i16 : Int) (t16 t18 : Tok) : Obj :=
  { cls := .type "code", data := .fields #[.str x t0, .str q t1, .str "/claim/cut.py" t2, .int l 0, .int n 0, .int 0 0, .int 0 0, .int fl 0, a8, .bool true, .int i10 0, a11, .none, a13, a14, a15, .int i16 t16, .int l 0, .str "/claim/cut.py" t18] }
noncomputable def scT (st : Option Stmt) : Scope := match st with
  | some (.FunctionDef _ _ _ _ _ _ sc _ _ _) => sc
  | _ => default
noncomputable def bdT (st : Option Stmt) : List Stmt := match st with
  | some (.FunctionDef _ _ body _ _ _ _ _ _ _) => body
  | _ => []
noncomputable def nmT (st : Option Stmt) : Str := match st with
  | some (.FunctionDef name _ _ _ _ _ _ _ _ _) => name
  | _ => ""
noncomputable def paT (st : Option Stmt) : Arguments := match st with
  | some (.FunctionDef _ args _ _ _ _ _ _ _ _) => args
  | _ => default
noncomputable def fdT (st : Option Stmt) (q : Str) (md : Value) (c : Addr) : FuncData :=
  { name := nmT st, qualname := q, params := paT st, body := .stmts (bdT st), scope := scT st, globals := 3, closure := [], defaults := .none, kwdefaults := .none, pyModule := md, code := .ref c }
noncomputable def kf (st : Option Stmt) (q : Str) (md : Value) (c : Addr) : Obj := { cls := .type "function", data := .func (fdT st q md c) }
noncomputable def specL : List (Int × Tok × Str × Tok) := [(40, 456, "\\(", 460), (41, 462, "\\)", 466), (91, 468, "\\[", 472), (93, 474, "\\]", 478), (123, 480, "\\{", 484), (125, 486, "\\}", 490), (63, 492, "\\?", 496), (42, 498, "\\*", 502), (43, 504, "\\+", 508), (45, 510, "\\-", 514), (124, 516, "\\|", 520), (94, 522, "\\^", 526), (36, 528, "\\$", 532), (92, 534, "\\\\", 538), (46, 540, "\\.", 544), (38, 546, "\\&", 550), (126, 552, "\\~", 556), (35, 558, "\\#", 562), (32, 564, "\\ ", 568), (9, 570, "\\\t", 574), (10, 576, "\\\n", 580), (13, 582, "\\\x0d", 586), (11, 588, "\\\x0b", 592), (12, 594, "\\\x0c", 598)]
noncomputable def kq (q : Int × Tok × Str × Tok) : DictEntry := ki q.1 q.2.1 q.2.2.1 q.2.2.2
noncomputable def KP (P : Params) : Frag := [
  (2, { cls := .none, data := .dict #[ke P "\x69mport.loaded._sre" 183 (.bool true), ke P "class._frozen_importlib.BuiltinImporter" 185 (.ref 14), ke P "watched.\x69mport" 206 (.ref 18), ke P "class._frozen_importlib.ModuleSpec" 216 (.ref 22), ke P "sys.modules.booked-epoch" 245 (.int 3 0), ke P "\x69mport.later-laid._sre" 270 (.bool true), ke P "watched.library" 272 (.ref 27), ke P "watched.library-objects" 0 (vS "\x0c" 0), ke P "watched.library-deep._sre" 273 (vS "\x04\x00\x00\x0b\x04\x00\x00\x0b\x04\x00\x00\x03\x04\x00\x00\x0b\x08\x04dict\x02" 0)] 9 }),
  (3, { cls := .type "dict", data := .dict #[ke P "__name__" 165 (vS "law_aa0030_01" 642), ke P "__doc__" 166 (.none), ke P "__package__" 167 (.none), ke P "__loader__" 168 (.builtin "__main__.__loader__#opaque"), ke P "__spec__" 169 (.none), ke P "__annotations__" 170 (.ref 6), ke P "__builtins__" 171 (.ref 4), ke P "__file__" 173 (vS "/claim/cut.py" 172), ke P "__cached__" 174 (.none), ke P "_sre" 275 (.ref 12), ke P "_wall" 288 (.ref 38), ke P "Whitespace" 394 (.ref 100), ke P "format_witnesses" 403 (.ref 111), ke P "_twin_re_1" 443 (.ref 116), ke P "translate" 452 (.ref 123), ke P "_special_chars_map" 600 (.ref 125), ke P "escape" 607 (.ref 135), ke P "_translate" 628 (.ref 142), ke P "_join_translated_parts" 641 (.ref 149), ke P "_law_sign" 651 (.ref 156), ke P "_law_one" 665 (.ref 163), ke P "_law_pieces" 676 (.ref 170), ke P "_law_fit" 682 (.ref 175), ke P "_law_ends" 688 (.ref 180), ke P "_law_totals" 694 (.ref 185), ke P "_law_took" 702 (.ref 192), ke P "_law_takes" 710 (.ref 199), ke P "_law_column" 720 (.ref 206), ke P "_law_read" 726 (.ref 211), ke P "law" 732 (.ref 216)] 30 }),
  (54, kc "__init__" 308 "Whitespace.__init__" 309 310 9 2 3 (.ref 49) 276 (.ref 50) (.ref 51) (.ref 52) (.ref 53) 320 0 321),
  (55, kf (stC 1) "Whitespace.__init__" (vS "cpy313.tabnanny" 289) 54),
  (61, kc "longest_run_of_spaces" 323 "Whitespace.longest_run_of_spaces" 324 325 32 1 3 (.ref 56) 276 (.ref 57) (.ref 58) (.ref 59) (.ref 60) 329 0 330),
  (62, kf (stC 2) "Whitespace.longest_run_of_spaces" (vS "cpy313.tabnanny" 289) 61),
  (68, kc "indent_level" 332 "Whitespace.indent_level" 333 334 36 2 3 (.ref 63) 276 (.ref 64) (.ref 65) (.ref 66) (.ref 67) 341 0 342),
  (69, kf (stC 3) "Whitespace.indent_level" (vS "cpy313.tabnanny" 289) 68),
  (82, kc "not_equal_witness" 352 "Whitespace.not_equal_witness" 353 354 46 2 3 (.ref 77) 276 (.ref 78) (.ref 79) (.ref 80) (.ref 81) 360 0 361),
  (83, kf (stC 5) "Whitespace.not_equal_witness" (vS "cpy313.tabnanny" 289) 82),
  (96, kc "not_less_witness" 371 "Whitespace.not_less_witness" 372 373 57 2 3 (.ref 91) 276 (.ref 92) (.ref 93) (.ref 94) (.ref 95) 379 0 380),
  (97, kf (stC 7) "Whitespace.not_less_witness" (vS "cpy313.tabnanny" 289) 96),
  (99, { cls := .type "dict", data := .dict #[ke P "__module__" 298 (vS "cpy313.tabnanny" 289), ke P "__firstlineno__" 302 (.int 6 301), ke P "S" 306 (vS " " 304), ke P "T" 307 (vS "\t" 305), ke P "__init__" 322 (.ref 55), ke P "longest_run_of_spaces" 331 (.ref 62), ke P "indent_level" 343 (.ref 69), ke P "equal" 351 (.ref 76), ke P "not_equal_witness" 362 (.ref 83), ke P "less" 370 (.ref 90), ke P "not_less_witness" 381 (.ref 97), ke P "__static_attributes__" 387 (.ref 98), ke P "__dict__" 389 (.ref 101), ke P "__weakref__" 391 (.ref 102), ke P "__doc__" 392 (.none)] 4 }),
  (100, { cls := .type "type", data := .cls { name := "Whitespace", bases := [.type "object"], mro := [.ref 100, .type "object"], ns := 99, qualname := "Whitespace" }, slots := #[none, none, some (vS "Whitespace" 291), some (vS "Whitespace" 299), some (.builtin "object.__new__"), some (.bool true)] }),
  (110, kc "format_witnesses" 395 "format_witnesses" 396 397 64 1 3 (.ref 105) 276 (.ref 106) (.ref 107) (.ref 108) (.ref 109) 401 0 402),
  (111, kf (stT 4) "format_witnesses" (vS "cpy313.tabnanny" 289) 110),
  (115, { cls := .type "tuple", data := .seq #[.int 14 0, .int 14 0, .int 4 0, .int 1 0, .int 1 0, .int 9 0, .int 0 0, .int 64 0, .int 0 0, .int 1342177280 0, .int 0 0, .int 0 0, .int 0 0, .int 0 0, .int 0 0, .int 17 0, .int 0 0, .int 13 0, .int 11 0, .int 9 0, .int 0 0, .int 64 0, .int 0 0, .int 1342177280 0, .int 0 0, .int 0 0, .int 0 0, .int 0 0, .int 0 0, .int 17 0, .int 1 0, .int 1 0] }),
  (116, { cls := .type "re.Pattern", data := .fields #[vS "([&~|])" 407, .int 32 442, .int 1 0, .none, .none, .ref 115, .int 0 0] }),
  (122, kc "translate" 444 "translate" 445 446 72 1 3 (.ref 117) 276 (.ref 118) (.ref 119) (.ref 120) (.ref 121) 450 0 451),
  (123, kf (stT 7) "translate" (vS "cpy313.fnmatch" 404) 122),
  (125, { cls := .type "dict", data := .dict (specL.map kq).toArray 24 }),
  (134, kc "escape" 601 "escape" 602 603 78 1 3 (.ref 129) 276 (.ref 130) (.ref 131) (.ref 132) (.ref 133) 605 0 606),
  (135, kf (stT 10) "escape" (vS "re" 453) 134),
  (141, kc "_translate" 610 "_translate" 611 612 85 3 3 (.ref 136) 276 (.ref 137) (.ref 138) (.ref 139) (.ref 140) 626 0 627),
  (142, kf (stT 12) "_translate" (vS "cpy313.fnmatch" 608) 141),
  (148, kc "_join_translated_parts" 629 "_join_translated_parts" 630 631 147 2 3 (.ref 143) 276 (.ref 144) (.ref 145) (.ref 146) (.ref 147) 639 0 640),
  (149, kf (stT 13) "_join_translated_parts" (vS "cpy313.fnmatch" 608) 148),
  (155, kc "_law_sign" 644 "_law_sign" 645 646 175 2 3 (.ref 150) 276 (.ref 151) (.ref 152) (.ref 153) (.ref 154) 649 0 650),
  (156, kf (stT 15) "_law_sign" (vS "law_aa0030_01" 642) 155),
  (162, kc "_law_one" 652 "_law_one" 653 654 179 2 3 (.ref 157) 276 (.ref 158) (.ref 159) (.ref 160) (.ref 161) 663 0 664),
  (163, kf (stT 16) "_law_one" (vS "law_aa0030_01" 642) 162),
  (169, kc "_law_pieces" 666 "_law_pieces" 667 668 206 1 3 (.ref 164) 276 (.ref 165) (.ref 166) (.ref 167) (.ref 168) 674 0 675),
  (170, kf (stT 17) "_law_pieces" (vS "law_aa0030_01" 642) 169),
  (174, kc "_law_fit" 677 "_law_fit" 678 679 234 3 3 (.ref 171) 276 (.ref 172) .none .none (.ref 173) 680 0 681),
  (175, kf (stT 18) "_law_fit" (vS "law_aa0030_01" 642) 174),
  (179, kc "_law_ends" 683 "_law_ends" 684 685 241 2 3 (.ref 176) 276 (.ref 177) .none .none (.ref 178) 686 0 687),
  (180, kf (stT 19) "_law_ends" (vS "law_aa0030_01" 642) 179),
  (184, kc "_law_totals" 689 "_law_totals" 690 691 258 1 3 (.ref 181) 276 (.ref 182) .none .none (.ref 183) 692 0 693),
  (185, kf (stT 20) "_law_totals" (vS "law_aa0030_01" 642) 184),
  (191, kc "_law_took" 695 "_law_took" 696 697 260 2 3 (.ref 186) 276 (.ref 187) (.ref 188) (.ref 189) (.ref 190) 700 0 701),
  (192, kf (stT 21) "_law_took" (vS "law_aa0030_01" 642) 191),
  (198, kc "_law_takes" 703 "_law_takes" 704 705 262 2 3 (.ref 193) 276 (.ref 194) (.ref 195) (.ref 196) (.ref 197) 708 0 709),
  (199, kf (stT 22) "_law_takes" (vS "law_aa0030_01" 642) 198),
  (205, kc "_law_column" 711 "_law_column" 712 713 264 2 3 (.ref 200) 276 (.ref 201) (.ref 202) (.ref 203) (.ref 204) 718 0 719),
  (206, kf (stT 23) "_law_column" (vS "law_aa0030_01" 642) 205),
  (210, kc "_law_read" 721 "_law_read" 722 723 271 6 3 (.ref 207) 276 (.ref 208) .none .none (.ref 209) 724 0 725),
  (211, kf (stT 24) "_law_read" (vS "law_aa0030_01" 642) 210),
  (215, kc "law" 727 "law" 728 729 289 1 3 (.ref 212) 276 (.ref 213) .none .none (.ref 214) 730 0 731),
  (216, kf (stT 25) "law" (vS "law_aa0030_01" 642) 215)]
noncomputable def kAs : List Nat := [2, 3, 54, 55, 61, 62, 68, 69, 82, 83, 96, 97, 99, 100, 110, 111, 115, 116, 122, 123, 125, 134, 135, 141, 142, 148, 149, 155, 156, 162, 163, 169, 170, 174, 175, 179, 180, 184, 185, 191, 192, 198, 199, 205, 206, 210, 211, 215, 216]
noncomputable def qV : Program := { pw_aa0030_01 with main := { pw_aa0030_01.main with body := [0, 4, 25].filterMap fun i => pw_aa0030_01.main.body[i]? } }
noncomputable def looseV : List Str := ["_wall", "Whitespace", "_twin_re_1", "translate", "_special_chars_map", "escape", "_translate", "_join_translated_parts", "_law_sign", "_law_one", "_law_pieces", "_law_fit", "_law_ends", "_law_totals", "_law_took", "_law_takes", "_law_column", "_law_read"]
noncomputable def xtV : Shared → Bool := fun s => xlAt qV [] s && recOk (RowW.records PySem.Challenge.rw_aa0030_01.row.toRowW) s
noncomputable def hkV : Hook := kmHook KP kAs (fun _ => by kernel_rfl) [106, 137]
noncomputable def PV (w : World) : Prop := (openEnds treeTable pw_aa0030_01 w 4908).map (fun s => (openSeen qV looseV (importedModules pw_aa0030_01.main.body) xtV true s, hkV.obs s)) = some (openGood qV looseV, hkV.val w)
theorem PV_of (w : World) (h : ((PySem.W.Fast.tw10274390034422433532 PySem.W.Fast.tw14364793385576792824 (opening pw_aa0030_01) w 4908 (start (opening pw_aa0030_01)).1 (start (opening pw_aa0030_01)).2).bind (PySem.W.Fast.tw14289696077712309145 pw_aa0030_01) |>.bind fun s₀ =>
    match s₀.heap.isNs mainGlobals && s₀.gens.size == 0 with
    | true => (PySem.W.Fast.tw14082659384304107361 PySem.W.Fast.tw14364793385576792824 pw_aa0030_01 w s₀.heap.objs.size (s₀.heap.nsMap mainGlobals "__annotations__") 4908 s₀ (topStub pw_aa0030_01)).bind fun s₁ => match staticsOk (importedModules pw_aa0030_01.main.body) s₀.heap s₁.heap && namesBound pw_aa0030_01 s₁.heap && gensDone s₁ && laidKept s₀.heap s₁.heap with
      | true => some s₁
      | false => none
    | false => none).map (fun s => (PySem.W.Fast.tw4187177175401517315 qV looseV (importedModules pw_aa0030_01.main.body) xtV true s, hkV.obs s)) = some (openGood qV looseV, hkV.val w)) : PV w := by
  rw [← PySem.W.Fast.te10274390034422433532, ← PySem.W.Fast.te14364793385576792824, ← PySem.W.Fast.te14289696077712309145, ← PySem.W.Fast.te14082659384304107361, ← PySem.W.Fast.te4187177175401517315] at h
  exact h
theorem left_ff (w : World) : PV ((w.withFollow "special-get-raises" false).withFollow "comprehension-iter-twice" false) := PV_of _ (by kernel_rfl)
theorem left_ft (w : World) : PV ((w.withFollow "special-get-raises" true).withFollow "comprehension-iter-twice" false) := PV_of _ (by kernel_rfl)
theorem left_tf (w : World) : PV ((w.withFollow "special-get-raises" false).withFollow "comprehension-iter-twice" true) := PV_of _ (by kernel_rfl)
theorem left_tt (w : World) : PV ((w.withFollow "special-get-raises" true).withFollow "comprehension-iter-twice" true) := PV_of _ (by kernel_rfl)
theorem leftV (w : World) : PV w :=
  byRow2 "comprehension-iter-twice" (P := PV)
    (byRow2 "special-get-raises" (P := fun w => PV (w.withFollow "comprehension-iter-twice" false)) left_ff left_ft)
    (byRow2 "special-get-raises" (P := fun w => PV (w.withFollow "comprehension-iter-twice" true)) left_tf left_tt) w
end
section
open PySem PySem.W PyProof.Rows
set_option maxRecDepth 100000
set_option maxHeartbeats 1000000
set_option linter.unusedVariables false
open PySem.Calls
variable {G : GX} {sc : Scope} {n : Nat} {vals : List (Option D)} {μ : List (List D)} {K : D → Prop}

structure Good (G : GX) : Prop where
  k : ∃ P, G.K = KP P
  t : G.T = [(141, 137), (110, 106)]

noncomputable def okSc (sc : Scope) : Bool := sc.kind == .function && !sc.isCoroutine && !sc.isGenerator && decide ((sc.names.map (·.1)).Nodup) && sc.names.all (fun p => p.1 != "norm")
noncomputable def okCode (sc : Scope) (c : Addr) : Bool := codeOf sc == none || codeOf sc == some c
noncomputable def okPar (sc : Scope) (ps : List Str) : Bool := (sc.names.take ps.length).map (·.1) == ps && (sc.names.take ps.length).all fun p => p.2 == .local || p.2 == .cell
theorem fnAt {a c : Addr} {ps : List Str} {sc : Scope} {cls : Value} {dict : Option Addr} {sl : Array (Option Value)} {fd : FuncData} {body : List Stmt} {cc : Value} {cd' : Option Addr} {vs : Array Value} {csl : Array (Option Value)} {t : Tok}
    (hl : G.K.lookup a = some ⟨cls, dict, .func fd, sl⟩) (hb : fd.body = .stmts body) (hc : fd.code = .ref c) (hcl : G.K.lookup c = some ⟨cc, cd', .fields vs, csl⟩) (hq : vs[1]? = some (.str fd.qualname t))
    (hg : fd.globals = mainGlobals) (hbl : fd.builtins = builtinsNs) (hclo : fd.closure = []) (hs : fd.scope = sc) (hsc : okSc sc = true) (hp : okPar sc ps = true) (hbind : ∀ vs, vs.length = ps.length → bindArgs fd ⟨vs, []⟩ = pure (ps.zip vs)) (hcd : okCode sc c = true) :
    FnAt G a ps sc body := by
  subst hs
  unfold okSc at hsc
  simp only [Bool.and_eq_true] at hsc
  obtain ⟨⟨⟨⟨h1, h2⟩, h3⟩, h4⟩, h5⟩ := hsc
  unfold okPar at hp
  rw [Bool.and_eq_true] at hp
  rw [List.all_eq_true] at h5
  exact {
    ex := ⟨_, fd, G.kin a _ hl, rfl, hb, rfl, hg, hbl, hclo, ⟨c, _, vs, t, hc, G.kin c _ hcl, rfl, hq⟩, (fun c' e => by
      rw [hc]
      unfold okCode at hcd
      rw [e] at hcd
      have : some c' = some c := by simpa using hcd
      rw [Option.some.inj this]), hbind⟩
    kind := eq_of_beq h1
    co := by simpa using h2
    gen := by simpa using h3
    nodup := of_decide_eq_true h4
    nonorm := fun p hp e => by have := h5 p hp; exact absurd e (bne_iff_ne.mp this)
    par := eq_of_beq hp.1
    lc := fun p hp' => by
      have h := hp.2
      rw [List.all_eq_true] at h
      have := h p hp'
      rw [Bool.or_eq_true] at this
      exact this.imp eq_of_beq eq_of_beq }
end
section
open PySem PySem.W PyProof.Rows
set_option maxRecDepth 100000
set_option maxHeartbeats 1000000
set_option linter.unusedVariables false
open PySem.Calls
variable {G : GX} {sc : Scope} {n : Nat} {vals : List (Option D)} {μ : List (List D)} {K : D → Prop}

theorem str0 : Str.ofString "" = S [] := by decide +kernel
theorem str1 : Str.ofString "\t" = S [9] := by decide +kernel
theorem str2 : Str.ofString "\n " = S [10, 32] := by decide +kernel
theorem str3 : Str.ofString " " = S [32] := by decide +kernel
theorem str4 : Str.ofString "!" = S [33] := by decide +kernel
theorem str5 : Str.ofString "# " = S [35, 32] := by decide +kernel
theorem str6 : Str.ofString "$" = S [36] := by decide +kernel
theorem str7 : Str.ofString "(" = S [40] := by decide +kernel
theorem str8 : Str.ofString "(?!)" = S [40, 63, 33, 41] := by decide +kernel
theorem str9 : Str.ofString "(?>.*?" = S [40, 63, 62, 46, 42, 63] := by decide +kernel
theorem str10 : Str.ofString "(?s:" = S [40, 63, 115, 58] := by decide +kernel
theorem str11 : Str.ofString ")" = S [41] := by decide +kernel
theorem str12 : Str.ofString ")\\Z" = S [41, 92, 90] := by decide +kernel
theorem str13 : Str.ofString "*" = S [42] := by decide +kernel
theorem str14 : Str.ofString "*[0-9]" = S [42, 91, 48, 45, 57, 93] := by decide +kernel
theorem str15 : Str.ofString "+" = S [43] := by decide +kernel
theorem str16 : Str.ofString "," = S [44] := by decide +kernel
theorem str17 : Str.ofString ", " = S [44, 32] := by decide +kernel
theorem str18 : Str.ofString "-" = S [45] := by decide +kernel
theorem str19 : Str.ofString "." = S [46] := by decide +kernel
theorem str20 : Str.ofString ".*" = S [46, 42] := by decide +kernel
theorem str21 : Str.ofString "0" = S [48] := by decide +kernel
theorem str22 : Str.ofString "9" = S [57] := by decide +kernel
theorem str23 : Str.ofString "?" = S [63] := by decide +kernel
theorem str24 : Str.ofString "A" = S [65] := by decide +kernel
theorem str25 : Str.ofString "Z" = S [90] := by decide +kernel
theorem str26 : Str.ofString "[" = S [91] := by decide +kernel
theorem str27 : Str.ofString "[ -+]" = S [91, 32, 45, 43, 93] := by decide +kernel
theorem str28 : Str.ofString "[ ]" = S [91, 32, 93] := by decide +kernel
theorem str29 : Str.ofString "[!0-9]" = S [91, 33, 48, 45, 57, 93] := by decide +kernel
theorem str30 : Str.ofString "[,]" = S [91, 44, 93] := by decide +kernel
theorem str31 : Str.ofString "[1-9]*" = S [91, 49, 45, 57, 93, 42] := by decide +kernel
theorem str32 : Str.ofString "\\" = S [92] := by decide +kernel
theorem str33 : Str.ofString "\\-" = S [92, 45] := by decide +kernel
theorem str34 : Str.ofString "\\[" = S [92, 91] := by decide +kernel
theorem str35 : Str.ofString "\\\\" = S [92, 92] := by decide +kernel
theorem str36 : Str.ofString "]" = S [93] := by decide +kernel
theorem str37 : Str.ofString "^" = S [94] := by decide +kernel
theorem str38 : Str.ofString "a" = S [97] := by decide +kernel
theorem str39 : Str.ofString "at tab size" = S [97, 116, 32, 116, 97, 98, 32, 115, 105, 122, 101] := by decide +kernel
theorem str40 : Str.ofString "at tab size " = S [97, 116, 32, 116, 97, 98, 32, 115, 105, 122, 101, 32] := by decide +kernel
theorem str41 : Str.ofString "at tab sizes" = S [97, 116, 32, 116, 97, 98, 32, 115, 105, 122, 101, 115] := by decide +kernel
theorem str42 : Str.ofString "at tab sizes " = S [97, 116, 32, 116, 97, 98, 32, 115, 105, 122, 101, 115, 32] := by decide +kernel
theorem str43 : Str.ofString "s" = S [115] := by decide +kernel
theorem str44 : Str.ofString "x" = S [120] := by decide +kernel
theorem str45 : Str.ofString "x\t" = S [120, 9] := by decide +kernel
theorem str46 : Str.ofString "z" = S [122] := by decide +kernel
theorem str47 : Str.ofString "{" = S [123] := by decide +kernel
theorem str48 : Str.ofString "|" = S [124] := by decide +kernel
theorem str49 : Str.ofString "}" = S [125] := by decide +kernel
theorem mgOf (hG : Good G) {x : Str} {v : Value} (h : ∀ P, nsIn (KP P) mainGlobals x = some (some v)) : G.mg x = some v := by
  obtain ⟨P, hK⟩ := hG.k
  exact mg_of G.kin G.g (by rw [hK]; exact h P)
theorem mgNone (hG : Good G) {x : Str} (h : ∀ P, nsIn (KP P) mainGlobals x = some none) : G.mg x = none := by
  obtain ⟨P, hK⟩ := hG.k
  exact mg_none_of G.kin G.g (by rw [hK]; exact h P)
theorem cbOf (hG : Good G) {a : Addr} (h : ∀ P, ∃ o fd, (KP P).lookup a = some o ∧ o.data = .func fd) : CbK G (.ref a) := by
  obtain ⟨P, hK⟩ := hG.k
  obtain ⟨o, fd, h1, h2⟩ := h P
  exact .inr (.inr ⟨a, o, fd, rfl, G.kin a o (by rw [hK]; exact h1), h2⟩)
theorem Ev_call_fn (k : Nat) {x : Str} {p pos : Pos} {args : List Expr} {a : Addr} (hn : sc.names[k]? = some (x, .globalImplicit)) (hm : G.mg x = some (.ref a) ∧ CbK G (.ref a)) (h : EvL G sc n vals μ args fun ds => CallK G n μ (.ref a) ds K)
    (hs : noStar args = true) (hd : (x == ("__debug__" : Str)) = false)
    (he : ∀ env, eval (.Call (.Name x p) args [] pos) env = (do callWith pos (← eval (.Name x p) env) [] (backTo pos (starEach args env)) (backToKw pos (keywordEach [] env)))) :
    EvK G sc n vals μ (.Call (.Name x p) args [] pos) K := Ev_call (Ev_global k hn hm.1 ⟨_, rfl, hm.2, h⟩ hd) hs he
theorem Ev_call_b (k : Nat) {x : Str} {p pos : Pos} {args : List Expr} {id : String} (hn : sc.names[k]? = some (x, .globalImplicit)) (hm : G.mg x = none ∧ bootBuiltins x = some (.builtin id)) (h : EvL G sc n vals μ args fun ds => CallK G n μ (.builtin id) ds K)
    (hs : noStar args = true) (hd : (x == ("__debug__" : Str)) = false) (hne : x ≠ "__name__")
    (he : ∀ env, eval (.Call (.Name x p) args [] pos) env = (do callWith pos (← eval (.Name x p) env) [] (backTo pos (starEach args env)) (backToKw pos (keywordEach [] env)))) :
    EvK G sc n vals μ (.Call (.Name x p) args [] pos) K := Ev_call (Ev_builtin k hn hm.1 hm.2 ⟨_, rfl, .inl ⟨_, rfl⟩, h⟩ hd hne) hs he
theorem Ev_call_t (k : Nat) {x : Str} {p pos : Pos} {args : List Expr} {T : String} (hn : sc.names[k]? = some (x, .globalImplicit)) (hm : G.mg x = none ∧ bootBuiltins x = some (.type T)) (h : EvL G sc n vals μ args fun ds => CallK G n μ (.type T) ds K)
    (hs : noStar args = true) (hd : (x == ("__debug__" : Str)) = false) (hne : x ≠ "__name__")
    (he : ∀ env, eval (.Call (.Name x p) args [] pos) env = (do callWith pos (← eval (.Name x p) env) [] (backTo pos (starEach args env)) (backToKw pos (keywordEach [] env)))) :
    EvK G sc n vals μ (.Call (.Name x p) args [] pos) K := Ev_call (Ev_builtin k hn hm.1 hm.2 ⟨_, rfl, .inr (.inl ⟨_, rfl⟩), h⟩ hd hne) hs he
theorem EvL_nil {KL : List D → Prop} (h : KL []) : EvL G sc n vals μ [] KL := h
theorem EvL_cons {e : Expr} {r : List Expr} {KL : List D → Prop} (h : EvK G sc n vals μ e fun d => EvL G sc n vals μ r fun ds => KL (d :: ds)) : EvL G sc n vals μ (e :: r) KL := h
theorem fg123 (hG : Good G) : G.mg "translate" = some (.ref 123) ∧ CbK G (.ref 123) := ⟨mgOf hG fun P => by kernel_rfl, cbOf hG fun P => ⟨_, _, rfl, rfl⟩⟩
theorem fg135 (hG : Good G) : G.mg "escape" = some (.ref 135) ∧ CbK G (.ref 135) := ⟨mgOf hG fun P => by kernel_rfl, cbOf hG fun P => ⟨_, _, rfl, rfl⟩⟩
theorem fg142 (hG : Good G) : G.mg "_translate" = some (.ref 142) ∧ CbK G (.ref 142) := ⟨mgOf hG fun P => by kernel_rfl, cbOf hG fun P => ⟨_, _, rfl, rfl⟩⟩
theorem fg149 (hG : Good G) : G.mg "_join_translated_parts" = some (.ref 149) ∧ CbK G (.ref 149) := ⟨mgOf hG fun P => by kernel_rfl, cbOf hG fun P => ⟨_, _, rfl, rfl⟩⟩
theorem fg156 (hG : Good G) : G.mg "_law_sign" = some (.ref 156) ∧ CbK G (.ref 156) := ⟨mgOf hG fun P => by kernel_rfl, cbOf hG fun P => ⟨_, _, rfl, rfl⟩⟩
theorem fg163 (hG : Good G) : G.mg "_law_one" = some (.ref 163) ∧ CbK G (.ref 163) := ⟨mgOf hG fun P => by kernel_rfl, cbOf hG fun P => ⟨_, _, rfl, rfl⟩⟩
theorem fg170 (hG : Good G) : G.mg "_law_pieces" = some (.ref 170) ∧ CbK G (.ref 170) := ⟨mgOf hG fun P => by kernel_rfl, cbOf hG fun P => ⟨_, _, rfl, rfl⟩⟩
theorem fg175 (hG : Good G) : G.mg "_law_fit" = some (.ref 175) ∧ CbK G (.ref 175) := ⟨mgOf hG fun P => by kernel_rfl, cbOf hG fun P => ⟨_, _, rfl, rfl⟩⟩
theorem fg180 (hG : Good G) : G.mg "_law_ends" = some (.ref 180) ∧ CbK G (.ref 180) := ⟨mgOf hG fun P => by kernel_rfl, cbOf hG fun P => ⟨_, _, rfl, rfl⟩⟩
theorem fg185 (hG : Good G) : G.mg "_law_totals" = some (.ref 185) ∧ CbK G (.ref 185) := ⟨mgOf hG fun P => by kernel_rfl, cbOf hG fun P => ⟨_, _, rfl, rfl⟩⟩
theorem fg192 (hG : Good G) : G.mg "_law_took" = some (.ref 192) ∧ CbK G (.ref 192) := ⟨mgOf hG fun P => by kernel_rfl, cbOf hG fun P => ⟨_, _, rfl, rfl⟩⟩
theorem fg199 (hG : Good G) : G.mg "_law_takes" = some (.ref 199) ∧ CbK G (.ref 199) := ⟨mgOf hG fun P => by kernel_rfl, cbOf hG fun P => ⟨_, _, rfl, rfl⟩⟩
theorem fg206 (hG : Good G) : G.mg "_law_column" = some (.ref 206) ∧ CbK G (.ref 206) := ⟨mgOf hG fun P => by kernel_rfl, cbOf hG fun P => ⟨_, _, rfl, rfl⟩⟩
theorem fg211 (hG : Good G) : G.mg "_law_read" = some (.ref 211) ∧ CbK G (.ref 211) := ⟨mgOf hG fun P => by kernel_rfl, cbOf hG fun P => ⟨_, _, rfl, rfl⟩⟩
theorem fg111 (hG : Good G) : G.mg "format_witnesses" = some (.ref 111) ∧ CbK G (.ref 111) := ⟨mgOf hG fun P => by kernel_rfl, cbOf hG fun P => ⟨_, _, rfl, rfl⟩⟩
theorem gb_len (hG : Good G) : G.mg "len" = none ∧ bootBuiltins "len" = some (.builtin "len") := ⟨mgNone hG fun P => by kernel_rfl, by decide +kernel⟩
theorem gb_max (hG : Good G) : G.mg "max" = none ∧ bootBuiltins "max" = some (.builtin "max") := ⟨mgNone hG fun P => by kernel_rfl, by decide +kernel⟩
theorem gb_min (hG : Good G) : G.mg "min" = none ∧ bootBuiltins "min" = some (.builtin "min") := ⟨mgNone hG fun P => by kernel_rfl, by decide +kernel⟩
theorem gb_sum (hG : Good G) : G.mg "sum" = none ∧ bootBuiltins "sum" = some (.builtin "sum") := ⟨mgNone hG fun P => by kernel_rfl, by decide +kernel⟩
theorem gb_isinstance (hG : Good G) : G.mg "isinstance" = none ∧ bootBuiltins "isinstance" = some (.builtin "isinstance") := ⟨mgNone hG fun P => by kernel_rfl, by decide +kernel⟩
theorem gt_range (hG : Good G) : G.mg "range" = none ∧ bootBuiltins "range" = some (.type "range") := ⟨mgNone hG fun P => by kernel_rfl, by decide +kernel⟩
theorem gt_str (hG : Good G) : G.mg "str" = none ∧ bootBuiltins "str" = some (.type "str") := ⟨mgNone hG fun P => by kernel_rfl, by decide +kernel⟩
theorem gt_tuple (hG : Good G) : G.mg "tuple" = none ∧ bootBuiltins "tuple" = some (.type "tuple") := ⟨mgNone hG fun P => by kernel_rfl, by decide +kernel⟩
theorem gt_object (hG : Good G) : G.mg "object" = none ∧ bootBuiltins "object" = some (.type "object") := ⟨mgNone hG fun P => by kernel_rfl, by decide +kernel⟩
end
section
open PySem PySem.W PyProof.Rows
set_option maxRecDepth 100000
set_option maxHeartbeats 1000000
set_option linter.unusedVariables false
open PySem.Calls
variable {G : GX} {n : Nat} {μ : List (List D)} {K : D → Prop}
theorem tail_slice {A : Around} {s : Shared} {value : Expr} {lo hi : Option Expr} {p : Pos} {o i : Value} {T id : String} {Q : Value → Shared → Prop} (hT : s.TypeIs o T) (hl : typeLookup (.type T) "__getitem__" = pure (some (.builtin id))) (h : wpAny (model G.prog G.w) A (getItem o i) Q No s) :
    wpAny (model G.prog G.w) A (subscriptTail value (.Slice lo hi none p) o i) Q No s := by
  have fin : wpAny (model G.prog G.w) A (operate [i, o] (getItem o i)) (fun r s₃ => wpAny (model G.prog G.w) A (letTemporaryGo value o r >>= fun _ => pure r) Q No s₃) No s :=
    wpAny_operating (wpAny_mono h (fun r s₃ h₃ => wpAny_bind (wpAny_letTemporaryGo (wpAny_pure h₃))) fun _ _ x => x)
  unfold subscriptTail
  refine wpAny_bind ?_
  rw [getitemInPython_of_ne hT.not_modules]
  refine wpAny_bind (wpAny_specialOf hT hl ?_)
  first
    | exact wpAny_pure (wpAny_bind fin)
    | exact wpAny_bind (wpAny_pure (wpAny_bind fin))
    | exact wpAny_bind fin
theorem Ev_slice_any {sc : Scope} {vals : List (Option D)} {value : Expr} {lo hi : Option Expr} {p pos : Pos}
    (h : EvK G sc n vals μ value fun o => EvP G sc n vals μ lo fun l => EvP G sc n vals μ hi fun u => ∃ ds, o.items μ = some ds ∧ ds.length ≤ sizeLine ∧ K (.lst (pySlice ds l u))) :
    EvK G sc n vals μ (.Subscript value (.Slice lo hi none p) pos) K := EvK.of fun A env W s o => by
  refine Subscript_ (h.use o fun vo s₁ d hd e1 i1 => wpAny_Slice (EvP.use hd (o.ext e1) fun vl s₂ l hl e2 p2 => EvP.use hl ((o.ext e1).ext e2) fun vu s₃ u hu e3 p3 => wpAny_pure ?_))
  obtain ⟨ds, hds, hz, hk⟩ := hu
  have o3 := ((o.ext e1).ext e2).ext e3
  have i3 := (i1.ext (o.ext e1).2.2.1.tab e2.keep).ext ((o.ext e1).ext e2).2.2.1.tab e3.keep
  obtain ⟨a, vs, rfl, hl', hs'⟩ := i3.items o3.2.2.2.2 hds
  have kp : ∀ b o, s₃.heap.get? b = some o → (s₃.heap.push { cls := .type "slice", data := .fields #[vl, vu, .none] }).get? b = some o := fun b o e => Heap.get?_push_of_some _ e
  have e4 : Ext G s₃ { s₃ with heap := s₃.heap.push { cls := .type "slice", data := .fields #[vl, vu, .none] } } := Ext.of_keep (tk := s₃.toks) e3.ok kp
  have o4 := o3.ext e4
  have hl4 := list_ext o3.2.2.1.tab e4.keep hl'
  have hs4 := hs'.ext o3.2.2.1.tab e4.keep
  refine tail_slice hl4.typeIs slot_list_getitem.lookup (wpAny_getItem_list_slice (lo := l) (hi := u) (st := none) hl4 (Heap.IsSliceOf.new ..) p2 p3 .none (by simp) ?_ (by rw [List.size_toArray, hs'.length]; exact hz))
  rw [slicePick_eq]
  exact ⟨_, hk, (((e1.trans e2).trans e3).trans e4).trans (Ext.of_keep o4.2.2.1 fun b o e => Heap.get?_push_of_some _ e), new_list o4.2.2.1.tab o4.2.2.2.2 (hs4.slice l u)⟩
theorem unpack_lst {A : Around} {env : Env} {W : Wh} {s : Shared} {v : Value} {ds : List D} {m : Nat} {Q : List Value → Shared → Prop} (hh : A.handled = none) (ok : OkS G s) (i : Is W s.heap v (.lst ds)) (hm : m = ds.length)
    (hQ : ∀ vs s', Ext G s s' → IsL W s'.heap vs ds → Q vs s') : wpAny (model G.prog G.w) A (unpackItems v m none) Q No s := by
  cases i with | lst hw hl hs =>
  rename_i a vs
  have e : m = vs.toArray.size := by rw [List.size_toArray, hs.length, hm]
  subst e
  refine kun_itemsOf hh (plain_isList hl) fun h' he => ?_
  have k : ∀ b o, s.heap.get? b = some o → h'.get? b = some o := fun b o e => he b o (Nat.ne_of_lt (Heap.lt_size e)) e
  have ex : Ext G s { s with heap := h' } := Ext.of_keep (tk := s.toks) ok k
  exact hQ _ _ ex (hs.ext ok.tab ex.keep)
theorem As_lst (ks : List Nat) {sc : Scope} {vals : List (Option D)} {es : List Expr} {q : Nat} {pos : Pos} {ds : List D} {K : List (Option D) → Prop} (hs : Slots sc es ks) (hl : es.length = ds.length) (h : K (setAll vals ks ds)) :
    AsK G sc n vals μ (.Tuple es q pos) (.lst ds) K := fun A env kp av W s v b hw st i => by
  rw [PySem.arm_assign_Tuple]
  refine wpAny_bind (wpAny_standAt ?_)
  obtain ⟨h1, h2⟩ := assignEach_names hs env
  unfold unpack
  rw [h1, h2]
  refine wpAny_bind (wpAny_holding (unpack_lst (env := env) b.room.hd st.ok i hl fun vs s' e is => ?_))
  exact stores_in_order hs b (st.step e) is hl fun s'' ho st' => ⟨_, h, ho.trans e.os, st'⟩
end
section
open PySem PySem.W PyProof.Rows
set_option maxRecDepth 100000
set_option maxHeartbeats 1000000
set_option linter.unusedVariables false
open PySem.Calls
variable {G : GX} {n : Nat} {μ : List (List D)} {K : D → Prop}
/-! freezing one's own lists -/
noncomputable def frz (μ : List (List D)) : D → Option D
  | .mt i => (μ[i]?).bind fun ds => if pureL ds then some (.lst ds) else none
  | d => if d.pure then some d else none
theorem frz_is {W : Wh} {h : Heap} {k : Kp} {μ : List (List D)} (ha : AvIn k W.av) (ho : Own k W) (hm : MutOk W μ h) {v : Value} {d d' : D} (i : Is W h v d) (e : frz μ d = some d') : Is ⟨W.av, []⟩ h v d' := by
  have pu : ∀ {d : D}, Is W h v d → (if d.pure then some d else none) = some d' → Is ⟨W.av, []⟩ h v d' := fun {d} i e => by
    by_cases hp : d.pure = true
    · rw [if_pos hp] at e; cases e; exact i.avs hm.pl hp
    · rw [if_neg hp] at e; cases e
  cases d <;> first
    | exact pu i e
    | (rename_i j
       replace e : (μ[j]?).bind (fun ds => if pureL ds then some (D.lst ds) else none) = some d' := e
       cases hj : μ[j]? with
       | none => rw [hj] at e; cases e
       | some ds =>
         rw [hj] at e
         replace e : (if pureL ds = true then some (D.lst ds) else none) = some d' := e
         by_cases hp : pureL ds = true
         · rw [if_pos hp] at e; cases e
           exact (Rs.mt hj hp).is ha ho hm i
         · rw [if_neg hp] at e; cases e)
theorem frz_pure {d : D} (h : d.pure = true) : frz μ d = some d := by
  have pu : ∀ {d : D}, d.pure = true → (if d.pure then some d else none) = some d := fun h => if_pos h
  cases d <;> first | exact pu h | exact absurd h Bool.false_ne_true
theorem frz_mt {i : Nat} {ds : List D} (h : μ[i]? = some ds) (hp : pureL ds = true) : frz μ (.mt i) = some (.lst ds) := by
  show (μ[i]?).bind (fun ds => if pureL ds then some (D.lst ds) else none) = _
  rw [h]
  show (if pureL ds = true then some (D.lst ds) else none) = _
  rw [if_pos hp]
inductive FrzTo (μ : List (List D)) : List (Option D) → List (Option D) → Prop
  | nil : FrzTo μ [] []
  | drop {o : Option D} {r r' : List (Option D)} : FrzTo μ r r' → FrzTo μ (o :: r) (none :: r')
  | keep {d d' : D} {r r' : List (Option D)} : frz μ d = some d' → FrzTo μ r r' → FrzTo μ (some d :: r) (some d' :: r')
theorem FrzTo.get {a b : List (Option D)} (h : FrzTo μ a b) : ∀ {j : Nat} {d : D}, b[j]? = some (some d) → ∃ d0, a[j]? = some (some d0) ∧ frz μ d0 = some d := by
  induction h with
  | nil => intro j d e; exact absurd e (by simp)
  | drop h ih =>
    intro j d e
    cases j with
    | zero => cases e
    | succ j => exact ih e
  | keep h1 h ih =>
    intro j d e
    cases j with
    | zero => cases e; exact ⟨_, rfl, h1⟩
    | succ j => exact ih e
theorem Std.freeze {sc : Scope} {A : Around} {vals vals' : List (Option D)} {env : Env} {kp : Kp} {av : Addr → Prop} {W : Wh} {s : Shared} (b : Blk G sc n A env kp av) (hw : W.av = av) (hf : FrzTo μ vals vals') (st : Std G sc vals μ env kp W s) : Std G sc vals' [] env kp ⟨W.av, []⟩ s :=
  ⟨st.ok, st.ext, fun a ha => absurd ha List.not_mem_nil, st.fr, fun j x kd d h1 h2 => by
    obtain ⟨d0, h3, h4⟩ := hf.get h2
    obtain ⟨v, p, q⟩ := st.vars j x kd d0 h1 h3
    exact ⟨v, p, frz_is (hw ▸ b.own.avin) st.own st.mts q h4⟩, rfl, List.nodup_nil, fun a ha => st.mts.2.2.1 a ha, fun i a ds e => by simp at e⟩
theorem Ex_freezeS {sc : Scope} {vals vals' : List (Option D)} {st : Stmt} {KO : Out → Prop} (hf : FrzTo μ vals vals') (h : ExS G sc n vals' [] st KO) : ExS G sc n vals μ st KO := fun A env kp av s b ⟨W, hw, ho, st⟩ =>
  h A env kp av s b ⟨⟨W.av, []⟩, hw, ho, st.freeze b hw hf⟩
end
section
open PySem PySem.W PyProof.Rows
set_option maxRecDepth 100000
set_option maxHeartbeats 1000000
set_option linter.unusedVariables false
open PySem.Calls

/-- a stop of the walk -/
structure Stop (p : Prop) : Prop where
  out : p
noncomputable def ifB (b : Bool) (P S : Prop) : Prop := match b with
  | true => P
  | false => Stop S
theorem ifB.use {b : Bool} {P S : Prop} (h : ifB b P S) (hk : b = true → P → S) : S := by
  cases b with
  | true => exact hk rfl h
  | false => exact h.out
noncomputable def condK (c : Bool) (P Q : Prop) : Prop := match c with
  | true => P
  | false => Q
theorem condK.of {c : Bool} {P Q : Prop} (h1 : c = true → P) (h0 : c = false → Q) : condK c P Q := by
  cases c with
  | true => exact h1 rfl
  | false => exact h0 rfl
theorem condK.no {c : Bool} {P Q : Prop} (e : c = false) (h : Q) : condK c P Q := by subst e; exact h
theorem condK.yes {c : Bool} {P Q : Prop} (e : c = true) (h : P) : condK c P Q := by subst e; exact h
theorem sl {p : Prop} {K : D → Prop} {s t : List Nat} (hz : p) (e : s = t) (h : K (.str t)) : p ∧ K (.str s) := ⟨hz, e ▸ h⟩
theorem condK.t {c : Bool} {P Q : Prop} (h : condK c P Q) (e : c = true) : P := by subst e; exact h
theorem condK.f {c : Bool} {P Q : Prop} (h : condK c P Q) (e : c = false) : Q := by subst e; exact h
noncomputable def optK {α : Type} (o : Option α) (K : α → Prop) (S : Prop) : Prop := match o with
  | some a => K a
  | none => Stop S
theorem optK.mk {α : Type} {o : Option α} {K : α → Prop} {S : Prop} {a : α} (e : o = some a) (h : K a) : optK o K S := by subst e; exact h
theorem optK.use {α : Type} {o : Option α} {K : α → Prop} {S : Prop} (h : optK o K S) (hk : ∀ a, o = some a → K a → S) : S := by
  cases o with
  | some a => exact hk a rfl h
  | none => exact h.out
noncomputable def oneK {α : Type} (l : List α) (K : α → Prop) (S : Prop) : Prop := match l with
  | [a] => K a
  | _ => Stop S
theorem lst3 {α : Type} {P : List α → Prop} (h0 : P []) (h1 : ∀ a, P [a]) (h2 : ∀ a b, P [a, b]) (h3 : ∀ a b c, P [a, b, c]) (h4 : ∀ a b c d l, P (a :: b :: c :: d :: l)) (l : List α) : P l :=
  List.casesOn (motive := P) l h0 fun a l => List.casesOn (motive := fun l => P (a :: l)) l (h1 a) fun b l => List.casesOn (motive := fun l => P (a :: b :: l)) l (h2 a b) fun c l => List.casesOn (motive := fun l => P (a :: b :: c :: l)) l (h3 a b c) fun d l => h4 a b c d l
theorem oneK.use {α : Type} {l : List α} {K : α → Prop} {S : Prop} (h : oneK l K S) (hk : ∀ a, l = [a] → K a → S) : S :=
  lst3 (P := fun l => oneK l K S → (∀ a, l = [a] → K a → S) → S) (fun h _ => h.out) (fun a h hk => hk a rfl h) (fun _ _ h _ => h.out) (fun _ _ _ h _ => h.out) (fun _ _ _ _ _ h _ => h.out) l h hk

/-- what a name stands for, or a written text -/
inductive NI where
  | mk (t k j : Nat) (y : List Nat)
  | non
noncomputable def NI.no : NI := .non
noncomputable def NI.loc (k : Nat) : NI := .mk 1 k 0 []
noncomputable def NI.fn (k j : Nat) : NI := .mk 2 k j []
noncomputable def NI.blt (k j : Nat) : NI := .mk 3 k j []
noncomputable def NI.typ (k j : Nat) : NI := .mk 4 k j []
noncomputable def NI.str (y : List Nat) : NI := .mk 5 0 0 y
noncomputable def NI.app : NI := .mk 6 0 0 []
noncomputable def NI.meth (j : Nat) : NI := .mk 7 0 j []
noncomputable def NI.slS : NI := .mk 8 0 0 []
noncomputable def NI.two : NI := .mk 12 0 0 []
noncomputable def NI.frz : NI := .mk 10 0 0 []
noncomputable def NI.slL : NI := .mk 9 0 0 []
inductive NT where
  | lf
  | nd (l : NT) (k : Nat) (v : NI) (r : NT)
noncomputable def NT.find : NT → Nat → NI
  | .lf, _ => .no
  | .nd l k v r, i => match Nat.beq i k with
    | true => v
    | false => match Nat.ble i k with
      | true => l.find i
      | false => r.find i
noncomputable def NI.to (q : NI) (F : Nat → Nat → Nat → List Nat → Prop) : Prop := match q with
  | .mk t k j y => F t k j y
  | .non => F 0 0 0 []
noncomputable def NT.at (tb : NT) (p : Pos) (F : Nat → Nat → Nat → List Nat → Prop) : Prop := (tb.find (Nat.add (Nat.mul p.endLine 1024) p.endCol)).to F
noncomputable def NT.atS (tb : NT) (p : Pos) (F : Nat → Nat → Nat → List Nat → Prop) : Prop := (tb.find (Nat.add (Nat.add (Nat.mul p.endLine 1024) p.endCol) 1048576)).to F
theorem NI.to.use {q : NI} {F : Nat → Nat → Nat → List Nat → Prop} (h : q.to F) : ∃ t k j y, F t k j y := by
  cases q <;> exact ⟨_, _, _, _, h⟩
theorem NT.at.use {tb : NT} {p : Pos} {F : Nat → Nat → Nat → List Nat → Prop} (h : tb.at p F) : ∃ t k j y, F t k j y := NI.to.use h
theorem NT.atS.use {tb : NT} {p : Pos} {F : Nat → Nat → Nat → List Nat → Prop} (h : tb.atS p F) : ∃ t k j y, F t k j y := NI.to.use h
noncomputable def gFns : List (Str × Addr) := [("translate", 123), ("escape", 135), ("_translate", 142), ("_join_translated_parts", 149), ("_law_sign", 156), ("_law_one", 163), ("_law_pieces", 170), ("_law_fit", 175), ("_law_ends", 180),
  ("_law_totals", 185), ("_law_took", 192), ("_law_takes", 199), ("_law_column", 206), ("_law_read", 211), ("format_witnesses", 111)]
noncomputable def gBlt : List (Str × String) := [("len", "len"), ("max", "max"), ("min", "min"), ("sum", "sum"), ("isinstance", "isinstance")]
noncomputable def gTyp : List (Str × String) := [("range", "range"), ("str", "str"), ("tuple", "tuple"), ("object", "object")]
noncomputable def gMeth : List (Str × String) := [("join", "str.join"), ("translate", "str.translate"), ("replace", "str.replace"), ("find", "str.find")]
noncomputable def isLC : NameKind → Bool
  | .local => true
  | .cell => true
  | _ => false
noncomputable def okVar (sc : Scope) (x : Str) (k : Nat) : Bool := match sc.names[k]? with
  | some p => x == p.1
  | none => false
noncomputable def okStore (sc : Scope) (x : Str) (k : Nat) : Bool := match sc.names[k]? with
  | some p => x == p.1 && isLC p.2
  | none => false
noncomputable def okGlb (sc : Scope) (x : Str) (k : Nat) : Bool := match sc.names[k]? with
  | some p => x == p.1 && p.2 == .globalImplicit
  | none => false
/-- what stands in a table under a name -/
noncomputable def atG {α : Type} (l : List (Str × α)) (x : Str) (j : Nat) : Option α := match l[j]? with
  | some p => (match x == p.1 with
    | true => some p.2
    | false => none)
  | none => none
noncomputable def getV : List (Option D) → Nat → Option D
  | [], _ => none
  | a :: _, 0 => a
  | _ :: r, k + 1 => getV r k
theorem getV_eq : ∀ {l : List (Option D)} {k : Nat} {d : D}, getV l k = some d → l[k]? = some (some d)
  | _ :: _, 0, _, h => congrArg some h
  | _ :: r, k + 1, _, h => getV_eq (l := r) h

variable {G : GX} {n : Nat} {μ : List (List D)}
noncomputable def cmpI (op : CmpOp) (x y : Int) (P : Bool → Prop) (S : Prop) : Prop := match op with
  | .Eq => P (x == y)
  | .NotEq => P (x != y)
  | .Lt => P (decide (x < y))
  | .LtE => P (decide (x ≤ y))
  | .Gt => P (decide (y < x))
  | .GtE => P (decide (y ≤ x))
  | _ => Stop S
noncomputable def cmpS (op : CmpOp) (x y : List Nat) (P : Bool → Prop) (S : Prop) : Prop := match op with
  | .Eq => P (x == y)
  | .NotEq => P (x != y)
  | .Lt => P (decide (x < y))
  | .LtE => P (!decide (y < x))
  | .Gt => P (decide (y < x))
  | _ => Stop S
noncomputable def cmpB (op : CmpOp) (x y : Bool) (P : Bool → Prop) (S : Prop) : Prop := match op with
  | .Eq => P (x == y)
  | .Is => P (x == y)
  | .IsNot => P (x != y)
  | _ => Stop S
noncomputable def cmpN (op : CmpOp) (b : Bool) (P : Bool → Prop) (S : Prop) : Prop := match op with
  | .Is => P b
  | .IsNot => P (!b)
  | _ => Stop S
noncomputable def cmpL (op : CmpOp) (b : Bool) (P : Bool → Prop) (S : Prop) : Prop := match op with
  | .Eq => P b
  | .NotEq => P (!b)
  | _ => Stop S
noncomputable def intK (d : D) (K : Int → Prop) (S : Prop) : Prop := match d with
  | .int y => K y
  | _ => Stop S
noncomputable def strK (d : D) (K : List Nat → Prop) (S : Prop) : Prop := match d with
  | .str y => K y
  | _ => Stop S
noncomputable def boolK (d : D) (K : Bool → Prop) (S : Prop) : Prop := match d with
  | .bool y => K y
  | _ => Stop S
noncomputable def tupK (d : D) (K : List D → Prop) (S : Prop) : Prop := match d with
  | .tup y => K y
  | _ => Stop S
noncomputable def mtK (d : D) (K : Nat → Prop) (S : Prop) : Prop := match d with
  | .mt y => K y
  | _ => Stop S
noncomputable def bmK (d : D) (K : Nat → Prop) (S : Prop) : Prop := match d with
  | .bm y => K y
  | _ => Stop S
theorem intK.use {d : D} {K : Int → Prop} {S : Prop} (h : intK d K S) (hk : ∀ y, d = .int y → K y → S) : S := by cases d <;> first | exact h.out | exact hk _ rfl h
theorem strK.use {d : D} {K : List Nat → Prop} {S : Prop} (h : strK d K S) (hk : ∀ y, d = .str y → K y → S) : S := by cases d <;> first | exact h.out | exact hk _ rfl h
theorem boolK.use {d : D} {K : Bool → Prop} {S : Prop} (h : boolK d K S) (hk : ∀ y, d = .bool y → K y → S) : S := by cases d <;> first | exact h.out | exact hk _ rfl h
theorem tupK.use {d : D} {K : List D → Prop} {S : Prop} (h : tupK d K S) (hk : ∀ y, d = .tup y → K y → S) : S := by cases d <;> first | exact h.out | exact hk _ rfl h
theorem mtK.use {d : D} {K : Nat → Prop} {S : Prop} (h : mtK d K S) (hk : ∀ y, d = .mt y → K y → S) : S := by cases d <;> first | exact h.out | exact hk _ rfl h
theorem bmK.use {d : D} {K : Nat → Prop} {S : Prop} (h : bmK d K S) (hk : ∀ y, d = .bm y → K y → S) : S := by cases d <;> first | exact h.out | exact hk _ rfl h
noncomputable def eqOp : CmpOp → Bool
  | .Eq => true
  | .NotEq => true
  | _ => false
noncomputable def cmpK (μ : List (List D)) (op : CmpOp) (a b : D) (P : Bool → Prop) (S : Prop) : Prop := match b with
  | .none => ifB a.plain (cmpN op a.isNone P S) S
  | .int y => intK a (fun x => cmpI op x y P S) S
  | .str y => strK a (fun x => cmpS op x y P S) S
  | .bool y => boolK a (fun x => cmpB op x y P S) S
  | .raw v => (match a with
    | .str _ => (match v with
      | .ref _ => cmpN op false P S
      | _ => Stop S)
    | _ => Stop S)
  | .lst ds => ifB (eqOp op) (ifB ds.isEmpty (optK (a.items μ) (fun l => cmpL op l.isEmpty P S) S) S) S
  | _ => Stop S
theorem cmpK.use {op : CmpOp} {a b : D} {P : Bool → Prop} {K : D → Prop} (h : cmpK μ op a b P (StK G n μ [a, b] (b2 (compareOp op)) K)) (hP : ∀ c, P c → K (.bool c)) : StK G n μ [a, b] (b2 (compareOp op)) K := by
  cases b with
  | none =>
    refine ifB.use h fun hp h => ?_
    cases op with
    | Is => exact St_is_none hp (hP _ h)
    | IsNot => exact St_isnot_none hp (hP _ h)
    | _ => exact h.out
  | int y =>
    refine intK.use h fun x e h => ?_
    subst e
    cases op with
    | Eq => exact St_eq_int (hP _ h)
    | NotEq => exact St_ne_int (hP _ h)
    | Lt => exact St_lt_int (hP _ h)
    | LtE => exact St_le_int (hP _ h)
    | Gt => exact St_gt_int (hP _ h)
    | GtE => exact St_ge_int (hP _ h)
    | _ => exact h.out
  | str y =>
    refine strK.use h fun x e h => ?_
    subst e
    cases op with
    | Eq => exact St_eq_str (hP _ h)
    | NotEq => exact St_ne_str (hP _ h)
    | Lt => exact St_lt_str (hP _ h)
    | LtE => exact St_le_str (hP _ h)
    | Gt => exact St_gt_str (hP _ h)
    | _ => exact h.out
  | bool y =>
    refine boolK.use h fun x e h => ?_
    subst e
    cases op with
    | Eq => exact St_eq_bool (hP _ h)
    | Is => exact St_is_bool (hP _ h)
    | IsNot => exact St_isnot_bool (hP _ h)
    | _ => exact h.out
  | raw v => cases a with
    | str x => cases v with
      | ref q => cases op with
        | Is => exact St_is_raw_str (hP _ h)
        | IsNot => exact St_isnot_raw_str (hP _ h)
        | _ => exact h.out
      | _ => exact h.out
    | _ => exact h.out
  | lst ds =>
    refine ifB.use h fun _ h => ifB.use h fun hd h => ?_
    obtain rfl := List.isEmpty_iff.mp hd
    refine optK.use h fun l hi h => ?_
    cases op with
    | Eq => exact St_eq_nil hi (hP _ h)
    | NotEq => exact St_ne_nil hi (hP _ h)
    | _ => exact h.out
  | _ => exact h.out
noncomputable def binI (op : Operator) (x y : Int) (K : D → Prop) (S : Prop) : Prop := match op with
  | .Add => K (.int (x + y))
  | .Sub => K (.int (x - y))
  | _ => Stop S
noncomputable def binK (op : Operator) (a b : D) (K : D → Prop) (S : Prop) : Prop := intK a (fun x => intK b (fun y => binI op x y K S) S) S
theorem binK.use {op : Operator} {a b : D} {K : D → Prop} (h : binK op a b K (StK G n μ [a, b] (b2 (binaryOp op)) K)) : StK G n μ [a, b] (b2 (binaryOp op)) K :=
  intK.use h fun x e h => intK.use h fun y e' h => by
    subst e; subst e'
    cases op with
    | Add => exact St_add_int h
    | Sub => exact St_sub_int h
    | _ => exact h.out
noncomputable def augI (op : Operator) (x y : Int) (K : D → Prop) (S : Prop) : Prop := match op with
  | .Add => K (.int (x + y))
  | _ => Stop S
noncomputable def augK (op : Operator) (a b : D) (K : D → Prop) (S : Prop) : Prop := intK a (fun x => intK b (fun y => augI op x y K S) S) S
theorem augK.use {op : Operator} {a b : D} {K : D → Prop} (h : augK op a b K (StK G n μ [a, b] (b2 (inplaceOp op)) K)) : StK G n μ [a, b] (b2 (inplaceOp op)) K :=
  intK.use h fun x e h => intK.use h fun y e' h => by
    subst e; subst e'
    cases op with
    | Add => exact St_iadd_int h
    | _ => exact h.out
noncomputable def unK (op : UnaryOp) (a : D) (K : D → Prop) (S : Prop) : Prop := match op with
  | .USub => intK a (fun x => K (.int (-x))) S
  | _ => Stop S
theorem unK.use {op : UnaryOp} {a : D} {K : D → Prop} (h : unK op a K (StK G n μ [a] (b1 (unaryOp op)) K)) : StK G n μ [a] (b1 (unaryOp op)) K := by
  cases op with
  | USub => exact intK.use h fun x e h => by subst e; exact St_neg_int h
  | _ => exact h.out
/-- the truth of a value -/
noncomputable def truK (μ : List (List D)) (d : D) (K : Bool → Prop) : Prop := match d with
  | .bool b => K b
  | .int i => K (i != 0)
  | .none => K false
  | .str x => x.length < 2 ^ 62 ∧ K (!x.isEmpty)
  | .lst ds => ds.length < 2 ^ 62 ∧ K (!ds.isEmpty)
  | d => Stop (∃ b, truthD μ d = some b ∧ fitD μ d ∧ K b)
theorem truK.use {d : D} {K : Bool → Prop} (h : truK μ d K) : ∃ b, truthD μ d = some b ∧ fitD μ d ∧ K b := by
  cases d with
  | bool b => exact ⟨_, rfl, trivial, h⟩
  | int i => exact ⟨_, rfl, trivial, h⟩
  | none => exact ⟨_, rfl, trivial, h⟩
  | str x => exact ⟨_, rfl, h.1, h.2⟩
  | lst x => exact ⟨_, rfl, h.1, h.2⟩
  | _ => exact h.out
noncomputable def nextK (o : Out) (P : List (Option D) → List (List D) → Prop) (K : Out → Prop) : Prop := match o with
  | .next v m => P v m
  | o => K o

/-- kinds of expressions -/
noncomputable def kE : Expr → Nat
  | .Name .. => 1
  | .Constant .. => 2
  | .ListComp .. => 3
  | .SetComp .. => 3
  | .DictComp .. => 3
  | .Set .. => 4
  | .Tuple .. => 5
  | .List .. => 6
  | .Subscript .. => 7
  | _ => 0
noncomputable def nameK (e : Expr) (K : Str → Pos → Prop) (S : Prop) : Prop := match e with
  | .Name x p => K x p
  | _ => Stop S
theorem nameK.use {e : Expr} {K : Str → Pos → Prop} {S : Prop} (h : nameK e K S) (hk : ∀ x p, e = .Name x p → K x p → S) : S := by cases e <;> first | exact h.out | exact hk _ _ rfl h
noncomputable def fnK (e : Expr) (K : Str → Pos → Prop) (K' : Expr → Str → Pos → Prop) (S : Prop) : Prop := match e with
  | .Name x p => K x p
  | .Attribute o a p => K' o a p
  | _ => Stop S
theorem fnK.use {e : Expr} {K : Str → Pos → Prop} {K' : Expr → Str → Pos → Prop} {S : Prop} (h : fnK e K K' S) (hk : ∀ x p, e = .Name x p → K x p → S) (hk' : ∀ o a p, e = .Attribute o a p → K' o a p → S) : S := by
  cases e <;> first | exact h.out | exact hk _ _ rfl h | exact hk' _ _ _ rfl h
noncomputable def tgtK (e : Expr) (K : Str → Pos → Prop) (K' : List Expr → Nat → Pos → Prop) (S : Prop) : Prop := match e with
  | .Name x p => K x p
  | .Tuple es q p => K' es q p
  | _ => Stop S
theorem tgtK.use {e : Expr} {K : Str → Pos → Prop} {K' : List Expr → Nat → Pos → Prop} {S : Prop} (h : tgtK e K K' S) (hk : ∀ x p, e = .Name x p → K x p → S) (hk' : ∀ es q p, e = .Tuple es q p → K' es q p → S) : S := by
  cases e <;> first | exact h.out | exact hk _ _ rfl h | exact hk' _ _ _ rfl h
noncomputable def cmpsK (ops : List CmpOp) (rs : List Expr) (K : CmpOp → Expr → Prop) (K' : CmpOp → CmpOp → Expr → Expr → Prop) (S : Prop) : Prop := match ops, rs with
  | [op], [r] => K op r
  | [op, op'], [r, r'] => K' op op' r r'
  | _, _ => Stop S
theorem cmpsK.use {ops : List CmpOp} {rs : List Expr} {K : CmpOp → Expr → Prop} {K' : CmpOp → CmpOp → Expr → Expr → Prop} {S : Prop} (h : cmpsK ops rs K K' S) (hk : ∀ op r, ops = [op] → rs = [r] → K op r → S)
    (hk' : ∀ op op' r r', ops = [op, op'] → rs = [r, r'] → K' op op' r r' → S) : S := by
  refine lst3 (P := fun ops => cmpsK ops rs K K' S → (∀ op r, ops = [op] → rs = [r] → K op r → S) → (∀ op op' r r', ops = [op, op'] → rs = [r, r'] → K' op op' r r' → S) → S) (fun h _ _ => h.out) (fun op => ?_) (fun op op' => ?_) (fun _ _ _ h _ _ => h.out) (fun _ _ _ _ _ h _ _ => h.out) ops h hk hk'
  · exact lst3 (P := fun rs => cmpsK [op] rs K K' S → (∀ op' r, [op] = [op'] → rs = [r] → K op' r → S) → _ → S) (fun h _ _ => h.out) (fun r h hk _ => hk op r rfl rfl h) (fun _ _ h _ _ => h.out) (fun _ _ _ h _ _ => h.out) (fun _ _ _ _ _ h _ _ => h.out) rs
  · exact lst3 (P := fun rs => cmpsK [op, op'] rs K K' S → _ → (∀ o o' r r', [op, op'] = [o, o'] → rs = [r, r'] → K' o o' r r' → S) → S) (fun h _ _ => h.out) (fun _ h _ _ => h.out) (fun r r' h _ hk => hk op op' r r' rfl rfl h) (fun _ _ _ h _ _ => h.out) (fun _ _ _ _ _ h _ _ => h.out) rs
noncomputable def lenD (μ : List (List D)) (d : D) (K : D → Prop) (S : Prop) : Prop := match d with
  | .str x => x.length < 2 ^ 62 ∧ K (.int x.length)
  | .tup x => x.length < 2 ^ 62 ∧ K (.int x.length)
  | d => optK (d.items μ) (fun x => x.length < 2 ^ 62 ∧ K (.int x.length)) S
theorem lenD.rest {d : D} {K : D → Prop} (h : optK (d.items μ) (fun x => x.length < 2 ^ 62 ∧ K (.int x.length)) (CallK G n μ (.builtin "len") [d] K)) : CallK G n μ (.builtin "len") [d] K := optK.use h fun ds e h => C_len_lst e h.1 h.2
theorem lenD.use {d : D} {K : D → Prop} (h : lenD μ d K (CallK G n μ (.builtin "len") [d] K)) : CallK G n μ (.builtin "len") [d] K := by
  cases d with
  | str x => exact C_len_str h.1 h.2
  | tup x => exact C_len_tup h.1 h.2
  | _ => exact lenD.rest h
noncomputable def bltK (μ : List (List D)) (j : Nat) (ds : List D) (K : D → Prop) (S : Prop) : Prop := condK (Nat.beq j 0) (oneK ds (fun d => lenD μ d K S) S) (condK (Nat.beq j 1) (match ds with
  | [a, b] => intK a (fun x => intK b (fun y => K (.int (if y > x then y else x))) S) S
  | _ => Stop S) (Stop S))
noncomputable def typK (j : Nat) (ds : List D) (K : D → Prop) (S : Prop) : Prop := condK (Nat.beq j 0) (match ds with
  | [a] => intK a (fun x => K (.rng 0 x 1)) S
  | [a, b] => intK a (fun x => intK b (fun y => K (.rng x y 1)) S) S
  | [a, b, c] => intK a (fun x => intK b (fun y => intK c (fun z => z ≠ 0 ∧ z.natAbs < 1073741824 ∧ K (.rng x y z)) S) S) S
  | _ => Stop S) (condK (Nat.beq j 1) (oneK ds (fun a => intK a (fun x => x.natAbs.log2 < 1920 ∧ K (.str ((toString x).toList.map Char.toNat))) S) S) (Stop S))
noncomputable def idxL (μ : List (List D)) (o : D) (k : Int) (K : D → Prop) (S : Prop) : Prop := match o with
  | .str x => x.length < 2 ^ 62 ∧ optK (atD x k) (fun c => K (.str [c])) S
  | .tup x => ifB (Nat.ble x.length 1000) (optK (atD x k) K S) S
  | o => optK (o.items μ) (fun x => x.length < 2 ^ 62 ∧ optK (atD x k) K S) S
noncomputable def idxK (μ : List (List D)) (o i : D) (K : D → Prop) (S : Prop) : Prop := intK i (fun k => idxL μ o k K S) S
theorem atD_fit {α : Type} {l : List α} {k : Int} {a : α} (h : atD l k = some a) (hl : l.length < 2 ^ 62) : -(2 ^ 63) ≤ k ∧ k < 2 ^ 63 := by
  unfold atD at h
  obtain ⟨m, hm, _⟩ := Option.bind_eq_some_iff.mp h
  by_cases h0 : k < 0
  · by_cases h1 : 0 ≤ k + (l.length : Int)
    · lia
    · unfold seqIndex? at hm
      simp [h0, h1] at hm
  · by_cases h1 : k < (l.length : Int)
    · lia
    · unfold seqIndex? at hm
      simp [h0, h1] at hm
theorem idxL.rest {o : D} {k : Int} {K : D → Prop} (h : optK (o.items μ) (fun x => x.length < 2 ^ 62 ∧ optK (atD x k) K (ItK G n μ o (.int k) K)) (ItK G n μ o (.int k) K)) : ItK G n μ o (.int k) K :=
  optK.use h fun ds hd h => optK.use h.2 fun c e hk => have := atD_fit e h.1; It_lst hd e this.1 this.2 hk
theorem idxK.use {o i : D} {K : D → Prop} (h : idxK μ o i K (ItK G n μ o i K)) : ItK G n μ o i K := intK.use h fun k e h => by
  subst e
  cases o with
  | str x => exact optK.use h.2 fun c e hk => have := atD_fit e h.1; It_str e this.1 this.2 hk
  | tup x => exact ifB.use h fun hb h => optK.use h fun c e hk => have := atD_fit e (Nat.lt_of_le_of_lt (Nat.le_of_ble_eq_true hb) (by decide)); It_tup e this.1 this.2 hk
  | _ => exact idxL.rest h
/-- the slots of a left side of several -/
noncomputable def slotK (sc : Scope) (tb : NT) : List Expr → (List Nat → Prop) → Prop → Prop
  | [], K, S => K []
  | e :: r, K, S => nameK e (fun x p => tb.at p fun t k _ _ => ifB (Nat.beq t 1 && okStore sc x k) (slotK sc tb r (fun ks => K (k :: ks)) S) S) S

/-- the walkers of one depth -/
structure WP where
  e : List (Option D) → List (List D) → Expr → (D → Prop) → Prop
  j : List (Option D) → List (List D) → List Expr → List Nat → (List Nat → Prop) → Prop
  l : List (Option D) → List (List D) → List Expr → (List D → Prop) → Prop
  p : List (Option D) → List (List D) → Option Expr → (Option Int → Prop) → Prop
  t : List (Option D) → List (List D) → Expr → (Bool → Prop) → Prop
  a : List (Option D) → List (List D) → BoolOp → List Expr → (Bool → Prop) → Prop
  m : List (Option D) → List (List D) → Expr → (D → List (List D) → Prop) → Prop
  s : List (Option D) → List (List D) → Stmt → (Out → Prop) → Prop
  b : List (Option D) → List (List D) → List Stmt → (Out → Prop) → Prop
section
variable (G : GX) (sc : Scope) (n : Nat) (w : WP) (vals : List (Option D)) (μ : List (List D))
/-! what comes behind, in words without binders -/
noncomputable def kBin2 (op : Operator) (K : D → Prop) (a b : D) : Prop := binK op a b K (StK G n μ [a, b] (b2 (binaryOp op)) K)
noncomputable def kBin1 (op : Operator) (r : Expr) (K : D → Prop) (a : D) : Prop := w.e vals μ r (kBin2 G n μ op K a)
noncomputable def kBool (K : D → Prop) (c : Bool) : Prop := K (.bool c)
noncomputable def kCmp2 (op : CmpOp) (K : D → Prop) (a b : D) : Prop := cmpK μ op a b (kBool K) (StK G n μ [a, b] (b2 (compareOp op)) K)
noncomputable def kCmp1 (op : CmpOp) (r : Expr) (K : D → Prop) (a : D) : Prop := w.e vals μ r (kCmp2 G n μ op K a)
noncomputable def kNotB (K : D → Prop) (b : Bool) : Prop := K (.bool (!b))
noncomputable def kNot (K : D → Prop) (d : D) : Prop := truK μ d (kNotB K)
noncomputable def kUn (op : UnaryOp) (K : D → Prop) (a : D) : Prop := unK op a K (StK G n μ [a] (b1 (unaryOp op)) K)
noncomputable def kIf (a b : Expr) (K : D → Prop) (c : Bool) : Prop := condK c (w.e vals μ a K) (w.e vals μ b K)
noncomputable def kAndB (y : Expr) (K : D → Prop) (d : D) (b : Bool) : Prop := condK b (w.e vals μ y K) (K d)
noncomputable def kAnd (y : Expr) (K : D → Prop) (d : D) : Prop := truK μ d (kAndB w vals μ y K d)
noncomputable def kTup (K : D → Prop) (ds : List D) : Prop := K (.tup ds)
noncomputable def kLst (K : D → Prop) (ds : List D) : Prop := K (.lst ds)
noncomputable def kIdx2 (K : D → Prop) (o i : D) : Prop := idxK μ o i K (ItK G n μ o i K)
noncomputable def kIdx1 (s : Expr) (K : D → Prop) (o : D) : Prop := w.e vals μ s (kIdx2 G n μ K o)
noncomputable def kSlS (K : D → Prop) (o : D) (l u : Option Int) : Prop := strK o (fun x => x.length ≤ sizeLine ∧ K (.str (pySlice x l u))) (∃ x, o = .str x ∧ x.length ≤ sizeLine ∧ K (.str (pySlice x l u)))
noncomputable def kSlL (K : D → Prop) (o : D) (l u : Option Int) : Prop := optK (o.items μ) (fun ds => ds.length ≤ sizeLine ∧ K (.lst (pySlice ds l u))) (∃ ds, o.items μ = some ds ∧ ds.length ≤ sizeLine ∧ K (.lst (pySlice ds l u)))
noncomputable def kSl2 (hi : Option Expr) (F : D → Option Int → Option Int → Prop) (o : D) (l : Option Int) : Prop := w.p vals μ hi (F o l)
noncomputable def kSl1 (lo hi : Option Expr) (F : D → Option Int → Option Int → Prop) (o : D) : Prop := w.p vals μ lo (kSl2 w vals μ hi F o)
noncomputable def kSlT2 (K : D → Prop) (o : D) (l u : Option Int) (d : D) : Prop := intK d (fun c => optK (o.items μ) (fun ds => ds.length ≤ sizeLine ∧ some c ≠ some 0 ∧ K (.lst (pickD ds l u (some c)))) (∃ ds, o.items μ = some ds ∧ ds.length ≤ sizeLine ∧ some c ≠ some 0 ∧ K (.lst (pickD ds l u (some c)))))
  (∃ i, d = .int i ∧ ∃ ds, o.items μ = some ds ∧ ds.length ≤ sizeLine ∧ some i ≠ some 0 ∧ K (.lst (pickD ds l u (some i))))
noncomputable def kSlT (s : Expr) (K : D → Prop) (o : D) (l u : Option Int) : Prop := w.e vals μ s (kSlT2 μ K o l u)
noncomputable def kTwo2 (K : D → Prop) (o d : D) : Prop := intK d (fun i => ifB (i == 2) (tupK o (fun l => match l with
  | [a, b, _] => K (.tup [a, b])
  | _ => Stop (d = .int 2 ∧ ∃ a b c, o = .tup [a, b, c] ∧ K (.tup [a, b]))) (d = .int 2 ∧ ∃ a b c, o = .tup [a, b, c] ∧ K (.tup [a, b]))) (d = .int 2 ∧ ∃ a b c, o = .tup [a, b, c] ∧ K (.tup [a, b]))) (d = .int 2 ∧ ∃ a b c, o = .tup [a, b, c] ∧ K (.tup [a, b]))
theorem kTwo2.use {K : D → Prop} {o d : D} (h : kTwo2 K o d) : d = .int 2 ∧ ∃ a b c, o = .tup [a, b, c] ∧ K (.tup [a, b]) :=
  intK.use h fun i e h => ifB.use h fun hi h => tupK.use h fun l e' h =>
    lst3 (P := fun l => o = .tup l → (match l with | [a, b, _] => K (.tup [a, b]) | _ => Stop (d = .int 2 ∧ ∃ a b c, o = .tup [a, b, c] ∧ K (.tup [a, b]))) → d = .int 2 ∧ ∃ a b c, o = .tup [a, b, c] ∧ K (.tup [a, b])) (fun _ h => h.out) (fun _ _ h => h.out) (fun _ _ _ h => h.out)
      (fun a b c e' h => ⟨e.trans (congrArg D.int (eq_of_beq hi)), a, b, c, e', h⟩) (fun _ _ _ _ _ _ h => h.out) l e' h
noncomputable def kTwo1 (e : Expr) (K : D → Prop) (o : D) : Prop := w.e vals μ e (kTwo2 K o)
noncomputable def kFn (a : Addr) (K : D → Prop) (ds : List D) : Prop := Stop (CallK G n μ (.ref a) ds K)
noncomputable def kBlt (j : Nat) (id : String) (K : D → Prop) (ds : List D) : Prop := bltK μ j ds K (CallK G n μ (.builtin id) ds K)
noncomputable def kTyp (j : Nat) (T : String) (K : D → Prop) (ds : List D) : Prop := typK j ds K (CallK G n μ (.type T) ds K)
noncomputable def kMeth2 (id : String) (K : D → Prop) (x : List Nat) (ds : List D) : Prop := Stop (CallK G n μ (.builtin id) (.str x :: ds) K)
noncomputable def kMeth1 (id : String) (args : List Expr) (K : D → Prop) (d : D) : Prop := strK d (fun x => w.l vals μ args (kMeth2 G n μ id K x)) (∃ x, d = .str x ∧ EvL G sc n vals μ args fun ds => CallK G n μ (.builtin id) (.str x :: ds) K)
noncomputable def kApp (K : D → Prop) (d : D) : Prop := mtK d (fun i => K (.bm i)) (∃ i, d = .mt i ∧ K (.bm i))
noncomputable def kStr (K : D → Prop) (y : List Nat) : Prop := K (.str y)
noncomputable def kFmt (K : D → Prop) (d : D) : Prop := strK d (fun x => x.length ≤ sizeLine ∧ K (.str x)) (∃ x, d = .str x ∧ x.length ≤ sizeLine ∧ K (.str x))
noncomputable def kJ (r : List Expr) (acc : List Nat) (K : List Nat → Prop) (d : D) : Prop := strK d (fun y => (acc ++ y).length ≤ sizeLine ∧ w.j vals μ r (acc ++ y) K) (∃ y, d = .str y ∧ (acc ++ y).length ≤ sizeLine ∧ EvJ G sc n vals μ r (acc ++ y) K)
noncomputable def kL2 (K : List D → Prop) (d : D) (ds : List D) : Prop := K (d :: ds)
noncomputable def kL1 (r : List Expr) (K : List D → Prop) (d : D) : Prop := w.l vals μ r (kL2 K d)
noncomputable def kP (K : Option Int → Prop) (d : D) : Prop := intK d (fun i => K (some i)) (∃ i, d = .int i ∧ K (some i))
noncomputable def kNotT (K : Bool → Prop) (b : Bool) : Prop := K (!b)
noncomputable def kTru (K : Bool → Prop) (d : D) : Prop := truK μ d K
noncomputable def kIs (K : Bool → Prop) (d : D) : Prop := ∃ c, d = .bool c ∧ K c
noncomputable def kCmpT2 (op : CmpOp) (K : Bool → Prop) (a b : D) : Prop := cmpK μ op a b K (StK G n μ [a, b] (b2 (compareOp op)) (kIs K))
noncomputable def kCmpT1 (op : CmpOp) (r : Expr) (K : Bool → Prop) (a : D) : Prop := w.e vals μ r (kCmpT2 G n μ op K a)
noncomputable def kCh (op' : CmpOp) (r' : Expr) (K : Bool → Prop) (b : D) (c : Bool) : Prop := condK c (w.e vals μ r' (kCmpT2 G n μ op' K b)) (K false)
noncomputable def kChS (op' : CmpOp) (r' : Expr) (K : Bool → Prop) (b d : D) : Prop := ∃ c, d = .bool c ∧ (c = false → K false) ∧ (c = true → EvK G sc n vals μ r' fun b' => StK G n μ [b, b'] (b2 (compareOp op')) (kIs K))
noncomputable def kCh2 (op op' : CmpOp) (r' : Expr) (K : Bool → Prop) (a b : D) : Prop := cmpK μ op a b (kCh G n w vals μ op' r' K b) (StK G n μ [a, b] (b2 (compareOp op)) (kChS G sc n vals μ op' r' K b))
noncomputable def kCh1 (op op' : CmpOp) (r r' : Expr) (K : Bool → Prop) (a : D) : Prop := w.e vals μ r (kCh2 G sc n w vals μ op op' r' K a)
noncomputable def kBA (r : List Expr) (K : Bool → Prop) (b : Bool) : Prop := condK b (w.a vals μ .And r K) (K false)
noncomputable def kBO (r : List Expr) (K : Bool → Prop) (b : Bool) : Prop := condK b (K true) (w.a vals μ .Or r K)
noncomputable def kM1 (K : D → List (List D) → Prop) (d : D) (μ' : List (List D)) : Prop := K (.mt μ'.length) (μ' ++ [[d]])
noncomputable def kM0 (K : D → List (List D) → Prop) (d : D) : Prop := K d μ
noncomputable def kM3 (K : D → List (List D) → Prop) (d d' : D) (μ' : List (List D)) : Prop := K (.tup [d, d']) μ'
noncomputable def kM2 (y : Expr) (K : D → List (List D) → Prop) (d : D) : Prop := w.m vals μ y (kM3 K d)
noncomputable def kSet (k : Nat) (K : Out → Prop) (d : D) (μ' : List (List D)) : Prop := K (.next (setV vals k d) μ')
noncomputable def kNx (K : Out → Prop) (v : List (Option D)) : Prop := K (.next v μ)
noncomputable def kUnp (t : Expr) (es : List Expr) (K : List (Option D) → Prop) (d : D) (ks : List Nat) : Prop := tupK d (fun ds => es.length = ds.length ∧ K (setAll vals ks ds)) (AsK G sc n vals μ t d K)
noncomputable def kTupA (tb : NT) (t : Expr) (es : List Expr) (K : Out → Prop) (d : D) : Prop := slotK sc tb es (kUnp G sc n vals μ t es (kNx μ K) d) (AsK G sc n vals μ t d (kNx μ K))
noncomputable def kPut (i : Nat) (K : Out → Prop) (d : D) (μ' : List (List D)) : Prop := ∃ ds, μ'[i]? = some ds ∧ ds.length ≤ sizeLine ∧ K (.next vals (μ'.set i (ds ++ [d])))
noncomputable def kBm (elt : Expr) (K : Out → Prop) (d : D) : Prop := bmK d (fun i => w.m vals μ elt (kPut vals i K)) (∃ i, d = .bm i ∧ EvM G sc n vals μ elt (kPut vals i K))
noncomputable def kMt (elt : Expr) (K : Out → Prop) (d : D) : Prop := mtK d (fun i => w.m vals μ elt (kPut vals i K)) (∃ i, d = .mt i ∧ EvM G sc n vals μ elt (kPut vals i K))
noncomputable def kSt (k : Nat) (K : Out → Prop) (r : D) : Prop := K (.next (setV vals k r) μ)
noncomputable def kAug (k : Nat) (op : Operator) (old : D) (K : Out → Prop) (d : D) : Prop := augK op old d (kSt vals μ k K) (StK G n μ [old, d] (b2 (inplaceOp op)) (kSt vals μ k K))
noncomputable def kIfS (a b : List Stmt) (K : Out → Prop) (c : Bool) : Prop := condK c (w.b vals μ a K) (w.b vals μ b K)
noncomputable def kRet (K : Out → Prop) (d : D) : Prop := ∃ d', Rs μ d d' ∧ K (.ret d')
noncomputable def kAst (K : Out → Prop) (c : Bool) : Prop := condK c (K (.next vals μ)) False
noncomputable def kWh (body : List Stmt) (KB : Out → Prop) (KE : Prop) (c : Bool) : Prop := condK c (w.b vals μ body KB) KE
noncomputable def kSeq (r : List Stmt) (K : Out → Prop) (o : Out) : Prop := nextK o (fun v m => w.b v m r K) K
/-- a while with its law -/
structure WhileW (t : Expr) (body : List Stmt) (K : Out → Prop) (I : Nat → List (Option D) → List (List D) → Prop) : Prop where
  h0 : ∃ m, I m vals μ
  turn : ∀ m v mu (KB : Out → Prop) (KE : Prop), (∀ v mu, (∃ m', m' < m ∧ I m' v mu) → KB (.next v mu)) → (∀ v mu, K (.next v mu) → KB (.brk v mu)) → (∀ d, K (.ret d) → KB (.ret d)) → (K (.next v mu) → KE) → I m v mu → w.t v mu t (kWh w v mu body KB KE)
end
theorem WhileW.ofX {w : WP} {vals : List (Option D)} {μ : List (List D)} {t : Expr} {body : List Stmt} {K : Out → Prop} (I : Nat → List (Option D) → List (List D) → Prop) (X : List (Option D) → List (List D) → Prop) (h0 : ∃ m, I m vals μ) (fin : ∀ v mu, X v mu → K (.next v mu))
    (turn : ∀ m v mu (KB : Out → Prop) (KE : Prop), (∀ v mu, (∃ m', m' < m ∧ I m' v mu) → KB (.next v mu)) → (∀ v mu, X v mu → KB (.brk v mu)) → (∀ d, K (.ret d) → KB (.ret d)) → (X v mu → KE) → I m v mu → w.t v mu t (kWh w v mu body KB KE)) : ∃ I, WhileW w vals μ t body K I :=
  ⟨I, h0, fun m v mu KB KE hN hB hR hE => turn m v mu KB KE hN (fun v mu h => hB v mu (fin v mu h)) hR fun h => hE (fin v mu h)⟩
noncomputable def wpAs (G : GX) (sc : Scope) (n : Nat) (tb : NT) (vals : List (Option D)) (μ : List (List D)) (t : Expr) (d : D) (K : List (Option D) → Prop) : Prop :=
  tgtK t (fun x p => tb.at p fun t' k _ _ => ifB (Nat.beq t' 1 && okStore sc x k) (K (setV vals k d)) (AsK G sc n vals μ t d K)) (fun es _ _ => slotK sc tb es (kUnp G sc n vals μ t es K d) (AsK G sc n vals μ t d K)) (AsK G sc n vals μ t d K)
noncomputable def kBody (w : WP) (m : List (List D)) (body : List Stmt) (KB : Out → Prop) (v : List (Option D)) : Prop := w.b v m body KB
/-- a for with its law -/
structure ForW (G : GX) (sc : Scope) (n : Nat) (tb : NT) (w : WP) (vals : List (Option D)) (μ : List (List D)) (t : Expr) (body : List Stmt) (K : Out → Prop) (its : List D) (I : Nat → List (Option D) → List (List D) → Prop) : Prop where
  h0 : I 0 vals μ
  fin : ∀ v m, I its.length v m → K (.next v m)
  turn : ∀ i d v m, its[i]? = some d → ∀ (KB : Out → Prop), (∀ v mu, I (i + 1) v mu → KB (.next v mu)) → (∀ v mu, K (.next v mu) → KB (.brk v mu)) → (∀ d, K (.ret d) → KB (.ret d)) → I i v m → wpAs G sc n tb v m t d (kBody w m body KB)
noncomputable def kFor (G : GX) (sc : Scope) (n : Nat) (tb : NT) (w : WP) (vals : List (Option D)) (μ : List (List D)) (t : Expr) (body : List Stmt) (K : Out → Prop) (d : D) : Prop := ∃ its, IterK G n μ d its ∧ ∃ I, ForW G sc n tb w vals μ t body K its I
section
variable (G : GX) (sc : Scope) (n : Nat) (tb : NT) (w : WP) (vals : List (Option D)) (μ : List (List D))
noncomputable def evE (e : Expr) (K : D → Prop) : Prop := match e with
  | .Name x p => tb.at p fun t k _ _ => ifB (Nat.beq t 1 && okVar sc x k) (optK (getV vals k) K (EvK G sc n vals μ e K)) (EvK G sc n vals μ e K)
  | .Constant c _ p => (match c with
    | .int i => K (.int i)
    | .bool b => K (.bool b)
    | .none => K .none
    | .str x => tb.at p fun t _ _ y => ifB (Nat.beq t 5 && x == S y) (K (.str y)) (EvK G sc n vals μ e K)
    | _ => Stop (EvK G sc n vals μ e K))
  | .BinOp l op r _ => w.e vals μ l (kBin1 G n w vals μ op r K)
  | .Compare l ops rs _ => cmpsK ops rs (fun op r => ifB (!behindInMarks op r) (w.e vals μ l (kCmp1 G n w vals μ op r K)) (EvK G sc n vals μ e K)) (fun _ _ _ _ => Stop (EvK G sc n vals μ e K)) (EvK G sc n vals μ e K)
  | .UnaryOp op x _ => (match op with
    | .Not => w.e vals μ x (kNot μ K)
    | op => w.e vals μ x (kUn G n μ op K))
  | .IfExp t a b _ => w.t vals μ t (kIf w vals μ a b K)
  | .BoolOp op xs _ => (match op, xs with
    | .And, [x, y] => w.e vals μ x (kAnd w vals μ y K)
    | _, _ => Stop (EvK G sc n vals μ e K))
  | .Tuple es _ _ => ifB (noStar es && Nat.ble es.length 1000) (w.l vals μ es (kTup K)) (EvK G sc n vals μ e K)
  | .List es _ => ifB (noStar es && Nat.ble es.length 1000) (w.l vals μ es (kLst K)) (EvK G sc n vals μ e K)
  | .Subscript v s p => (match s with
    | .Slice lo hi (some st) _ => ifB (Nat.beq (kE v) 1) (w.e vals μ v (kSl1 w vals μ lo hi (kSlT w vals μ st K))) (EvK G sc n vals μ e K)
    | .Slice lo hi none _ => tb.at p fun t _ _ _ => condK (Nat.beq t 12) (match lo, hi with
      | none, some e' => ifB (Nat.beq (kE v) 1) (w.e vals μ v (kTwo1 w vals μ e' K)) (EvK G sc n vals μ e K)
      | _, _ => Stop (EvK G sc n vals μ e K)) (condK (Nat.beq t 8 && Nat.beq (kE v) 1) (w.e vals μ v (kSl1 w vals μ lo hi (kSlS K))) (w.e vals μ v (kSl1 w vals μ lo hi (kSlL μ K))))
    | s => w.e vals μ v (kIdx1 G n w vals μ s K))
  | .Call fn args kws p => ifB (kws.isEmpty && noStar args) (fnK fn
      (fun x q => tb.at q fun t k j _ => ifB (okGlb sc x k) (condK (Nat.beq t 2) (optK (atG gFns x j) (fun a => w.l vals μ args (kFn G n μ a K)) (EvK G sc n vals μ e K))
        (condK (Nat.beq t 3) (optK (atG gBlt x j) (fun id => w.l vals μ args (kBlt G n μ j id K)) (EvK G sc n vals μ e K))
          (ifB (Nat.beq t 4) (optK (atG gTyp x j) (fun T => w.l vals μ args (kTyp G n μ j T K)) (EvK G sc n vals μ e K)) (EvK G sc n vals μ e K)))) (EvK G sc n vals μ e K))
      (fun o a ap => tb.at ap fun t _ j _ => ifB (Nat.beq t 7 && (Nat.beq (kE o) 1 || Nat.beq (kE o) 2) && Nat.ble args.length 20 && (ap.endLine == p.line))
        (optK (atG gMeth a j) (fun id => w.e vals μ o (kMeth1 G sc n w vals μ id args K)) (EvK G sc n vals μ e K)) (EvK G sc n vals μ e K))
      (EvK G sc n vals μ e K)) (EvK G sc n vals μ e K)
  | .Attribute v a _ => ifB (Nat.beq (kE v) 1 && a == ("append" : Str)) (w.e vals μ v (kApp K)) (EvK G sc n vals μ e K)
  | .JoinedStr vs _ => (match vs with
    | v₁ :: v₂ :: r => w.j vals μ (v₁ :: v₂ :: r) [] (kStr K)
    | _ => Stop (EvK G sc n vals μ e K))
  | .FormattedValue v c spec _ => ifB (c == -1 && spec.isNone) (w.e vals μ v (kFmt K)) (EvK G sc n vals μ e K)
  | _ => Stop (EvK G sc n vals μ e K)
noncomputable def evJ (es : List Expr) (acc : List Nat) (K : List Nat → Prop) : Prop := match es with
  | [] => acc.length ≤ sizeLine ∧ K acc
  | e :: r => w.e vals μ e (kJ G sc n w vals μ r acc K)
noncomputable def evL (es : List Expr) (K : List D → Prop) : Prop := match es with
  | [] => K []
  | e :: r => w.e vals μ e (kL1 w vals μ r K)
noncomputable def evP (e : Option Expr) (K : Option Int → Prop) : Prop := match e with
  | none => K none
  | some e => w.e vals μ e (kP K)
noncomputable def evT (e : Expr) (K : Bool → Prop) : Prop := match e with
  | .UnaryOp op x _ => (match op with
    | .Not => w.t vals μ x (kNotT K)
    | _ => w.e vals μ e (kTru μ K))
  | .BoolOp op xs _ => w.a vals μ op xs K
  | .IfExp .. => Stop (EvT G sc n vals μ e K)
  | .Compare l ops rs _ => cmpsK ops rs (fun op r => ifB (!behindInMarks op r) (w.e vals μ l (kCmpT1 G n w vals μ op r K)) (EvT G sc n vals μ e K))
      (fun op op' r r' => ifB (!lastMarks [op, op'] [r, r']) (w.e vals μ l (kCh1 G sc n w vals μ op op' r r' K)) (EvT G sc n vals μ e K)) (EvT G sc n vals μ e K)
  | _ => w.e vals μ e (kTru μ K)
noncomputable def evA (op : BoolOp) (es : List Expr) (K : Bool → Prop) : Prop := match es with
  | [] => (match op with
    | .And => K true
    | .Or => K false)
  | e :: r => (match op with
    | .And => w.t vals μ e (kBA w vals μ r K)
    | .Or => w.t vals μ e (kBO w vals μ r K))
noncomputable def evM (e : Expr) (K : D → List (List D) → Prop) : Prop := match e with
  | .List es _ => (match es with
    | [] => K (.mt μ.length) (μ ++ [[]])
    | [x] => condK (Nat.beq (kE x) 5) (w.m vals μ x (kM1 K)) (w.e vals μ e (kM0 μ K))
    | _ => w.e vals μ e (kM0 μ K))
  | .Tuple es _ _ => (match es with
    | [x, y] => condK (Nat.beq (kE y) 6) (ifB (noStar [x]) (w.e vals μ x (kM2 w vals μ y K)) (EvM G sc n vals μ e K)) (w.e vals μ e (kM0 μ K))
    | _ => w.e vals μ e (kM0 μ K))
  | _ => w.e vals μ e (kM0 μ K)
noncomputable def evG (ts : List Expr) (e : Expr) (p : Pos) (K : Out → Prop) : Prop := oneK ts (fun t => tgtK t
    (fun x q => tb.at q fun t' k _ _ => ifB (!Nat.beq (kE e) 3 && (Nat.beq t' 1 && okStore sc x k)) (w.m vals μ e (kSet vals k K)) (ExS G sc n vals μ (.Assign ts e p) K))
    (fun es _ _ => ifB (!Nat.beq (kE e) 3 && !Nat.beq (kE e) 5) (w.e vals μ e (kTupA G sc n vals μ tb t es K)) (ExS G sc n vals μ (.Assign ts e p) K))
    (ExS G sc n vals μ (.Assign ts e p) K)) (ExS G sc n vals μ (.Assign ts e p) K)
noncomputable def evS (st : Stmt) (K : Out → Prop) : Prop := match st with
  | .Assign ts e p => tb.atS p fun h _ _ _ => condK (Nat.beq h 10) (∃ v', FrzTo μ vals v' ∧ evG G sc n tb w v' [] ts e p K) (evG G sc n tb w vals μ ts e p K)
  | .Expr c _ => (match c with
    | .Call fn [elt] [] p => fnK fn
        (fun x q => ifB (noStar [elt]) (w.e vals μ (.Name x q) (kBm G sc n w vals μ elt K)) (ExS G sc n vals μ st K))
        (fun o a ap => ifB ((Nat.beq (kE o) 1 || Nat.beq (kE o) 7) && (ap.endLine == p.line) && noStar [elt] && (a == ("append" : Str))) (w.e vals μ o (kMt G sc n w vals μ elt K)) (ExS G sc n vals μ st K))
        (ExS G sc n vals μ st K)
    | _ => Stop (ExS G sc n vals μ st K))
  | .AugAssign t op e _ => nameK t (fun x q => tb.at q fun t' k _ _ => ifB (Nat.beq t' 1 && okStore sc x k) (optK (getV vals k) (fun old => w.e vals μ e (kAug G n vals μ k op old K)) (ExS G sc n vals μ st K)) (ExS G sc n vals μ st K)) (ExS G sc n vals μ st K)
  | .If t a b _ => w.t vals μ t (kIfS w vals μ a b K)
  | .Return v _ => (match v with
    | none => K (.ret .none)
    | some e => w.e vals μ e (kRet μ K))
  | .Pass _ => K (.next vals μ)
  | .Break _ => K (.brk vals μ)
  | .Assert t _ _ => w.t vals μ t (kAst vals μ K)
  | .While t body els _ => ifB els.isEmpty (∃ I, WhileW w vals μ t body K I) (ExS G sc n vals μ st K)
  | .For t it body els _ => ifB (els.isEmpty && !Nat.beq (kE it) 4) (w.e vals μ it (kFor G sc n tb w vals μ t body K)) (ExS G sc n vals μ st K)
  | _ => Stop (ExS G sc n vals μ st K)
noncomputable def evB (sts : List Stmt) (K : Out → Prop) : Prop := match sts with
  | [] => K (.next vals μ)
  | st :: r => w.s vals μ st (kSeq w r K)
end
noncomputable def wp0 (G : GX) (sc : Scope) (n : Nat) : WP where
  e := fun vals μ e K => Stop (EvK G sc n vals μ e K)
  j := fun vals μ es acc K => Stop (EvJ G sc n vals μ es acc K)
  l := fun vals μ es K => Stop (EvL G sc n vals μ es K)
  p := fun vals μ e K => Stop (EvP G sc n vals μ e K)
  t := fun vals μ e K => Stop (EvT G sc n vals μ e K)
  a := fun vals μ op es K => Stop (∀ p, EvT G sc n vals μ (.BoolOp op es p) K)
  m := fun vals μ e K => Stop (EvM G sc n vals μ e K)
  s := fun vals μ st K => Stop (ExS G sc n vals μ st K)
  b := fun vals μ sts K => Stop (ExK G sc n vals μ sts K)
noncomputable def wpStep (G : GX) (sc : Scope) (n : Nat) (tb : NT) (w : WP) : WP where
  e := evE G sc n tb w
  j := evJ G sc n w
  l := evL w
  p := evP w
  t := evT G sc n w
  a := evA w
  m := evM G sc n w
  s := evS G sc n tb w
  b := evB w
noncomputable abbrev wp (G : GX) (sc : Scope) (n : Nat) (tb : NT) (f : Nat) : WP := Nat.rec (motive := fun _ => WP) (wp0 G sc n) (fun _ w => wpStep G sc n tb w) f
end
section
open PySem PySem.W PyProof.Rows
set_option maxRecDepth 100000
set_option maxHeartbeats 1000000
set_option linter.unusedVariables false
open PySem.Calls
variable {G : GX} {sc : Scope} {n : Nat} {tb : NT} {vals : List (Option D)} {μ : List (List D)}

theorem gFns_ok (hG : Good G) : ∀ p ∈ gFns, G.mg p.1 = some (.ref p.2) ∧ CbK G (.ref p.2) := by
  unfold gFns
  simp only [List.forall_mem_cons]
  exact ⟨fg123 hG, fg135 hG, fg142 hG, fg149 hG, fg156 hG, fg163 hG, fg170 hG, fg175 hG, fg180 hG, fg185 hG, fg192 hG, fg199 hG, fg206 hG, fg211 hG, fg111 hG, fun _ h => nomatch h⟩
theorem gBlt_ok (hG : Good G) : ∀ p ∈ gBlt, G.mg p.1 = none ∧ bootBuiltins p.1 = some (.builtin p.2) := by
  unfold gBlt
  simp only [List.forall_mem_cons]
  exact ⟨gb_len hG, gb_max hG, gb_min hG, gb_sum hG, gb_isinstance hG, fun _ h => nomatch h⟩
theorem gTyp_ok (hG : Good G) : ∀ p ∈ gTyp, G.mg p.1 = none ∧ bootBuiltins p.1 = some (.type p.2) := by
  unfold gTyp
  simp only [List.forall_mem_cons]
  exact ⟨gt_range hG, gt_str hG, gt_tuple hG, gt_object hG, fun _ h => nomatch h⟩
theorem gMeth_ok : ∀ p ∈ gMeth, Slot "str" p.1 p.2 ∧ typeOf (.builtin p.2) = pure (.type "method_descriptor") := by
  unfold gMeth
  simp only [List.forall_mem_cons]
  exact ⟨⟨F.slot_str_join, F.type_str_join⟩, ⟨F.slot_str_translate, F.type_str_translate⟩, ⟨F.slot_str_replace, F.type_str_replace⟩, ⟨F.slot_str_find, F.type_str_find⟩, fun _ h => nomatch h⟩
theorem atG_mem {α : Type} {l : List (Str × α)} {x : Str} {j : Nat} {a : α} (h : atG l x j = some a) : (x, a) ∈ l := by
  unfold atG at h
  split at h
  · rename_i p hp
    split at h
    · rename_i hx
      cases h
      rw [eq_of_beq hx]
      exact List.mem_of_getElem? hp
    · cases h
  · cases h
theorem atG_at {α : Type} {l : List (Str × α)} {x y : Str} {j : Nat} {a b : α} (h : atG l x j = some a) (hl : l[j]? = some (y, b)) : a = b := by
  unfold atG at h
  rw [hl] at h
  dsimp only at h
  split at h
  · exact (Option.some.inj h).symm
  · cases h
theorem bltK.use {x : Str} {id : String} {j : Nat} {ds : List D} {K : D → Prop} (ha : atG gBlt x j = some id) (h : bltK μ j ds K (CallK G n μ (.builtin id) ds K)) : CallK G n μ (.builtin id) ds K := by
  cases h0 : Nat.beq j 0 with
  | true =>
    obtain rfl := Nat.eq_of_beq_eq_true h0
    obtain rfl := atG_at ha (b := "len") rfl
    exact oneK.use (h.t h0) fun d e h => by subst e; exact lenD.use h
  | false =>
    have h := h.f h0
    cases h1 : Nat.beq j 1 with
    | true =>
      obtain rfl := Nat.eq_of_beq_eq_true h1
      obtain rfl := atG_at ha (b := "max") rfl
      have h := h.t h1
      revert h
      exact lst3 (P := fun ds => (match ds with | [a, b] => intK a (fun x => intK b (fun y => K (.int (if y > x then y else x))) (CallK G n μ (.builtin "max") ds K)) (CallK G n μ (.builtin "max") ds K) | _ => Stop (CallK G n μ (.builtin "max") ds K)) → CallK G n μ (.builtin "max") ds K) (fun h => h.out) (fun _ h => h.out) (fun a b h => intK.use h fun x e h => intK.use h fun y e' h => by subst e; subst e'; exact C_max2 h)
        (fun _ _ _ h => h.out) (fun _ _ _ _ _ h => h.out) ds
    | false => exact (h.f h1).out
theorem typK.use {x : Str} {T : String} {j : Nat} {ds : List D} {K : D → Prop} (ha : atG gTyp x j = some T) (h : typK j ds K (CallK G n μ (.type T) ds K)) : CallK G n μ (.type T) ds K := by
  cases h0 : Nat.beq j 0 with
  | true =>
    obtain rfl := Nat.eq_of_beq_eq_true h0
    obtain rfl := atG_at ha (b := "range") rfl
    have h := h.t h0
    revert h
    exact lst3 (P := fun ds => (match ds with
      | [a] => intK a (fun x => K (.rng 0 x 1)) (CallK G n μ (.type "range") ds K)
      | [a, b] => intK a (fun x => intK b (fun y => K (.rng x y 1)) (CallK G n μ (.type "range") ds K)) (CallK G n μ (.type "range") ds K)
      | [a, b, c] => intK a (fun x => intK b (fun y => intK c (fun z => z ≠ 0 ∧ z.natAbs < 1073741824 ∧ K (.rng x y z)) (CallK G n μ (.type "range") ds K)) (CallK G n μ (.type "range") ds K)) (CallK G n μ (.type "range") ds K)
      | _ => Stop (CallK G n μ (.type "range") ds K)) → CallK G n μ (.type "range") ds K) (fun h => h.out) (fun a h => intK.use h fun x e h => by subst e; exact C_range1 h) (fun a b h => intK.use h fun x e h => intK.use h fun y e' h => by subst e; subst e'; exact C_range2 h)
      (fun a b c h => intK.use h fun x e h => intK.use h fun y e' h => intK.use h fun z e2 h => by subst e; subst e'; subst e2; exact C_range3 h.1 h.2.1 h.2.2) (fun _ _ _ _ _ h => h.out) ds
  | false =>
    have h := h.f h0
    cases h1 : Nat.beq j 1 with
    | true =>
      obtain rfl := Nat.eq_of_beq_eq_true h1
      obtain rfl := atG_at ha (b := "str") rfl
      exact oneK.use (h.t h1) fun d e h => intK.use h fun x e' h => by subst e; subst e'; exact C_str_int h.1 h.2
    | false => exact (h.f h1).out
theorem okVar_ok {x : Str} {k : Nat} (h : okVar sc x k = true) : ∃ kd, sc.names[k]? = some (x, kd) := by
  unfold okVar at h
  split at h
  · rename_i p hp
    exact ⟨p.2, by rw [eq_of_beq h]; exact hp⟩
  · cases h
theorem okStore_ok {x : Str} {k : Nat} (h : okStore sc x k = true) : ∃ kd, sc.names[k]? = some (x, kd) ∧ LC kd := by
  unfold okStore at h
  split at h
  · rename_i p hp
    rw [Bool.and_eq_true] at h
    refine ⟨p.2, by rw [eq_of_beq h.1]; exact hp, ?_⟩
    have h2 := h.2
    revert h2
    cases p.2 <;> intro h2 <;> first | exact .inl rfl | exact .inr rfl | exact Bool.noConfusion h2
  · cases h
theorem okGlb_ok {x : Str} {k : Nat} (h : okGlb sc x k = true) : sc.names[k]? = some (x, .globalImplicit) := by
  unfold okGlb at h
  split at h
  · rename_i p hp
    rw [Bool.and_eq_true] at h
    rw [hp, eq_of_beq h.1, ← eq_of_beq h.2]
  · cases h
noncomputable def noDbg (sc : Scope) : Bool := sc.names.all fun p => !(p.1 == ("__debug__" : Str)) && !(p.1 == ("__name__" : Str))
theorem noDbg_ok (hd : noDbg sc = true) {x : Str} {kd : NameKind} {k : Nat} (h : sc.names[k]? = some (x, kd)) : (x == ("__debug__" : Str)) = false ∧ x ≠ "__name__" := by
  unfold noDbg at hd
  rw [List.all_eq_true] at hd
  have := hd _ (List.mem_of_getElem? h)
  rw [Bool.and_eq_true, Bool.not_eq_true', Bool.not_eq_true'] at this
  exact ⟨this.1, beq_eq_false_iff_ne.mp this.2⟩
theorem and_t {a b : Bool} (h : (a && b) = true) : a = true ∧ b = true := Bool.and_eq_true_iff.mp h
theorem not_t {a : Bool} (h : (!a) = true) : a = false := by cases a; rfl; cases h
theorem slotK.use {S : Prop} : ∀ {es : List Expr} {K : List Nat → Prop}, slotK sc tb es K S → (∀ ks, Slots sc es ks → K ks → S) → S
  | [], _, h, hk => hk _ .nil h
  | e :: r, K, h, hk => nameK.use h fun x p he h1 => by
    obtain ⟨t, k, _, _, h2⟩ := h1.use
    refine ifB.use h2 fun hc h3 => slotK.use h3 fun ks hs h4 => ?_
    obtain ⟨kd, hn, hl⟩ := okStore_ok (and_t hc).2
    subst he
    exact hk _ (.cons hn hl hs) h4
theorem kE_name {e : Expr} (h : Nat.beq (kE e) 1 = true) : ∃ x p, e = .Name x p := by
  cases e <;> first | exact ⟨_, _, rfl⟩ | exact Bool.noConfusion h
theorem kE_nc {o : Expr} (h : (Nat.beq (kE o) 1 || Nat.beq (kE o) 2) = true) (name : Str) (env : Env) : attributeBase o name env (eval o env) = eval o env := by
  cases o <;> first | rfl | exact Bool.noConfusion h
theorem kE_ns {o : Expr} (h : (Nat.beq (kE o) 1 || Nat.beq (kE o) 7) = true) (name : Str) (env : Env) : attributeBase o name env (eval o env) = eval o env := by
  cases o <;> first | rfl | exact Bool.noConfusion h
theorem kE_swap {e : Expr} (h : Nat.beq (kE e) 3 = false) (t : Option Expr) (l : Nat) (env : Env) : swapsWith e t l env = pure false := by
  cases e <;> first | rfl | exact Bool.noConfusion h
theorem kE_stores {e : Expr} (h : Nat.beq (kE e) 5 = false) (es : List Expr) (q : Nat) (p : Pos) (env : Env) : swappedStores [.Tuple es q p] e env = pure none := by
  cases e <;> first | rfl | exact Bool.noConfusion h
theorem kE_set {e : Expr} (h : Nat.beq (kE e) 4 = false) (env : Env) (x : Value) : foldedSetIterable e env x = pure x := by
  cases e <;> first | rfl | exact Bool.noConfusion h
theorem EvT.mono {e : Expr} {KB KB' : Bool → Prop} (h : EvT G sc n vals μ e KB) (hK : ∀ b, KB b → KB' b) : EvT G sc n vals μ e KB' :=
  fun A env W s a b c d f => wpAny_mono (h A env W s a b c d f) (fun _ _ ⟨x, y⟩ => ⟨hK _ x, y⟩) fun _ _ y => y
theorem EvL.mono {es : List Expr} {K K' : List D → Prop} (h : EvL G sc n vals μ es K) (hk : ∀ ds, K ds → K' ds) : EvL G sc n vals μ es K' := by
  induction es generalizing K K' with
  | nil => exact hk _ h
  | cons e r ih => exact EvK.mono h fun d hd => ih hd fun ds => hk _
theorem EvL_len {es : List Expr} {K : List D → Prop} (h : EvL G sc n vals μ es K) : EvL G sc n vals μ es fun ds => ds.length = es.length ∧ K ds := by
  induction es generalizing K with
  | nil => exact ⟨rfl, h⟩
  | cons e r ih => exact EvK.mono h fun d hd => (ih (K := fun ds => K (d :: ds)) hd).mono fun ds x => ⟨congrArg (· + 1) x.1, x.2⟩
theorem EvL_fit {es : List Expr} {K : List D → Prop} (h : EvL G sc n vals μ es K) (hl : Nat.ble es.length 1000 = true) : EvL G sc n vals μ es fun ds => ds.length ≤ sizeLine ∧ K ds :=
  (EvL_len h).mono fun ds x => ⟨by rw [x.1]; exact Nat.le_trans (Nat.le_of_ble_eq_true hl) (by decide), x.2⟩
theorem EvP.mono {e : Option Expr} {K K' : Option Int → Prop} (h : EvP G sc n vals μ e K) (hk : ∀ i, K i → K' i) : EvP G sc n vals μ e K' := by
  cases e with
  | none => exact hk _ h
  | some e => exact EvK.mono h fun d ⟨i, a, b⟩ => ⟨i, a, hk _ b⟩
theorem AsK.mono {t : Expr} {d : D} {K K' : List (Option D) → Prop} (h : AsK G sc n vals μ t d K) (hk : ∀ v, K v → K' v) : AsK G sc n vals μ t d K' := fun A env kp av W s v b hw st i =>
  wpAny_mono (h A env kp av W s v b hw st i) (fun _ s' ⟨v', a, r⟩ => ⟨v', hk _ a, r⟩) fun _ _ y => y
theorem noStar_all {es : List Expr} (h : noStar es = true) (pos : Pos) (env : Env) : (backTo pos (starEach es env)).all (fun x => !x.1) = true := by
  rw [backTo_eq _ _ _ h, List.all_map]
  rw [List.all_eq_true]; exact fun _ _ => rfl
theorem star_one {elt : Expr} (h : noStar [elt] = true) (env : Env) : starEach [elt] env = [(false, eval elt env)] := by
  cases elt <;> first | rfl | exact Bool.noConfusion h
theorem meth_eq {o : Expr} {name : Str} {apos pos : Pos} {args : List Expr} (ho : (Nat.beq (kE o) 1 || Nat.beq (kE o) 2) = true) (hn : noStar args = true) (hl : Nat.ble args.length 20 = true) (hline : (apos.endLine == pos.line) = true) (env : Env) :
    eval (.Call (.Attribute o name apos) args [] pos) env = (do
      let ov ← eval o env
      standAt apos.atName
      let (f, first) ← holding [ov] (getMethod ov name (do return (← importBound o env).getD true))
      callWith pos f first (backTo pos (starEach args env)) []) := by
  have few : methodCallForm (args.length + ([] : List Keyword).length) (backTo pos (starEach args env)) (backToKw pos (keywordEach [] env)) = true := by
    unfold methodCallForm
    rw [noStar_all hn]
    have := Nat.le_of_ble_eq_true hl
    show (true && true && decide (args.length + 0 + 0 < 30)) = true
    simp; lia
  have e1 : eval (.Call (.Attribute o name apos) args [] pos) env = (do
    let ov ← attributeBase o name env (eval o env)
    standAt apos.atName
    methodCall o name apos pos env ov (args.length + ([] : List Keyword).length) (backTo pos (starEach args env)) (backToKw pos (keywordEach [] env))) := by with_unfolding_all rfl
  have e2 : attributeBase o name env (eval o env) = eval o env := by
    exact kE_nc ho name env
  rw [e1, e2]
  unfold methodCall
  rw [few]
  have e3 : methodCallPos true o env apos pos = pure pos := by unfold methodCallPos; rw [hline]; rfl
  rw [e3]
  with_unfolding_all rfl

structure Snd (G : GX) (sc : Scope) (n : Nat) (w : WP) : Prop where
  e : ∀ {vals μ e K}, w.e vals μ e K → EvK G sc n vals μ e K
  j : ∀ {vals μ es acc K}, w.j vals μ es acc K → EvJ G sc n vals μ es acc K
  l : ∀ {vals μ es K}, w.l vals μ es K → EvL G sc n vals μ es K
  p : ∀ {vals μ e K}, w.p vals μ e K → EvP G sc n vals μ e K
  t : ∀ {vals μ e K}, w.t vals μ e K → EvT G sc n vals μ e K
  a : ∀ {vals μ op es K}, w.a vals μ op es K → ∀ p, EvT G sc n vals μ (.BoolOp op es p) K
  m : ∀ {vals μ e K}, w.m vals μ e K → EvM G sc n vals μ e K
  s : ∀ {vals μ st K}, w.s vals μ st K → ExS G sc n vals μ st K
  b : ∀ {vals μ sts K}, w.b vals μ sts K → ExK G sc n vals μ sts K
variable {w : WP}
theorem sndCall (hG : Good G) (hd : noDbg sc = true) (ih : Snd G sc n w) {fn : Expr} {args : List Expr} {kws : List Keyword} {pos : Pos} {K : D → Prop} (h : evE G sc n tb w vals μ (.Call fn args kws pos) K) :
    EvK G sc n vals μ (.Call fn args kws pos) K := by
  refine ifB.use h fun hc h => ?_
  obtain ⟨hk, hs⟩ := and_t hc
  obtain rfl := List.isEmpty_iff.mp hk
  refine fnK.use h (fun x q e h => ?_) fun o a ap e h => ?_
  · subst e
    obtain ⟨t, k, j, _, h⟩ := h.use
    refine ifB.use h fun hn h => ?_
    have hn := okGlb_ok hn
    have h0 := noDbg_ok hd hn
    cases h2 : Nat.beq t 2 with
    | true => exact optK.use (h.t h2) fun a ha h => Ev_call_fn k hn (gFns_ok hG _ (atG_mem ha)) ((ih.l h).mono fun ds hds => hds.out) hs h0.1 fun _ => rfl
    | false =>
      have h := h.f h2
      cases h3 : Nat.beq t 3 with
      | true => exact optK.use (h.t h3) fun a ha h => Ev_call_b k hn (gBlt_ok hG _ (atG_mem ha)) ((ih.l h).mono fun ds hds => bltK.use ha hds) hs h0.1 h0.2 fun _ => rfl
      | false => exact ifB.use (h.f h3) fun _ h => optK.use h fun a ha h => Ev_call_t k hn (gTyp_ok hG _ (atG_mem ha)) ((ih.l h).mono fun ds hds => typK.use ha hds) hs h0.1 h0.2 fun _ => rfl
  · subst e
    obtain ⟨t, k, j, _, h⟩ := h.use
    refine ifB.use h fun hc h => optK.use h fun id ha h => ?_
    obtain ⟨hc, h4⟩ := and_t hc
    obtain ⟨hc, h3⟩ := and_t hc
    obtain ⟨_, h2⟩ := and_t hc
    obtain ⟨sl, ty⟩ := gMeth_ok _ (atG_mem ha)
    exact Ev_strmeth sl ty ((ih.e h).mono fun d hd' => strK.use hd' fun x h1 h2 => ⟨x, h1, (ih.l h2).mono fun ds hds => hds.out⟩) (meth_eq h2 hs h3 h4) hs

theorem sndE (hG : Good G) (hd : noDbg sc = true) (ih : Snd G sc n w) {e : Expr} {K : D → Prop} (h : evE G sc n tb w vals μ e K) : EvK G sc n vals μ e K := by
  cases e with
  | Name x p =>
    obtain ⟨t, k, _, _, h⟩ := NT.at.use (tb := tb) (p := p) h
    refine ifB.use h fun hc h => ?_
    obtain ⟨kd, hn⟩ := okVar_ok (and_t hc).2
    exact optK.use h fun d e hk => Ev_var k hn (getV_eq e) hk (noDbg_ok hd hn).1
  | Constant c k p =>
    cases c with
    | int i => exact Ev_const_int h
    | bool b => exact Ev_const_bool h
    | none => exact Ev_const_none h
    | str x =>
      obtain ⟨t, _, _, y, h⟩ := NT.at.use (tb := tb) (p := p) h
      exact ifB.use h fun hc h => Ev_const_str (eq_of_beq (and_t hc).2) h
    | _ => exact h.out
  | BinOp l op r p => exact Ev_bin ((ih.e h).mono fun a ha => (ih.e ha).mono fun b hb => binK.use hb)
  | Compare l ops rs p =>
    refine cmpsK.use h (fun op r e e' h => ?_) fun _ _ _ _ _ _ h => h.out
    subst e; subst e'
    exact ifB.use h fun hm h => Ev_cmp ((ih.e h).mono fun a ha => (ih.e ha).mono fun b hb => cmpK.use hb fun c hc => hc) (not_t hm)
  | UnaryOp op x p =>
    cases op with
    | Not => exact Ev_not ((ih.e h).mono fun d hd' => truK.use hd')
    | _ => exact Ev_un ((ih.e h).mono fun a ha => unK.use ha)
  | IfExp t a b p => exact Ev_ifexp ((ih.t h).mono fun c hc => ⟨fun e => ih.e (condK.t hc e), fun e => ih.e (condK.f hc e)⟩)
  | BoolOp op xs p =>
    match op, xs, h with
    | .And, [x, y], h => exact Ev_and ((ih.e h).mono fun d hd' => let ⟨b, h1, h2, h3⟩ := truK.use hd'; ⟨b, h1, h2, fun e => ih.e (condK.t h3 e), condK.f h3⟩)
    | .And, [], h => exact h.out
    | .And, [_], h => exact h.out
    | .And, _ :: _ :: _ :: _, h => exact h.out
    | .Or, _, h => exact h.out
  | Tuple es k p => exact ifB.use h fun hc h => Ev_tuple (EvL_fit (ih.l h) (and_t hc).2) (and_t hc).1
  | List es p => exact ifB.use h fun hc h => Ev_list (EvL_fit (ih.l h) (and_t hc).2) (and_t hc).1
  | Subscript v s p =>
    have idx (hs : ∀ o i, subscripted s false o i = operate [o, i] (getItem o i)) (h : w.e vals μ v (kIdx1 G n w vals μ s K)) : EvK G sc n vals μ (.Subscript v s p) K :=
      Ev_idx ((ih.e h).mono fun o ho => (ih.e ho).mono fun i hi => idxK.use hi) hs
    cases s with
    | Slice lo hi st q =>
      cases st with
      | some st =>
        refine ifB.use h fun hv h => ?_
        obtain ⟨x, xp, rfl⟩ := kE_name hv
        exact Ev_slice_step ((ih.e h).mono fun o ho => (ih.p ho).mono fun l hl => (ih.p hl).mono fun u hu => (ih.e hu).mono fun d hd => intK.use hd fun c e h => ⟨c, e, optK.use h fun ds e h => ⟨ds, e, h⟩⟩) fun _ _ => rfl
      | none =>
      obtain ⟨t, _, _, _, h⟩ := NT.at.use (tb := tb) (p := p) h
      cases h12 : Nat.beq t 12 with
      | true =>
        have h := h.t h12
        match lo, hi, h with
        | none, some e', h =>
          refine ifB.use h fun hv h => ?_
          obtain ⟨x, xp, rfl⟩ := kE_name hv
          exact Ev_two ((ih.e h).mono fun o ho => (ih.e ho).mono fun d hd => kTwo2.use hd) fun _ _ => rfl
        | none, none, h => exact h.out
        | some _, _, h => exact h.out
      | false =>
      have h := h.f h12
      cases hc : Nat.beq t 8 && Nat.beq (kE v) 1 with
      | true =>
        obtain ⟨x, xp, rfl⟩ := kE_name (and_t hc).2
        exact Ev_slice_str ((ih.e (h.t hc)).mono fun o ho => (ih.p ho).mono fun l hl => (ih.p hl).mono fun u hu => strK.use hu fun x h1 h2 => ⟨x, h1, h2⟩) fun _ _ => rfl
      | false => exact Ev_slice_any ((ih.e (h.f hc)).mono fun o ho => (ih.p ho).mono fun l hl => (ih.p hl).mono fun u hu => optK.use hu fun x h1 h2 => ⟨x, h1, h2⟩)
    | _ => exact idx (fun _ _ => rfl) h
  | Call fn args kws pos => exact sndCall hG hd ih h
  | Attribute v a p =>
    refine ifB.use h fun hc h => ?_
    obtain ⟨h1, h2⟩ := and_t hc
    obtain rfl := eq_of_beq h2
    obtain ⟨x, xp, rfl⟩ := kE_name h1
    exact Ev_append ((ih.e h).mono fun d hd => mtK.use hd fun i h1 h2 => ⟨i, h1, h2⟩)
  | JoinedStr vs p =>
    match vs, h with
    | v₁ :: v₂ :: r, h => exact Ev_fstr (ih.j h)
    | [], h => exact h.out
    | [_], h => exact h.out
  | FormattedValue v c spec p =>
    refine ifB.use h fun hc h => ?_
    obtain ⟨h1, h2⟩ := and_t hc
    obtain rfl := eq_of_beq h1
    obtain rfl := Option.isNone_iff_eq_none.mp h2
    exact Ev_fmt ((ih.e h).mono fun d hd' => strK.use hd' fun x h1 h2 => ⟨x, h1, h2⟩)
  | _ => exact h.out
theorem sndJ (ih : Snd G sc n w) {es : List Expr} {acc : List Nat} {K : List Nat → Prop} (h : evJ G sc n w vals μ es acc K) : EvJ G sc n vals μ es acc K := by
  cases es with
  | nil => exact ⟨And.right h, And.left h⟩
  | cons e r => exact (ih.e h).mono fun d hd => strK.use hd fun y h1 h2 => ⟨y, h1, h2.1, ih.j h2.2⟩
theorem sndL (ih : Snd G sc n w) {es : List Expr} {K : List D → Prop} (h : evL w vals μ es K) : EvL G sc n vals μ es K := by
  cases es with
  | nil => exact h
  | cons e r => exact (ih.e h).mono fun d hd => ih.l hd
theorem sndP (ih : Snd G sc n w) {e : Option Expr} {K : Option Int → Prop} (h : evP w vals μ e K) : EvP G sc n vals μ e K := by
  cases e with
  | none => exact h
  | some e => exact (ih.e h).mono fun d hd => intK.use hd fun i h1 h2 => ⟨i, h1, h2⟩
theorem sndA (ih : Snd G sc n w) {op : BoolOp} {es : List Expr} {K : Bool → Prop} (h : evA w vals μ op es K) (p : Pos) : EvT G sc n vals μ (.BoolOp op es p) K := by
  cases es with
  | nil => cases op with
    | And => exact T_and_nil h
    | Or => exact T_or_nil h
  | cons e r => cases op with
    | And => exact T_and ((ih.t h).mono fun b hb => ⟨fun e => ih.a (condK.t hb e) p, condK.f hb⟩)
    | Or => exact T_or ((ih.t h).mono fun b hb => ⟨condK.t hb, fun e => ih.a (condK.f hb e) p⟩)
theorem sndT (ih : Snd G sc n w) {e : Expr} {K : Bool → Prop} (h : evT G sc n w vals μ e K) : EvT G sc n vals μ e K := by
  have plain (he : ∀ env whole, isTrue e env whole = (do let v ← whole; standAt e.pos; holding [v] (truthy v))) (h : w.e vals μ e (kTru μ K)) : EvT G sc n vals μ e K :=
    T_plain ((ih.e h).mono fun d hd => truK.use hd) he
  cases e with
  | UnaryOp op x p =>
    cases op with
    | Not => exact T_not (ih.t h)
    | _ => exact plain (fun _ _ => by with_unfolding_all rfl) h
  | BoolOp op xs p => exact ih.a h p
  | IfExp t a b p => exact h.out
  | Compare l ops rs p =>
    refine cmpsK.use h (fun op r e e' h => ?_) fun op op' r r' e e' h => ?_
    · subst e; subst e'
      exact ifB.use h fun hm h => T_cmp ((ih.e h).mono fun a ha => (ih.e ha).mono fun b hb => cmpK.use hb fun c hk => ⟨c, rfl, hk⟩) (not_t hm)
    · subst e; subst e'
      exact ifB.use h fun hm h => T_chain ((ih.e h).mono fun a ha => (ih.e ha).mono fun b hb => cmpK.use hb fun c hk => ⟨c, rfl, condK.f hk, fun q => (ih.e (condK.t hk q)).mono fun b' hb' => cmpK.use hb' fun c' hk' => ⟨c', rfl, hk'⟩⟩) (not_t hm)
  | _ => exact plain (fun _ _ => by with_unfolding_all rfl) h
theorem star_two {x y : Expr} (hn : noStar [x] = true) (hy : Nat.beq (kE y) 6 = true) : noStar [x, y] = true := by
  have : noStar [y] = true := by cases y <;> first | rfl | exact Bool.noConfusion hy
  cases x <;> first | exact this | exact Bool.noConfusion hn
theorem sndM (ih : Snd G sc n w) {e : Expr} {K : D → List (List D) → Prop} (h : evM G sc n w vals μ e K) : EvM G sc n vals μ e K := by
  have plain (h : w.e vals μ e (kM0 μ K)) : EvM G sc n vals μ e K := EvM_of (ih.e h)
  cases e with
  | List es p =>
    match es, plain, h with
    | [], plain, h => exact EvM_nil h
    | [x], plain, h =>
      cases hx : Nat.beq (kE x) 5 with
      | true => exact EvM_one (ih.m (condK.t h hx)) (by cases x <;> first | rfl | exact Bool.noConfusion hx)
      | false => exact plain (condK.f h hx)
    | _ :: _ :: _, plain, h => exact plain h
  | Tuple es k p =>
    match es, plain, h with
    | [x, y], plain, h =>
      cases hy : Nat.beq (kE y) 6 with
      | true => exact ifB.use (condK.t h hy) fun hn h => EvM_tup2 ((ih.e h).mono fun d hd => ih.m hd) (star_two hn hy)
      | false => exact plain (condK.f h hy)
    | [], plain, h => exact plain h
    | [_], plain, h => exact plain h
    | _ :: _ :: _ :: _, plain, h => exact plain h
  | _ => exact plain h
theorem sndAs {t : Expr} {d : D} {K : List (Option D) → Prop} (h : wpAs G sc n tb vals μ t d K) : AsK G sc n vals μ t d K := by
  refine tgtK.use h (fun x p e h => ?_) fun es q p e h => ?_
  · subst e
    obtain ⟨t, k, _, _, h⟩ := h.use
    refine ifB.use h fun hc h => ?_
    obtain ⟨kd, hn, hl⟩ := okStore_ok (and_t hc).2
    exact As_name k hn h hl
  · subst e
    exact slotK.use h fun ks hs h => tupK.use h fun ds e h => e ▸ As_tup ks hs h.1 h.2
theorem sndB (ih : Snd G sc n w) {sts : List Stmt} {K : Out → Prop} (h : evB w vals μ sts K) : ExK G sc n vals μ sts K := by
  cases sts with
  | nil => exact Ex_nil h
  | cons st r => exact Ex_cons ((ih.s h).mono fun o ho => by
      cases o with
      | next v m => exact ih.b ho
      | _ => exact ho)
theorem sndX (ih : Snd G sc n w) {c : Expr} {p : Pos} {K : Out → Prop} (h : evS G sc n tb w vals μ (.Expr c p) K) : ExS G sc n vals μ (.Expr c p) K := by
  have out {c : Expr} (h : Stop (ExS G sc n vals μ (.Expr c p) K)) : ExS G sc n vals μ (.Expr c p) K := h.out
  cases c with
  | Call fn args kws pos =>
    match args, kws, h with
    | [elt], [], h =>
      refine fnK.use h (fun x q e h => ?_) fun o a ap e h => ?_
      · subst e
        exact ifB.use h fun hc h => Ex_add ((ih.e h).mono fun d hd => bmK.use hd fun i e h => ⟨i, e, ih.m h⟩) hc (fun env h => by unfold interactive; rw [h]; rfl) (fun _ => rfl) fun _ => rfl
      · subst e
        refine ifB.use h fun hc h5 => ?_
        obtain ⟨hc, h4⟩ := and_t hc
        obtain ⟨hc, h3⟩ := and_t hc
        obtain ⟨h1, h2⟩ := and_t hc
        obtain rfl := eq_of_beq h4
        refine Ex_append ((ih.e h5).mono fun d hd => mtK.use hd fun i e h => ⟨i, e, ih.m h⟩) (fun env => kE_ns h1 _ env) (fun env => ?_) h2 (fun env => ?_) (fun env h => by unfold interactive; rw [h]; rfl) fun _ => rfl
        · rw [star_one h3]; rfl
        · rw [star_one h3]; rfl
    | [], _, h => exact out h
    | [_], _ :: _, h => exact out h
    | _ :: _ :: _, _, h => exact out h
  | _ => exact out h
theorem sndG (ih : Snd G sc n w) {ts : List Expr} {e : Expr} {p : Pos} {K : Out → Prop} (h : evG G sc n tb w vals μ ts e p K) : ExS G sc n vals μ (.Assign ts e p) K := by
  refine oneK.use h fun t et h => tgtK.use h (fun x q e' h => ?_) fun es q tp e' h => ?_
  · subst et; subst e'
    obtain ⟨t, k, _, _, h⟩ := h.use
    refine ifB.use h fun hc h => ?_
    obtain ⟨h1, h2⟩ := and_t hc
    obtain ⟨kd, hn, hl⟩ := okStore_ok (and_t h2).2
    exact Ex_assignM k hn (ih.m h) hl (kE_swap (not_t h1) _ _ _)
  · subst et; subst e'
    refine ifB.use h fun hc h => ?_
    obtain ⟨h1, h2⟩ := and_t hc
    exact Ex_assign_tup ((ih.e h).mono fun d hd => slotK.use hd fun ks hs h => tupK.use h fun ds e h => e ▸ As_tup ks hs h.1 h.2) (fun env => by show swapsWith e (some (.Tuple es q tp)) p.line env = pure false; exact kE_swap (not_t h1) _ _ _) (kE_stores (not_t h2) _ _ _ _)
theorem sndS (ih : Snd G sc n w) {st : Stmt} {K : Out → Prop} (h : evS G sc n tb w vals μ st K) : ExS G sc n vals μ st K := by
  cases st with
  | Assign ts e p =>
    obtain ⟨t, _, _, _, h⟩ := NT.atS.use (tb := tb) (p := p) h
    cases ht : Nat.beq t 10 with
    | true =>
      obtain ⟨v', h1, h2⟩ := h.t ht
      exact Ex_freezeS h1 (sndG ih h2)
    | false => exact sndG ih (h.f ht)
  | Expr c p => exact sndX ih h
  | AugAssign t op e p =>
    refine nameK.use h fun x q et h => ?_
    subst et
    obtain ⟨t, k, _, _, h⟩ := h.use
    refine ifB.use h fun hc h => ?_
    obtain ⟨kd, hn, hl⟩ := okStore_ok (and_t hc).2
    exact optK.use h fun old e hk => Ex_aug k hn (getV_eq e) ((ih.e hk).mono fun d hd => augK.use hd) hl
  | If t a b p => exact Ex_if ((ih.t h).mono fun c hc => ⟨fun e => ih.b (condK.t hc e), fun e => ih.b (condK.f hc e)⟩)
  | Return v p => cases v with
    | none => exact Ex_ret_none h
    | some e => exact Ex_ret (ih.e h)
  | Pass p => exact Ex_pass h
  | Break p => exact Ex_break h
  | Assert t m p => exact Ex_assert ((ih.t h).mono fun c hc => by
      cases c with
      | true => exact ⟨rfl, hc⟩
      | false => exact hc.elim)
  | While t body els p =>
    refine ifB.use h fun he h2 => ?_
    obtain rfl := List.isEmpty_iff.mp he
    obtain ⟨I, ⟨m, h0⟩, turn⟩ := h2
    exact Ex_while I m h0 fun m v mu hI => (ih.t (turn m v mu (fun o => match o with | .next v μ' => ∃ m', m' < m ∧ I m' v μ' | .cont v μ' => ∃ m', m' < m ∧ I m' v μ' | .brk v μ' => K (.next v μ') | .ret d => K (.ret d)) (K (.next v mu))
      (fun _ _ h => h) (fun _ _ h => h) (fun _ h => h) (fun h => h) hI)).mono fun c hc => ⟨fun e => ih.b (condK.t hc e), condK.f hc⟩
  | For t it body els p =>
    refine ifB.use h fun he h0 => ?_
    obtain ⟨h1, h2⟩ := and_t he
    obtain rfl := List.isEmpty_iff.mp h1
    refine Ex_for ((ih.e h0).mono fun d ⟨its, h1, I, h2, h3, h4⟩ => ⟨its, h1, I, h2, h3, fun i d v m e hI => ?_⟩) (kE_set (not_t h2))
    exact (sndAs (h4 i d v m e (fun o => match o with | .next v m => I (i + 1) v m | .cont v m => I (i + 1) v m | .brk v m => K (.next v m) | .ret d => K (.ret d)) (fun _ _ h => h) (fun _ _ h => h) (fun _ h => h) hI)).mono fun v' hb => ih.b hb
  | _ => exact h.out
theorem snd (hG : Good G) (hd : noDbg sc = true) : ∀ f, Snd G sc n (wp G sc n tb f)
  | 0 => ⟨fun h => h.out, fun h => h.out, fun h => h.out, fun h => h.out, fun h => h.out, fun h => h.out, fun h => h.out, fun h => h.out, fun h => h.out⟩
  | f + 1 => have ih := snd hG hd f; ⟨sndE hG hd ih, sndJ ih, sndL ih, sndP ih, sndT ih, sndA ih, sndM ih, sndS ih, sndB ih⟩
end
section
open PySem PySem.W PyProof.Rows
set_option maxRecDepth 100000
set_option maxHeartbeats 1000000
set_option linter.unusedVariables false
open PySem.Calls
variable {G : GX} {n : Nat} {μ : List (List D)} {K : D → Prop}
noncomputable def retK (K : D → Prop) (o : Out) : Prop := match o with
  | .ret d => K d
  | .next _ _ => K .none
  | _ => False
theorem enter {a : Addr} {ps : List Str} {sc : Scope} {body : List Stmt} {tb : NT} (F : FnAt G a ps sc body) (hG : Good G) {ds : List D} (hl : ds.length = ps.length) (hp : pureL ds = true) (h : (wp G sc n tb 300).b (vals0 sc ds) [] body (retK K)) (hd : noDbg sc = true) : CallK G (n + 1) μ (.ref a) ds K :=
  FnAt.call F hl hp ((snd hG hd 300).b h)
theorem run_E (hG : Good G) (tb : NT) {sc : Scope} {vals : List (Option D)} {e : Expr} (h : (wp G sc n tb 300).e vals μ e K) (hd : noDbg sc = true := by decide +kernel) : EvK G sc n vals μ e K := (snd hG hd 300).e h
theorem run_T (hG : Good G) (tb : NT) {sc : Scope} {vals : List (Option D)} {e : Expr} {K : Bool → Prop} (h : (wp G sc n tb 300).t vals μ e K) (hd : noDbg sc = true := by decide +kernel) : EvT G sc n vals μ e K := (snd hG hd 300).t h
theorem run_L (hG : Good G) (tb : NT) {sc : Scope} {vals : List (Option D)} {es : List Expr} {K : List D → Prop} (h : (wp G sc n tb 300).l vals μ es K) (hd : noDbg sc = true := by decide +kernel) : EvL G sc n vals μ es K := (snd hG hd 300).l h
theorem run_B (hG : Good G) (tb : NT) {sc : Scope} {vals : List (Option D)} {sts : List Stmt} {K : Out → Prop} (h : (wp G sc n tb 300).b vals μ sts K) (hd : noDbg sc = true := by decide +kernel) : ExK G sc n vals μ sts K := (snd hG hd 300).b h
theorem lenZ {α : Type} {P : List α → Prop} (h : P []) (l : List α) (e : l.length = 0) : P l := by
  cases l with
  | nil => exact h
  | cons a l => cases e
theorem lenS {α : Type} {P : List α → Prop} {n : Nat} (h : ∀ a l, l.length = n → P (a :: l)) (l : List α) (e : l.length = n + 1) : P l := by
  cases l with
  | nil => cases e
  | cons a l => exact h a l (Nat.succ.inj e)
theorem len1 {α : Type} {P : List α → Prop} (h : ∀ a, P [a]) (l : List α) (e : l.length = 1) : P l := lenS (fun a => lenZ (P := fun l => P (a :: l)) (h a)) l e
theorem len2 {α : Type} {P : List α → Prop} (h : ∀ a b, P [a, b]) (l : List α) (e : l.length = 2) : P l := lenS (fun a => len1 (P := fun l => P (a :: l)) (h a)) l e
theorem len3 {α : Type} {P : List α → Prop} (h : ∀ a b c, P [a, b, c]) (l : List α) (e : l.length = 3) : P l := lenS (fun a => len2 (P := fun l => P (a :: l)) (h a)) l e
theorem len6 {α : Type} {P : List α → Prop} (h : ∀ a b c d e f, P [a, b, c, d, e, f]) (l : List α) (e : l.length = 6) : P l :=
  lenS (fun a => lenS (P := fun l => P (a :: l)) fun b => lenS (P := fun l => P (a :: b :: l)) fun c => len3 (P := fun l => P (a :: b :: c :: l)) (h a b c)) l e
noncomputable def cdName (K : Frag) (c : Addr) : Option Str := match K.lookup c with
  | some o => (match o.data with
    | .fields vs => (match (vs[1]? : Option Value) with
      | some (.str q _) => some q
      | _ => none)
    | _ => none)
  | none => none
theorem fnAtP (hG : Good G) {a c : Addr} {ps : List Str} {st : Option Stmt} {q : Str} {md : Value}
    (hl : ∀ P, (KP P).lookup a = some (kf st q md c)) (hcl : ∀ P, cdName (KP P) c = some q)
    (hsc : okSc (scT st) = true) (hp : okPar (scT st) ps = true) (hbind : ∀ vs, vs.length = ps.length → bindArgs (fdT st q md c) ⟨vs, []⟩ = pure (ps.zip vs)) (hcd : okCode (scT st) c = true) : FnAt G a ps (scT st) (bdT st) := by
  obtain ⟨P, hK⟩ := hG.k
  have hc := hcl P
  unfold cdName at hc
  split at hc
  · rename_i o ho
    split at hc
    · rename_i vs hv
      split at hc
      · rename_i q' t hq
        cases hc
        obtain ⟨cls, dict, data, sl⟩ := o
        cases hv
        exact fnAt (by rw [hK]; exact hl P) rfl rfl (by rw [hK]; exact ho) hq rfl rfl rfl rfl hsc hp hbind hcd
      · cases hc
    · cases hc
  · cases hc
noncomputable def tb55 : NT := .nd (.nd (.nd (.nd (.nd (.nd .lf 10252 (.loc 0) .lf) 10261 (.loc 1) .lf) 11273 (.loc 2) (.nd (.nd .lf 11276 (.loc 3) .lf) 12301 (.loc 4) .lf)) 13321 (.loc 5) (.nd (.nd (.nd .lf 13325 (.loc 6) .lf) 13330 (.loc 7) .lf) 14350 (.loc 8) (.nd (.nd .lf 14358 (.loc 0) .lf) 15377 (.loc 8) .lf))) 15382 (.loc 2) (.nd (.nd (.nd (.nd .lf 16401 (.loc 6) .lf) 16405 (.loc 6) .lf) 17425 (.loc 5) (.nd (.nd .lf 17429 (.loc 5) .lf) 18451 (.loc 8) .lf)) 18456 (.loc 3) (.nd (.nd (.nd .lf 19473 (.loc 6) .lf) 19477 (.loc 6) .lf) 20498 (.loc 7) (.nd (.nd .lf 20503 (.loc 7) .lf) 21524 (.loc 5) .lf)))) 21531 (.blt 10 0) (.nd (.nd (.nd (.nd (.nd .lf 21537 (.loc 4) .lf) 22553 (.no) .lf) 22561 (.loc 4) (.nd (.nd .lf 22572 (.loc 5) .lf) 22578 (.blt 10 0) .lf)) 22584 (.loc 4) (.nd (.nd (.nd .lf 23573 (.loc 4) .lf) 23575 (.loc 5) .lf) 23584 (.loc 4) (.nd (.nd .lf 23586 (.loc 5) .lf) 24593 (.loc 5) .lf))) 27660 (.loc 0) (.nd (.nd (.nd (.nd .lf 27666 (.loc 6) .lf) 28684 (.loc 0) .lf) 28692 (.loc 7) (.nd (.nd .lf 29708 (.loc 0) .lf) 29722 (.typ 11 2) .lf)) 29728 (.loc 4) (.nd (.nd (.nd .lf 29732 (.loc 5) .lf) 30732 (.loc 0) .lf) 30748 (.blt 10 0) (.nd .lf 30754 (.loc 4) .lf))))
noncomputable def tb62 : NT := .nd (.nd (.nd .lf 33805 (.loc 1) .lf) 33815 (.loc 2) (.nd .lf 33822 (.loc 0) .lf)) 34834 (.blt 3 1) (.nd (.nd .lf 34838 (.blt 4 0) .lf) 34844 (.loc 1) (.nd .lf 34859 (.loc 2) .lf))
noncomputable def tb69 : NT := .nd (.nd (.nd (.nd (.nd .lf 37901 (.loc 2) .lf) 37911 (.loc 3) .lf) 37918 (.loc 0) (.nd .lf 38922 (.loc 4) .lf)) 39949 (.loc 5) (.nd (.nd (.nd .lf 39958 (.typ 6 0) .lf) 39966 (.loc 1) .lf) 39971 (.blt 7 0) (.nd .lf 39977 (.loc 2) .lf))) 40974 (.loc 4) (.nd (.nd (.nd (.nd .lf 40979 (.loc 4) .lf) 40983 (.loc 5) .lf) 40994 (.loc 1) (.nd .lf 41002 (.loc 2) .lf)) 41004 (.loc 5) (.nd (.nd (.nd .lf 42007 (.loc 3) .lf) 42017 (.loc 1) .lf) 42023 (.loc 4) (.nd .lf 42030 (.loc 0) .lf)))
noncomputable def tb83 : NT := .nd (.nd (.nd (.nd (.nd .lf 48137 (.loc 2) .lf) 48143 (.blt 5 1) .lf) 48148 (.loc 0) (.nd (.nd .lf 48179 (.loc 1) .lf) 49161 (.loc 3) .lf)) 50190 (.loc 4) (.nd (.nd (.nd .lf 50199 (.typ 6 0) .lf) 50204 (.loc 2) .lf) 51219 (.loc 0) (.nd .lf 51235 (.loc 4) .lf))) 51245 (.loc 1) (.nd (.nd (.nd (.nd .lf 51261 (.loc 4) .lf) 52241 (.loc 3) .lf) 52248 (.app) (.nd .lf 52252 (.loc 4) .lf)) 52258 (.loc 0) (.nd (.nd (.nd .lf 52274 (.loc 4) .lf) 52282 (.loc 1) .lf) 52298 (.loc 4) (.nd .lf 53264 (.loc 3) .lf)))
noncomputable def tb97 : NT := .nd (.nd (.nd (.nd (.nd .lf 59401 (.loc 2) .lf) 59407 (.blt 5 1) .lf) 59412 (.loc 0) (.nd (.nd .lf 59443 (.loc 1) .lf) 60425 (.loc 3) .lf)) 61454 (.loc 4) (.nd (.nd (.nd .lf 61463 (.typ 6 0) .lf) 61468 (.loc 2) .lf) 62483 (.loc 0) (.nd .lf 62499 (.loc 4) .lf))) 62509 (.loc 1) (.nd (.nd (.nd (.nd .lf 62525 (.loc 4) .lf) 63505 (.loc 3) .lf) 63512 (.app) (.nd .lf 63516 (.loc 4) .lf)) 63522 (.loc 0) (.nd (.nd (.nd .lf 63538 (.loc 4) .lf) 63546 (.loc 1) .lf) 63562 (.loc 4) (.nd .lf 64528 (.loc 3) .lf)))
noncomputable def tb123 : NT := .nd (.nd (.nd (.nd .lf 74760 (.loc 1) .lf) 74769 (.typ 3 3) .lf) 75785 (.loc 2) (.nd (.nd .lf 75798 (.fn 4 2) .lf) 75802 (.loc 0) .lf)) 75808 (.loc 1) (.nd (.nd (.nd .lf 75813 (.str [46]) .lf) 76833 (.fn 5 3) .lf) 76839 (.loc 2) (.nd .lf 76845 (.loc 1) .lf))
noncomputable def tb135 : NT := .nd (.nd (.nd (.nd .lf 80913 (.blt 1 4) .lf) 80921 (.loc 0) (.nd .lf 80926 (.typ 2 1) .lf)) 81942 (.loc 0) (.nd (.nd .lf 81952 (.meth 1) .lf) 83983 (.loc 0) .lf)) 83989 (.typ 2 1) (.nd (.nd (.nd .lf 83997 (.loc 0) .lf) 84007 (.str [108, 97, 116, 105, 110, 49]) .lf) 85014 (.loc 0) (.nd (.nd .lf 85024 (.meth 1) .lf) 85060 (.str [108, 97, 116, 105, 110, 49]) .lf))
noncomputable def tb142 : NT := .nd (.nd (.nd (.nd (.nd (.nd (.nd (.nd .lf 88071 (.loc 3) .lf) 89095 (.loc 4) .lf) 89101 (.loc 3) (.nd (.nd .lf 89108 (.app) .lf) 90117 (.loc 5) .lf)) 90120 (.loc 6) (.nd (.nd (.nd .lf 90130 (.blt 13 0) .lf) 90134 (.loc 0) .lf) 91147 (.loc 5) (.nd .lf 91151 (.loc 6) .lf))) 92169 (.loc 7) (.nd (.nd (.nd (.nd .lf 92175 (.loc 0) .lf) 92177 (.loc 5) .lf) 93193 (.loc 5) (.nd .lf 93197 (.loc 5) .lf)) 94220 (.loc 7) (.nd (.nd (.nd .lf 94227 (.str [42]) .lf) 95254 (.loc 3) .lf) 95261 (.loc 3) (.nd .lf 95277 (.loc 1) .lf)))) 96275 (.loc 4) (.nd (.nd (.nd (.nd (.nd .lf 96280 (.loc 1) .lf) 97294 (.loc 7) .lf) 97301 (.str [63]) (.nd (.nd .lf 98319 (.loc 4) .lf) 98333 (.loc 2) .lf)) 99342 (.loc 7) (.nd (.nd (.nd .lf 99349 (.str [91]) .lf) 100365 (.loc 8) .lf) 100369 (.loc 5) (.nd .lf 101392 (.loc 8) .lf))) 101396 (.loc 6) (.nd (.nd (.nd (.nd .lf 101404 (.loc 0) .lf) 101406 (.loc 8) .lf) 101414 (.str [33]) (.nd .lf 102417 (.loc 8) .lf)) 102421 (.loc 8) (.nd (.nd (.nd .lf 103440 (.loc 8) .lf) 103444 (.loc 6) .lf) 103452 (.loc 0) (.nd .lf 103454 (.loc 8) .lf))))) 103462 (.str [93]) (.nd (.nd (.nd (.nd (.nd (.nd .lf 104465 (.loc 8) .lf) 104469 (.loc 8) .lf) 105491 (.loc 8) (.nd (.nd .lf 105495 (.loc 6) .lf) 105503 (.loc 0) .lf)) 105505 (.loc 8) (.nd (.nd (.nd .lf 105513 (.str [93]) .lf) 106513 (.loc 8) .lf) 106517 (.loc 8) (.nd .lf 107536 (.loc 8) .lf))) 107541 (.loc 6) (.nd (.nd (.nd (.nd .lf 108563 (.loc 4) .lf) 108569 (.str [92, 91]) .lf) 110613 (.loc 9) (.nd .lf 110619 (.loc 0) .lf)) 110621 (.loc 5) (.nd (.nd (.nd .lf 110623 (.loc 8) .lf) 110624 (.slS) .lf) 111638 (.str [45]) (.nd .lf 111651 (.loc 9) .lf)))) 112665 (.loc 9) (.nd (.nd (.nd (.nd (.nd .lf 112673 (.loc 9) .lf) 112681 (.meth 2) .lf) 112686 (.str [92]) (.nd .lf 112694 (.str [92, 92]) .lf)) 114714 (.loc 10) (.nd (.nd (.nd .lf 115733 (.loc 11) .lf) 115737 (.loc 5) .lf) 115748 (.loc 0) (.nd .lf 115750 (.loc 5) .lf))) 115758 (.str [33]) (.nd (.nd (.nd (.nd .lf 115765 (.loc 5) .lf) 117785 (.loc 11) .lf) 117791 (.loc 0) (.nd .lf 117796 (.meth 3) .lf)) 117800 (.str [45]) (.nd (.nd (.nd .lf 117803 (.loc 11) .lf) 117806 (.loc 8) .lf) 118812 (.loc 11) (.nd .lf 120862 (.loc 10) .lf)))))) 120869 (.app) (.nd (.nd (.nd (.nd (.nd (.nd (.nd .lf 120873 (.loc 0) .lf) 120875 (.loc 5) .lf) 120877 (.loc 11) (.nd (.nd .lf 120878 (.slS) .lf) 121881 (.loc 5) .lf)) 121885 (.loc 11) (.nd (.nd (.nd .lf 122905 (.loc 11) .lf) 122909 (.loc 11) .lf) 123929 (.loc 12) (.nd .lf 123935 (.loc 0) .lf))) 123937 (.loc 5) (.nd (.nd (.nd (.nd .lf 123939 (.loc 8) .lf) 123940 (.slS) .lf) 124956 (.loc 12) (.nd .lf 125982 (.loc 10) .lf)) 125989 (.app) (.nd (.nd (.nd .lf 125995 (.loc 12) .lf) 128030 (.loc 10) .lf) 128041 (.str [45]) (.nd .lf 129049 (.loc 11) .lf)))) 129058 (.typ 14 0) (.nd (.nd (.nd (.nd (.nd .lf 129062 (.blt 13 0) .lf) 129069 (.loc 10) .lf) 130081 (.loc 10) (.nd (.nd .lf 130083 (.loc 11) .lf) 130101 (.loc 10) .lf)) 130103 (.loc 11) (.nd (.nd (.nd .lf 131106 (.loc 10) .lf) 131108 (.loc 11) .lf) 131122 (.loc 10) (.nd .lf 131124 (.loc 11) .lf))) 131134 (.slS) (.nd (.nd (.nd (.nd .lf 131143 (.loc 10) .lf) 131145 (.loc 11) .lf) 131150 (.slS) (.nd .lf 132134 (.loc 10) .lf)) 132136 (.loc 11) (.nd (.nd (.nd .lf 133145 (.loc 9) .lf) 133151 (.str [45]) .lf) 133156 (.no) (.nd .lf 133159 (.loc 1) .lf))))) 133167 (.meth 2) (.nd (.nd (.nd (.nd (.nd (.nd .lf 133172 (.str [92]) .lf) 133180 (.str [92, 92]) .lf) 133189 (.meth 2) (.nd (.nd .lf 133193 (.str [45]) .lf) 133200 (.str [92, 45]) .lf)) 133207 (.loc 1) (.nd (.nd (.nd .lf 133217 (.loc 10) .lf) 134165 (.loc 9) .lf) 134227 (.loc 9) (.nd .lf 135185 (.loc 5) .lf))) 135189 (.loc 8) (.nd (.nd (.nd (.nd .lf 136220 (.loc 9) .lf) 137239 (.loc 4) .lf) 137246 (.str [40, 63, 33, 41]) (.nd .lf 138266 (.loc 9) .lf)) 138273 (.str [33]) (.nd (.nd (.nd .lf 139287 (.loc 4) .lf) 139291 (.str [46]) .lf) 141340 (.loc 9) (.nd .lf 141350 (.str [33]) .lf)))) 142365 (.loc 9) (.nd (.nd (.nd (.nd (.nd .lf 142371 (.str [94]) .lf) 142379 (.loc 9) .lf) 142383 (.slS) (.nd .lf 143390 (.loc 9) .lf)) 143401 (.str [94]) (.nd (.nd (.nd .lf 143406 (.str [91]) .lf) 144413 (.loc 9) .lf) 144420 (.str [92]) (.nd .lf 144428 (.loc 9) .lf))) 145431 (.loc 4) (.nd (.nd (.nd (.nd .lf 145435 (.str [91]) .lf) 145441 (.loc 9) .lf) 145443 (.str [93]) (.nd .lf 147471 (.loc 4) .lf)) 147478 (.fn 16 1) (.nd (.nd (.nd .lf 147480 (.loc 7) .lf) 148492 (.loc 5) .lf) 148497 (.loc 6) (.nd .lf 149518 (.loc 3) .lf))))))
noncomputable def tb149 : NT := .nd (.nd (.nd (.nd (.nd (.nd (.nd .lf 151559 (.loc 2) .lf) 152583 (.loc 3) .lf) 152589 (.loc 2) (.nd .lf 152596 (.app) .lf)) 153605 (.loc 4) (.nd (.nd .lf 153608 (.loc 5) .lf) 153618 (.blt 7 0) (.nd .lf 153622 (.loc 0) .lf))) 154635 (.loc 4) (.nd (.nd (.nd .lf 154639 (.loc 5) .lf) 154647 (.loc 0) (.nd .lf 154649 (.loc 4) .lf)) 154662 (.loc 1) (.nd (.nd .lf 155659 (.loc 3) .lf) 155663 (.loc 0) (.nd .lf 155665 (.loc 4) .lf)))) 156681 (.loc 4) (.nd (.nd (.nd (.nd .lf 157707 (.loc 4) .lf) 157711 (.loc 5) (.nd .lf 158738 (.loc 0) .lf)) 158740 (.loc 4) (.nd (.nd .lf 158749 (.loc 1) .lf) 159753 (.loc 4) (.nd .lf 160780 (.loc 4) .lf))) 160785 (.loc 5) (.nd (.nd (.nd .lf 161807 (.loc 3) .lf) 161812 (.str [46, 42]) (.nd .lf 163858 (.loc 0) .lf)) 163860 (.loc 4) (.nd (.nd .lf 163873 (.loc 1) .lf) 164877 (.loc 6) (.nd .lf 165903 (.loc 4) .lf))))) 165907 (.loc 5) (.nd (.nd (.nd (.nd (.nd .lf 165915 (.loc 0) .lf) 165917 (.loc 4) (.nd .lf 165930 (.loc 1) .lf)) 166929 (.loc 6) (.nd (.nd .lf 166936 (.app) .lf) 166940 (.loc 0) (.nd .lf 166942 (.loc 4) .lf))) 167949 (.loc 4) (.nd (.nd (.nd .lf 168973 (.loc 6) .lf) 168978 (.str []) (.nd .lf 168983 (.meth 0) .lf)) 168989 (.loc 6) (.nd (.nd .lf 169996 (.loc 4) .lf) 170001 (.loc 5) (.nd .lf 171023 (.loc 3) .lf)))) 171028 (.str [46, 42]) (.nd (.nd (.nd (.nd .lf 172047 (.loc 3) .lf) 172053 (.loc 6) (.nd .lf 174095 (.loc 3) .lf)) 174104 (.str [40, 63, 62, 46, 42, 63]) (.nd (.nd .lf 174110 (.loc 6) .lf) 174112 (.str [41]) (.nd .lf 175116 (.loc 4) .lf))) 175121 (.loc 5) (.nd (.nd (.nd .lf 176135 (.loc 2) .lf) 176140 (.str []) (.nd .lf 176145 (.meth 0) .lf)) 176149 (.loc 2) (.nd (.nd .lf 177169 (.str [40, 63, 115, 58]) .lf) 177173 (.loc 2) (.nd .lf 177178 (.str [41, 92, 90]) .lf)))))
noncomputable def tb156 : NT := .nd (.nd (.nd (.nd .lf 180235 (.loc 0) .lf) 180237 (.loc 1) .lf) 180239 (.loc 1) (.nd (.nd .lf 180244 (.slS) .lf) 180252 (.str [92]) .lf)) 181257 (.loc 1) (.nd (.nd (.nd .lf 182288 (.loc 0) .lf) 182290 (.loc 1) .lf) 182292 (.loc 1) (.nd (.nd .lf 182297 (.slS) .lf) 182300 (.loc 1) .lf))
noncomputable def tb163 : NT := .nd (.nd (.nd (.nd (.nd (.nd (.nd .lf 184328 (.loc 2) .lf) 184335 (.loc 0) .lf) 184337 (.loc 1) (.nd (.nd .lf 184339 (.loc 1) .lf) 184344 (.slS) .lf)) 185355 (.loc 2) (.nd (.nd (.nd .lf 185362 (.str [46]) .lf) 186395 (.loc 1) .lf) 187403 (.loc 2) (.nd (.nd .lf 187411 (.str [92]) .lf) 188428 (.loc 3) .lf))) 188435 (.loc 0) (.nd (.nd (.nd (.nd .lf 188437 (.loc 1) .lf) 188443 (.loc 1) .lf) 188448 (.slS) (.nd (.nd .lf 189455 (.loc 3) .lf) 189461 (.str []) .lf)) 189468 (.str [48]) (.nd (.nd (.nd .lf 189476 (.loc 3) .lf) 189483 (.str [57]) .lf) 189490 (.str [65]) (.nd (.nd .lf 189498 (.loc 3) .lf) 189505 (.str [90]) .lf)))) 189513 (.str [97]) (.nd (.nd (.nd (.nd (.nd .lf 189521 (.loc 3) .lf) 189528 (.str [122]) .lf) 191517 (.loc 3) (.nd (.nd .lf 191523 (.loc 3) .lf) 191528 (.loc 1) .lf)) 192523 (.loc 2) (.nd (.nd (.nd .lf 192530 (.str [91]) .lf) 193551 (.loc 2) .lf) 193558 (.str []) (.nd (.nd .lf 193563 (.str [94]) .lf) 193568 (.str [36]) .lf))) 193573 (.str [42]) (.nd (.nd (.nd (.nd .lf 193578 (.str [43]) .lf) 193583 (.str [63]) .lf) 193588 (.str [123]) (.nd (.nd .lf 193593 (.str [125]) .lf) 193598 (.str [124]) .lf)) 193603 (.str [40]) (.nd (.nd (.nd .lf 193608 (.str [41]) .lf) 195613 (.loc 2) .lf) 195619 (.loc 2) (.nd (.nd .lf 195624 (.loc 1) .lf) 196613 (.loc 1) .lf))))) 197642 (.loc 4) (.nd (.nd (.nd (.nd (.nd (.nd .lf 197649 (.loc 0) .lf) 197651 (.loc 1) .lf) 197653 (.loc 1) (.nd (.nd .lf 197658 (.slS) .lf) 197665 (.str [94]) .lf)) 198669 (.loc 4) (.nd (.nd (.nd .lf 199689 (.loc 1) .lf) 200713 (.loc 5) .lf) 201743 (.loc 5) (.nd (.nd .lf 201757 (.loc 0) .lf) 201759 (.loc 1) .lf))) 201761 (.loc 1) (.nd (.nd (.nd (.nd .lf 201766 (.slS) .lf) 201773 (.str [93]) .lf) 202763 (.loc 6) (.nd (.nd .lf 202766 (.loc 1) .lf) 202778 (.fn 8 4) .lf)) 202783 (.loc 0) (.nd (.nd (.nd .lf 202786 (.loc 1) .lf) 203788 (.loc 7) .lf) 203794 (.loc 6) (.nd (.nd .lf 204815 (.loc 0) .lf) 204817 (.loc 1) .lf)))) 204819 (.loc 1) (.nd (.nd (.nd (.nd (.nd .lf 204824 (.slS) .lf) 204831 (.str [45]) .lf) 204840 (.loc 0) (.nd (.nd .lf 204842 (.loc 1) .lf) 204848 (.loc 1) .lf)) 204853 (.slS) (.nd (.nd (.nd .lf 204860 (.str [93]) .lf) 205840 (.loc 7) .lf) 205843 (.loc 1) (.nd (.nd .lf 205855 (.fn 8 4) .lf) 205860 (.loc 0) .lf))) 205863 (.loc 1) (.nd (.nd (.nd (.nd .lf 206862 (.loc 6) .lf) 206868 (.str []) .lf) 206876 (.loc 7) (.nd (.nd .lf 206882 (.loc 6) .lf) 208909 (.loc 5) .lf)) 208916 (.app) (.nd (.nd (.nd .lf 208921 (.loc 6) .lf) 208927 (.loc 7) .lf) 209938 (.loc 4) (.nd (.nd .lf 209945 (.loc 5) .lf) 209948 (.loc 1) .lf)))))
noncomputable def tb170 : NT := .nd (.nd (.nd (.nd (.nd (.nd .lf 211979 (.loc 0) .lf) 211983 (.slS) (.nd .lf 211993 (.str [40, 63, 115, 58]) .lf)) 212001 (.loc 0) (.nd (.nd .lf 212006 (.slS) .lf) 212016 (.str [41, 92, 90]) (.nd .lf 214024 (.loc 0) .lf))) 214031 (.loc 0) (.nd (.nd (.nd .lf 214037 (.slS) .lf) 215050 (.loc 1) (.nd .lf 216072 (.loc 2) .lf)) 217093 (.loc 3) (.nd (.nd .lf 218123 (.loc 3) .lf) 218129 (.blt 5 0) .lf))) 218134 (.loc 0) (.nd (.nd (.nd (.nd .lf 219155 (.loc 2) .lf) 219164 (.loc 0) (.nd .lf 219166 (.loc 3) .lf)) 219168 (.loc 3) (.nd (.nd .lf 219173 (.slS) .lf) 219185 (.str [40, 63, 62, 46, 42, 63]) .lf)) 220178 (.loc 1) (.nd (.nd (.nd .lf 220185 (.app) .lf) 221200 (.loc 2) (.nd .lf 222221 (.loc 3) .lf)) 223249 (.loc 2) (.nd (.nd .lf 223258 (.loc 0) .lf) 223260 (.loc 3) .lf)))) 223262 (.loc 3) (.nd (.nd (.nd (.nd (.nd .lf 223267 (.slS) .lf) 223274 (.str [41]) (.nd .lf 224274 (.loc 1) .lf)) 224281 (.app) (.nd (.nd .lf 225296 (.loc 2) .lf) 226317 (.loc 3) (.nd .lf 227349 (.loc 2) .lf))) 227358 (.loc 0) (.nd (.nd (.nd .lf 227360 (.loc 3) .lf) 227362 (.loc 3) (.nd .lf 227367 (.slS) .lf)) 227375 (.str [46, 42]) (.nd (.nd .lf 228370 (.loc 1) .lf) 228377 (.app) .lf))) 229389 (.loc 3) (.nd (.nd (.nd (.nd .lf 231439 (.loc 4) .lf) 231450 (.fn 6 5) (.nd .lf 231455 (.loc 0) .lf)) 231458 (.loc 3) (.nd (.nd .lf 232466 (.loc 4) .lf) 234514 (.loc 1) .lf)) 234528 (.app) (.nd (.nd (.nd .lf 234532 (.loc 4) .lf) 234536 (.two) (.nd .lf 235533 (.loc 3) .lf)) 235539 (.loc 4) (.nd (.nd .lf 236555 (.loc 2) .lf) 238609 (.loc 1) .lf))))
noncomputable def tb175 : NT := .nd (.nd (.nd (.nd (.nd .lf 240654 (.loc 3) .lf) 240661 (.loc 4) .lf) 240669 (.loc 0) (.nd .lf 241676 (.loc 5) .lf)) 241683 (.loc 1) (.nd (.nd (.nd .lf 241689 (.loc 2) .lf) 241695 (.loc 2) .lf) 241700 (.slS) (.nd .lf 242703 (.loc 5) .lf))) 242709 (.str []) (.nd (.nd (.nd (.nd .lf 242719 (.loc 3) .lf) 242729 (.loc 1) .lf) 242738 (.loc 1) (.nd .lf 242747 (.loc 4) .lf)) 242755 (.loc 1) (.nd (.nd .lf 242766 (.loc 2) .lf) 242774 (.loc 1) (.nd .lf 244749 (.loc 2) .lf)))
noncomputable def tb180 : NT := .nd (.nd (.nd (.nd (.nd (.nd .lf 247818 (.loc 2) .lf) 248844 (.loc 3) (.nd .lf 248850 (.loc 4) .lf)) 248860 (.loc 0) (.nd (.nd .lf 249868 (.loc 5) .lf) 249874 (.blt 8 0) (.nd .lf 249879 (.loc 1) .lf))) 249886 (.blt 8 0) (.nd (.nd (.nd .lf 249891 (.loc 4) .lf) 250895 (.loc 3) (.nd .lf 251922 (.loc 2) .lf)) 251931 (.loc 1) (.nd (.nd .lf 251937 (.blt 3 0) .lf) 251942 (.loc 4) .lf))) 251953 (.loc 1) (.nd (.nd (.nd (.nd .lf 251963 (.loc 2) .lf) 251975 (.fn 2 7) (.nd .lf 251980 (.loc 4) .lf)) 251986 (.loc 5) (.nd (.nd .lf 251993 (.loc 1) .lf) 252945 (.loc 3) .lf)) 253971 (.loc 7) (.nd (.nd (.nd .lf 254997 (.loc 6) .lf) 255007 (.loc 2) (.nd .lf 256027 (.loc 6) .lf)) 256035 (.loc 5) (.nd (.nd .lf 256053 (.fn 9 7) .lf) 256058 (.loc 4) .lf)))) 256064 (.loc 1) (.nd (.nd (.nd (.nd (.nd .lf 256071 (.loc 6) .lf) 257049 (.loc 6) (.nd .lf 258072 (.loc 6) .lf)) 258080 (.loc 5) (.nd (.nd .lf 259099 (.loc 7) .lf) 259106 (.app) .lf)) 259112 (.loc 6) (.nd (.nd (.nd .lf 259118 (.blt 8 0) .lf) 259123 (.loc 4) (.nd .lf 260114 (.loc 2) .lf)) 260124 (.loc 7) (.nd (.nd .lf 261139 (.loc 2) .lf) 262162 (.loc 2) .lf))) 262171 (.loc 1) (.nd (.nd (.nd (.nd .lf 262177 (.blt 3 0) .lf) 262182 (.loc 4) (.nd .lf 262193 (.loc 1) .lf)) 262202 (.typ 10 0) (.nd (.nd .lf 262206 (.blt 11 2) .lf) 262213 (.loc 2) .lf)) 262220 (.loc 5) (.nd (.nd (.nd .lf 262237 (.fn 2 7) .lf) 262242 (.loc 4) (.nd .lf 262248 (.loc 5) .lf)) 262255 (.loc 1) (.nd (.nd .lf 263185 (.loc 2) .lf) 1308700 (.frz) .lf))))
noncomputable def tb185 : NT := .nd (.nd (.nd (.nd .lf 265231 (.blt 2 3) .lf) 265234 (.loc 1) .lf) 265250 (.loc 1) (.nd .lf 265260 (.loc 3) .lf)) 265262 (.loc 1) (.nd (.nd (.nd .lf 265266 (.slS) .lf) 265286 (.loc 1) .lf) 265293 (.loc 1) (.nd .lf 265302 (.typ 1 0) .lf))
noncomputable def tb192 : NT := .nd (.nd (.nd .lf 267281 (.loc 0) .lf) 267301 (.blt 2 0) (.nd .lf 267306 (.loc 1) .lf)) 267320 (.fn 3 8) (.nd (.nd .lf 267327 (.loc 0) .lf) 267333 (.loc 1) .lf)
noncomputable def tb199 : NT := .nd (.nd (.nd .lf 269332 (.fn 2 10) .lf) 269344 (.fn 3 6) .lf) 269354 (.fn 4 0) (.nd (.nd .lf 269362 (.loc 0) .lf) 269370 (.loc 1) .lf)
noncomputable def tb206 : NT := .nd (.nd (.nd (.nd .lf 271370 (.loc 2) .lf) 272396 (.loc 3) .lf) 272404 (.loc 0) (.nd (.nd .lf 273422 (.loc 2) .lf) 274450 (.loc 3) .lf)) 274458 (.str [9]) (.nd (.nd (.nd .lf 274469 (.loc 2) .lf) 274476 (.loc 1) .lf) 275474 (.loc 2) (.nd .lf 276497 (.loc 2) .lf))
noncomputable def tb211 : NT := .nd (.nd (.nd (.nd (.nd (.nd (.nd .lf 278537 (.loc 6) .lf) 278546 (.typ 10 0) .lf) 278550 (.blt 11 0) (.nd .lf 278556 (.loc 2) .lf)) 279572 (.fn 12 10) (.nd (.nd (.nd .lf 279579 (.loc 3) .lf) 279581 (.loc 6) .lf) 279591 (.loc 0) (.nd .lf 279597 (.str [44]) .lf))) 279608 (.loc 6) (.nd (.nd (.nd (.nd .lf 279616 (.loc 1) .lf) 281610 (.loc 7) .lf) 281616 (.str [42]) (.nd .lf 281621 (.meth 0) .lf)) 281628 (.loc 2) (.nd (.nd .lf 281630 (.loc 1) .lf) 281637 (.loc 1) (.nd .lf 281645 (.loc 1) .lf)))) 282635 (.loc 8) (.nd (.nd (.nd (.nd (.nd .lf 282641 (.str [42]) .lf) 282646 (.meth 0) .lf) 282653 (.loc 2) (.nd .lf 282655 (.loc 1) .lf)) 282662 (.loc 1) (.nd (.nd (.nd .lf 282670 (.loc 1) .lf) 282676 (.slS) .lf) 283669 (.fn 13 11) (.nd .lf 283673 (.str [42]) .lf))) 283682 (.loc 7) (.nd (.nd (.nd (.nd .lf 283688 (.str [42]) .lf) 283697 (.loc 0) .lf) 283703 (.str [44]) (.nd .lf 285713 (.fn 13 11) .lf)) 285717 (.str [42]) (.nd (.nd .lf 285727 (.loc 8) .lf) 285733 (.str [42]) (.nd .lf 285742 (.loc 0) .lf))))) 285748 (.str [44]) (.nd (.nd (.nd (.nd (.nd (.nd .lf 285761 (.blt 11 0) .lf) 285766 (.loc 1) .lf) 287752 (.loc 9) (.nd .lf 287770 (.str [97, 116, 32, 116, 97, 98, 32, 115, 105, 122, 101, 115, 32]) .lf)) 287777 (.blt 11 0) (.nd (.nd (.nd .lf 287782 (.loc 1) .lf) 287807 (.str [97, 116, 32, 116, 97, 98, 32, 115, 105, 122, 101, 32]) .lf) 288789 (.fn 13 11) (.nd .lf 288794 (.loc 9) .lf))) 288801 (.str [44, 32]) (.nd (.nd (.nd (.nd .lf 288806 (.meth 0) .lf) 288811 (.typ 2 1) .lf) 288813 (.loc 1) (.nd .lf 288820 (.loc 1) .lf)) 288828 (.loc 1) (.nd (.nd .lf 288839 (.loc 0) .lf) 290833 (.fn 13 11) (.nd .lf 290847 (.str [97, 116, 32, 116, 97, 98, 32, 115, 105, 122, 101]) .lf)))) 290855 (.loc 4) (.nd (.nd (.nd (.nd (.nd .lf 290864 (.loc 0) .lf) 290878 (.loc 1) .lf) 292881 (.fn 13 11) (.nd .lf 292895 (.str [97, 116, 32, 116, 97, 98, 32, 115, 105, 122, 101]) .lf)) 292903 (.loc 4) (.nd (.nd (.nd .lf 292914 (.str [91, 49, 45, 57, 93, 42]) .lf) 292923 (.loc 0) .lf) 292936 (.blt 11 0) (.nd .lf 292941 (.loc 1) .lf))) 294933 (.fn 13 11) (.nd (.nd (.nd (.nd .lf 294948 (.str [97, 116, 32, 116, 97, 98, 32, 115, 105, 122, 101, 115]) .lf) 294956 (.loc 4) .lf) 294967 (.str [91, 49, 45, 57, 93, 42]) (.nd .lf 294975 (.loc 5) .lf)) 294986 (.str [42, 91, 48, 45, 57, 93]) (.nd (.nd .lf 294995 (.loc 0) .lf) 295004 (.blt 11 0) (.nd .lf 295009 (.loc 1) .lf)))))
noncomputable def tb216 : NT := .nd (.nd (.nd (.nd (.nd (.nd (.nd (.nd .lf 296966 (.loc 1) .lf) 296970 (.loc 2) .lf) 296974 (.loc 3) (.nd .lf 296978 (.loc 4) .lf)) 296992 (.fn 22 9) (.nd (.nd .lf 296999 (.loc 0) .lf) 297993 (.loc 5) (.nd .lf 297998 (.loc 1) .lf))) 298003 (.loc 2) (.nd (.nd (.nd .lf 298008 (.loc 3) .lf) 298013 (.loc 4) (.nd .lf 299016 (.loc 6) .lf)) 299022 (.loc 1) (.nd (.nd .lf 299030 (.loc 2) .lf) 299039 (.loc 3) (.nd .lf 299044 (.slL) .lf)))) 300042 (.loc 7) (.nd (.nd (.nd (.nd .lf 300048 (.loc 4) .lf) 300056 (.loc 2) (.nd .lf 300070 (.loc 4) .lf)) 300080 (.slL) (.nd (.nd .lf 301064 (.loc 8) .lf) 301069 (.loc 3) (.nd .lf 302090 (.loc 9) .lf))) 302095 (.loc 1) (.nd (.nd (.nd .lf 303113 (.loc 10) .lf) 303118 (.str []) (.nd .lf 303123 (.meth 0) .lf)) 303128 (.str [32]) (.nd (.nd .lf 303134 (.loc 1) .lf) 303141 (.str [9]) (.nd .lf 303149 (.loc 1) .lf))))) 303157 (.loc 6) (.nd (.nd (.nd (.nd (.nd (.nd .lf 303165 (.str [32]) .lf) 303172 (.loc 8) .lf) 304138 (.loc 11) (.nd .lf 304143 (.str []) .lf)) 304148 (.meth 0) (.nd (.nd .lf 304153 (.str [32]) .lf) 304159 (.loc 1) (.nd .lf 304166 (.str [9]) .lf))) 304174 (.loc 1) (.nd (.nd (.nd .lf 304184 (.loc 7) .lf) 304192 (.str [32]) (.nd .lf 304201 (.loc 9) .lf)) 305160 (.loc 12) (.nd (.nd .lf 305166 (.blt 23 1) .lf) 305171 (.loc 6) (.nd .lf 305180 (.loc 7) .lf)))) 305188 (.loc 8) (.nd (.nd (.nd (.nd .lf 305196 (.loc 9) .lf) 306185 (.loc 13) (.nd .lf 306192 (.str [32]) .lf)) 306199 (.str [91, 32, 93]) (.nd (.nd .lf 306208 (.str [91, 32, 45, 43, 93]) .lf) 306215 (.loc 5) (.nd .lf 307209 (.loc 14) .lf))) 307216 (.str [44]) (.nd (.nd (.nd .lf 307223 (.str [91, 44, 93]) .lf) 307233 (.str [91, 33, 48, 45, 57, 93]) (.nd .lf 307240 (.loc 5) .lf)) 308231 (.loc 15) (.nd (.nd .lf 308250 (.loc 10) .lf) 308257 (.str [120]) (.nd .lf 308261 (.str []) .lf)))))) 308268 (.str [10, 32]) (.nd (.nd (.nd (.nd (.nd (.nd (.nd .lf 308275 (.loc 5) .lf) 309255 (.loc 16) .lf) 309275 (.loc 11) (.nd .lf 309281 (.str []) .lf)) 309287 (.str [35, 32]) (.nd (.nd .lf 309294 (.str [120, 9]) .lf) 309301 (.loc 5) (.nd .lf 310283 (.loc 17) .lf))) 310292 (.loc 1) (.nd (.nd (.nd .lf 310305 (.fn 2 12) .lf) 310311 (.loc 3) (.nd .lf 310317 (.loc 1) .lf)) 310331 (.fn 2 12) (.nd (.nd .lf 310338 (.loc 4) .lf) 310344 (.loc 1) (.nd .lf 310355 (.loc 1) .lf)))) 310364 (.typ 25 0) (.nd (.nd (.nd (.nd .lf 310372 (.loc 12) .lf) 311306 (.loc 18) (.nd .lf 311313 (.loc 1) .lf)) 311324 (.loc 1) (.nd (.nd .lf 311335 (.loc 17) .lf) 311342 (.loc 1) (.nd .lf 311352 (.loc 1) .lf))) 312330 (.loc 19) (.nd (.nd (.nd .lf 312337 (.loc 1) .lf) 312348 (.loc 1) (.nd .lf 312359 (.loc 17) .lf)) 312366 (.loc 1) (.nd (.nd .lf 312376 (.loc 1) .lf) 313353 (.loc 20) (.nd .lf 313362 (.loc 3) .lf))))) 313368 (.typ 2 1) (.nd (.nd (.nd (.nd (.nd .lf 313370 (.loc 1) .lf) 313379 (.loc 4) (.nd .lf 313385 (.loc 1) .lf)) 313394 (.typ 25 0) (.nd (.nd .lf 313399 (.loc 12) .lf) 314378 (.loc 21) (.nd .lf 314393 (.fn 2 6) .lf))) 314403 (.fn 3 0) (.nd (.nd (.nd .lf 314407 (.str [42]) .lf) 314414 (.loc 1) (.nd .lf 314420 (.str [42]) .lf)) 314431 (.loc 1) (.nd (.nd .lf 314440 (.loc 20) .lf) 315412 (.fn 26 13) (.nd .lf 315429 (.fn 27 14) .lf)))) 315433 (.loc 15) (.nd (.nd (.nd (.nd .lf 315455 (.loc 16) .lf) 315465 (.loc 18) (.nd .lf 315472 (.loc 20) .lf)) 315480 (.loc 21) (.nd (.nd .lf 315487 (.loc 13) .lf) 315494 (.loc 14) (.nd .lf 317460 (.fn 26 13) .lf))) 317477 (.fn 27 14) (.nd (.nd (.nd .lf 317481 (.loc 15) .lf) 317502 (.loc 16) (.nd .lf 317512 (.loc 19) .lf)) 317519 (.loc 20) (.nd (.nd .lf 317527 (.loc 21) .lf) 317534 (.loc 13) (.nd .lf 317541 (.loc 14) .lf))))))
noncomputable def sc111 : Scope := scT (stT 4)
noncomputable def bd111 : List Stmt := bdT (stT 4)
theorem at111 (hG : Good G) : FnAt G 111 ["w"] sc111 bd111 := fnAtP hG (st := stT 4) (c := 110) (q := "format_witnesses") (md := vS "cpy313.tabnanny" 289) (fun P => by kernel_rfl) (fun P => by kernel_rfl) (by kernel_rfl) (by kernel_rfl) (len1 fun _ => by kernel_rfl) (by kernel_rfl)
noncomputable def sc123 : Scope := scT (stT 7)
noncomputable def bd123 : List Stmt := bdT (stT 7)
theorem at123 (hG : Good G) : FnAt G 123 ["pat"] sc123 bd123 := fnAtP hG (st := stT 7) (c := 122) (q := "translate") (md := vS "cpy313.fnmatch" 404) (fun P => by kernel_rfl) (fun P => by kernel_rfl) (by kernel_rfl) (by kernel_rfl) (len1 fun _ => by kernel_rfl) (by kernel_rfl)
theorem en123 (hG : Good G) {ds : List D} (hl : ds.length = 1) (hp : pureL ds = true) (h : (wp G sc123 n tb123 300).b (vals0 sc123 ds) [] bd123 (retK K)) : CallK G (n + 1) μ (.ref 123) ds K := enter (at123 hG) hG hl hp h (by decide +kernel)
noncomputable def sc135 : Scope := scT (stT 10)
noncomputable def bd135 : List Stmt := bdT (stT 10)
theorem at135 (hG : Good G) : FnAt G 135 ["pattern"] sc135 bd135 := fnAtP hG (st := stT 10) (c := 134) (q := "escape") (md := vS "re" 453) (fun P => by kernel_rfl) (fun P => by kernel_rfl) (by kernel_rfl) (by kernel_rfl) (len1 fun _ => by kernel_rfl) (by kernel_rfl)
theorem en135 (hG : Good G) {ds : List D} (hl : ds.length = 1) (hp : pureL ds = true) (h : (wp G sc135 n tb135 300).b (vals0 sc135 ds) [] bd135 (retK K)) : CallK G (n + 1) μ (.ref 135) ds K := enter (at135 hG) hG hl hp h (by decide +kernel)
noncomputable def sc142 : Scope := scT (stT 12)
noncomputable def bd142 : List Stmt := bdT (stT 12)
theorem at142 (hG : Good G) : FnAt G 142 ["pat", "STAR", "QUESTION_MARK"] sc142 bd142 := fnAtP hG (st := stT 12) (c := 141) (q := "_translate") (md := vS "cpy313.fnmatch" 608) (fun P => by kernel_rfl) (fun P => by kernel_rfl) (by kernel_rfl) (by kernel_rfl) (len3 fun _ _ _ => by kernel_rfl) (by kernel_rfl)
theorem en142 (hG : Good G) {ds : List D} (hl : ds.length = 3) (hp : pureL ds = true) (h : (wp G sc142 n tb142 300).b (vals0 sc142 ds) [] bd142 (retK K)) : CallK G (n + 1) μ (.ref 142) ds K := enter (at142 hG) hG hl hp h (by decide +kernel)
noncomputable def sc149 : Scope := scT (stT 13)
noncomputable def bd149 : List Stmt := bdT (stT 13)
theorem at149 (hG : Good G) : FnAt G 149 ["inp", "STAR"] sc149 bd149 := fnAtP hG (st := stT 13) (c := 148) (q := "_join_translated_parts") (md := vS "cpy313.fnmatch" 608) (fun P => by kernel_rfl) (fun P => by kernel_rfl) (by kernel_rfl) (by kernel_rfl) (len2 fun _ _ => by kernel_rfl) (by kernel_rfl)
theorem en149 (hG : Good G) {ds : List D} (hl : ds.length = 2) (hp : pureL ds = true) (h : (wp G sc149 n tb149 300).b (vals0 sc149 ds) [] bd149 (retK K)) : CallK G (n + 1) μ (.ref 149) ds K := enter (at149 hG) hG hl hp h (by decide +kernel)
noncomputable def sc156 : Scope := scT (stT 15)
noncomputable def bd156 : List Stmt := bdT (stT 15)
theorem at156 (hG : Good G) : FnAt G 156 ["text", "i"] sc156 bd156 := fnAtP hG (st := stT 15) (c := 155) (q := "_law_sign") (md := vS "law_aa0030_01" 642) (fun P => by kernel_rfl) (fun P => by kernel_rfl) (by kernel_rfl) (by kernel_rfl) (len2 fun _ _ => by kernel_rfl) (by kernel_rfl)
theorem en156 (hG : Good G) {ds : List D} (hl : ds.length = 2) (hp : pureL ds = true) (h : (wp G sc156 n tb156 300).b (vals0 sc156 ds) [] bd156 (retK K)) : CallK G (n + 1) μ (.ref 156) ds K := enter (at156 hG) hG hl hp h (by decide +kernel)
noncomputable def sc163 : Scope := scT (stT 16)
noncomputable def bd163 : List Stmt := bdT (stT 16)
theorem at163 (hG : Good G) : FnAt G 163 ["text", "i"] sc163 bd163 := fnAtP hG (st := stT 16) (c := 162) (q := "_law_one") (md := vS "law_aa0030_01" 642) (fun P => by kernel_rfl) (fun P => by kernel_rfl) (by kernel_rfl) (by kernel_rfl) (len2 fun _ _ => by kernel_rfl) (by kernel_rfl)
theorem en163 (hG : Good G) {ds : List D} (hl : ds.length = 2) (hp : pureL ds = true) (h : (wp G sc163 n tb163 300).b (vals0 sc163 ds) [] bd163 (retK K)) : CallK G (n + 1) μ (.ref 163) ds K := enter (at163 hG) hG hl hp h (by decide +kernel)
noncomputable def sc170 : Scope := scT (stT 17)
noncomputable def bd170 : List Stmt := bdT (stT 17)
theorem at170 (hG : Good G) : FnAt G 170 ["text"] sc170 bd170 := fnAtP hG (st := stT 17) (c := 169) (q := "_law_pieces") (md := vS "law_aa0030_01" 642) (fun P => by kernel_rfl) (fun P => by kernel_rfl) (by kernel_rfl) (by kernel_rfl) (len1 fun _ => by kernel_rfl) (by kernel_rfl)
theorem en170 (hG : Good G) {ds : List D} (hl : ds.length = 1) (hp : pureL ds = true) (h : (wp G sc170 n tb170 300).b (vals0 sc170 ds) [] bd170 (retK K)) : CallK G (n + 1) μ (.ref 170) ds K := enter (at170 hG) hG hl hp h (by decide +kernel)
noncomputable def sc175 : Scope := scT (stT 18)
noncomputable def bd175 : List Stmt := bdT (stT 18)
theorem at175 (hG : Good G) : FnAt G 175 ["ones", "text", "place"] sc175 bd175 := fnAtP hG (st := stT 18) (c := 174) (q := "_law_fit") (md := vS "law_aa0030_01" 642) (fun P => by kernel_rfl) (fun P => by kernel_rfl) (by kernel_rfl) (by kernel_rfl) (len3 fun _ _ _ => by kernel_rfl) (by kernel_rfl)
theorem en175 (hG : Good G) {ds : List D} (hl : ds.length = 3) (hp : pureL ds = true) (h : (wp G sc175 n tb175 300).b (vals0 sc175 ds) [] bd175 (retK K)) : CallK G (n + 1) μ (.ref 175) ds K := enter (at175 hG) hG hl hp h (by decide +kernel)
noncomputable def sc180 : Scope := scT (stT 19)
noncomputable def bd180 : List Stmt := bdT (stT 19)
theorem at180 (hG : Good G) : FnAt G 180 ["pieces", "text"] sc180 bd180 := fnAtP hG (st := stT 19) (c := 179) (q := "_law_ends") (md := vS "law_aa0030_01" 642) (fun P => by kernel_rfl) (fun P => by kernel_rfl) (by kernel_rfl) (by kernel_rfl) (len2 fun _ _ => by kernel_rfl) (by kernel_rfl)
theorem en180 (hG : Good G) {ds : List D} (hl : ds.length = 2) (hp : pureL ds = true) (h : (wp G sc180 n tb180 300).b (vals0 sc180 ds) [] bd180 (retK K)) : CallK G (n + 1) μ (.ref 180) ds K := enter (at180 hG) hG hl hp h (by decide +kernel)
noncomputable def sc185 : Scope := scT (stT 20)
noncomputable def bd185 : List Stmt := bdT (stT 20)
theorem at185 (hG : Good G) : FnAt G 185 ["script"] sc185 bd185 := fnAtP hG (st := stT 20) (c := 184) (q := "_law_totals") (md := vS "law_aa0030_01" 642) (fun P => by kernel_rfl) (fun P => by kernel_rfl) (by kernel_rfl) (by kernel_rfl) (len1 fun _ => by kernel_rfl) (by kernel_rfl)
theorem en185 (hG : Good G) {ds : List D} (hl : ds.length = 1) (hp : pureL ds = true) (h : (wp G sc185 n tb185 300).b (vals0 sc185 ds) [] bd185 (retK K)) : CallK G (n + 1) μ (.ref 185) ds K := enter (at185 hG) hG hl hp h (by decide +kernel)
noncomputable def sc192 : Scope := scT (stT 21)
noncomputable def bd192 : List Stmt := bdT (stT 21)
theorem at192 (hG : Good G) : FnAt G 192 ["pieces", "name"] sc192 bd192 := fnAtP hG (st := stT 21) (c := 191) (q := "_law_took") (md := vS "law_aa0030_01" 642) (fun P => by kernel_rfl) (fun P => by kernel_rfl) (by kernel_rfl) (by kernel_rfl) (len2 fun _ _ => by kernel_rfl) (by kernel_rfl)
theorem en192 (hG : Good G) {ds : List D} (hl : ds.length = 2) (hp : pureL ds = true) (h : (wp G sc192 n tb192 300).b (vals0 sc192 ds) [] bd192 (retK K)) : CallK G (n + 1) μ (.ref 192) ds K := enter (at192 hG) hG hl hp h (by decide +kernel)
noncomputable def sc199 : Scope := scT (stT 22)
noncomputable def bd199 : List Stmt := bdT (stT 22)
theorem at199 (hG : Good G) : FnAt G 199 ["pattern", "name"] sc199 bd199 := fnAtP hG (st := stT 22) (c := 198) (q := "_law_takes") (md := vS "law_aa0030_01" 642) (fun P => by kernel_rfl) (fun P => by kernel_rfl) (by kernel_rfl) (by kernel_rfl) (len2 fun _ _ => by kernel_rfl) (by kernel_rfl)
theorem en199 (hG : Good G) {ds : List D} (hl : ds.length = 2) (hp : pureL ds = true) (h : (wp G sc199 n tb199 300).b (vals0 sc199 ds) [] bd199 (retK K)) : CallK G (n + 1) μ (.ref 199) ds K := enter (at199 hG) hG hl hp h (by decide +kernel)
noncomputable def sc206 : Scope := scT (stT 23)
noncomputable def bd206 : List Stmt := bdT (stT 23)
theorem at206 (hG : Good G) : FnAt G 206 ["lead", "size"] sc206 bd206 := fnAtP hG (st := stT 23) (c := 205) (q := "_law_column") (md := vS "law_aa0030_01" 642) (fun P => by kernel_rfl) (fun P => by kernel_rfl) (by kernel_rfl) (by kernel_rfl) (len2 fun _ _ => by kernel_rfl) (by kernel_rfl)
theorem en206 (hG : Good G) {ds : List D} (hl : ds.length = 2) (hp : pureL ds = true) (h : (wp G sc206 n tb206 300).b (vals0 sc206 ds) [] bd206 (retK K)) : CallK G (n + 1) μ (.ref 206) ds K := enter (at206 hG) hG hl hp h (by decide +kernel)
noncomputable def sc211 : Scope := scT (stT 24)
noncomputable def bd211 : List Stmt := bdT (stT 24)
theorem at211 (hG : Good G) : FnAt G 211 ["message", "told", "words", "single", "blank", "comma"] sc211 bd211 := fnAtP hG (st := stT 24) (c := 210) (q := "_law_read") (md := vS "law_aa0030_01" 642) (fun P => by kernel_rfl) (fun P => by kernel_rfl) (by kernel_rfl) (by kernel_rfl) (len6 fun _ _ _ _ _ _ => by kernel_rfl) (by kernel_rfl)
theorem en211 (hG : Good G) {ds : List D} (hl : ds.length = 6) (hp : pureL ds = true) (h : (wp G sc211 n tb211 300).b (vals0 sc211 ds) [] bd211 (retK K)) : CallK G (n + 1) μ (.ref 211) ds K := enter (at211 hG) hG hl hp h (by decide +kernel)
noncomputable def sc216 : Scope := scT (stT 25)
noncomputable def bd216 : List Stmt := bdT (stT 25)
theorem at216 (hG : Good G) : FnAt G 216 ["script"] sc216 bd216 := fnAtP hG (st := stT 25) (c := 215) (q := "law") (md := vS "law_aa0030_01" 642) (fun P => by kernel_rfl) (fun P => by kernel_rfl) (by kernel_rfl) (by kernel_rfl) (len1 fun _ => by kernel_rfl) (by kernel_rfl)
theorem en216 (hG : Good G) {ds : List D} (hl : ds.length = 1) (hp : pureL ds = true) (h : (wp G sc216 n tb216 300).b (vals0 sc216 ds) [] bd216 (retK K)) : CallK G (n + 1) μ (.ref 216) ds K := enter (at216 hG) hG hl hp h (by decide +kernel)
noncomputable def sc55 : Scope := scT (stC 1)
noncomputable def bd55 : List Stmt := bdT (stC 1)
theorem at55 (hG : Good G) : FnAt G 55 ["self", "ws"] sc55 bd55 := fnAtP hG (st := stC 1) (c := 54) (q := "Whitespace.__init__") (md := vS "cpy313.tabnanny" 289) (fun P => by kernel_rfl) (fun P => by kernel_rfl) (by kernel_rfl) (by kernel_rfl) (len2 fun _ _ => by kernel_rfl) (by kernel_rfl)
noncomputable def sc62 : Scope := scT (stC 2)
noncomputable def bd62 : List Stmt := bdT (stC 2)
theorem at62 (hG : Good G) : FnAt G 62 ["self"] sc62 bd62 := fnAtP hG (st := stC 2) (c := 61) (q := "Whitespace.longest_run_of_spaces") (md := vS "cpy313.tabnanny" 289) (fun P => by kernel_rfl) (fun P => by kernel_rfl) (by kernel_rfl) (by kernel_rfl) (len1 fun _ => by kernel_rfl) (by kernel_rfl)
noncomputable def sc69 : Scope := scT (stC 3)
noncomputable def bd69 : List Stmt := bdT (stC 3)
theorem at69 (hG : Good G) : FnAt G 69 ["self", "tabsize"] sc69 bd69 := fnAtP hG (st := stC 3) (c := 68) (q := "Whitespace.indent_level") (md := vS "cpy313.tabnanny" 289) (fun P => by kernel_rfl) (fun P => by kernel_rfl) (by kernel_rfl) (by kernel_rfl) (len2 fun _ _ => by kernel_rfl) (by kernel_rfl)
noncomputable def sc83 : Scope := scT (stC 5)
noncomputable def bd83 : List Stmt := bdT (stC 5)
theorem at83 (hG : Good G) : FnAt G 83 ["self", "other"] sc83 bd83 := fnAtP hG (st := stC 5) (c := 82) (q := "Whitespace.not_equal_witness") (md := vS "cpy313.tabnanny" 289) (fun P => by kernel_rfl) (fun P => by kernel_rfl) (by kernel_rfl) (by kernel_rfl) (len2 fun _ _ => by kernel_rfl) (by kernel_rfl)
noncomputable def sc97 : Scope := scT (stC 7)
noncomputable def bd97 : List Stmt := bdT (stC 7)
theorem at97 (hG : Good G) : FnAt G 97 ["self", "other"] sc97 bd97 := fnAtP hG (st := stC 7) (c := 96) (q := "Whitespace.not_less_witness") (md := vS "cpy313.tabnanny" 289) (fun P => by kernel_rfl) (fun P => by kernel_rfl) (by kernel_rfl) (by kernel_rfl) (len2 fun _ _ => by kernel_rfl) (by kernel_rfl)
end
section
open PySem PySem.W PyProof.Rows
set_option maxRecDepth 100000
set_option maxHeartbeats 1000000
set_option linter.unusedVariables false
open PySem.Calls
variable {G : GX} {n : Nat} {μ : List (List D)} {K : D → Prop}
/-- one sign at a place -/
noncomputable def at1 (x : List Nat) (i : Nat) : List Nat := (x.drop i).take 1
theorem slice_at1 (x : List Nat) (i : Nat) : pySlice x (some (i : Int)) (some ((i : Int) + 1)) = at1 x i := by
  unfold pySlice clipI at1
  simp only []
  have h1 : ¬ ((i : Int) < 0) := by omega
  have h2 : ¬ ((i : Int) + 1 < 0) := by omega
  rw [if_neg h1, if_neg h2]
  by_cases h : i < x.length
  · have e1 : (max 0 (min (i : Int) x.length)).toNat = i := by omega
    have e2 : (max 0 (min ((i : Int) + 1) x.length)).toNat = i + 1 := by omega
    rw [e1, e2, show i + 1 - i = 1 by omega]
  · have e1 : (max 0 (min (i : Int) x.length)).toNat = x.length := by omega
    rw [e1, List.drop_of_length_le (Nat.le_refl _), List.drop_of_length_le (by omega)]
    simp
noncomputable def lawSign (x : List Nat) (i : Nat) : List Nat × Nat := if at1 x i = [92] then (at1 x (i + 1), i + 2) else (at1 x i, i + 1)
theorem sign_call (hG : Good G) {x : List Nat} {i : Nat} (hx : x.length ≤ 10000) (h : K (.tup [.str (lawSign x i).1, .int ((lawSign x i).2 : Nat)])) : CallK G (n + 1) μ (.ref 156) [.str x, .int (i : Int)] K := by
  have hz : x.length ≤ sizeLine := Nat.le_trans hx (by decide)
  refine en156 hG rfl rfl (sl hz (slice_at1 x i) ?_)
  refine condK.of (fun h1 => ?_) fun h1 => ?_
  · unfold lawSign at h
    rw [if_pos (eq_of_beq h1)] at h
    exact sl hz (slice_at1 x (i + 1)) ⟨_, .pure rfl, h⟩
  · unfold lawSign at h
    rw [if_neg (ne_of_beq_false h1)] at h
    exact sl hz (slice_at1 x i) ⟨_, .pure rfl, h⟩
end
section
open PySem PySem.W PyProof.Rows
set_option maxRecDepth 100000
set_option maxHeartbeats 1000000
set_option linter.unusedVariables false
open PySem.Calls
variable {G : GX} {n : Nat} {μ : List (List D)} {K : D → Prop}
theorem EvIfs_nil {sc : Scope} {vals : List (Option D)} {KB : Bool → Prop} (h : KB true) : EvIfs G sc n vals μ [] KB := h
theorem EvIfs_one {sc : Scope} {vals : List (Option D)} {c : Expr} {KB : Bool → Prop} (h : EvT G sc n vals μ c KB) : EvIfs G sc n vals μ [c] KB := by
  intro A env W s a b d e f
  refine wpAny_mono (h A env W s a b d e f) (fun b s' ⟨h1, h2⟩ => ⟨⟨fun hb => ?_, fun hb => hb ▸ h1⟩, h2⟩) fun _ _ y => y
  show KB true
  exact hb ▸ h1

noncomputable abbrev One := Bool × List (List Nat × List Nat)
noncomputable def pairD (p : List Nat × List Nat) : D := .tup [.str p.1, .str p.2]
noncomputable def oneD (o : One) : D := .tup [.bool o.1, .lst (o.2.map pairD)]
noncomputable def onesD (os : List One) : D := .lst (os.map oneD)
noncomputable def within (c : List Nat) (p : List Nat × List Nat) : Bool := !decide (c < p.1) && !decide (p.2 < c)
noncomputable def okOne (o : One) (c : List Nat) : Bool := !(o.1 == o.2.any (within c))
noncomputable def fitF : List One → List Nat → Nat → Bool
  | [], _, _ => true
  | o :: r, x, i => if at1 x i = [] then false else if okOne o (at1 x i) then fitF r x (i + 1) else false
theorem fitF_cons (o : One) (r : List One) (x : List Nat) (i : Nat) : fitF (o :: r) x i = if at1 x i = [] then false else if okOne o (at1 x i) then fitF r x (i + 1) else false := rfl
noncomputable def pickP (c : List Nat) (d : D) : Option D := match d with
  | .tup [.str a, .str b] => if within c (a, b) then some d else none
  | _ => none
theorem pickP_pair (c a b : List Nat) : pickP c (pairD (a, b)) = if within c (a, b) then some (pairD (a, b)) else none := rfl
theorem pickP_any (c : List Nat) (ps : List (List Nat × List Nat)) : ((ps.map pairD).filterMap (pickP c)).isEmpty = !ps.any (within c) := by
  induction ps with
  | nil => rfl
  | cons p r ih =>
    obtain ⟨a, b⟩ := p
    rw [List.map_cons, List.filterMap_cons, List.any_cons]
    have e : pickP c (pairD (a, b)) = if within c (a, b) then some (pairD (a, b)) else none := rfl
    rw [e]
    cases within c (a, b) with
    | true => rfl
    | false => simpa using ih
theorem pure_tup (ds : List D) : (D.tup ds).pure = pureL ds := by rw [D.pure]
theorem pure_lst (ds : List D) : (D.lst ds).pure = pureL ds := by rw [D.pure]
theorem pureL_nil : pureL [] = true := by rw [pureL]
theorem pureL_cons (d : D) (ds : List D) : pureL (d :: ds) = (d.pure && pureL ds) := by rw [pureL]
theorem pure_str (x : List Nat) : (D.str x).pure = true := by rw [D.pure] <;> intros <;> contradiction
theorem pure_int (x : Int) : (D.int x).pure = true := by rw [D.pure] <;> intros <;> contradiction
theorem pure_bool (x : Bool) : (D.bool x).pure = true := by rw [D.pure] <;> intros <;> contradiction
theorem pure_pairs (ps : List (List Nat × List Nat)) : pureL (ps.map pairD) = true := pureL_map _ (fun p => by unfold pairD; simp only [pure_tup, pureL_cons, pureL_nil, pure_str, Bool.and_self]) ps
theorem pure_one (o : One) : (oneD o).pure = true := by
  unfold oneD
  simp only [pure_tup, pure_lst, pureL_cons, pureL_nil, pure_bool, pure_pairs, Bool.and_self]
theorem pure_ones (os : List One) : (onesD os).pure = true := by
  unfold onesD
  rw [pure_lst]
  exact pureL_map _ pure_one os
inductive Inv175 (ones : List One) (x : List Nat) (p : Nat) : Nat → List (Option D) → List (List D) → Prop
  | mk {i : Nat} {a b c : Option D} (hf : fitF (ones.drop i) x (p + i) = fitF ones x p) : Inv175 ones x p i [some (onesD ones), some (.str x), some (.int ((p + i : Nat) : Int)), a, b, c] []
theorem fit_call (hG : Good G) {ones : List One} {x : List Nat} {p : Nat} (hx : x.length ≤ 10000) (ho : ones.length ≤ 10000) (hp : ∀ o ∈ ones, o.2.length ≤ 10000) (h : K (.bool (fitF ones x p))) : CallK G (n + 1) μ (.ref 175) [onesD ones, .str x, .int (p : Int)] K := by
  have hz : x.length ≤ sizeLine := Nat.le_trans hx (by decide)
  refine en175 hG rfl (by simp only [pureL_cons, pureL_nil, pure_ones, pure_str, pure_int, Bool.and_self]) ?_
  refine ⟨ones.map oneD, Iter_lst (pureL_map _ pure_one ones), Inv175 ones x p, .mk rfl, ?_, ?_⟩
  · rintro v m ⟨hf⟩
    rw [List.length_map, List.drop_length] at hf
    rw [← hf] at h
    exact ⟨_, .pure rfl, h⟩
  · rintro i d v m hd KB hN hB hR ⟨hf⟩
    rw [List.getElem?_map] at hd
    cases e : ones[i]? with
    | none => rw [e] at hd; cases hd
    | some o =>
      rw [e] at hd
      cases hd
      obtain ⟨bar, ps⟩ := o
      have hdr : ones.drop i = (bar, ps) :: ones.drop (i + 1) := by
        obtain ⟨hi, he⟩ := List.getElem?_eq_some_iff.mp e
        rw [List.drop_eq_getElem_cons hi, he]
      have hps : ps.length ≤ 10000 := hp _ (List.mem_of_getElem? e)
      rw [hdr] at hf
      refine ⟨rfl, hz, ?_⟩
      rw [slice_at1]
      refine condK.of (fun h1 => ?_) fun h1 => ?_
      · have h1 := eq_of_beq h1
        rw [fitF_cons, if_pos h1] at hf
        rw [← hf] at h
        exact ⟨_, .pure rfl, hR _ h⟩
      · have h1 := ne_of_beq_false h1
        refine ⟨Ev_comp [none, none, some 5] 1 (by decide +kernel) (by decide +kernel) (by rfl) rfl (run_E hG tb175 ?_)⟩
        refine ⟨ps.map pairD, Iter_lst (pure_pairs ps), by rw [List.length_map]; unfold sizeLine; lia, pickP (at1 x (p + i)), ?_, ?_⟩
        · rw [fitF_cons, if_neg h1] at hf
          have e2 : (bar == !((ps.map pairD).filterMap (pickP (at1 x (p + i)))).isEmpty) = !okOne (bar, ps) (at1 x (p + i)) := by
            rw [pickP_any]; unfold okOne; simp
          refine condK.of (fun h2 => ?_) fun h2 => ?_
          · rw [e2] at h2
            have h2 : okOne (bar, ps) (at1 x (p + i)) = false := by simpa using h2
            rw [h2] at hf
            rw [← hf] at h
            exact ⟨_, .pure rfl, hR _ h⟩
          · rw [e2] at h2
            have h2 : okOne (bar, ps) (at1 x (p + i)) = true := by simpa using h2
            rw [h2] at hf
            exact hN _ _ (.mk hf)
        · intro d hd
          obtain ⟨⟨a1, a2⟩, _, rfl⟩ := List.mem_map.mp hd
          refine EvIfs_one (run_T hG tb175 ?_)
          refine condK.of (fun h2 => ?_) fun h2 => ⟨fun h => (nomatch h), fun _ => ?_⟩
          · refine ⟨fun h3 => run_E hG tb175 ?_, fun h3 => ?_⟩
            · have hw : within (at1 x (p + i)) (a1, a2) = true := by unfold within; rw [h2, h3]; rfl
              show pickP _ (pairD (a1, a2)) = some (pairD (a1, a2))
              rw [pickP_pair, hw]; rfl
            · have hw : within (at1 x (p + i)) (a1, a2) = false := by unfold within; rw [h2, h3]; rfl
              rw [pickP_pair, hw]; rfl
          · have hw : within (at1 x (p + i)) (a1, a2) = false := by unfold within; rw [h2]; rfl
            rw [pickP_pair, hw]; rfl
end
section
open PySem PySem.W PyProof.Rows
set_option maxRecDepth 100000
set_option maxHeartbeats 1000000
set_option linter.unusedVariables false
open PySem.Calls
variable {G : GX} {n : Nat} {μ : List (List D)} {K : D → Prop}
/-! where the pieces of a pattern can end -/
theorem at1_lt {x : List Nat} {i : Nat} (h : at1 x i ≠ []) : i < x.length := by
  unfold at1 at h
  apply Classical.byContradiction
  intro hn
  rw [List.drop_of_length_le (by lia)] at h
  exact h rfl
theorem fit_le : ∀ (ones : List One) (x : List Nat) (p : Nat), fitF ones x p = true → p ≤ x.length → p + ones.length ≤ x.length
  | [], _, _, _, h => h
  | o :: r, x, p, h, hp => by
    rw [fitF_cons] at h
    by_cases h1 : at1 x p = []
    · rw [if_pos h1] at h; cases h
    · rw [if_neg h1] at h
      cases h2 : okOne o (at1 x p) with
      | false => rw [h2] at h; cases h
      | true =>
        rw [h2] at h
        have := fit_le r x (p + 1) h (at1_lt h1)
        rw [List.length_cons]; lia
noncomputable def findF (ones : List One) (x : List Nat) : Nat → Nat → Option Nat
  | 0, _ => none
  | f + 1, p => if p + ones.length ≤ x.length then (if fitF ones x p then some (p + ones.length) else findF ones x f (p + 1)) else none
noncomputable def minI (ps : List Nat) : Int := bestD (fun i j => decide ((ps.map Int.ofNat).getD i 0 < (ps.map Int.ofNat).getD j 0)) (ps.map Int.ofNat)
noncomputable def stepE (x : List Nat) (ps : List Nat) (pc : Int × List One) : List Nat :=
  if pc.1 = 0 then ps.filterMap fun p => if fitF pc.2 x p then some (p + pc.2.length) else none
  else if pc.1 = 1 then ps.filterMap fun p => findF pc.2 x (x.length + 1 - p) p
  else if ps = [] then []
  else (List.range ((x.length : Int) - pc.2.length + 1 - minI ps).toNat).filterMap fun i => if fitF pc.2 x ((minI ps).toNat + i) then some ((minI ps).toNat + i + pc.2.length) else none
noncomputable def endsF (pcs : List (Int × List One)) (x : List Nat) : List Nat := pcs.foldl (stepE x) [0]
noncomputable def pieceD (p : Int × List One) : D := .tup [.int p.1, onesD p.2]
noncomputable def piecesD (ps : List (Int × List One)) : D := .lst (ps.map pieceD)
noncomputable abbrev natD (p : Nat) : D := .int (p : Int)
noncomputable def natsD (ps : List Nat) : D := .lst (ps.map natD)
theorem pure_piece (p : Int × List One) : (pieceD p).pure = true := by unfold pieceD; simp only [pure_tup, pureL_cons, pureL_nil, pure_int, pure_ones, Bool.and_self]
theorem pure_pieces (ps : List (Int × List One)) : (piecesD ps).pure = true := by unfold piecesD; rw [pure_lst]; exact pureL_map _ pure_piece ps
theorem pure_nats (ps : List Nat) : pureL (ps.map natD) = true := pureL_map natD (fun p => pure_int _) ps

theorem nats_filter (ps : List Nat) (g : Nat → Option Nat) (f : D → Option D) (h : ∀ p ∈ ps, f (natD p) = (g p).map natD) : (ps.map natD).filterMap f = (ps.filterMap g).map natD := by
  induction ps with
  | nil => rfl
  | cons p r ih =>
    rw [List.map_cons, List.filterMap_cons, List.filterMap_cons, h p List.mem_cons_self, ih fun q hq => h q (List.mem_cons_of_mem _ hq)]
    cases g p <;> rfl
noncomputable def fitD1 (ones : List One) (x : List Nat) (d : D) : Option D := match d with
  | .int p => if fitF ones x p.toNat then some (.int (p + ones.length)) else none
  | _ => none
theorem findF_stop (ones : List One) (x : List Nat) (q : Nat) (h : ¬ q + ones.length ≤ x.length) : findF ones x (x.length + 1 - q) q = none := by
  cases x.length + 1 - q with
  | zero => rfl
  | succ f => show (if _ then _ else _) = _; rw [if_neg h]
theorem findF_hit (ones : List One) (x : List Nat) (q : Nat) (h : q + ones.length ≤ x.length) (hf : fitF ones x q = true) : findF ones x (x.length + 1 - q) q = some (q + ones.length) := by
  rw [show x.length + 1 - q = x.length - q + 1 by lia]
  show (if _ then (if _ then _ else _) else _) = _
  rw [if_pos h, if_pos hf]
theorem findF_go (ones : List One) (x : List Nat) (q : Nat) (h : q + ones.length ≤ x.length) (hf : fitF ones x q = false) : findF ones x (x.length + 1 - q) q = findF ones x (x.length + 1 - (q + 1)) (q + 1) := by
  rw [show x.length + 1 - q = x.length - q + 1 by lia, show x.length + 1 - (q + 1) = x.length - q by lia]
  show (if _ then (if _ then _ else _) else _) = _
  rw [if_pos h, if_neg (by rw [hf]; decide)]
theorem findF_le (ones : List One) (x : List Nat) : ∀ (f p q : Nat), findF ones x f p = some q → q ≤ x.length
  | 0, p, q, h => by cases h
  | f + 1, p, q, h => by
    replace h : (if p + ones.length ≤ x.length then (if fitF ones x p = true then some (p + ones.length) else findF ones x f (p + 1)) else none) = some q := h
    by_cases h1 : p + ones.length ≤ x.length
    · rw [if_pos h1] at h
      by_cases h2 : fitF ones x p = true
      · rw [if_pos h2] at h; cases h; exact h1
      · rw [if_neg h2] at h; exact findF_le ones x f (p + 1) q h
    · rw [if_neg h1] at h; cases h
theorem fitD1_nat (ones : List One) (x : List Nat) (p : Nat) : fitD1 ones x (.int (p : Int)) = if fitF ones x p then some (.int ((p : Int) + ones.length)) else none := by
  unfold fitD1
  simp only [Int.toNat_natCast]
inductive Inv180 (pcs : List (Int × List One)) (x : List Nat) : Nat → List (Option D) → List (List D) → Prop
  | mk {i : Nat} {a b c d e : Option D} (ps : List Nat) (h1 : ∀ p ∈ ps, p ≤ x.length) (h2 : ps.length ≤ x.length + 1) (hf : (pcs.drop i).foldl (stepE x) ps = endsF pcs x) : Inv180 pcs x i [some (piecesD pcs), some (.str x), some (natsD ps), a, b, c, d, e, none, none, none, none] []
inductive Inv180b (pcs : List (Int × List One)) (x : List Nat) (ps : List Nat) (kd : Int) (ones : List One) : Nat → List (Option D) → List (List D) → Prop
  | mk {j : Nat} {b : Option D} {ds : List D} (hd : ds = ((ps.take j).filterMap fun p => findF ones x (x.length + 1 - p) p).map natD) : Inv180b pcs x ps kd ones j [some (piecesD pcs), some (.str x), some (natsD ps), some (.int kd), some (onesD ones), some (.int ((x.length : Int) - ones.length)), b, some (.mt 0), none, none, none, none] [ds]
inductive Inv180c (pcs : List (Int × List One)) (x : List Nat) (ps : List Nat) (kd : Int) (ones : List One) (p : Nat) (ds : List D) : Nat → List (Option D) → List (List D) → Prop
  | mk (q : Nat) (hq : findF ones x (x.length + 1 - q) q = findF ones x (x.length + 1 - p) p) : Inv180c pcs x ps kd ones p ds (x.length + 1 - q) [some (piecesD pcs), some (.str x), some (natsD ps), some (.int kd), some (onesD ones), some (.int ((x.length : Int) - ones.length)), some (.int (q : Int)), some (.mt 0), none, none, none, none] [ds]
theorem ends_call (hG : Good G) {pcs : List (Int × List One)} {x : List Nat} (hx : x.length ≤ 1000) (hn : pcs.length ≤ 1000) (hp : ∀ p ∈ pcs, (0 ≤ p.1 ∧ p.1 < 3) ∧ p.2.length ≤ 1000 ∧ ∀ o ∈ p.2, o.2.length ≤ 1000) (h : K (natsD (endsF pcs x))) : CallK G (n + 2) μ (.ref 180) [piecesD pcs, .str x] K := by
  have hz : x.length < 2 ^ 62 := Nat.lt_of_le_of_lt hx (by decide)
  refine en180 hG rfl (by simp only [pureL_cons, pureL_nil, pure_pieces, pure_str, Bool.and_self]) ?_
  refine ⟨pcs.map pieceD, Iter_lst (pureL_map _ pure_piece pcs), Inv180 pcs x, .mk [0] ?_ ?_ rfl, ?_, ?_⟩
  · simp
  · simp
  · rintro v m ⟨ps, h1, h2, hf⟩
    rw [List.length_map, List.drop_length] at hf
    refine ⟨_, .pure (by unfold natsD; rw [pure_lst]; exact pure_nats ps), ?_⟩
    rw [← hf] at h
    exact h
  · rintro i d v m hd KB hN hB hR ⟨ps, h1, h2, hf⟩
    rw [List.getElem?_map] at hd
    cases e : pcs[i]? with
    | none => rw [e] at hd; cases hd
    | some pc =>
      rw [e] at hd
      cases hd
      obtain ⟨kd, ones⟩ := pc
      have hdr : pcs.drop i = (kd, ones) :: pcs.drop (i + 1) := by
        obtain ⟨hi, he⟩ := List.getElem?_eq_some_iff.mp e
        rw [List.drop_eq_getElem_cons hi, he]
      obtain ⟨hk, hol, hop⟩ : (0 ≤ kd ∧ kd < 3) ∧ ones.length ≤ 1000 ∧ ∀ o ∈ ones, o.2.length ≤ 1000 := hp _ (List.mem_of_getElem? e)
      have hoz : (ones.map oneD).length < 2 ^ 62 := by rw [List.length_map]; exact Nat.lt_of_le_of_lt hol (by decide)
      have fit : ∀ {n : Nat} {p : Nat} {K : D → Prop}, K (.bool (fitF ones x p)) → CallK G (n + 1) [] (.ref 175) [onesD ones, .str x, .int (p : Int)] K := fun h => fit_call hG (by lia) (by lia) (fun o ho => by have := hop o ho; lia) h
      rw [hdr, List.foldl_cons] at hf
      rw [show pieceD (kd, ones) = .tup [.int kd, onesD ones] from rfl]
      refine ⟨rfl, hz, hoz, ?_⟩
      rw [List.length_map]
      refine condK.of (fun hk0 => ?_) fun hk0 => ?_
      · have hk0 : kd = 0 := eq_of_beq hk0
        refine ⟨Ex_assign_comp 2 [none, none, none, none, some 4, some 1] 1 (by decide +kernel) (by decide +kernel) (by rfl) rfl rfl (run_E hG tb180 ?_)⟩
        refine ⟨ps.map natD, Iter_lst (pure_nats ps), by rw [List.length_map]; unfold sizeLine; lia, fitD1 ones x, ?_, ?_⟩
        · rw [nats_filter ps (fun p => if fitF ones x p then some (p + ones.length) else none) (fitD1 ones x) (fun p _ => by
            unfold natD fitD1
            simp only [Int.toNat_natCast]
            split <;> rfl)]
          have e0 : ps.filterMap (fun p => if fitF ones x p then some (p + ones.length) else none) = stepE x ps (kd, ones) := by
            unfold stepE
            simp only [hk0, if_true]
          rw [e0]
          refine hN _ _ (.mk _ ?_ ?_ hf)
          · intro p hp
            rw [← e0, List.mem_filterMap] at hp
            obtain ⟨q, hq, he⟩ := hp
            by_cases hfit : fitF ones x q = true
            · rw [if_pos hfit] at he; cases he
              exact fit_le ones x q hfit (h1 q hq)
            · rw [if_neg hfit] at he; cases he
          · rw [← e0]
            exact Nat.le_trans (List.length_filterMap_le _ _) h2
        · intro d hd
          obtain ⟨p, hp, rfl⟩ := List.mem_map.mp hd
          refine EvIfs_one (run_T hG tb180 ⟨fit ?_⟩)
          refine ⟨fun hfit => run_E hG tb180 ⟨hoz, ?_⟩, fun hfit => ?_⟩
          · rw [fitD1_nat, if_pos hfit, List.length_map]; rfl
          · rw [fitD1_nat, if_neg (by rw [hfit]; decide)]
      · refine condK.of (fun hk1 => ?_) fun hk1 => ?_
        · have hk1 : kd = 1 := eq_of_beq hk1
          refine ⟨ps.map natD, Iter_lst (pure_nats ps), Inv180b pcs x ps kd ones, .mk rfl, ?_, ?_⟩
          · rintro v m ⟨hds⟩
            rw [List.length_map, List.take_length] at hds
            subst hds
            have e0 : ps.filterMap (fun p => findF ones x (x.length + 1 - p) p) = stepE x ps (kd, ones) := by
              unfold stepE
              rw [if_neg (by show ¬ kd = 0; lia), if_pos (by exact hk1)]
            rw [e0]
            refine ⟨_, .keep (frz_pure (pure_pieces pcs)) (.keep (frz_pure (pure_str x)) (.drop (.drop (.drop (.drop (.drop (.keep (frz_mt rfl (pure_nats _)) (.drop (.drop (.drop (.drop .nil))))))))))), ?_⟩
            refine hN _ _ (.mk (stepE x ps (kd, ones)) ?_ ?_ hf)
            · intro p hp
              rw [← e0, List.mem_filterMap] at hp
              obtain ⟨q, hq, he⟩ := hp
              exact findF_le ones x _ q p he
            · rw [← e0]
              exact Nat.le_trans (List.length_filterMap_le _ _) h2
          · rintro j d v m hd KB' hN' hB' hR' ⟨hds⟩
            rw [List.getElem?_map] at hd
            cases ep : ps[j]? with
            | none => rw [ep] at hd; cases hd
            | some p =>
              rw [ep] at hd
              cases hd
              have hpx : p ≤ x.length := h1 p (List.mem_of_getElem? ep)
              refine ⟨Inv180c pcs x ps kd ones p _, ⟨_, .mk p rfl⟩, ?_⟩
              rintro k v m KC KE hN2 hB2 hR2 hE ⟨q, hq⟩
              refine condK.of (fun hle => ?_) fun hle => ?_
              · have hle : q + ones.length ≤ x.length := by have := of_decide_eq_true hle; lia
                refine ⟨fit_call hG (by lia) (by lia) (fun o ho => by have := hop o ho; lia) ?_⟩
                refine condK.of (fun hfit => ?_) fun hfit => ?_
                · have hfit : fitF ones x q = false := by simpa using hfit
                  refine hN2 _ _ ⟨_, ?_, .mk (q + 1) ((findF_go ones x q hle hfit).symm.trans hq)⟩
                  lia
                · have hfit : fitF ones x q = true := by simpa using hfit
                  rw [findF_hit ones x q hle hfit] at hq
                  refine hE ?_
                  refine condK.of (fun _ => ?_) fun h => absurd h (by rw [decide_eq_false_iff_not]; lia)
                  refine ⟨hoz, _, rfl, by rw [hds, List.length_map]; exact Nat.le_trans (List.length_filterMap_le _ _) (by rw [List.length_take]; unfold sizeLine; lia), ?_⟩
                  rw [List.length_map]
                  refine hN' _ _ (.mk ?_)
                  rw [hds, filterMap_take _ ps j p ep, ← hq, List.map_append]
                  simp [natD]
              · have hle : ¬ q + ones.length ≤ x.length := by have := of_decide_eq_false hle; lia
                rw [findF_stop ones x q hle] at hq
                refine hE ?_
                refine condK.of (fun h => absurd h (by rw [decide_eq_true_iff]; lia)) fun _ => ?_
                refine hN' _ _ (.mk ?_)
                rw [hds, filterMap_take _ ps j p ep, ← hq, List.append_nil]
        · have hk1 := ne_of_beq_false hk1
          have hmin : ∀ p0 r, ps = p0 :: r → ∃ m : Nat, minI ps = (m : Int) ∧ m ∈ ps := fun p0 r hps => by
            have hne : (ps.map Int.ofNat).length - 1 < ps.length := by rw [List.length_map, hps]; simp
            have key : ∀ k, k < ps.length → argBest (fun i j => decide ((ps.map Int.ofNat).getD i 0 < (ps.map Int.ofNat).getD j 0)) k < ps.length := fun k => by
              induction k with
              | zero => exact fun h => h
              | succ k ih =>
                intro h
                show (if _ then _ else _) < _
                split
                · exact h
                · exact ih (by lia)
            have hlt := key _ hne
            unfold minI bestD
            generalize argBest (fun i j => decide ((ps.map Int.ofNat).getD i 0 < (ps.map Int.ofNat).getD j 0)) ((ps.map Int.ofNat).length - 1) = k at hlt
            refine ⟨ps[k], ?_, List.getElem_mem hlt⟩
            rw [List.getD_eq_getElem?_getD, List.getElem?_map, List.getElem?_eq_getElem hlt]; rfl
          refine condK.of (fun hne => ?_) fun he => ?_
          · refine ⟨Ex_assign_comp 2 [none, none, none, none, some 4, some 1] 1 (by decide +kernel) (by decide +kernel) (by rfl) rfl rfl (run_E hG tb180 ?_)⟩
            cases hps : ps with
            | nil => rw [hps] at hne; cases hne
            | cons p0 r =>
              rw [← hps]
              obtain ⟨m, hm, hmem⟩ := hmin p0 r hps
              have hmx := h1 m hmem
              refine ⟨C_min (ns := ps.map Int.ofNat) (by rw [List.map_map]; exact Iter_lst (pure_nats ps)) (by rw [hps]; simp) ?_⟩
              rw [show bestD (fun i j => decide ((ps.map Int.ofNat).getD i 0 < (ps.map Int.ofNat).getD j 0)) (ps.map Int.ofNat) = (m : Int) from hm]
              have hrg : rngL (m : Int) 1 ((x.length : Int) - ones.length + 1 - m).toNat = ((List.range ((x.length : Int) - ones.length + 1 - m).toNat).map fun i => m + i).map natD := by
                unfold rngL
                rw [List.map_map]
                apply List.map_congr_left
                intro i _
                show D.int _ = D.int _
                congr 1
                simp
              refine ⟨rngL (m : Int) 1 ((x.length : Int) - ones.length + 1 - m).toNat, Iter_rng (rangeSize_nat _ _) (small_one (by lia) (by lia) (by lia) (by lia)), by rw [hrg, List.length_map, List.length_map, List.length_range]; unfold sizeLine; lia, fitD1 ones x, ?_, ?_⟩
              · rw [hrg, nats_filter _ (fun p => if fitF ones x p then some (p + ones.length) else none) (fitD1 ones x) (fun p _ => by
                  rw [fitD1_nat]
                  split <;> rfl)]
                have e0 : ((List.range ((x.length : Int) - ones.length + 1 - m).toNat).map fun i => m + i).filterMap (fun p => if fitF ones x p then some (p + ones.length) else none) = stepE x ps (kd, ones) := by
                  unfold stepE
                  rw [if_neg (by exact ne_of_beq_false hk0), if_neg (by exact hk1), if_neg (by rw [hps]; simp), hm, List.filterMap_map]
                  rfl
                rw [e0]
                refine hN _ _ (.mk _ ?_ ?_ hf)
                · intro p hp
                  rw [← e0, List.mem_filterMap] at hp
                  obtain ⟨q, hq, he⟩ := hp
                  obtain ⟨i', hi', rfl⟩ := List.mem_map.mp hq
                  have := List.mem_range.mp hi'
                  by_cases hfit : fitF ones x (m + i') = true
                  · rw [if_pos hfit] at he; cases he
                    exact fit_le ones x _ hfit (by lia)
                  · rw [if_neg hfit] at he; cases he
                · rw [← e0]
                  exact Nat.le_trans (List.length_filterMap_le _ _) (by rw [List.length_map, List.length_range]; lia)
              · intro d hd
                rw [hrg] at hd
                obtain ⟨p, hp, rfl⟩ := List.mem_map.mp hd
                refine EvIfs_one (run_T hG tb180 ⟨fit ?_⟩)
                refine ⟨fun hfit => run_E hG tb180 ⟨hoz, ?_⟩, fun hfit => ?_⟩
                · rw [fitD1_nat, if_pos hfit, List.length_map]; rfl
                · rw [fitD1_nat, if_neg (by rw [hfit]; decide)]
          · have hps : ps = [] := by cases ps with | nil => rfl | cons p r => cases he
            refine hN _ _ (.mk ps h1 h2 ?_)
            have e0 : stepE x ps (kd, ones) = ps := by
              unfold stepE
              rw [if_neg (by exact ne_of_beq_false hk0), if_neg (by exact hk1), if_pos hps, hps]
            rw [← e0]; exact e0 ▸ hf
end
section
open PySem PySem.W PyProof.Rows
set_option maxRecDepth 100000
set_option maxHeartbeats 1000000
set_option linter.unusedVariables false
open PySem.Calls
variable {G : GX} {n : Nat} {μ : List (List D)} {K : D → Prop}
noncomputable def tookF (pcs : List (Int × List One)) (x : List Nat) : Bool := (endsF pcs x).any (· == x.length)
noncomputable def PcOk (pcs : List (Int × List One)) : Prop := pcs.length ≤ 1000 ∧ ∀ p ∈ pcs, (0 ≤ p.1 ∧ p.1 < 3) ∧ p.2.length ≤ 1000 ∧ ∀ o ∈ p.2, o.2.length ≤ 1000
theorem took_call (hG : Good G) {pcs : List (Int × List One)} {x : List Nat} (hx : x.length ≤ 1000) (hp : PcOk pcs) (h : K (.bool (tookF pcs x))) : CallK G (n + 3) μ (.ref 192) [piecesD pcs, .str x] K := by
  refine en192 hG rfl (by simp only [pureL_cons, pureL_nil, pure_pieces, pure_str, Bool.and_self]) ⟨Nat.lt_of_le_of_lt hx (by decide), ⟨ends_call hG hx hp.1 hp.2 ?_⟩⟩
  have e : ((endsF pcs x).map Int.ofNat).any (· == (x.length : Int)) = tookF pcs x := by
    unfold tookF
    rw [List.any_map]
    congr 1
    funext p
    show (Int.ofNat p == ((x.length : Nat) : Int)) = (p == x.length)
    by_cases h : p = x.length
    · subst h; simp
    · have : (Int.ofNat p == ((x.length : Nat) : Int)) = false := beq_eq_false_iff_ne.mpr (fun q => h (by exact Int.ofNat.inj q))
      rw [this]; exact (beq_eq_false_iff_ne.mpr h).symm
  exact ⟨St_in_ints (ns := (endsF pcs x).map Int.ofNat) (by show some _ = some _; rw [List.map_map]; rfl) ⟨_, .pure rfl, by rw [e]; exact h⟩⟩

noncomputable def tabs (size : Nat) : Nat → Nat → Nat
  | 0, c => c
  | f + 1, c => if c % size ≠ 0 then tabs size f (c + 1) else c
noncomputable def colF (size : Nat) (lead : List Nat) : Nat := lead.foldl (fun c ch => if ch = 9 then tabs size size (c + 1) else c + 1) 0
theorem mod_next (size c : Nat) : (c + 1) % size = (c % size + 1) % size := by
  have hc := Nat.div_add_mod c size
  have := Nat.mul_add_mod size (c / size) (c % size + 1)
  rw [← this]
  congr 1
  lia
/-- how far it is to the next stop -/
noncomputable def gap (size c : Nat) : Nat := (size - c % size) % size
theorem gap_next {size c : Nat} (hs : 0 < size) (h : c % size ≠ 0) : gap size c = gap size (c + 1) + 1 := by
  have hlt := Nat.mod_lt c hs
  unfold gap
  rw [Nat.mod_eq_of_lt (show size - c % size < size by lia), mod_next]
  by_cases h2 : c % size + 1 = size
  · rw [h2, Nat.mod_self]; simp; lia
  · rw [Nat.mod_eq_of_lt (show c % size + 1 < size by lia), Nat.mod_eq_of_lt (show size - (c % size + 1) < size by lia)]; lia
theorem tabs_zero (size f c : Nat) (h : c % size = 0) : tabs size f c = c := by
  cases f with
  | zero => rfl
  | succ f => show (if _ then _ else _) = _; rw [if_neg (by simpa using h)]
theorem tabs_next (size f c : Nat) (h : c % size ≠ 0) : tabs size (f + 1) c = tabs size f (c + 1) := by
  show (if _ then _ else _) = _; rw [if_pos h]
inductive Inv206 (lead : List Nat) (size : Nat) : Nat → List (Option D) → List (List D) → Prop
  | mk {i : Nat} {a : Option D} (c : Nat) (hf : (lead.drop i).foldl (fun c ch => if ch = 9 then tabs size size (c + 1) else c + 1) c = colF size lead) : Inv206 lead size i [some (.str lead), some (.int (size : Int)), some (.int (c : Int)), a] []
inductive Inv206b (lead : List Nat) (size c ch : Nat) : Nat → List (Option D) → List (List D) → Prop
  | mk (q f : Nat) (hg : gap size q ≤ f) (hq : (if ch = 9 then tabs size f q else q) = (if ch = 9 then tabs size size (c + 1) else c + 1)) : Inv206b lead size c ch (gap size q) [some (.str lead), some (.int (size : Int)), some (.int (q : Int)), some (.str [ch])] []
theorem col_call (hG : Good G) {lead : List Nat} {size : Nat} (hs : 0 < size) (hz : size ≤ 1000) (hx : lead.length ≤ 1000) (h : K (.int (colF size lead : Nat))) : CallK G (n + 1) μ (.ref 206) [.str lead, .int (size : Int)] K := by
  refine en206 hG rfl rfl ⟨_, Iter_str, Inv206 lead size, .mk 0 rfl, ?_, ?_⟩
  · rintro v m ⟨c, hf⟩
    rw [List.length_map, List.drop_length] at hf
    rw [← hf] at h
    exact ⟨_, .pure rfl, h⟩
  · rintro i d v m hd KB hN hB hR ⟨c, hf⟩
    rw [List.getElem?_map] at hd
    cases e : lead[i]? with
    | none => rw [e] at hd; cases hd
    | some ch =>
      rw [e] at hd
      cases hd
      have hdr : lead.drop i = ch :: lead.drop (i + 1) := by
        obtain ⟨hi, he⟩ := List.getElem?_eq_some_iff.mp e
        rw [List.drop_eq_getElem_cons hi, he]
      rw [hdr, List.foldl_cons] at hf
      refine ⟨Inv206b lead size c ch, ⟨_, .mk (c + 1) size (Nat.le_of_lt (Nat.mod_lt _ hs)) rfl⟩, ?_⟩
      rintro k v m KC KE hN' hB' hR' hE ⟨q, f, hg, hq⟩
      refine condK.of (fun h9 => ?_) fun h9 => ?_
      · have h9 : ch = 9 := by have := eq_of_beq h9; cases this; rfl
        subst h9
        rw [if_pos rfl, if_pos rfl] at hq
        refine ⟨St_mod_int (by lia) ?_⟩
        have e1 : (q : Int).fmod (size : Int) = ((q % size : Nat) : Int) := by rw [Int.fmod_eq_emod_of_nonneg _ (by lia)]; rfl
        rw [e1]
        refine condK.of (fun hne => ?_) fun hne => ?_
        · have hne : q % size ≠ 0 := by have := bne_iff_ne.mp hne; lia
          have hgn := gap_next hs hne
          cases f with
          | zero => lia
          | succ f =>
            rw [tabs_next size f q hne] at hq
            exact hN' _ _ ⟨_, by lia, .mk (q + 1) f (by lia) (by rw [if_pos rfl, if_pos rfl]; exact hq)⟩
        · have hne : q % size = 0 := by
            have : ((q % size : Nat) : Int) = 0 := by simpa using hne
            lia
          rw [tabs_zero size f q hne] at hq
          exact hE (hN _ _ (.mk q (by rw [hq]; rw [if_pos rfl] at hf; exact hf)))
      · have h9 : ch ≠ 9 := by rintro rfl; cases h9
        rw [if_neg h9, if_neg h9] at hq
        rw [if_neg h9] at hf
        exact hE (hN _ _ (.mk q (by rw [hq]; exact hf)))
end
section
open PySem PySem.W PyProof.Rows
set_option maxRecDepth 100000
set_option maxHeartbeats 1000000
set_option linter.unusedVariables false
open PySem.Calls
variable {G : GX} {n : Nat} {μ : List (List D)} {K : D → Prop}
theorem pickD_map {α β : Type} (g : α → β) (l : List α) (lo hi st : Option Int) : pickD (l.map g) lo hi st = (pickD l lo hi st).map g := by
  unfold pickD
  rw [List.length_map, List.map_filterMap]
  congr 1
  funext k
  rw [List.getElem?_map]
theorem pickD_le {α : Type} (l : List α) (lo hi st : Option Int) : (pickD l lo hi st).length ≤ (sliceRange (sliceBounds lo hi st l.length).1 (sliceBounds lo hi st l.length).2.1 (sliceBounds lo hi st l.length).2.2).length := by
  unfold pickD
  exact List.length_filterMap_le _ _
noncomputable def modF (d : D) : Option D := match d with
  | .int x => some (.int (x.fmod 1000000))
  | _ => none
noncomputable def tm (ns : List Int) (k : Nat) : List Int := (pickD ns (some (k : Int)) none (some 4)).map fun x => x.fmod 1000000
noncomputable def totF (ns : List Int) (k : Nat) : Int := preSum (fun i => (tm ns k).getD i 0) (tm ns k).length + [6, 7, 28, 9].getD k 0
noncomputable def totD (ns : List Int) (d : D) : Option D := match d with
  | .int k => some (.int (totF ns k.toNat))
  | _ => none
theorem modF_map (l : List Int) : (l.map D.int).filterMap modF = (l.map fun x => x.fmod 1000000).map D.int := by
  induction l with
  | nil => rfl
  | cons x r ih => rw [List.map_cons, List.filterMap_cons]; show _ :: _ = _; rw [ih]; rfl
theorem tm_len {ns : List Int} (hn : ns.length ≤ 63) (k : Nat) : (pickD ns (some (k : Int)) none (some 4)).length ≤ 63 := by
  refine Nat.le_trans (pickD_le ns _ _ _) ?_
  unfold sliceRange sliceBounds
  simp only [List.length_map, List.length_range, Option.getD_some]
  have h4 : (4 : Int) > 0 := by decide
  have h0 : ¬ ((k : Int) < 0) := by lia
  simp only [h4, if_true, h0, if_false]
  split <;> lia
theorem tm_in (ns : List Int) (k j : Nat) : 0 ≤ (tm ns k).getD j 0 ∧ (tm ns k).getD j 0 < 1000000 := by
  unfold tm
  rw [List.getD_eq_getElem?_getD, List.getElem?_map]
  cases (pickD ns (some (k : Int)) none (some 4))[j]? with
  | none => simp
  | some x =>
    simp only [Option.map_some, Option.getD_some]
    have h1 := Int.fmod_nonneg_of_pos x (show (0 : Int) < 1000000 by decide)
    have h2 := Int.fmod_lt_of_pos x (show (0 : Int) < 1000000 by decide)
    exact ⟨h1, h2⟩
theorem pre_in (ns : List Int) (k : Nat) : ∀ j : Nat, 0 ≤ preSum (fun i => (tm ns k).getD i 0) j ∧ preSum (fun i => (tm ns k).getD i 0) j ≤ 1000000 * j
  | 0 => by constructor <;> (show _ ≤ _; simp [preSum])
  | j + 1 => by
    have h1 := pre_in ns k j
    have h2 := tm_in ns k j
    show 0 ≤ preSum _ j + (tm ns k).getD j 0 ∧ preSum _ j + (tm ns k).getD j 0 ≤ _
    lia
theorem tot_in {ns : List Int} (hn : ns.length ≤ 63) (k : Nat) (hk : k < 4) : 0 ≤ totF ns k ∧ totF ns k ≤ 64000000 := by
  unfold totF
  have h1 := pre_in ns k (tm ns k).length
  have h2 := tm_len hn k
  have h3 : (tm ns k).length ≤ 63 := by unfold tm; rw [List.length_map]; exact h2
  have h4 : (0 : Int) ≤ [6, 7, 28, 9].getD k 0 ∧ ([6, 7, 28, 9] : List Int).getD k 0 ≤ 28 := by
    match k, hk with
    | 0, _ => decide
    | 1, _ => decide
    | 2, _ => decide
    | 3, _ => decide
  lia
theorem totals_call (hG : Good G) {ns : List Int} (hn : ns.length ≤ 63) (h : K (.lst [.int (totF ns 0), .int (totF ns 1), .int (totF ns 2), .int (totF ns 3)])) : CallK G (n + 1) μ (.ref 185) [.lst (ns.map .int)] K := by
  have pn : pureL (ns.map D.int) = true := pureL_map _ (fun x => pure_int x) ns
  refine en185 hG rfl (by simp only [pureL_cons, pureL_nil, pure_lst, pn, Bool.and_self]) ⟨Ev_comp [none, none, none, some 0] 1 (by decide +kernel) (by decide +kernel) (by rfl) rfl (run_E hG tb185 ?_)⟩
  refine ⟨rngL 0 1 4, Iter_rng rfl rfl, by unfold sizeLine; exact Nat.le_of_ble_eq_true rfl, totD ns, ?_, ?_⟩
  · exact ⟨_, .pure rfl, h⟩
  · intro d hd
    obtain ⟨k, hk, rfl⟩ := List.mem_map.mp hd
    have hk := List.mem_range.mp hk
    refine EvIfs_nil ⟨fun _ => ?_, fun h => (nomatch h)⟩
    rw [show ((0 : Int) + (k : Int) * 1) = (k : Int) by lia]
    refine run_E hG tb185 ⟨Ev_comp [none, none] 1 (by decide +kernel) (by decide +kernel) (by rfl) rfl ?_⟩
    refine run_E hG tb185 ⟨by rw [List.length_map]; unfold sizeLine; lia, by decide, ?_⟩
    rw [pickD_map]
    refine ⟨_, Iter_lst (pureL_map _ (fun x => pure_int x) _), ?_, modF, ?_, ?_⟩
    · rw [List.length_map]; have := tm_len hn k; unfold sizeLine; lia
    · rw [modF_map]
      refine ⟨C_sum (ns := tm ns k) (Iter_lst (pureL_map _ (fun x => pure_int x) _)) ?_ ?_⟩
      · intro j hj
        have h1 := tm_in ns k j
        have h2 := pre_in ns k (j + 1)
        have h3 : (tm ns k).length ≤ 63 := by unfold tm; rw [List.length_map]; exact tm_len hn k
        unfold InLong
        lia
      · match k, hk with
        | 0, _ => rfl
        | 1, _ => rfl
        | 2, _ => rfl
        | 3, _ => rfl
    · intro d hd
      obtain ⟨x, _, rfl⟩ := List.mem_map.mp hd
      exact EvIfs_nil ⟨fun _ => run_E hG tb185 ⟨St_mod_int (by decide) rfl⟩, fun h => (nomatch h)⟩
end
section
open PySem PySem.W PyProof.Rows
set_option maxRecDepth 100000
set_option maxHeartbeats 1000000
set_option linter.unusedVariables false
open PySem.Calls
variable {G : GX} {n : Nat} {μ : List (List D)} {K : D → Prop}
/-! the signs of a pattern -/
inductive Tk where
  | chr (c : Nat)
  | br (j : Nat)

noncomputable def okCh (c : Nat) : Bool := c == 32 || c == 44 || (decide (48 ≤ c) && decide (c ≤ 57)) || (decide (97 ≤ c) && decide (c ≤ 122))
noncomputable def Tk.ok : Tk → Bool
  | .chr c => okCh c
  | .br j => decide (j < 6)
/-- as it stands in a pattern -/
noncomputable def Tk.inS : Tk → List Nat
  | .chr c => [c]
  | .br 0 => [91, 32, 93]
  | .br 1 => [91, 32, 45, 43, 93]
  | .br 2 => [91, 44, 93]
  | .br 3 => [91, 33, 48, 45, 57, 93]
  | .br 4 => [91, 49, 45, 57, 93]
  | .br _ => [91, 48, 45, 57, 93]
/-- as translate writes it -/
noncomputable def Tk.outS : Tk → List Nat
  | .chr 32 => [92, 32]
  | .chr c => [c]
  | .br 3 => [91, 94, 48, 45, 57, 93]
  | .br j => (Tk.br j).inS
noncomputable def Tk.one : Tk → One
  | .chr c => (false, [([c], [c])])
  | .br 0 => (false, [([32], [32])])
  | .br 1 => (false, [([32], [43])])
  | .br 2 => (false, [([44], [44])])
  | .br 3 => (true, [([48], [57])])
  | .br 4 => (false, [([49], [57])])
  | .br _ => (false, [([48], [57])])

theorem at1_of {x y z : List Nat} {i : Nat} (h : x.drop i = y ++ z) {k c : Nat} (hk : y[k]? = some c) : at1 x (i + k) = [c] := by
  unfold at1
  have hkl := (List.getElem?_eq_some_iff.mp hk).1
  rw [← List.drop_drop, h, List.drop_append_of_le_length (by lia), List.drop_eq_getElem_cons hkl]
  have := (List.getElem?_eq_some_iff.mp hk).2
  simp [this]
theorem sl_of {x y z : List Nat} {i : Nat} (h : x.drop i = y ++ z) (k c : Nat) (a b : Int) (ha : a = (i : Int) + k) (hb : b = a + 1) (hk : y[k]? = some c) : pySlice x (some a) (some b) = [c] := by
  subst hb; subst ha
  have := slice_at1 x (i + k)
  rw [at1_of h hk] at this
  rw [← this]
  rfl
theorem one_chr (hG : Good G) {c : Nat} (hc : okCh c = true) (h32 : c ≠ 32) {x z : List Nat} {i : Nat} (hx : x.length ≤ 10000) (hd : x.drop i = [c] ++ z) (h : K (.tup [.bool false, .lst [pairD ([c], [c])], .int ((i + 1 : Nat) : Int)])) : CallK G (n + 2) μ (.ref 163) [.str x, .int (i : Int)] K := by
  have hz : x.length ≤ sizeLine := Nat.le_trans hx (by decide)
  have e0 : pySlice x (some (i : Int)) (some ((i : Int) + 1)) = [c] := sl_of hd 0 c (i : Int) ((i : Int) + 1) (by lia) (by lia) rfl
  have hcc : c = 44 ∨ (48 ≤ c ∧ c ≤ 57) ∨ (97 ≤ c ∧ c ≤ 122) := by
    unfold okCh at hc
    simp only [Bool.or_eq_true, Bool.and_eq_true, beq_iff_eq, decide_eq_true_eq] at hc
    lia
  have ne : ∀ d : Nat, c ≠ d → ([c] == [d]) = false := fun d hd => by simp [hd]
  have ne' : ∀ d : Nat, c ≠ d → ([c] != [d]) = true := fun d hd => by simp [hd]
  have hin : ([[], [94], [36], [42], [43], [63], [123], [125], [124], [40], [41]] : List (List Nat)).any (· == [c]) = false := by
    have ne2 : ∀ d : Nat, c ≠ d → ([d] == [c]) = false := fun d hd => by simp [Ne.symm hd]
    simp only [List.any_cons, List.any_nil, ne2 94 (by lia), ne2 36 (by lia), ne2 42 (by lia), ne2 43 (by lia), ne2 63 (by lia), ne2 123 (by lia), ne2 125 (by lia), ne2 124 (by lia), ne2 40 (by lia), ne2 41 (by lia)]
    rfl
  refine en163 hG rfl rfl (sl hz e0 (condK.no (ne 46 (by lia)) (condK.no (ne 92 (by lia)) (condK.yes (ne' 91 (by lia)) ⟨St_in_strs (ys := [[], [94], [36], [42], [43], [63], [123], [125], [124], [40], [41]]) rfl ⟨_, rfl, condK.no hin ⟨_, .pure rfl, h⟩⟩⟩))))

theorem one_sp (hG : Good G) {x z : List Nat} {i : Nat} (hx : x.length ≤ 10000) (hd : x.drop i = [92, 32] ++ z) (h : K (.tup [.bool false, .lst [pairD ([32], [32])], .int ((i + 2 : Nat) : Int)])) : CallK G (n + 2) μ (.ref 163) [.str x, .int (i : Int)] K := by
  have hz : x.length ≤ sizeLine := Nat.le_trans hx (by decide)
  have e0 := sl_of hd 0 92 (i : Int) ((i : Int) + 1) (by lia) (by lia) rfl
  have e1 := sl_of hd 1 32 ((i : Int) + 1) ((i : Int) + 2) (by lia) (by lia) rfl
  exact en163 hG rfl rfl (sl hz e0 (sl hz e1 ⟨_, .pure rfl, h⟩))
theorem sign_plain {x : List Nat} {p c : Nat} (h : at1 x p = [c]) (hc : c ≠ 92) : lawSign x p = ([c], p + 1) := by
  unfold lawSign
  rw [h, if_neg (by simpa using hc)]
end
section
open PySem PySem.W PyProof.Rows
set_option maxRecDepth 100000
set_option maxHeartbeats 1000000
set_option linter.unusedVariables false
open PySem.Calls
variable {G : GX} {n : Nat} {μ : List (List D)} {K : D → Prop}
inductive Inv163 (x : List Nat) (b : Bool) (p0 : Int) (p1 : Nat) (lo hi : List Nat) : Nat → List (Option D) → List (List D) → Prop
  | a : Inv163 x b p0 p1 lo hi 1 [some (.str x), some (.int p0), some (.str [91]), none, some (.bool b), some (.mt 0), none, none, none] [[]]
  | b : Inv163 x b p0 p1 lo hi 0 [some (.str x), some (.int (p1 : Int)), some (.str [91]), none, some (.bool b), some (.mt 0), some (.str lo), some (.str hi), none] [[pairD (lo, hi)]]
theorem lt_self (c : Nat) : decide ([c] < [c]) = false := decide_eq_false (List.lt_irrefl [c])
theorem brA (hG : Good G) {c : Nat} (h92 : c ≠ 92) (h94 : ([c] == [94]) = false) {x z : List Nat} {i : Nat} (hx : x.length ≤ 10000) (hd : x.drop i = [91, c, 93] ++ z) (h : K (.tup [.bool false, .lst [pairD ([c], [c])], .int ((i + 3 : Nat) : Int)])) : CallK G (n + 2) μ (.ref 163) [.str x, .int (i : Int)] K := by
  have hz : x.length ≤ sizeLine := Nat.le_trans hx (by decide)
  refine en163 hG rfl rfl (sl hz (sl_of hd 0 91 _ _ rfl rfl rfl) (sl hz (sl_of hd 1 c _ _ rfl rfl rfl) (condK.no h94 ⟨Inv163 x ([c] == [94]) _ (i + 1 + 1) [c] [c], ⟨_, .a⟩, ?_⟩)))
  rintro m v mu KB KE hN hB hR hE (_ | _)
  · refine ⟨sign_call (i := i + 1) hG hx ?_⟩
    rw [sign_plain (at1_of hd (k := 1) rfl) h92]
    refine ⟨rfl, sl hz (sl_of hd 2 93 _ _ rfl rfl rfl) (condK.no (lt_self c) ⟨_, rfl, by decide, hN _ _ ⟨_, Nat.zero_lt_one, .b⟩⟩)⟩
  · refine sl hz (sl_of hd 2 93 _ _ rfl rfl rfl) (hE ⟨_, .tup3 (.pure rfl) (.mt rfl (pure_pairs [([c], [c])])) (.pure rfl), ?_⟩)
    rw [h94]
    exact h
theorem brB (hG : Good G) {c d : Nat} (h92 : c ≠ 92) (h92' : d ≠ 92) (h94 : ([c] == [94]) = false) (h93 : ([d] != [93]) = true) (hlt : decide ([d] < [c]) = false) {x z : List Nat} {i : Nat} (hx : x.length ≤ 10000) (hd : x.drop i = [91, c, 45, d, 93] ++ z)
    (h : K (.tup [.bool false, .lst [pairD ([c], [d])], .int ((i + 5 : Nat) : Int)])) : CallK G (n + 2) μ (.ref 163) [.str x, .int (i : Int)] K := by
  have hz : x.length ≤ sizeLine := Nat.le_trans hx (by decide)
  refine en163 hG rfl rfl (sl hz (sl_of hd 0 91 _ _ rfl rfl rfl) (sl hz (sl_of hd 1 c _ _ rfl rfl rfl) (condK.no h94 ⟨Inv163 x ([c] == [94]) _ (i + 1 + 1 + 1 + 1) [c] [d], ⟨_, .a⟩, ?_⟩)))
  rintro m v mu KB KE hN hB hR hE (_ | _)
  · refine ⟨sign_call (i := i + 1) hG hx ?_⟩
    rw [sign_plain (at1_of hd (k := 1) rfl) h92]
    refine ⟨rfl, sl hz (sl_of hd 2 45 _ _ rfl rfl rfl) (sl hz (sl_of hd 3 d _ _ rfl rfl rfl) (condK.yes h93 ⟨sign_call (i := i + 1 + 1 + 1) hG hx ?_⟩))⟩
    rw [sign_plain (at1_of hd (k := 3) rfl) h92']
    exact ⟨rfl, condK.no hlt ⟨_, rfl, by decide, hN _ _ ⟨_, Nat.zero_lt_one, .b⟩⟩⟩
  · refine sl hz (sl_of hd 4 93 _ _ rfl rfl rfl) (hE ⟨_, .tup3 (.pure rfl) (.mt rfl (pure_pairs [([c], [d])])) (.pure rfl), ?_⟩)
    rw [h94]
    exact h
theorem brC (hG : Good G) {c d : Nat} (h92 : c ≠ 92) (h92' : d ≠ 92) (h93 : ([d] != [93]) = true) (hlt : decide ([d] < [c]) = false) {x z : List Nat} {i : Nat} (hx : x.length ≤ 10000) (hd : x.drop i = [91, 94, c, 45, d, 93] ++ z)
    (h : K (.tup [.bool true, .lst [pairD ([c], [d])], .int ((i + 6 : Nat) : Int)])) : CallK G (n + 2) μ (.ref 163) [.str x, .int (i : Int)] K := by
  have hz : x.length ≤ sizeLine := Nat.le_trans hx (by decide)
  refine en163 hG rfl rfl (sl hz (sl_of hd 0 91 _ _ rfl rfl rfl) (sl hz (sl_of hd 1 94 _ _ rfl rfl rfl) ⟨Inv163 x true _ (i + 1 + 1 + 1 + 1 + 1) [c] [d], ⟨_, .a⟩, ?_⟩))
  rintro m v mu KB KE hN hB hR hE (_ | _)
  · refine ⟨sign_call (i := i + 1 + 1) hG hx ?_⟩
    rw [sign_plain (at1_of hd (k := 2) rfl) h92]
    refine ⟨rfl, sl hz (sl_of hd 3 45 _ _ rfl rfl rfl) (sl hz (sl_of hd 4 d _ _ rfl rfl rfl) (condK.yes h93 ⟨sign_call (i := i + 1 + 1 + 1 + 1) hG hx ?_⟩))⟩
    rw [sign_plain (at1_of hd (k := 4) rfl) h92']
    exact ⟨rfl, condK.no hlt ⟨_, rfl, by decide, hN _ _ ⟨_, Nat.zero_lt_one, .b⟩⟩⟩
  · exact sl hz (sl_of hd 5 93 _ _ rfl rfl rfl) (hE ⟨_, .tup3 (.pure rfl) (.mt rfl (pure_pairs [([c], [d])])) (.pure rfl), h⟩)
theorem one_br (hG : Good G) {j : Nat} (hj : j < 6) {x z : List Nat} {i : Nat} (hx : x.length ≤ 10000) (hd : x.drop i = (Tk.br j).outS ++ z) (h : K (.tup [.bool (Tk.br j).one.1, .lst ((Tk.br j).one.2.map pairD), .int ((i + (Tk.br j).outS.length : Nat) : Int)])) : CallK G (n + 2) μ (.ref 163) [.str x, .int (i : Int)] K := by
  rcases (by lia : j = 0 ∨ j = 1 ∨ j = 2 ∨ j = 3 ∨ j = 4 ∨ j = 5) with rfl | rfl | rfl | rfl | rfl | rfl
  · exact brA hG (by decide) rfl hx hd h
  · exact brB hG (by decide) (by decide) rfl rfl rfl hx hd h
  · exact brA hG (by decide) rfl hx hd h
  · exact brC hG (by decide) (by decide) rfl rfl hx hd h
  · exact brB hG (by decide) (by decide) rfl rfl rfl hx hd h
  · exact brB hG (by decide) (by decide) rfl rfl rfl hx hd h
end
section
open PySem PySem.W PyProof.Rows
set_option maxRecDepth 100000
set_option maxHeartbeats 1000000
set_option linter.unusedVariables false
open PySem.Calls
variable {G : GX} {n : Nat} {μ : List (List D)} {K : D → Prop}

theorem one_call (hG : Good G) {t : Tk} (ht : t.ok = true) {x z : List Nat} {i : Nat} (hx : x.length ≤ 10000) (hd : x.drop i = t.outS ++ z) (h : K (.tup [.bool t.one.1, .lst (t.one.2.map pairD), .int ((i + t.outS.length : Nat) : Int)])) : CallK G (n + 2) μ (.ref 163) [.str x, .int (i : Int)] K := by
  cases t with
  | chr c =>
    by_cases h32 : c = 32
    · subst h32; exact one_sp hG hx hd h
    · have e : (Tk.chr c).outS = [c] := by
        unfold Tk.outS
        split
        · rename_i h'; cases h'; exact absurd rfl h32
        · rename_i h'; cases h'; rfl
        · rename_i h'; cases h'
        · rename_i h'; cases h'
      rw [e] at hd h
      exact one_chr hG ht h32 hx hd h
  | br j => exact one_br hG (of_decide_eq_true ht) hx hd h

inductive RT where
  | any
  | opn
  | cls
  | itm (t : Tk)
noncomputable def RT.s : RT → List Nat
  | .any => [46, 42]
  | .opn => [40, 63, 62, 46, 42, 63]
  | .cls => [41]
  | .itm t => t.outS
/-- may it be read? -/
noncomputable def okR : Bool → List RT → Bool
  | held, [] => !held
  | held, .any :: r => !held && okR false r
  | held, .opn :: r => !held && okR true r
  | held, .cls :: r => held && okR false r
  | held, .itm t :: r => t.ok && okR held r
noncomputable abbrev Pc := Int × List One
/-- a one at the foot of the last -/
noncomputable def addOne (o : One) : Pc → List Pc → Pc × List Pc
  | p, [] => ((p.1, p.2 ++ [o]), [])
  | p, q :: r => (p, (addOne o q r).1 :: (addOne o q r).2)
noncomputable def runR : List RT → Pc → List Pc → List Pc
  | [], p, r => p :: r
  | .any :: t, p, r => runR t p (r ++ [(2, [])])
  | .opn :: t, p, r => runR t p (r ++ [(1, [])])
  | .cls :: t, p, r => runR t p (r ++ [(0, [])])
  | .itm k :: t, p, r => runR t (addOne k.one p r).1 (addOne k.one p r).2
/-- the lists of the walk: the first inner one, the outer one, the other inner ones -/
noncomputable def outerGo : Nat → List Pc → List D
  | _, [] => []
  | j, p :: r => .tup [.int p.1, .mt j] :: outerGo (j + 1) r
noncomputable def muP (p : Pc) (r : List Pc) : List (List D) := (p.2.map oneD) :: (.tup [.int p.1, .mt 0] :: outerGo 2 r) :: r.map fun q => q.2.map oneD
theorem outerGo_app (q : Pc) : ∀ (j : Nat) (r : List Pc), outerGo j (r ++ [q]) = outerGo j r ++ [D.tup [.int q.1, .mt (j + r.length)]]
  | j, [] => rfl
  | j, p :: r => by
    rw [List.cons_append]
    show _ :: _ = _ :: _ ++ _
    rw [outerGo_app q (j + 1) r, List.cons_append, List.length_cons, show j + 1 + r.length = j + (r.length + 1) by lia]
theorem muP_new (p : Pc) (r : List Pc) (k : Int) : (muP p r ++ [[]]).set 1 ((D.tup [.int p.1, .mt 0] :: outerGo 2 r) ++ [D.tup [.int k, .mt (muP p r).length]]) = muP p (r ++ [(k, [])]) := by
  unfold muP
  rw [outerGo_app]
  simp
  lia
/-- the last inner list's number -/
noncomputable def lastI (r : List Pc) : Nat := if r.length = 0 then 0 else r.length + 1
theorem split_last {α : Type} (r : List α) : r = [] ∨ ∃ r' q, r = r' ++ [q] := by
  rcases List.eq_nil_or_concat r with h | ⟨l, a, h⟩
  · exact .inl h
  · exact .inr ⟨l, a, by simpa using h⟩
theorem atD_last {α : Type} (l : List α) (x : α) : atD (l ++ [x]) (-1) = some x := by
  unfold atD seqIndex?
  have h1 : ((-1 : Int) < 0) := by decide
  simp only [h1, if_true, List.length_append, List.length_singleton]
  have h2 : (-1 : Int) + ((l.length + 1 : Nat) : Int) = (l.length : Int) := by lia
  rw [h2]
  have h3 : (decide (0 ≤ (l.length : Int)) && decide ((l.length : Int) < ((l.length + 1 : Nat) : Int))) = true := by simp; lia
  rw [if_pos h3]
  simp
theorem outer_last (p : Pc) (r : List Pc) : ∃ k, atD (D.tup [.int p.1, .mt 0] :: outerGo 2 r) (-1) = some (D.tup [.int k, .mt (lastI r)]) := by
  rcases split_last r with rfl | ⟨r', q, rfl⟩
  · exact ⟨p.1, rfl⟩
  · refine ⟨q.1, ?_⟩
    rw [outerGo_app, ← List.cons_append, atD_last]
    unfold lastI
    rw [if_neg (by simp)]
    simp
    lia
theorem addOne_app (o : One) (q : Pc) : ∀ (r : List Pc) (p : Pc), addOne o p (r ++ [q]) = (p, r ++ [(q.1, q.2 ++ [o])])
  | [], p => rfl
  | a :: t, p => by
    show (p, (addOne o a (t ++ [q])).1 :: (addOne o a (t ++ [q])).2) = _
    rw [addOne_app o q t a]; rfl
theorem muP_add (o : One) (p : Pc) (r : List Pc) (m : Nat) (hp : p.2.length ≤ m) (hr : ∀ q ∈ r, q.2.length ≤ m) : ∃ os, (muP p r)[lastI r]? = some os ∧ (muP p r).set (lastI r) (os ++ [oneD o]) = muP (addOne o p r).1 (addOne o p r).2 ∧ os.length ≤ m := by
  rcases split_last r with rfl | ⟨r', q, rfl⟩
  · refine ⟨p.2.map oneD, rfl, ?_, by simpa using hp⟩
    show _ = muP (p.1, p.2 ++ [o]) []
    unfold muP lastI
    simp
  · refine ⟨q.2.map oneD, ?_, ?_, by simpa using hr q (by simp)⟩
    · unfold muP lastI
      rw [if_neg (by simp)]
      simp
    · rw [addOne_app]
      unfold muP lastI
      rw [if_neg (by simp), outerGo_app, outerGo_app]
      simp
theorem addOne_bound (o : One) (m : Nat) : ∀ (r : List Pc) (p : Pc), p.2.length ≤ m → (∀ q ∈ r, q.2.length ≤ m) → (addOne o p r).1.2.length ≤ m + 1 ∧ ∀ q ∈ (addOne o p r).2, q.2.length ≤ m + 1
  | [], p, hp, _ => ⟨by show (p.2 ++ [o]).length ≤ _; simp; lia, fun q hq => absurd hq List.not_mem_nil⟩
  | a :: t, p, hp, hr => by
    have ih := addOne_bound o m t a (hr a List.mem_cons_self) fun q hq => hr q (List.mem_cons_of_mem _ hq)
    refine ⟨by show p.2.length ≤ _; lia, fun q hq => ?_⟩
    rcases List.mem_cons.mp hq with e | e
    · rw [e]; exact ih.1
    · exact ih.2 q e
theorem addOne_len (o : One) : ∀ (r : List Pc) (p : Pc), (addOne o p r).2.length = r.length
  | [], _ => rfl
  | a :: t, p => by show ((addOne o a t).2.length + 1) = _; rw [addOne_len o t a]; rfl
end
section
open PySem PySem.W PyProof.Rows
set_option maxRecDepth 100000
set_option maxHeartbeats 1000000
set_option linter.unusedVariables false
open PySem.Calls
variable {G : GX} {n : Nat} {μ : List (List D)} {K : D → Prop}

theorem slice_takeN (x : List Nat) (i k : Nat) (a b : Int) (ha : a = i) (hb : b = (i : Int) + k) : pySlice x (some a) (some b) = (x.drop i).take k := by
  subst ha; subst hb
  unfold pySlice clipI
  simp only []
  have h1 : ¬ ((i : Int) < 0) := by omega
  have h2 : ¬ ((i : Int) + k < 0) := by omega
  rw [if_neg h1, if_neg h2]
  by_cases h : i < x.length
  · have e1 : (max 0 (min (i : Int) x.length)).toNat = i := by omega
    rw [e1]
    by_cases h3 : i + k ≤ x.length
    · have e2 : (max 0 (min ((i : Int) + k) x.length)).toNat = i + k := by omega
      rw [e2, show i + k - i = k by omega]
    · have e2 : (max 0 (min ((i : Int) + k) x.length)).toNat = x.length := by omega
      rw [e2, List.take_of_length_le (by rw [List.length_drop]; omega), List.take_of_length_le (by rw [List.length_drop]; omega)]
  · have e1 : (max 0 (min (i : Int) x.length)).toNat = x.length := by omega
    rw [e1, List.drop_of_length_le (Nat.le_refl _), List.drop_of_length_le (by omega)]
    simp
noncomputable def preS : List Nat := [40, 63, 115, 58]
noncomputable def postS : List Nat := [41, 92, 90]
theorem cut_pre (b : List Nat) : pySlice (preS ++ b ++ postS) none (some 4) = preS := by
  unfold pySlice clipI
  have e : (max 0 (min (if (4 : Int) < 0 then 4 + ((preS ++ b ++ postS).length : Int) else 4) ((preS ++ b ++ postS).length : Int))).toNat = 4 := by
    rw [if_neg (by decide), List.length_append, List.length_append, show preS.length = 4 from rfl, show postS.length = 3 from rfl]; omega
  simp only [e]
  rfl
theorem cut_post (b : List Nat) : pySlice (preS ++ b ++ postS) (some (-3)) none = postS := by
  unfold pySlice clipI
  have hl : (preS ++ b ++ postS).length = b.length + 7 := by rw [List.length_append, List.length_append, show preS.length = 4 from rfl, show postS.length = 3 from rfl]; lia
  have e : (max 0 (min (if (-3 : Int) < 0 then -3 + ((preS ++ b ++ postS).length : Int) else -3) ((preS ++ b ++ postS).length : Int))).toNat = b.length + 4 := by
    rw [if_pos (by decide), hl]; lia
  simp only [e]
  rw [hl, show b.length + 4 = (preS ++ b).length by rw [List.length_append, show preS.length = 4 from rfl]; lia, List.drop_left]
  rw [show b.length + 7 - (preS ++ b).length = 3 by rw [List.length_append, show preS.length = 4 from rfl]; lia]
  rfl
theorem cut_mid (b : List Nat) : pySlice (preS ++ b ++ postS) (some 4) (some (-3)) = b := by
  unfold pySlice clipI
  have hl : (preS ++ b ++ postS).length = b.length + 7 := by rw [List.length_append, List.length_append, show preS.length = 4 from rfl, show postS.length = 3 from rfl]; lia
  have e : (max 0 (min (if (-3 : Int) < 0 then -3 + ((preS ++ b ++ postS).length : Int) else -3) ((preS ++ b ++ postS).length : Int))).toNat = b.length + 4 := by
    rw [if_pos (by decide), hl]; lia
  have e' : (max 0 (min (if (4 : Int) < 0 then 4 + ((preS ++ b ++ postS).length : Int) else 4) ((preS ++ b ++ postS).length : Int))).toNat = 4 := by
    rw [if_neg (by decide), hl]; lia
  simp only [e, e']
  rw [List.append_assoc, show (4 : Nat) = preS.length from rfl, List.drop_left, show b.length + preS.length - preS.length = b.length by lia, List.take_left]
noncomputable def rS (rts : List RT) : List Nat := (rts.map RT.s).flatten
theorem outS_head (t : Tk) (ht : t.ok = true) : ∃ c r, t.outS = c :: r ∧ c ≠ 40 ∧ c ≠ 41 ∧ c ≠ 46 := by
  cases t with
  | chr c =>
    by_cases h32 : c = 32
    · subst h32; exact ⟨92, [32], rfl, by decide, by decide, by decide⟩
    · have e : (Tk.chr c).outS = [c] := by
        unfold Tk.outS
        split
        · rename_i h'; cases h'; exact absurd rfl h32
        · rename_i h'; cases h'; rfl
        · rename_i h'; cases h'
        · rename_i h'; cases h'
      unfold Tk.ok okCh at ht
      simp only [Bool.or_eq_true, Bool.and_eq_true, beq_iff_eq, decide_eq_true_eq] at ht
      exact ⟨c, [], e, by lia, by lia, by lia⟩
  | br j =>
    have hj : j < 6 := of_decide_eq_true ht
    match j, hj with
    | 0, _ => exact ⟨91, _, rfl, by decide, by decide, by decide⟩
    | 1, _ => exact ⟨91, _, rfl, by decide, by decide, by decide⟩
    | 2, _ => exact ⟨91, _, rfl, by decide, by decide, by decide⟩
    | 3, _ => exact ⟨91, _, rfl, by decide, by decide, by decide⟩
    | 4, _ => exact ⟨91, _, rfl, by decide, by decide, by decide⟩
    | 5, _ => exact ⟨91, _, rfl, by decide, by decide, by decide⟩
end
section
open PySem PySem.W PyProof.Rows
set_option maxRecDepth 100000
set_option maxHeartbeats 1000000
set_option linter.unusedVariables false
open PySem.Calls
variable {G : GX} {n : Nat} {μ : List (List D)} {K : D → Prop}
theorem outerGo_len : ∀ (j : Nat) (r : List Pc), (outerGo j r).length = r.length
  | _, [] => rfl
  | j, p :: r => by show _ + 1 = _ + 1; rw [outerGo_len (j + 1) r]
theorem outerGo_get : ∀ (s : Nat) (r : List Pc) (j : Nat), (outerGo s r)[j]? = (r[j]?).map fun q => D.tup [.int q.1, .mt (s + j)]
  | _, [], j => by simp [outerGo]
  | s, p :: r, 0 => rfl
  | s, p :: r, j + 1 => by
    show (outerGo (s + 1) r)[j]? = _
    rw [outerGo_get (s + 1) r j, List.getElem?_cons_succ, show s + 1 + j = s + (j + 1) by lia]
theorem pure_oneL (os : List One) : pureL (os.map oneD) = true := pureL_map _ pure_one os
theorem rs_pieces (p : Pc) (r : List Pc) : Rs (muP p r) (.mt 1) (piecesD (p :: r)) := by
  refine .mtL (i := 1) rfl (by simp [outerGo_len]) fun j d d' h1 h2 => ?_
  cases j with
  | zero =>
    simp at h1 h2
    subst h1; subst h2
    exact .tup2 (.pure (pure_int _)) (.mt rfl (pure_oneL _))
  | succ j =>
    rw [List.getElem?_cons_succ, outerGo_get] at h1
    rw [List.map_cons, List.getElem?_cons_succ, List.getElem?_map] at h2
    cases e : r[j]? with
    | none => rw [e] at h1; cases h1
    | some q =>
      rw [e] at h1 h2
      cases h1; cases h2
      refine .tup2 (.pure (pure_int _)) (.mt (ds := q.2.map oneD) ?_ (pure_oneL _))
      unfold muP
      rw [show 2 + j = j + 1 + 1 by lia, List.getElem?_cons_succ, List.getElem?_cons_succ, List.getElem?_map, e]; rfl
inductive Inv170 (rts : List RT) : Nat → List (Option D) → List (List D) → Prop
  | mk {o : Option D} {i : Int} {μ' : List (List D)} (dn : List Nat) (rest : List RT) (p : Pc) (r : List Pc) (held : Bool) (hx : rS rts = dn ++ rS rest) (hok : okR held rest = true) (hrun : runR rest p r = runR rts (0, []) []) (hb1 : r.length ≤ dn.length) (hb2 : p.2.length ≤ dn.length) (hb3 : ∀ q ∈ r, q.2.length ≤ dn.length) (hi : i = (dn.length : Int)) (hμ : μ' = muP p r) :
    Inv170 rts rest.length [some (.str (rS rts)), some (.mt 1), some (.bool held), some (.int i), o, none, none] μ'
theorem tup_fit {r : List Pc} {dn : List Nat} (hb1 : r.length ≤ dn.length) (hdn : dn.length ≤ 900) (q : D) (j : Nat) : (q :: outerGo j r).length ≤ sizeLine := by
  rw [List.length_cons, outerGo_len]; exact Nat.le_trans (Nat.succ_le_succ (Nat.le_trans hb1 hdn)) (by decide)
theorem len_more {dn s : List Nat} {k : Nat} (h : k ≤ dn.length) (hs : 1 ≤ s.length) : k + 1 ≤ (dn ++ s).length := by rw [List.length_append]; lia
theorem len_keep {dn s : List Nat} {k : Nat} (h : k ≤ dn.length) : k ≤ (dn ++ s).length := by rw [List.length_append]; lia
theorem bound_new {r : List Pc} {dn s : List Nat} (k : Int) (hb3 : ∀ q ∈ r, q.2.length ≤ dn.length) : ∀ q ∈ r ++ [(k, [])], q.2.length ≤ (dn ++ s).length := fun q hq =>
  (List.mem_append.mp hq).elim (fun h => len_keep (hb3 q h)) (fun h => by rw [List.mem_singleton.mp h]; exact Nat.zero_le _)
theorem pieces_call (hG : Good G) {rts : List RT} (hr : okR false rts = true) (hl : (rS rts).length ≤ 900) (h : K (piecesD (runR rts (0, []) []))) : CallK G (n + 3) μ (.ref 170) [.str (preS ++ rS rts ++ postS)] K := by
  have hl' : (preS ++ rS rts ++ postS).length ≤ sizeLine := by rw [List.length_append, List.length_append]; exact Nat.le_trans (Nat.add_le_add_right (Nat.add_le_add_left hl 4) 3) (by decide)
  have hz : (rS rts).length ≤ sizeLine := Nat.le_trans hl (by decide)
  have hz2 : (rS rts).length < 2 ^ 62 := Nat.lt_of_le_of_lt hl (by decide)
  refine en170 hG rfl rfl (sl hl' (cut_pre _) (sl hl' (cut_post _) (sl hl' (cut_mid _) ?_)))
  have rsApp : ∀ t r, rS (t :: r) = t.s ++ rS r := fun t r => by unfold rS; rw [List.map_cons, List.flatten_cons]
  refine ⟨Inv170 rts, ⟨_, .mk [] rts (0, []) [] false rfl hr rfl (Nat.le_refl _) (Nat.le_refl _) (fun q hq => absurd hq List.not_mem_nil) rfl rfl⟩, ?_⟩
  rintro m v mu KB KE hN hB hR hE ⟨dn, rest, p, r, held, hx, hok, hrun, hb1, hb2, hb3, rfl, rfl⟩
  have hdn : dn.length ≤ 900 := by rw [hx, List.length_append] at hl; lia
  have hdrop : (rS rts).drop dn.length = rS rest := by rw [hx, List.drop_left]
  refine ⟨hz2, ?_⟩
  cases rest with
  | nil =>
    have hlen : (rS rts).length = dn.length := by rw [hx]; simp [rS]
    refine condK.no (decide_eq_false (by rw [hlen]; exact Int.lt_irrefl _)) (hE ?_)
    have hh : held = false := by simpa [okR] using hok
    subst hh
    have : runR rts (0, []) [] = p :: r := hrun.symm
    rw [this] at h
    exact ⟨piecesD (p :: r), rs_pieces p r, h⟩
  | cons t rest =>
    have hs1 : 1 ≤ t.s.length := by
      cases t with
      | any => decide
      | opn => decide
      | cls => decide
      | itm k =>
        have hk : k.ok = true := by
          have : (k.ok && okR held rest) = true := hok
          rw [Bool.and_eq_true] at this; exact this.1
        obtain ⟨c, q, e, _⟩ := outS_head k hk
        show 1 ≤ k.outS.length
        rw [e]; simp
    have hlen : dn.length < (rS rts).length := by rw [hx, rsApp, List.length_append, List.length_append]; lia
    rw [rsApp] at hdrop hx
    have hx' : rS rts = (dn ++ t.s) ++ rS rest := by rw [hx, List.append_assoc]
    have s6 := slice_takeN (rS rts) dn.length 6 (dn.length : Int) ((dn.length : Int) + 6) rfl rfl
    have s1 := slice_takeN (rS rts) dn.length 1 (dn.length : Int) ((dn.length : Int) + 1) rfl rfl
    have s2 := slice_takeN (rS rts) dn.length 2 (dn.length : Int) ((dn.length : Int) + 2) rfl rfl
    rw [hdrop] at s6 s1 s2
    refine condK.yes (decide_eq_true (Int.ofNat_lt.mpr hlen)) ?_
    have lt1 : rest.length < (t :: rest).length := Nat.lt_succ_self _
    have fin : ∀ (k : Int) (held' : Bool) (o : Option D) (j : Int), j = ((dn ++ t.s).length : Int) → okR held' rest = true → runR rest p (r ++ [(k, [])]) = runR rts (0, []) [] →
        KB (.next [some (.str (rS rts)), some (.mt 1), some (.bool held'), some (.int j), o, none, none] ((muP p r ++ [[]]).set 1 ((D.tup [.int p.1, .mt 0] :: outerGo 2 r) ++ [D.tup [.int k, .mt (muP p r).length]]))) := fun k held' o j hj h1 h2 =>
      hN _ _ ⟨_, lt1, .mk (dn ++ t.s) rest p (r ++ [(k, [])]) held' hx' h1 h2 (by rw [List.length_append]; exact len_more hb1 hs1) (len_keep hb2) (bound_new k hb3) hj (muP_new ..)⟩
    cases t with
    | opn =>
      have hok : (!held && okR true rest) = true := hok
      rw [Bool.and_eq_true] at hok
      have hh : held = false := by simpa using hok.1
      subst hh
      exact sl hz (s6.trans rfl) ⟨_, rfl, tup_fit hb1 hdn _ _, fin 1 true _ _ (by rw [List.length_append]; rfl) hok.2 hrun⟩
    | cls =>
      have hok : (held && okR false rest) = true := hok
      rw [Bool.and_eq_true] at hok
      have hh : held = true := hok.1
      subst hh
      exact sl hz (s1.trans rfl) ⟨_, rfl, tup_fit hb1 hdn _ _, fin 0 false _ _ (by rw [List.length_append]; rfl) hok.2 hrun⟩
    | any =>
      have hok : (!held && okR false rest) = true := hok
      rw [Bool.and_eq_true] at hok
      have hh : held = false := by simpa using hok.1
      subst hh
      have s6' : (pySlice (rS rts) (some (dn.length : Int)) (some ((dn.length : Int) + 6)) == [40, 63, 62, 46, 42, 63]) = false := by rw [s6]; rfl
      exact ⟨hz, condK.no s6' (sl hz (s2.trans rfl) ⟨_, rfl, tup_fit hb1 hdn _ _, fin 2 false _ _ (by rw [List.length_append]; rfl) hok.2 hrun⟩)⟩
    | itm k =>
      have hok : (k.ok && okR held rest) = true := hok
      rw [Bool.and_eq_true] at hok
      obtain ⟨c, q, hc, c40, c41, c46⟩ := outS_head k hok.1
      have hS : (RT.itm k).s ++ rS rest = c :: (q ++ rS rest) := by show k.outS ++ _ = _; rw [hc]; rfl
      have s6' : (pySlice (rS rts) (some (dn.length : Int)) (some ((dn.length : Int) + 6)) == [40, 63, 62, 46, 42, 63]) = false := by rw [s6, hS, List.take_succ_cons]; simp [c40]
      have s1' : (pySlice (rS rts) (some (dn.length : Int)) (some ((dn.length : Int) + 1)) == [41]) = false := by rw [s1, hS, List.take_succ_cons]; simp [c41]
      have s2' : (pySlice (rS rts) (some (dn.length : Int)) (some ((dn.length : Int) + 2)) == [46, 42]) = false := by rw [s2, hS, List.take_succ_cons]; simp [c46]
      obtain ⟨kk, hlast⟩ := outer_last p r
      obtain ⟨os, hos, hset, hol⟩ := muP_add k.one p r dn.length hb2 hb3
      have hb := addOne_bound k.one dn.length r p hb2 hb3
      have fit1 : (D.tup [D.int p.1, D.mt 0] :: outerGo 2 r).length < 2 ^ 62 := Nat.lt_of_le_of_lt (tup_fit hb1 hdn _ _) (by decide)
      have hfin : ∀ (held' : Bool), okR held' rest = true → runR rest (addOne k.one p r).1 (addOne k.one p r).2 = runR rts (0, []) [] → ∀ o,
          KB (.next [some (.str (rS rts)), some (.mt 1), some (.bool held'), some (.int ((dn.length + k.outS.length : Nat) : Int)), o, none, none] ((muP p r).set (lastI r) (os ++ [oneD k.one]))) := fun held' h1 h2 o =>
        hN _ _ ⟨_, lt1, .mk (dn ++ k.outS) rest _ _ held' hx' h1 h2 (by rw [addOne_len]; exact len_keep hb1) (by rw [List.length_append]; exact Nat.le_trans hb.1 (Nat.add_le_add_left hs1 _))
          (fun q hq => by rw [List.length_append]; exact Nat.le_trans (hb.2 q hq) (Nat.add_le_add_left hs1 _)) (by rw [List.length_append]) hset⟩
      cases held with
      | false => exact ⟨hz, condK.no s6' ⟨hz, condK.no s2' ⟨one_call hG hok.1 (Nat.le_trans hl (by decide)) hdrop ⟨fit1, optK.mk hlast ⟨os, hos, Nat.le_trans hol (Nat.le_trans hdn (by decide)), hfin false hok.2 hrun _⟩⟩⟩⟩⟩
      | true => exact ⟨hz, condK.no s1' ⟨one_call hG hok.1 (Nat.le_trans hl (by decide)) hdrop ⟨fit1, optK.mk hlast ⟨os, hos, Nat.le_trans hol (Nat.le_trans hdn (by decide)), hfin true hok.2 hrun _⟩⟩⟩⟩
end
section
open PySem PySem.W PyProof.Rows
set_option maxRecDepth 100000
set_option maxHeartbeats 1000000
set_option linter.unusedVariables false
open PySem.Calls
variable {G : GX} {n : Nat} {μ : List (List D)} {K : D → Prop}
noncomputable abbrev Part := Option Tk
noncomputable def pd (a : Addr) : Part → D
  | none => .raw (.ref a)
  | some t => .str t.outS
noncomputable def starR (r : List Part) (one zero : List RT) : List RT := if r = [] then [.any] else if r.any (·.isNone) then .opn :: one else .any :: zero
noncomputable def goR : Bool → List Part → List RT
  | _, [] => []
  | b, some t :: r => .itm t :: goR b r
  | false, none :: r => starR r (goR true r) (goR false r)
  | true, none :: r => .cls :: starR r (goR true r) (goR false r)
/-- no two stars side by side -/
noncomputable def okP : Bool → List Part → Bool
  | _, [] => true
  | _, some t :: r => t.ok && okP false r
  | s, none :: r => !s && okP true r
theorem goR_lead (b : Bool) : ∀ (dn : List Tk) (r : List Part), goR b (dn.map some ++ r) = dn.map RT.itm ++ goR b r
  | [], r => rfl
  | t :: dn, r => by
    show RT.itm t :: goR b (dn.map some ++ r) = _
    rw [goR_lead b dn r]; rfl
theorem rS_app (a b : List RT) : rS (a ++ b) = rS a ++ rS b := by unfold rS; rw [List.map_append, List.flatten_append]
theorem rS_itm (dn : List Tk) : rS (dn.map RT.itm) = (dn.map Tk.outS).flatten := by
  unfold rS
  rw [List.map_map]
  rfl
theorem pure_pd (a : Addr) (p : Part) : (pd a p).pure = true := by
  cases p with
  | none => unfold pd; rw [D.pure] <;> intros <;> contradiction
  | some t => exact pure_str _
theorem at_part (a : Addr) (pre : List Part) (x : Part) (r : List Part) : atD ((pre ++ x :: r).map (pd a)) (pre.length : Int) = some (pd a x) := by
  rw [atD_nat, List.getElem?_map]
  simp
theorem joinL_nil : ∀ ys : List (List Nat), joinL [] ys = ys.flatten
  | [] => rfl
  | x :: r => by
    show x ++ (r.map fun y => ([] : List Nat) ++ y).flatten = x ++ r.flatten
    have : (r.map fun y => ([] : List Nat) ++ y) = r := by
      simp
    rw [this]
theorem sum_len (ys : List (List Nat)) : (ys.map List.length).sum = ys.flatten.length := by rw [List.length_flatten]
noncomputable def todoR : List Part → List RT
  | none :: r => starR r (goR true r) (goR false r)
  | _ => []
theorem todo_last (dn : List Tk) (h : dn ≠ []) : todoR (none :: (dn.map some ++ [])) = .any :: dn.map RT.itm := by
  show starR _ _ _ = _
  unfold starR
  rw [if_neg (by simpa using h), if_neg (by simp), goR_lead]
  simp [goR]
theorem todo_mid (dn : List Tk) (r : List Part) (h : dn ≠ []) : todoR (none :: (dn.map some ++ none :: r)) = .opn :: (dn.map RT.itm ++ .cls :: todoR (none :: r)) := by
  show starR _ _ _ = _
  unfold starR
  rw [if_neg (by simp), if_pos (by simp), goR_lead]
  rfl
theorem goR_todo (dn : List Tk) (rest : List Part) (h : rest = [] ∨ ∃ r, rest = none :: r) : goR false (dn.map some ++ rest) = dn.map RT.itm ++ todoR rest := by
  rw [goR_lead]
  rcases h with rfl | ⟨r, rfl⟩ <;> rfl
theorem okP_tail : ∀ (pre : List Part) (r : List Part) (b : Bool), okP b (pre ++ none :: r) = true → okP true r = true
  | [], r, b, h => by
    have : (!b && okP true r) = true := h
    rw [Bool.and_eq_true] at this; exact this.2
  | some t :: pre, r, b, h => by
    have : (t.ok && okP false (pre ++ none :: r)) = true := h
    rw [Bool.and_eq_true] at this; exact okP_tail pre r false this.2
  | none :: pre, r, b, h => by
    have : (!b && okP true (pre ++ none :: r)) = true := h
    rw [Bool.and_eq_true] at this; exact okP_tail pre r true this.2
inductive Inv149a (parts : List Part) (a : Addr) : Nat → List (Option D) → List (List D) → Prop
  | mk {i : Int} {ds : List D} (dn : List Tk) (rest : List Part) (hpt : parts = dn.map some ++ rest) (hi : i = (dn.length : Int)) (hd : ds = dn.map fun t => D.str t.outS) : Inv149a parts a rest.length [some (.lst (parts.map (pd a))), some (.raw (.ref a)), some (.mt 0), some (.bm 0), some (.int i), some (.int (parts.length : Int)), none, none] [ds]
inductive X149a (parts : List Part) (a : Addr) : List (Option D) → List (List D) → Prop
  | mk (dn : List Tk) (rest : List Part) (hpt : parts = dn.map some ++ rest) (hr : rest = [] ∨ ∃ r, rest = none :: r) : X149a parts a [some (.lst (parts.map (pd a))), some (.raw (.ref a)), some (.mt 0), some (.bm 0), some (.int (dn.length : Int)), some (.int (parts.length : Int)), none, none] [dn.map fun t => D.str t.outS]
inductive Inv149b (parts : List Part) (a : Addr) : Nat → List (Option D) → List (List D) → Prop
  | mk {i : Int} {ds : List D} {f : Option D} (pre rest : List Part) (resL : List (List Nat)) (junk : List (List D)) (hpr : parts = pre ++ rest) (hr : rest = [] ∨ ∃ r, rest = none :: r) (hres : resL.flatten ++ rS (todoR rest) = rS (goR false parts)) (hrl : resL.length ≤ 2 * pre.length)
      (hi : i = (pre.length : Int)) (hd : ds = resL.map D.str) : Inv149b parts a rest.length [some (.lst (parts.map (pd a))), some (.raw (.ref a)), some (.mt 0), some (.bm 0), some (.int i), some (.int (parts.length : Int)), f, none] (ds :: junk)
inductive X149b (parts : List Part) (a : Addr) : List (Option D) → List (List D) → Prop
  | mk {i : Int} {ds : List D} {f : Option D} (resL : List (List Nat)) (junk : List (List D)) (hres : resL.flatten = rS (goR false parts)) (hrl : resL.length ≤ 2 * parts.length + 2) (hi : i = (parts.length : Int)) (hd : ds = resL.map D.str) : X149b parts a [some (.lst (parts.map (pd a))), some (.raw (.ref a)), some (.mt 0), some (.bm 0), some (.int i), some (.int (parts.length : Int)), f, none] (ds :: junk)
inductive Inv149c (parts : List Part) (a : Addr) (pl : Nat) (t : Tk) (r' : List Part) (rs : List D) (junk : List (List D)) : Nat → List (Option D) → List (List D) → Prop
  | mk {i : Int} {ds : List D} (dn2 : List Tk) (rest2 : List Part) (h2 : some t :: r' = dn2.map some ++ rest2) (hi : i = ((pl + 1 + dn2.length : Nat) : Int)) (hd : ds = dn2.map fun t => D.str t.outS) :
    Inv149c parts a pl t r' rs junk rest2.length [some (.lst (parts.map (pd a))), some (.raw (.ref a)), some (.mt 0), some (.bm 0), some (.int i), some (.int (parts.length : Int)), some (.mt (junk.length + 1)), none] (rs :: (junk ++ [ds]))
inductive X149c (parts : List Part) (a : Addr) (pl : Nat) (t : Tk) (r' : List Part) (rs : List D) (junk : List (List D)) : List (Option D) → List (List D) → Prop
  | mk (dn2 : List Tk) (rest2 : List Part) (h2 : some t :: r' = dn2.map some ++ rest2) (hr2 : rest2 = [] ∨ ∃ r, rest2 = none :: r) :
    X149c parts a pl t r' rs junk [some (.lst (parts.map (pd a))), some (.raw (.ref a)), some (.mt 0), some (.bm 0), some (.int ((pl + 1 + dn2.length : Nat) : Int)), some (.int (parts.length : Int)), some (.mt (junk.length + 1)), none] (rs :: (junk ++ [dn2.map fun t => D.str t.outS]))
theorem get_end {α : Type} (x : α) (l : List α) (y : α) : (x :: (l ++ [y]))[l.length + 1]? = some y := by rw [List.getElem?_cons_succ]; simp
theorem join_call (hG : Good G) {a : Addr} {parts : List Part} (hp : okP false parts = true) (hn : parts.length ≤ 900) (hl : (rS (goR false parts)).length ≤ 900) (h : K (.str (preS ++ rS (goR false parts) ++ postS))) :
    CallK G (n + 1) μ (.ref 149) [.lst (parts.map (pd a)), .raw (.ref a)] K := by
  have pp : pureL (parts.map (pd a)) = true := pureL_map _ (pure_pd a) parts
  have praw : (D.raw (.ref a)).pure = true := pure_pd a none
  have hz : (parts.map (pd a)).length < 2 ^ 62 := by rw [List.length_map]; exact Nat.lt_of_le_of_lt hn (by decide)
  have sml : ∀ {k : Nat}, k ≤ 2000 → k ≤ sizeLine := fun h => Nat.le_trans h (by decide)
  refine en149 hG rfl (by simp only [pureL_cons, pureL_nil, pure_lst, pp, praw, Bool.and_self]) ⟨Ex_assign_swapped ["i", "n"] [5, 4] (.cons rfl (.inl rfl) (.cons rfl (.inl rfl) .nil)) (run_E hG tb149 ⟨hz, _, rfl, rfl, ?_⟩) (by with_unfolding_all rfl) (fun _ => by with_unfolding_all rfl)⟩
  rw [List.length_map]
  refine WhileW.ofX (Inv149a parts a) (X149a parts a) ⟨_, .mk [] parts rfl rfl rfl⟩ ?_ ?_
  · rintro v mu ⟨dn, rest, hpt, hr⟩
    have hgo : rS (goR false parts) = (dn.map Tk.outS).flatten ++ rS (todoR rest) := by rw [hpt, goR_todo dn rest hr, rS_app, rS_itm]
    refine WhileW.ofX (Inv149b parts a) (X149b parts a) ⟨_, .mk (dn.map some) rest (dn.map Tk.outS) [] hpt hr hgo.symm (by rw [List.length_map, List.length_map]; lia) (by rw [List.length_map]) (by rw [List.map_map]; rfl)⟩ ?_ ?_
    · rintro v mu ⟨resL, junk, hres, hrl, rfl, rfl⟩
      refine condK.yes (beq_self_eq_true _) ⟨C_join (ys := resL) rfl (by rw [sum_len, hres]; simp; lia) ?_⟩
      rw [joinL_nil, hres]
      have hq : (preS ++ rS (goR false parts) ++ postS).length ≤ sizeLine := by rw [List.length_append, List.length_append]; exact sml (Nat.le_trans (Nat.add_le_add_right (Nat.add_le_add_left hl 4) 3) (by decide))
      exact ⟨by decide, sml (Nat.le_trans hl (by decide)), by rw [List.length_append]; exact sml (Nat.le_trans (Nat.add_le_add_left hl 4) (by decide)), hq, hq, _, .pure rfl, h⟩
    · rintro m v mu KB KE hN hB hR hE ⟨pre, rest, resL, junk, hpr, hr, hres, hrl, rfl, rfl⟩
      have hdl : pre.length + rest.length = parts.length := by rw [hpr, List.length_append]
      rcases hr with rfl | ⟨r, rfl⟩
      · have hle : pre.length = parts.length := hdl
        refine condK.no (decide_eq_false (by rw [hle]; exact Int.lt_irrefl _)) (hE (.mk resL junk ?_ (by lia) (by rw [hle]) rfl))
        rw [← hres]; simp [todoR, rS]
      · rw [List.length_cons] at hdl
        have hat : atD (parts.map (pd a)) (pre.length : Int) = some (.raw (.ref a)) := by
          have := at_part a pre none r
          rw [← hpr] at this
          exact this
        have hokr : okP true r = true := okP_tail pre r false (hpr ▸ hp)
        have hrl2 : (resL.map D.str).length ≤ sizeLine := by rw [List.length_map]; exact sml (by lia)
        refine condK.yes (decide_eq_true (by lia)) ⟨hz, optK.mk hat ⟨St_is_raw_same ⟨_, rfl, condK.yes rfl ?_⟩⟩⟩
        refine condK.of (fun he => ?_) fun he => ?_
        · have he : (pre.length : Int) + 1 = parts.length := eq_of_beq he
          have hr0 : r = [] := List.eq_nil_of_length_eq_zero (by lia)
          subst hr0
          refine ⟨_, rfl, hrl2, hB _ _ (.mk (resL ++ [[46, 42]]) junk ?_ (by rw [List.length_append]; show _ + 1 ≤ _; lia) he (by rw [List.map_append]; rfl))⟩
          rw [← hres, List.flatten_append]; rfl
        · have he : ¬ (pre.length : Int) + 1 = parts.length := ne_of_beq_false he
          cases r with
          | nil => simp at hdl; lia
          | cons x r' =>
            cases x with
            | none => cases hokr
            | some t =>
              have hat2 : atD (parts.map (pd a)) ((pre.length : Int) + 1) = some (.str t.outS) := by
                have := at_part a (pre ++ [none]) (some t) r'
                rw [List.append_assoc, List.singleton_append, ← hpr, List.length_append] at this
                exact this
              refine ⟨hz, optK.mk hat2 ?_⟩
              refine WhileW.ofX (Inv149c parts a pre.length t r' (resL.map D.str) junk) (X149c parts a pre.length t r' (resL.map D.str) junk) ⟨_, .mk [] (some t :: r') rfl rfl rfl⟩ ?_ ?_
              · rintro v mu ⟨dn2, rest2, h2, hr2⟩
                have hd2 : dn2 ≠ [] := by
                  rintro rfl
                  rcases hr2 with rfl | ⟨q, rfl⟩ <;> cases h2
                have hpr2 : parts = (pre ++ none :: dn2.map some) ++ rest2 := by rw [hpr, h2]; simp
                have hlen2 : pre.length + 1 + dn2.length + rest2.length = parts.length := by rw [hpr2, List.length_append, List.length_append, List.length_cons, List.length_map]; lia
                rw [h2] at hres
                have hitems : (resL.map D.str :: (junk ++ [dn2.map fun t => D.str t.outS]))[junk.length + 1]? = some ((dn2.map Tk.outS).map D.str) := by
                  rw [get_end, List.map_map]; rfl
                have hsz : ((dn2.map Tk.outS).flatten).length ≤ 900 := by
                  have e := congrArg List.length hres
                  rw [List.length_append] at e
                  rcases hr2 with rfl | ⟨q, rfl⟩
                  · rw [todo_last dn2 hd2, show (RT.any :: dn2.map RT.itm) = [RT.any] ++ dn2.map RT.itm from rfl, rS_app, rS_itm, List.length_append] at e; lia
                  · rw [todo_mid dn2 q hd2, show (RT.opn :: (dn2.map RT.itm ++ .cls :: todoR (none :: q))) = [RT.opn] ++ (dn2.map RT.itm ++ .cls :: todoR (none :: q)) from rfl, rS_app, rS_app, rS_itm, List.length_append, List.length_append] at e; lia
                refine ⟨C_join (ys := dn2.map Tk.outS) hitems (by rw [sum_len]; simp only [List.length_nil, Nat.mul_zero, Nat.add_zero]; lia) ?_⟩
                rw [joinL_nil]
                refine condK.of (fun he => ?_) fun he => ?_
                · have he : ((pre.length + 1 + dn2.length : Nat) : Int) = parts.length := eq_of_beq he
                  have hr0 : rest2 = [] := List.eq_nil_of_length_eq_zero (by lia)
                  subst hr0
                  refine ⟨_, rfl, hrl2, _, rfl, by rw [List.length_append, List.length_map]; exact sml (by show _ + 1 ≤ _; lia), hN _ _ ⟨0, Nat.succ_pos _, .mk parts [] (resL ++ [[46, 42], (dn2.map Tk.outS).flatten]) _ (by rw [List.append_nil]) (.inl rfl) ?_ ?_ he (by rw [List.map_append, List.append_assoc]; rfl)⟩⟩
                  · rw [← hres, todo_last dn2 hd2, List.flatten_append, show (RT.any :: dn2.map RT.itm) = [RT.any] ++ dn2.map RT.itm from rfl, rS_app, rS_itm]
                    simp [todoR, rS, RT.s]
                  · rw [List.length_append]; show _ + 2 ≤ _; lia
                · have he : ¬ ((pre.length + 1 + dn2.length : Nat) : Int) = parts.length := ne_of_beq_false he
                  rcases hr2 with rfl | ⟨q, rfl⟩
                  · exact absurd (by rw [← hlen2]; rfl) he
                  · have hq1 : ([40, 63, 62, 46, 42, 63] ++ (dn2.map Tk.outS).flatten).length ≤ sizeLine := by rw [List.length_append]; exact sml (Nat.le_trans (Nat.add_le_add_left hsz 6) (by decide))
                    have hq2 : ([40, 63, 62, 46, 42, 63] ++ (dn2.map Tk.outS).flatten ++ [41]).length ≤ sizeLine := by rw [List.length_append, List.length_append]; exact sml (Nat.le_trans (Nat.add_le_add_right (Nat.add_le_add_left hsz 6) 1) (by decide))
                    have hm : (none :: q : List Part).length < (none :: some t :: r' : List Part).length := by
                      rw [h2, List.length_cons, List.length_cons, List.length_append, List.length_cons, List.length_map]
                      have : 0 < dn2.length := List.length_pos_iff.mpr hd2
                      lia
                    refine ⟨by decide, sml (Nat.le_trans hsz (by decide)), hq1, hq2, hq2, _, rfl, hrl2, hN _ _ ⟨_, hm, .mk (pre ++ none :: dn2.map some) (none :: q) (resL ++ [[40, 63, 62, 46, 42, 63] ++ (dn2.map Tk.outS).flatten ++ [41]]) (junk ++ [dn2.map fun t => D.str t.outS]) hpr2 (.inr ⟨q, rfl⟩) ?_ ?_ ?_ (by rw [List.map_append]; rfl)⟩⟩
                    · rw [← hres, todo_mid dn2 q hd2, show (RT.opn :: (dn2.map RT.itm ++ .cls :: todoR (none :: q))) = [RT.opn] ++ (dn2.map RT.itm ++ ([.cls] ++ todoR (none :: q))) from rfl, rS_app, rS_app, rS_app, rS_itm, List.flatten_append]
                      simp [rS, RT.s]
                    · rw [List.length_append, List.length_append]; show resL.length + 1 ≤ 2 * (pre.length + ((dn2.map some).length + 1)); lia
                    · rw [List.length_append, List.length_cons, List.length_map, show pre.length + (dn2.length + 1) = pre.length + 1 + dn2.length by lia]
              · rintro m v mu KC KF hN2 hB2 hR2 hE2 ⟨dn2, rest2, h2, rfl, rfl⟩
                have hpr2 : parts = (pre ++ none :: dn2.map some) ++ rest2 := by rw [hpr, h2]; simp
                have hlen2 : pre.length + 1 + dn2.length + rest2.length = parts.length := by rw [hpr2, List.length_append, List.length_append, List.length_cons, List.length_map]; lia
                cases rest2 with
                | nil => exact condK.no (decide_eq_false (by rw [← hlen2]; exact Int.lt_irrefl _)) (hE2 (.mk dn2 [] h2 (.inl rfl)))
                | cons x r2 =>
                  rw [List.length_cons] at hlen2
                  have hat3 : atD (parts.map (pd a)) ((pre.length + 1 + dn2.length : Nat) : Int) = some (pd a x) := by
                    have := at_part a (pre ++ none :: dn2.map some) x r2
                    rw [← hpr2, List.length_append, List.length_cons, List.length_map, show pre.length + (dn2.length + 1) = pre.length + 1 + dn2.length by lia] at this
                    exact this
                  refine condK.yes (decide_eq_true (Int.ofNat_lt.mpr (by lia))) ⟨hz, optK.mk hat3 ?_⟩
                  cases x with
                  | none => exact ⟨St_isnot_raw_same ⟨_, rfl, hE2 (.mk dn2 _ h2 (.inr ⟨r2, rfl⟩))⟩⟩
                  | some t2 =>
                    exact ⟨hz, optK.mk hat3 ⟨_, get_end _ _ _, by rw [List.length_map]; exact sml (by lia), hN2 _ _ ⟨_, Nat.lt_succ_self _, by
                      rw [show ∀ (l : List (List D)) (y z : List D), (resL.map D.str :: (l ++ [y])).set (l.length + 1) z = resL.map D.str :: (l ++ [z]) from fun l y z => by simp]
                      exact .mk (dn2 ++ [t2]) r2 (by rw [h2, List.map_append, List.append_assoc]; rfl) (by rw [List.length_append]; rfl) (by rw [List.map_append]; rfl)⟩⟩⟩
  · rintro m v mu KB KE hN hB hR hE ⟨dn, rest, hpt, rfl, rfl⟩
    have hdl : dn.length + rest.length = parts.length := by rw [hpt, List.length_append, List.length_map]
    cases rest with
    | nil => exact condK.no (decide_eq_false (by rw [← hdl]; exact Int.lt_irrefl _)) (hE (.mk dn [] hpt (.inl rfl)))
    | cons x r =>
      rw [List.length_cons] at hdl
      have hat : atD (parts.map (pd a)) (dn.length : Int) = some (pd a x) := by
        have := at_part a (dn.map some) x r
        rw [← hpt, List.length_map] at this
        exact this
      refine condK.yes (decide_eq_true (Int.ofNat_lt.mpr (by lia))) ⟨hz, optK.mk hat ?_⟩
      cases x with
      | none => exact ⟨St_isnot_raw_same ⟨_, rfl, hE (.mk dn _ hpt (.inr ⟨r, rfl⟩))⟩⟩
      | some t =>
        exact ⟨hz, optK.mk hat ⟨_, rfl, by rw [List.length_map]; exact sml (by lia), hN _ _ ⟨_, Nat.lt_succ_self _, .mk (dn ++ [t]) r (by rw [hpt, List.map_append, List.append_assoc]; rfl) (by rw [List.length_append]; rfl) (by rw [List.map_append]; rfl)⟩⟩⟩
end
section
open PySem PySem.W PyProof.Rows
set_option maxRecDepth 100000
set_option maxHeartbeats 1000000
set_option linter.unusedVariables false
open PySem.Calls
variable {G : GX} {n : Nat} {μ : List (List D)} {K : D → Prop}
theorem C_isinst_str {x : List Nat} (h : K (.bool true)) : CallK G n μ (.builtin "isinstance") [.str x, .raw (.type "str")] K := fun A W s vs hr ok hm hi => by
  obtain ⟨_, _, rfl, i0, i1⟩ := hi.two
  obtain ⟨_, rfl⟩ := i0.inv
  obtain ⟨_, rfl⟩ := i1.inv
  exact IsiPair.str_str ⟨_, h, .refl ok, .bool _⟩
theorem intKind_is {prog : Program} {w : World} : (intKind prog w).is = Value.isInt := by unfold intKind; rfl
theorem spec_find (c : Int) : ∀ l : List (Int × Tok × Str × Tok), findBy Value.isInt (l.map kq).toArray c = (l.find? fun q => q.1 == c).map fun q => Value.str q.2.2.1 q.2.2.2
  | [] => rfl
  | q :: r => by
    have ih := spec_find c r
    unfold findBy at ih ⊢
    rw [List.find?_toArray] at ih ⊢
    rw [List.map_cons, List.find?_cons, List.find?_cons]
    have e : Value.isInt c (kq q).key = (q.1 == c) := rfl
    rw [e]
    cases q.1 == c with
    | true => rfl
    | false => exact ih
theorem special_at (hG : Good G) : ∃ o es ep, G.g0.get? 125 = some o ∧ o.ExactDict ∧ o.data = .dict es ep ∧ (∃ t, findBy Value.isInt es 32 = some (.str (Str.ofString "\\ ") t)) ∧ (∀ c : Nat, okCh c = true → c < 128 → c ≠ 32 → findBy Value.isInt es (c : Int) = none) ∧ KeysOf (intKind G.prog G.w) es := by
  obtain ⟨P, hK⟩ := hG.k
  have hl : (KP P).lookup 125 = some { cls := .type "dict", data := .dict (specL.map kq).toArray 24 } := by kernel_rfl
  refine ⟨_, _, _, G.kin 125 _ (by rw [hK]; exact hl), ⟨rfl, rfl, rfl⟩, rfl, ⟨568, by rw [spec_find]; rfl⟩, ?_, ?_⟩
  · intro c hc h128 h32
    have key : ∀ c : Fin 128, okCh c.val = true → c.val ≠ 32 → (specL.find? fun q => q.1 == (c.val : Int)) = none := by
      have : (∀ c : Fin 128, okCh c.val = true → c.val ≠ 32 → (specL.find? fun q => q.1 == (c.val : Int)).isNone = true) := by decide +kernel
      exact fun c a b => Option.isNone_iff_eq_none.mp (this c a b)
    rw [spec_find, key ⟨c, h128⟩ hc h32]; rfl
  · intro e he
    have he := Array.mem_toList_iff.mpr he
    obtain ⟨q, hq, rfl⟩ := List.mem_map.mp he
    have hh : (specL.all fun q => hashInt q.1 == q.1) = true := by decide +kernel
    rw [List.all_eq_true] at hh
    exact ⟨q.1, beq_self_eq_true q.1, (eq_of_beq (hh q hq)).symm⟩

theorem C_translate (hG : Good G) {c : Nat} (hc : okCh c = true) (h : K (.str (Tk.chr c).outS)) : CallK G n μ (.builtin "str.translate") [.str [c], .raw (.ref 125)] K := fun A W s vs hr ok hm hi => by
  obtain ⟨o, es, ep, ho, hx, hd, ⟨t, h32⟩, hno, hks⟩ := special_at hG
  have hmap : s.heap.MapOf (intKind G.prog G.w) 125 fun k => findBy Value.isInt es k := ⟨o, es, ep, ok.base _ _ ho, hx, hd, hks, fun k => by rw [intKind_is]⟩
  have hlt : c < 128 := by
    unfold okCh at hc
    simp only [Bool.or_eq_true, Bool.and_eq_true, beq_iff_eq, decide_eq_true_eq] at hc
    lia
  obtain ⟨_, _, rfl, i0, i1⟩ := hi.two
  obtain ⟨_, rfl⟩ := i0.inv
  obtain ⟨_, rfl⟩ := i1.inv
  by_cases he : c = 32
  · subst he
    have e : Str.ofString "\\ " = S [92, 32] := by decide +kernel
    rw [e] at h32
    exact translate_hit hlt (x := S [92, 32]) rfl hmap h32 fun tk t' => ⟨_, h, .toks ok _, .str _ _⟩
  · have e : (Tk.chr c).outS = [c] := by
      unfold Tk.outS
      split
      · rename_i h'; cases h'; exact absurd rfl he
      · rename_i h'; cases h'; rfl
      · rename_i h'; cases h'
      · rename_i h'; cases h'
    rw [e] at h
    exact translate_miss hlt hr.hd rfl hmap (hno c hc hlt he) fun h' tk t' hk => ⟨_, h, Ext.of_keep ok hk, .str _ _⟩
theorem escape_call (hG : Good G) {c : Nat} (hc : okCh c = true) (h : K (.str (Tk.chr c).outS)) : CallK G (n + 1) μ (.ref 135) [.str [c]] K := by
  refine en135 hG rfl rfl ⟨Ev_builtin 2 rfl (gt_str hG).1 (gt_str hG).2 ⟨C_isinst_str ?_⟩ (by decide +kernel) (by decide +kernel)⟩
  refine ⟨Ev_global 3 rfl (mgOf hG (v := .ref 125) fun P => by kernel_rfl) ⟨C_translate hG hc ⟨_, .pure ?_, h⟩⟩ (by decide +kernel)⟩
  exact pure_str _
end
section
open PySem PySem.W PyProof.Rows
set_option maxRecDepth 100000
set_option maxHeartbeats 1000000
set_option linter.unusedVariables false
open PySem.Calls
variable {G : GX} {n : Nat} {μ : List (List D)} {K : D → Prop}
noncomputable def partS : Part → List Nat
  | none => [42]
  | some t => t.inS
noncomputable def patS (ps : List Part) : List Nat := (ps.map partS).flatten
/-- stars that stand side by side are one -/
noncomputable def colP : Bool → List Part → List Part
  | _, [] => []
  | b, none :: r => if b then colP true r else none :: colP true r
  | _, some t :: r => some t :: colP false r
noncomputable def okT : List Part → Bool
  | [] => true
  | none :: r => okT r
  | some t :: r => t.ok && okT r
theorem patS_cons (p : Part) (r : List Part) : patS (p :: r) = partS p ++ patS r := by unfold patS; rw [List.map_cons, List.flatten_cons]
noncomputable def lastStar (out : List Part) : Bool := match out.getLast? with | some none => true | _ => false
theorem lastStar_app (out : List Part) (p : Part) : lastStar (out ++ [p]) = p.isNone := by
  unfold lastStar
  rw [List.getLast?_append]
  cases p <;> rfl
theorem okT_tail : ∀ (d r : List Part), okT (d ++ r) = true → okT r = true
  | [], r, h => h
  | none :: d, r, h => okT_tail d r h
  | some t :: d, r, h => by
    have : (t.ok && okT (d ++ r)) = true := h
    rw [Bool.and_eq_true] at this; exact okT_tail d r this.2
theorem at_mid (A : List Nat) (c : Nat) (B : List Nat) : atD (A ++ c :: B) (A.length : Int) = some c := by
  rw [atD_nat]; simp
theorem at_off (A l R : List Nat) (k c : Nat) (hk : l[k]? = some c) (z : Int) (hz : z = (A.length : Int) + (k : Int)) : atD (A ++ (l ++ R)) z = some c := by
  have hkl := (List.getElem?_eq_some_iff.mp hk).1
  rw [hz, show (A.length : Int) + (k : Int) = ((A.length + k : Nat) : Int) from rfl, atD_nat, List.getElem?_append_right (Nat.le_add_right _ _), Nat.add_sub_cancel_left, List.getElem?_append_left hkl, hk]
theorem pat_at (hG : Good G) : PatAt G 116 := by
  obtain ⟨P, hK⟩ := hG.k
  have hl : (KP P).lookup 116 = some _ := rfl
  have hl2 : (KP P).lookup 115 = some _ := rfl
  exact ⟨_, _, _, _, _, _, G.kin 116 _ (by rw [hK]; exact hl), ⟨_, G.kin 115 _ (by rw [hK]; exact hl2), rfl, _, rfl⟩, by decide +kernel⟩
theorem get_off (A l R : List Nat) (k c : Nat) (hk : l[k]? = some c) : (A ++ (l ++ R))[A.length + k]? = some c := by
  have hkl := (List.getElem?_eq_some_iff.mp hk).1
  rw [List.getElem?_append_right (Nat.le_add_right _ _), Nat.add_sub_cancel_left, List.getElem?_append_left hkl, hk]
inductive Inv142 (ps : List Part) (a : Addr) : Nat → List (Option D) → List (List D) → Prop
  | mk {i : Int} {ds : List D} {c j st ch k cu : Option D} (dn rest out : List Part) (junk : List (List D)) (hps : ps = dn ++ rest) (hout : out ++ colP (lastStar out) rest = colP false ps) (hol : out.length ≤ dn.length) (hi : i = ((patS dn).length : Int)) (hd : ds = out.map (pd a)) :
    Inv142 ps a rest.length [some (.str (patS ps)), some (.raw (.ref a)), some (.str [46]), some (.mt 0), some (.bm 0), some (.int i), some (.int ((patS ps).length : Int)), c, j, st, ch, k, cu, none, none, none, none] (ds :: junk)
inductive X142 (ps : List Part) (a : Addr) : List (Option D) → List (List D) → Prop
  | mk {i : Int} {ds : List D} {c j st ch k cu : Option D} (junk : List (List D)) (hi : i = ((patS ps).length : Int)) (hd : ds = (colP false ps).map (pd a)) :
    X142 ps a [some (.str (patS ps)), some (.raw (.ref a)), some (.str [46]), some (.mt 0), some (.bm 0), some (.int i), some (.int ((patS ps).length : Int)), c, j, st, ch, k, cu, none, none, none, none] (ds :: junk)
theorem inS_pos : ∀ p : Part, 1 ≤ (partS p).length
  | none => Nat.le_refl 1
  | some (.chr c) => Nat.le_refl 1
  | some (.br j) => by
    show 1 ≤ (Tk.br j).inS.length
    unfold Tk.inS
    split <;> first | decide | (rename_i h; cases h) | simp_all
theorem patS_app (x y : List Part) : patS (x ++ y) = patS x ++ patS y := by unfold patS; rw [List.map_append, List.flatten_append]
theorem patS_end (x : List Part) (p : Part) : (patS (x ++ [p])).length = (patS x).length + (partS p).length := by rw [patS_app, List.length_append, patS_cons, List.length_append]; rfl
theorem okCh_ne {c : Nat} (h : okCh c = true) : ([c] == [42]) = false ∧ ([c] == [63]) = false ∧ ([c] == [91]) = false := by
  refine ⟨beq_false_of_ne fun e => ?_, beq_false_of_ne fun e => ?_, beq_false_of_ne fun e => ?_⟩ <;> cases e <;> cases h
inductive Cls (j : Nat) : Prop
  | one (c : Nat) (h0 : failsB [c] = true) (h1 : ([c] == [33]) = false) (h2 : ([c] == [93]) = false) (h3 : ([[94], [91]].any (· == [c])) = false) (h4 : (Builtin.Str.occurrences (S [c]) (S [45]) 0 [c].length 1).isEmpty = true) (h5 : Builtin.Str.occurrences (S [c]) (S [92]) 0 [c].length ([c].length + 1) = [])
    (hi : (Tk.br j).inS = [91, c, 93]) (ho : (Tk.br j).outS = [91, c, 93])
  | two (c d : Nat) (h0 : failsB [c, 45, d] = true) (h1 : ([c] == [33]) = false) (h2 : ([c] == [93]) = false) (h2' : ([d] == [93]) = false) (h3 : ([[94], [91]].any (· == [c])) = false) (h4 : (Builtin.Str.occurrences (S [c, 45, d]) (S [45]) 0 [c, 45, d].length 1).isEmpty = false) (h5 : decide ([d] < [c]) = false) (h6 : ([c, 45, d] == [33]) = false)
    (e1 : ∀ y ∈ [c, d], ∀ z ∈ [92, 45], Builtin.Str.occurrences (S [y]) (S [z]) 0 [y].length ([y].length + 1) = []) (ho : (Tk.br j).outS = [91, c, 45, d, 93]) (hi : (Tk.br j).inS = [91, c, 45, d, 93])
  | three (hj : j = 3)
theorem cls_of : ∀ {j : Nat}, j < 6 → Cls j
  | 0, _ => .one 32 (by decide +kernel) rfl rfl rfl (by decide +kernel) (by decide +kernel) rfl rfl
  | 1, _ => .two 32 43 (by decide +kernel) rfl rfl rfl rfl (by decide +kernel) rfl rfl (by decide +kernel) rfl rfl
  | 2, _ => .one 44 (by decide +kernel) rfl rfl rfl (by decide +kernel) (by decide +kernel) rfl rfl
  | 3, _ => .three rfl
  | 4, _ => .two 49 57 (by decide +kernel) rfl rfl rfl rfl (by decide +kernel) rfl rfl (by decide +kernel) rfl rfl
  | 5, _ => .two 48 57 (by decide +kernel) rfl rfl rfl rfl (by decide +kernel) rfl rfl (by decide +kernel) rfl rfl
  | j + 6, h => absurd h (Nat.not_lt.mpr (Nat.le_add_left _ _))
theorem kNotT.t {K : Bool → Prop} (h : K false) : kNotT K true := h
theorem kIfS.f {w : WP} {vals : List (Option D)} {μ : List (List D)} {a b : List Stmt} {K : Out → Prop} (h : w.b vals μ b K) : kIfS w vals μ a b K false := h
noncomputable def up (x : Int) : Nat → Int
  | 0 => x
  | q + 1 => up x q + 1
inductive InvBr (ps : List Part) (a : Addr) (i x : Int) (L : Nat) (st ch k cu : Option D) (M : List (List D)) : Nat → List (Option D) → List (List D) → Prop
  | mk (q : Nat) (hq : q ≤ L) : InvBr ps a i x L st ch k cu M (L - q) [some (.str (patS ps)), some (.raw (.ref a)), some (.str [46]), some (.mt 0), some (.bm 0), some (.int i), some (.int ((patS ps).length : Int)), some (.str [91]), some (.int (up x q)), st, ch, k, cu, none, none, none, none] M
inductive XBr (ps : List Part) (a : Addr) (i x : Int) (L : Nat) (st ch k cu : Option D) (M : List (List D)) : List (Option D) → List (List D) → Prop
  | mk : XBr ps a i x L st ch k cu M [some (.str (patS ps)), some (.raw (.ref a)), some (.str [46]), some (.mt 0), some (.bm 0), some (.int i), some (.int ((patS ps).length : Int)), some (.str [91]), some (.int (up x L)), st, ch, k, cu, none, none, none, none] M
inductive InvF (ps : List Part) (a : Addr) (i0 k0 j : Int) (stuff w1 : List Nat) (cu : Option D) (o : List D) (junk : List (List D)) : Nat → List (Option D) → List (List D) → Prop
  | s : InvF ps a i0 k0 j stuff w1 cu o junk 1 [some (.str (patS ps)), some (.raw (.ref a)), some (.str [46]), some (.mt 0), some (.bm 0), some (.int i0), some (.int ((patS ps).length : Int)), some (.str [91]), some (.int j), some (.str stuff), some (.mt (junk.length + 1)), some (.int k0), cu, none, none, none, none] (o :: (junk ++ [[]]))
  | t : InvF ps a i0 k0 j stuff w1 cu o junk 0 [some (.str (patS ps)), some (.raw (.ref a)), some (.str [46]), some (.mt 0), some (.bm 0), some (.int (k0 + 1)), some (.int ((patS ps).length : Int)), some (.str [91]), some (.int j), some (.str stuff), some (.mt (junk.length + 1)), some (.int (k0 + 3)), cu, none, none, none, none] (o :: (junk ++ [[.str w1]]))
inductive XF (ps : List Part) (a : Addr) (k0 j : Int) (stuff w1 : List Nat) (cu : Option D) (o : List D) (junk : List (List D)) : List (Option D) → List (List D) → Prop
  | mk : XF ps a k0 j stuff w1 cu o junk [some (.str (patS ps)), some (.raw (.ref a)), some (.str [46]), some (.mt 0), some (.bm 0), some (.int (k0 + 1)), some (.int ((patS ps).length : Int)), some (.str [91]), some (.int j), some (.str stuff), some (.mt (junk.length + 1)), some (.int (-1)), cu, none, none, none, none] (o :: (junk ++ [[.str w1]]))
inductive InvR (ps : List Part) (a : Addr) (i j : Int) (stuff : List Nat) (cu : Option D) (o : List D) (junk : List (List D)) (ch : List D) : Nat → List (Option D) → List (List D) → Prop
  | mk {n : Nat} {k : Option D} : InvR ps a i j stuff cu o junk ch n [some (.str (patS ps)), some (.raw (.ref a)), some (.str [46]), some (.mt 0), some (.bm 0), some (.int i), some (.int ((patS ps).length : Int)), some (.str [91]), some (.int j), some (.str stuff), some (.mt (junk.length + 1)), k, cu, none, none, none, none] (o :: (junk ++ [ch]))
theorem set_end {α : Type} (x : α) (l : List α) (y z : α) : (x :: (l ++ [y])).set (l.length + 1) z = x :: (l ++ [z]) := by simp
theorem trans_call (hG : Good G) {a : Addr} {ps : List Part} (hp : okT ps = true) (hn : ps.length ≤ 200) (hl : (patS ps).length ≤ 900) (h : K (.lst ((colP false ps).map (pd a)))) : CallK G (n + 5) μ (.ref 142) [.str (patS ps), .raw (.ref a), .str [46]] K := by
  have praw : (D.raw (.ref a)).pure = true := pure_pd a none
  have hz : (patS ps).length < 2 ^ 62 := Nat.lt_of_le_of_lt hl (by decide)
  have sml : ∀ {k : Nat}, k ≤ 2000 → k ≤ sizeLine := fun h => Nat.le_trans h (by decide)
  have hzz : (patS ps).length ≤ sizeLine := sml (Nat.le_trans hl (by decide))
  refine en142 hG rfl (by simp only [pureL_cons, pureL_nil, pure_str, praw, Bool.and_self]) ⟨Ex_assign_swapped ["i", "n"] [6, 5] (.cons rfl (.inl rfl) (.cons rfl (.inl rfl) .nil)) (run_E hG tb142 ⟨hz, _, rfl, rfl, ?_⟩) (by with_unfolding_all rfl) (fun _ => by with_unfolding_all rfl)⟩
  refine WhileW.ofX (Inv142 ps a) (X142 ps a) ⟨_, .mk [] ps [] [] rfl rfl (Nat.le_refl _) rfl rfl⟩ ?_ ?_
  · rintro v mu ⟨junk, rfl, rfl⟩
    exact condK.yes (beq_self_eq_true _) ⟨_, .mt rfl (pureL_map _ (pure_pd a) _), h⟩
  · rintro m v mu KB KE hN hB hR hE ⟨dn, rest, out, junk, hps, hout, hol, rfl, rfl⟩
    rename_i c j st ch k cu
    have hlen : (patS ps).length = (patS dn).length + (patS rest).length := by rw [hps, patS_app, List.length_append]
    cases rest with
    | nil =>
      refine condK.no (decide_eq_false (by rw [hlen]; exact Int.lt_irrefl _)) (hE (.mk junk (by rw [hlen]; rfl) ?_))
      rw [← hout]; show List.map _ _ = List.map _ (out ++ []); rw [List.append_nil]
    | cons p r =>
      have hpat : patS ps = patS dn ++ patS (p :: r) := by rw [hps, patS_app]
      have hdl : dn.length + (r.length + 1) = ps.length := by rw [hps, List.length_append]; rfl
      have hlt : (patS dn).length < (patS ps).length := by
        have := inS_pos p
        rw [hlen, patS_cons, List.length_append]; lia
      have hps2 : ps = (dn ++ [p]) ++ r := by rw [hps, List.append_assoc]; rfl
      have hol2 : ∀ q : Part, (out ++ [q]).length ≤ (dn ++ [p]).length := fun q => by rw [List.length_append, List.length_append]; exact Nat.succ_le_succ hol
      have hsz : (out.map (pd a)).length ≤ sizeLine := by rw [List.length_map]; exact sml (by lia)
      refine condK.yes (decide_eq_true (Int.ofNat_lt.mpr hlt)) ⟨hz, ?_⟩
      cases p with
      | none =>
        have hat : atD (patS ps) ((patS dn).length : Int) = some 42 := by rw [hpat, patS_cons]; exact at_mid _ _ _
        have hfit : fitD (out.map (pd a) :: junk) (.mt 0) := fun ds e => by cases e; rw [List.length_map]; lia
        refine optK.mk hat ⟨_, rfl, hfit, ?_⟩
        rcases split_last out with rfl | ⟨o', q, rfl⟩
        · refine ⟨_, rfl, hsz, hN _ _ ⟨_, Nat.lt_succ_self _, .mk (dn ++ [none]) r [none] junk hps2 hout (hol2 none) (by rw [patS_end]; rfl) rfl⟩⟩
        · have hls : lastStar (o' ++ [q]) = q.isNone := lastStar_app o' q
          rw [hls] at hout
          have hl1 : atD ((o' ++ [q]).map (pd a)) (-1) = some (pd a q) := by rw [List.map_append]; exact atD_last _ _
          refine condK.no (by simp) ⟨hfit _ rfl, optK.mk hl1 ?_⟩
          cases q with
          | none =>
            exact ⟨St_isnot_raw_same ⟨_, rfl, hN _ _ ⟨_, Nat.lt_succ_self _, .mk (dn ++ [none]) r (o' ++ [none]) junk hps2 (by rw [hls]; exact hout) (by rw [List.length_append (as := dn)]; exact Nat.le_succ_of_le hol) (by rw [patS_end]; rfl) rfl⟩⟩⟩
          | some t =>
            refine ⟨_, rfl, hsz, hN _ _ ⟨_, Nat.lt_succ_self _, .mk (dn ++ [none]) r ((o' ++ [some t]) ++ [none]) junk hps2 (by rw [lastStar_app, List.append_assoc]; exact hout) (hol2 none) (by rw [patS_end]; rfl) (by rw [List.map_append (l₂ := [none])]; rfl)⟩⟩
      | some t =>
        have hok : t.ok = true := by
          have := okT_tail dn (some t :: r) (hps ▸ hp)
          have h2 : (t.ok && okT r) = true := this
          rw [Bool.and_eq_true] at h2; exact h2.1
        have hnx : ∀ {i : Int} {d : D} {c j st ch k cu : Option D} {junk : List (List D)}, i = (((patS dn).length + (partS (some t)).length : Nat) : Int) → d = pd a (some t) → KB (.next [some (.str (patS ps)), some (.raw (.ref a)), some (.str [46]), some (.mt 0), some (.bm 0), some (.int i), some (.int ((patS ps).length : Int)), c, j, st, ch, k, cu, none, none, none, none] ((out.map (pd a) ++ [d]) :: junk)) := fun hi hd =>
          hN _ _ ⟨_, Nat.lt_succ_self _, .mk (dn ++ [some t]) r (out ++ [some t]) _ hps2 (by rw [lastStar_app, List.append_assoc]; exact hout) (hol2 _) (by rw [hi, patS_end]) (by rw [hd, List.map_append]; rfl)⟩
        cases t with
        | chr cc =>
          have hat : atD (patS ps) ((patS dn).length : Int) = some cc := by rw [hpat, patS_cons]; exact at_mid _ _ _
          obtain ⟨n1, n2, n3⟩ := okCh_ne hok
          refine optK.mk hat (condK.no n1 (condK.no n2 (condK.no n3 ⟨escape_call hG hok ⟨_, rfl, hsz, ?_⟩⟩)))
          exact hnx rfl rfl
        | br jj =>
          have hcls := cls_of (of_decide_eq_true hok)
          have hx : patS ps = patS dn ++ ((Tk.br jj).inS ++ patS r) := by rw [hpat, patS_cons]; rfl
          have hN' : (patS ps).length = (patS dn).length + ((Tk.br jj).inS.length + (patS r).length) := by rw [hx, List.length_append, List.length_append]
          rcases hcls with ⟨cc, h0, h1, h2, h3, h4, h5, hi, ho⟩ | ⟨cc, dd, h0, h1, h2, h2d, h3, h4, h5, h6, e1, ho, hi⟩ | rfl
          · rw [hi] at hx hN'
            have hat := fun k c hk z hz => hx ▸ at_off (patS dn) [91, cc, 93] (patS r) k c hk z hz
            have hsl : pySlice (patS ps) (some ((patS dn).length + 1)) (some ((patS dn).length + 1 + 1)) = [cc] := by rw [slice_takeN (patS ps) ((patS dn).length + 1) 1 ((patS dn).length + 1) ((patS dn).length + 1 + 1) rfl rfl, hx]; simp
            have hj1 : ((patS dn).length : Int) + 1 < (patS ps).length := by rw [hN']; exact Int.ofNat_lt.mpr (by show (patS dn).length + 1 < (patS dn).length + (3 + _); lia)
            have hj2 : ((patS dn).length : Int) + 1 + 1 < (patS ps).length := by rw [hN']; exact Int.ofNat_lt.mpr (by show (patS dn).length + 2 < (patS dn).length + (3 + _); lia)
            have h2' : ([cc] != [93]) = true := by rw [bne, h2]; rfl
            refine optK.mk (hat 0 91 rfl _ rfl) (condK.yes (decide_eq_true hj1) ⟨hz, optK.mk (hat 1 cc rfl _ rfl) (condK.no h1 (condK.no rfl (condK.yes (decide_eq_true hj1) ⟨hz, optK.mk (hat 1 cc rfl _ rfl) (condK.no h2 (condK.no rfl ?_))⟩)))⟩)
            refine WhileW.ofX (InvBr ps a ((patS dn).length + 1) ((patS dn).length + 1) 1 st ch k cu (out.map (pd a) :: junk)) (XBr ps a ((patS dn).length + 1) ((patS dn).length + 1) 1 st ch k cu (out.map (pd a) :: junk)) ⟨_, .mk 0 (Nat.zero_le _)⟩ ?_ ?_
            · rintro v mu ⟨⟩
              refine condK.no (decide_eq_false (Int.not_le.mpr hj2)) (sl hzz hsl ⟨St_notin_str ?_⟩)
              rw [h4]
              refine ⟨_, rfl, ⟨C_replace h5 ⟨Ev_sub (c := 141) (P := 137) (by decide +kernel) (by rw [hG.t]; exact List.mem_cons_self ..) (pat_at hG) (by decide +kernel) (Ev_global 15 rfl (mgOf hG (v := .ref 116) fun P => by kernel_rfl) ⟨rfl, run_E hG tb142 ⟨_, rfl, h0, Nat.one_pos, Nat.le_of_ble_eq_true rfl, ?_⟩⟩ (by decide +kernel)) (fun _ => by with_unfolding_all rfl) (by with_unfolding_all rfl) (fun _ => by with_unfolding_all rfl)⟩⟩⟩
              have hs1 : [cc].length < 2 ^ 62 := by show 1 < _; decide
              refine ⟨hs1, kNotT.t (kIfS.f (condK.no h1 ⟨hs1, condK.no h1 ⟨hs1, ⟨St_in_tstrs (ys := [[94], [91]]) ?_⟩⟩⟩))⟩
              rw [h3]
              refine ⟨_, rfl, ?_⟩
              refine ⟨by decide, Nat.le_of_ble_eq_true rfl, Nat.le_of_ble_eq_true rfl, Nat.le_of_ble_eq_true rfl, Nat.le_of_ble_eq_true rfl, _, rfl, hsz, hnx ?_ ?_⟩
              · show _ = (((patS dn).length + (Tk.br jj).inS.length : Nat) : Int)
                rw [hi]; rfl
              · show _ = D.str (Tk.br jj).outS
                rw [ho]; rfl
            · rintro m v mu KB2 KE2 hN2 hB2 hR2 hE2 ⟨q, hq⟩
              match q, hq with
              | 0, _ =>
                refine condK.yes (decide_eq_true hj1) ⟨hz, optK.mk (hat 1 cc rfl _ rfl) (condK.yes h2' (hN2 _ _ ⟨_, Nat.zero_lt_one, .mk 1 (Nat.le_refl _)⟩))⟩
              | 1, _ =>
                refine condK.yes (decide_eq_true hj2) ⟨hz, optK.mk (hat 2 93 rfl _ rfl) (hE2 .mk)⟩
          · rw [hi] at hx hN'
            have hat := fun k c hk z hz => hx ▸ at_off (patS dn) [91, cc, 45, dd, 93] (patS r) k c hk z hz
            have hget := fun k c hk => hx ▸ get_off (patS dn) [91, cc, 45, dd, 93] (patS r) k c hk
            have hsl : pySlice (patS ps) (some ((patS dn).length + 1)) (some ((patS dn).length + 1 + 1 + 1 + 1)) = [cc, 45, dd] := by rw [slice_takeN (patS ps) ((patS dn).length + 1) 3 ((patS dn).length + 1) ((patS dn).length + 1 + 1 + 1 + 1) rfl rfl, hx]; simp
            have hsl1 : pySlice (patS ps) (some ((patS dn).length + 1)) (some ((patS dn).length + 1 + 1)) = [cc] := by rw [slice_takeN (patS ps) ((patS dn).length + 1) 1 ((patS dn).length + 1) ((patS dn).length + 1 + 1) rfl rfl, hx]; simp
            have hsl3 : pySlice (patS ps) (some ((patS dn).length + 1 + 1 + 1)) (some ((patS dn).length + 1 + 1 + 1 + 1)) = [dd] := by rw [slice_takeN (patS ps) ((patS dn).length + 3) 1 ((patS dn).length + 1 + 1 + 1) ((patS dn).length + 1 + 1 + 1 + 1) rfl rfl, hx]; simp
            have hj4 : ((patS dn).length : Int) + 1 + 1 + 1 + 1 < (patS ps).length := by rw [hN']; exact Int.ofNat_lt.mpr (by show (patS dn).length + 4 < (patS dn).length + (5 + _); lia)
            have hj3 : ((patS dn).length : Int) + 1 + 1 + 1 < (patS ps).length := Int.lt_of_add_one_le (Int.le_of_lt hj4)
            have hj2 : ((patS dn).length : Int) + 1 + 1 < (patS ps).length := Int.lt_of_add_one_le (Int.le_of_lt hj3)
            have hj1 : ((patS dn).length : Int) + 1 < (patS ps).length := Int.lt_of_add_one_le (Int.le_of_lt hj2)
            have hne : ∀ {x : Nat}, ([x] == [93]) = false → ([x] != [93]) = true := fun h => by rw [bne, h]; rfl
            refine optK.mk (hat 0 91 rfl _ rfl) (condK.yes (decide_eq_true hj1) ⟨hz, optK.mk (hat 1 cc rfl _ rfl) (condK.no h1 (condK.no rfl (condK.yes (decide_eq_true hj1) ⟨hz, optK.mk (hat 1 cc rfl _ rfl) (condK.no h2 (condK.no rfl ?_))⟩)))⟩)
            refine WhileW.ofX (InvBr ps a ((patS dn).length + 1) ((patS dn).length + 1) 3 st ch k cu (out.map (pd a) :: junk)) (XBr ps a ((patS dn).length + 1) ((patS dn).length + 1) 3 st ch k cu (out.map (pd a) :: junk)) ⟨_, .mk 0 (Nat.zero_le _)⟩ ?_ ?_
            · rintro v mu ⟨⟩
              refine condK.no (decide_eq_false (Int.not_le.mpr hj4)) (sl hzz hsl ⟨St_notin_str ?_⟩)
              rw [h4]
              refine ⟨_, rfl, ?_⟩
              refine ⟨hz, optK.mk (hat 1 cc rfl _ rfl) (condK.no h1 ?_)⟩
              refine WhileW.ofX (InvF ps a ((patS dn).length + 1) ((patS dn).length + 1 + 1) ((patS dn).length + 1 + 1 + 1 + 1) [cc, 45, dd] [cc] cu (out.map (pd a)) junk) (XF ps a ((patS dn).length + 1 + 1) ((patS dn).length + 1 + 1 + 1 + 1) [cc, 45, dd] [cc] cu (out.map (pd a)) junk) ⟨_, .s⟩ ?_ ?_
              · rintro v mu ⟨⟩
                have hs1 : [dd].length < 2 ^ 62 := by show 1 < _; decide
                refine sl hzz hsl3 ⟨hs1, [.str [cc]], get_end _ _ _, Nat.le_of_ble_eq_true rfl, ?_⟩
                rw [set_end]
                refine optK.mk (get_end _ _ _) ⟨by show 2 < _; decide, by decide, by decide, ?_⟩
                refine ⟨rngL 1 (-1) 1, Iter_rng (by show Builtin.Range.rangeSize 1 0 (-1) = ((1:Nat):Int); decide +kernel) (by show Builtin.Range.small 1 0 (-1) = true; decide +kernel), InvR ps a ((patS dn).length + 1 + 1 + 1) ((patS dn).length + 1 + 1 + 1 + 1) [cc, 45, dd] (some (.str [dd])) (out.map (pd a)) junk [.str [cc], .str [dd]], .mk, ?_, ?_⟩
                · rintro v mu ⟨⟩
                  refine ⟨Ev_join_gen (sep := [45]) (c := 141) (P := 137) (by decide +kernel) (by rw [hG.t]; exact List.mem_cons_self ..) rfl (by decide +kernel) (by decide +kernel) (by decide +kernel) (by decide +kernel) rfl ?_ (fun _ _ => by with_unfolding_all rfl) (fun _ => by with_unfolding_all rfl)⟩
                  refine run_E hG tb142 ⟨rfl, run_E hG tb142 ⟨[.str [cc], .str [dd]], [[cc], [dd]], IterW_items (get_end _ _ _), rfl, ?_, by show 1 + (1 + 0) + 2 * 1 ≤ _; decide, by show 2 ≤ _; decide, ?_⟩⟩
                  · intro i d' e
                    match i with
                    | 0 => cases e; exact Elt_esc (by decide +kernel) rfl (by decide +kernel) str32 str35 str18 str33 (e1 _ (.head _) _ (.head _)) (e1 _ (.head _) _ (.tail _ (.head _))) (fun _ => by with_unfolding_all rfl) (fun _ => by with_unfolding_all rfl)
                    | 1 => cases e; exact Elt_esc (by decide +kernel) rfl (by decide +kernel) str32 str35 str18 str33 (e1 _ (.tail _ (.head _)) _ (.head _)) (e1 _ (.tail _ (.head _)) _ (.tail _ (.head _))) (fun _ => by with_unfolding_all rfl) (fun _ => by with_unfolding_all rfl)
                    | i + 2 => cases e
                  refine ⟨Ev_sub (c := 141) (P := 137) (by decide +kernel) (by rw [hG.t]; exact List.mem_cons_self ..) (pat_at hG) (by decide +kernel) (Ev_global 15 rfl (mgOf hG (v := .ref 116) fun P => by kernel_rfl) ⟨rfl, run_E hG tb142 ⟨_, rfl, h0, Nat.succ_pos _, Nat.le_of_ble_eq_true rfl, ?_⟩⟩ (by decide +kernel)) (fun _ => by with_unfolding_all rfl) (by with_unfolding_all rfl) (fun _ => by with_unfolding_all rfl)⟩
                  have hs3 : [cc, 45, dd].length < 2 ^ 62 := by show 3 < _; decide
                  refine ⟨hs3, kNotT.t (kIfS.f (condK.no h6 ⟨hs3, condK.no h1 ⟨hs3, ⟨St_in_tstrs (ys := [[94], [91]]) ?_⟩⟩⟩))⟩
                  rw [h3]
                  refine ⟨_, rfl, ?_⟩
                  refine ⟨by decide, Nat.le_of_ble_eq_true rfl, Nat.le_of_ble_eq_true rfl, Nat.le_of_ble_eq_true rfl, Nat.le_of_ble_eq_true rfl, _, rfl, hsz, hnx ?_ ?_⟩
                  · show _ = (((patS dn).length + (Tk.br jj).inS.length : Nat) : Int)
                    rw [hi]; rfl
                  · show _ = D.str (Tk.br jj).outS
                    rw [ho]; rfl
                · rintro i d v mu hd KB3 hN3 hB3 hR3 ⟨⟩
                  match i with
                  | 0 =>
                    cases hd
                    exact optK.mk (get_end _ _ _) ⟨by show 2 < _; decide, hs1, optK.mk rfl (optK.mk (get_end _ _ _) ⟨by show 2 < _; decide, hs1, condK.no h5 (hN3 _ _ .mk)⟩)⟩
                  | i + 1 => cases hd
              · rintro m v mu KB2 KE2 hN2 hB2 hR2 hE2 (_ | _)
                · exact ⟨C_find4 (r := ((patS dn).length + 1 + 1)) (find_here (lo := (patS dn).length + 2) (hi := (patS dn).length + 4) (Nat.le_succ _) (by lia) (hget 2 45 rfl)) (sl hzz hsl1 ⟨[], get_end _ _ _, Nat.zero_le _, hN2 _ _ ⟨0, Nat.zero_lt_one, by rw [set_end]; exact .t⟩⟩)⟩
                · exact ⟨C_find4 (r := -1) (find_gone (lo := (patS dn).length + 5) (hi := (patS dn).length + 4) (Nat.lt_succ_self _) (by lia)) (hB2 _ _ .mk)⟩
            · rintro m v mu KB2 KE2 hN2 hB2 hR2 hE2 ⟨q, hq⟩
              match q, hq with
              | 0, _ => exact condK.yes (decide_eq_true hj1) ⟨hz, optK.mk (hat 1 cc rfl _ rfl) (condK.yes (hne h2) (hN2 _ _ ⟨2, Nat.lt_succ_self _, .mk 1 (by decide)⟩))⟩
              | 1, _ => exact condK.yes (decide_eq_true hj2) ⟨hz, optK.mk (hat 2 45 rfl _ rfl) (hN2 _ _ ⟨1, Nat.lt_succ_self _, .mk 2 (by decide)⟩)⟩
              | 2, _ => exact condK.yes (decide_eq_true hj3) ⟨hz, optK.mk (hat 3 dd rfl _ rfl) (condK.yes (hne h2d) (hN2 _ _ ⟨0, Nat.lt_succ_self _, .mk 3 (by decide)⟩))⟩
              | 3, _ => exact condK.yes (decide_eq_true hj4) ⟨hz, optK.mk (hat 4 93 rfl _ rfl) (hE2 .mk)⟩
          · have hi : (Tk.br 3).inS = [91, 33, 48, 45, 57, 93] := rfl
            rw [hi] at hx hN'
            have hat := fun k c hk z hz => hx ▸ at_off (patS dn) [91, 33, 48, 45, 57, 93] (patS r) k c hk z hz
            have hget := fun k c hk => hx ▸ get_off (patS dn) [91, 33, 48, 45, 57, 93] (patS r) k c hk
            have hsl : pySlice (patS ps) (some ((patS dn).length + 1)) (some ((patS dn).length + 1 + 1 + 1 + 1 + 1)) = [33, 48, 45, 57] := by rw [slice_takeN (patS ps) ((patS dn).length + 1) 4 ((patS dn).length + 1) ((patS dn).length + 1 + 1 + 1 + 1 + 1) rfl rfl, hx]; simp
            have hsl1 : pySlice (patS ps) (some ((patS dn).length + 1)) (some ((patS dn).length + 1 + 2)) = [33, 48] := by rw [slice_takeN (patS ps) ((patS dn).length + 1) 2 ((patS dn).length + 1) ((patS dn).length + 1 + 2) rfl rfl, hx]; simp
            have hsl3 : pySlice (patS ps) (some ((patS dn).length + 1 + 2 + 1)) (some ((patS dn).length + 1 + 1 + 1 + 1 + 1)) = [57] := by rw [slice_takeN (patS ps) ((patS dn).length + 4) 1 ((patS dn).length + 1 + 2 + 1) ((patS dn).length + 1 + 1 + 1 + 1 + 1) rfl rfl, hx]; simp
            have hj5 : ((patS dn).length : Int) + 1 + 1 + 1 + 1 + 1 < (patS ps).length := by rw [hN']; exact Int.ofNat_lt.mpr (by show (patS dn).length + 5 < (patS dn).length + (6 + _); lia)
            have hj4 : ((patS dn).length : Int) + 1 + 1 + 1 + 1 < (patS ps).length := Int.lt_of_add_one_le (Int.le_of_lt hj5)
            have hj3 : ((patS dn).length : Int) + 1 + 1 + 1 < (patS ps).length := Int.lt_of_add_one_le (Int.le_of_lt hj4)
            have hj2 : ((patS dn).length : Int) + 1 + 1 < (patS ps).length := Int.lt_of_add_one_le (Int.le_of_lt hj3)
            have hj1 : ((patS dn).length : Int) + 1 < (patS ps).length := Int.lt_of_add_one_le (Int.le_of_lt hj2)
            refine optK.mk (hat 0 91 rfl _ rfl) (condK.yes (decide_eq_true hj1) ⟨hz, optK.mk (hat 1 33 rfl _ rfl) (condK.yes (decide_eq_true hj2) ⟨hz, optK.mk (hat 2 48 rfl _ rfl) ?_⟩)⟩)
            refine WhileW.ofX (InvBr ps a ((patS dn).length + 1) ((patS dn).length + 1 + 1) 3 st ch k cu (out.map (pd a) :: junk)) (XBr ps a ((patS dn).length + 1) ((patS dn).length + 1 + 1) 3 st ch k cu (out.map (pd a) :: junk)) ⟨_, .mk 0 (Nat.zero_le _)⟩ ?_ ?_
            · rintro v mu ⟨⟩
              refine condK.no (decide_eq_false (Int.not_le.mpr hj5)) (sl hzz hsl ⟨St_notin_str ?_⟩)
              rw [show (Builtin.Str.occurrences (S [33, 48, 45, 57]) (S [45]) 0 [33, 48, 45, 57].length 1).isEmpty = false by decide +kernel]
              refine ⟨_, rfl, ?_⟩
              refine ⟨hz, optK.mk (hat 1 33 rfl _ rfl) ?_⟩
              refine WhileW.ofX (InvF ps a ((patS dn).length + 1) ((patS dn).length + 1 + 2) ((patS dn).length + 1 + 1 + 1 + 1 + 1) [33, 48, 45, 57] [33, 48] cu (out.map (pd a)) junk) (XF ps a ((patS dn).length + 1 + 2) ((patS dn).length + 1 + 1 + 1 + 1 + 1) [33, 48, 45, 57] [33, 48] cu (out.map (pd a)) junk) ⟨_, .s⟩ ?_ ?_
              · rintro v mu ⟨⟩
                have hs2 : [33, 48].length < 2 ^ 62 := by show 2 < _; decide
                have hs1 : [57].length < 2 ^ 62 := by show 1 < _; decide
                refine sl hzz hsl3 ⟨hs1, [.str [33, 48]], get_end _ _ _, Nat.le_of_ble_eq_true rfl, ?_⟩
                rw [set_end]
                refine optK.mk (get_end _ _ _) ⟨by show 2 < _; decide, by decide, by decide, ?_⟩
                refine ⟨rngL 1 (-1) 1, Iter_rng (by show Builtin.Range.rangeSize 1 0 (-1) = ((1:Nat):Int); decide +kernel) (by show Builtin.Range.small 1 0 (-1) = true; decide +kernel), InvR ps a ((patS dn).length + 1 + 2 + 1) ((patS dn).length + 1 + 1 + 1 + 1 + 1) [33, 48, 45, 57] (some (.str [57])) (out.map (pd a)) junk [.str [33, 48], .str [57]], .mk, ?_, ?_⟩
                · rintro v mu ⟨⟩
                  refine ⟨Ev_join_gen (sep := [45]) (c := 141) (P := 137) (by decide +kernel) (by rw [hG.t]; exact List.mem_cons_self ..) rfl (by decide +kernel) (by decide +kernel) (by decide +kernel) (by decide +kernel) rfl ?_ (fun _ _ => by with_unfolding_all rfl) (fun _ => by with_unfolding_all rfl)⟩
                  refine run_E hG tb142 ⟨rfl, run_E hG tb142 ⟨[.str [33, 48], .str [57]], [[33, 48], [57]], IterW_items (get_end _ _ _), rfl, ?_, by show 2 + (1 + 0) + 2 * 1 ≤ _; decide, by show 2 ≤ _; decide, ?_⟩⟩
                  · intro i d' e
                    match i with
                    | 0 => cases e; exact Elt_esc (by decide +kernel) rfl (by decide +kernel) str32 str35 str18 str33 (by decide +kernel) (by decide +kernel) (fun _ => by with_unfolding_all rfl) (fun _ => by with_unfolding_all rfl)
                    | 1 => cases e; exact Elt_esc (by decide +kernel) rfl (by decide +kernel) str32 str35 str18 str33 (by decide +kernel) (by decide +kernel) (fun _ => by with_unfolding_all rfl) (fun _ => by with_unfolding_all rfl)
                    | i + 2 => cases e
                  refine ⟨Ev_sub (c := 141) (P := 137) (by decide +kernel) (by rw [hG.t]; exact List.mem_cons_self ..) (pat_at hG) (by decide +kernel) (Ev_global 15 rfl (mgOf hG (v := .ref 116) fun P => by kernel_rfl) ⟨rfl, run_E hG tb142 ⟨_, rfl, fails3, Nat.succ_pos _, Nat.le_of_ble_eq_true rfl, ?_⟩⟩ (by decide +kernel)) (fun _ => by with_unfolding_all rfl) (by with_unfolding_all rfl) (fun _ => by with_unfolding_all rfl)⟩
                  have hs4 : [33, 48, 45, 57].length < 2 ^ 62 := by show 4 < _; decide
                  refine ⟨hs4, hs4, optK.mk (a := 33) rfl ⟨Nat.le_of_ble_eq_true rfl, ⟨St_add_str (Nat.le_of_ble_eq_true rfl) ?_⟩⟩⟩
                  refine ⟨by decide, Nat.le_of_ble_eq_true rfl, Nat.le_of_ble_eq_true rfl, Nat.le_of_ble_eq_true rfl, Nat.le_of_ble_eq_true rfl, _, rfl, hsz, hnx ?_ ?_⟩
                  · rfl
                  · show _ = D.str (Tk.br 3).outS
                    rfl
                · rintro i d v mu hd KB3 hN3 hB3 hR3 ⟨⟩
                  match i with
                  | 0 =>
                    cases hd
                    exact optK.mk (get_end _ _ _) ⟨by show 2 < _; decide, hs2, optK.mk rfl (optK.mk (get_end _ _ _) ⟨by show 2 < _; decide, hs1, hN3 _ _ .mk⟩)⟩
                  | i + 1 => cases hd
              · rintro m v mu KB2 KE2 hN2 hB2 hR2 hE2 (_ | _)
                · exact ⟨C_find4 (r := ((patS dn).length + 1 + 2)) (find_here (lo := (patS dn).length + 3) (hi := (patS dn).length + 5) (Nat.le_succ _) (by lia) (hget 3 45 rfl)) (sl hzz hsl1 ⟨[], get_end _ _ _, Nat.zero_le _, hN2 _ _ ⟨0, Nat.zero_lt_one, by rw [set_end]; exact .t⟩⟩)⟩
                · exact ⟨C_find4 (r := -1) (find_gone (lo := (patS dn).length + 6) (hi := (patS dn).length + 5) (Nat.lt_succ_self _) (by lia)) (hB2 _ _ .mk)⟩
            · rintro m v mu KB2 KE2 hN2 hB2 hR2 hE2 ⟨q, hq⟩
              match q, hq with
              | 0, _ => exact condK.yes (decide_eq_true hj2) ⟨hz, optK.mk (hat 2 48 rfl _ rfl) (hN2 _ _ ⟨2, Nat.lt_succ_self _, .mk 1 (by decide)⟩)⟩
              | 1, _ => exact condK.yes (decide_eq_true hj3) ⟨hz, optK.mk (hat 3 45 rfl _ rfl) (hN2 _ _ ⟨1, Nat.lt_succ_self _, .mk 2 (by decide)⟩)⟩
              | 2, _ => exact condK.yes (decide_eq_true hj4) ⟨hz, optK.mk (hat 4 57 rfl _ rfl) (hN2 _ _ ⟨0, Nat.lt_succ_self _, .mk 3 (by decide)⟩)⟩
              | 3, _ => exact condK.yes (decide_eq_true hj5) ⟨hz, optK.mk (hat 5 93 rfl _ rfl) (hE2 .mk)⟩
end
section
open PySem PySem.W PyProof.Rows
set_option maxRecDepth 100000
set_option maxHeartbeats 1000000
set_option linter.unusedVariables false
open PySem.Calls
variable {G : GX} {n : Nat} {μ : List (List D)} {K : D → Prop}
theorem okP_col : ∀ (b : Bool) (ps : List Part), okT ps = true → okP b (colP b ps) = true
  | _, [], _ => rfl
  | b, none :: r, h => by
    unfold colP
    cases b with
    | true => exact okP_col true r h
    | false => exact okP_col true r h
  | b, some t :: r, h => by
    have h : (t.ok && okT r) = true := h
    rw [Bool.and_eq_true] at h
    show (t.ok && okP false (colP false r)) = true
    rw [h.1, okP_col false r h.2]; rfl
theorem col_len : ∀ (b : Bool) (ps : List Part), (colP b ps).length ≤ ps.length
  | _, [] => Nat.le_refl _
  | b, none :: r => by
    unfold colP
    cases b with
    | true => exact Nat.le_succ_of_le (col_len true r)
    | false => exact Nat.succ_le_succ (col_len true r)
  | b, some t :: r => Nat.succ_le_succ (col_len false r)
theorem translate_call (hG : Good G) {ps : List Part} (hp : okT ps = true) (hn : ps.length ≤ 200) (hl : (patS ps).length ≤ 900) (hr : (rS (goR false (colP false ps))).length ≤ 900)
    (h : K (.str (preS ++ rS (goR false (colP false ps)) ++ postS))) : CallK G (n + 6) μ (.ref 123) [.str (patS ps)] K := by
  exact en123 hG rfl rfl ⟨C_object fun a => ⟨trans_call hG hp hn hl ⟨join_call hG (okP_col false ps hp) (Nat.le_trans (col_len false ps) (Nat.le_trans hn (by decide))) hr ⟨_, .pure (pure_str _), h⟩⟩⟩⟩
end
section
open PySem PySem.W PyProof.Rows
set_option maxRecDepth 100000
set_option maxHeartbeats 1000000
set_option linter.unusedVariables false
open PySem.Calls
variable {G : GX} {n : Nat} {μ : List (List D)} {K : D → Prop}
theorem okR_go : ∀ (L : List Part), okT L = true → okR false (goR false L) = true ∧ (L.any (·.isNone) = true → okR true (goR true L) = true)
  | [], _ => ⟨rfl, fun h => by cases h⟩
  | some t :: r, h => by
    have h : (t.ok && okT r) = true := h
    rw [Bool.and_eq_true] at h
    obtain ⟨i1, i2⟩ := okR_go r h.2
    refine ⟨?_, fun q => ?_⟩
    · show (t.ok && okR false (goR false r)) = true
      rw [h.1, i1]; rfl
    · show (t.ok && okR true (goR true r)) = true
      rw [h.1, i2 (by simpa using q)]; rfl
  | none :: r, h => by
    obtain ⟨i1, i2⟩ := okR_go r h
    have st : okR false (starR r (goR true r) (goR false r)) = true := by
      unfold starR
      split
      · rfl
      · split
        · rename_i q
          show (!false && okR true (goR true r)) = true
          rw [i2 q]; rfl
        · show (!false && okR false (goR false r)) = true
          rw [i1]; rfl
    refine ⟨st, fun _ => ?_⟩
    show (true && okR false (starR r (goR true r) (goR false r))) = true
    rw [st]; rfl
theorem okT_col : ∀ (b : Bool) (ps : List Part), okT ps = true → okT (colP b ps) = true
  | _, [], _ => rfl
  | b, none :: r, h => by
    unfold colP
    cases b with
    | true => exact okT_col true r h
    | false => exact okT_col true r h
  | b, some t :: r, h => by
    have h : (t.ok && okT r) = true := h
    rw [Bool.and_eq_true] at h
    show (t.ok && okT (colP false r)) = true
    rw [h.1, okT_col false r h.2]; rfl
noncomputable def rtsOf (ps : List Part) : List RT := goR false (colP false ps)
noncomputable def piecesOf (ps : List Part) : List Pc := runR (rtsOf ps) (0, []) []
theorem okR_rts {ps : List Part} (h : okT ps = true) : okR false (rtsOf ps) = true := (okR_go _ (okT_col false ps h)).1
theorem rts_len : ∀ (b : Bool) (l : List RT), okR b l = true → l.length ≤ (rS l).length
  | _, [], _ => Nat.zero_le _
  | b, .any :: r, h => by
    have h : (!b && okR false r) = true := h
    rw [Bool.and_eq_true] at h
    have := rts_len false r h.2
    show r.length + 1 ≤ (RT.any.s ++ rS r).length
    rw [List.length_append]; show _ ≤ 2 + _; lia
  | b, .opn :: r, h => by
    have h : (!b && okR true r) = true := h
    rw [Bool.and_eq_true] at h
    have := rts_len true r h.2
    show r.length + 1 ≤ (RT.opn.s ++ rS r).length
    rw [List.length_append]; show _ ≤ 6 + _; lia
  | b, .cls :: r, h => by
    have h : (b && okR false r) = true := h
    rw [Bool.and_eq_true] at h
    have := rts_len false r h.2
    show r.length + 1 ≤ (RT.cls.s ++ rS r).length
    rw [List.length_append]; show _ ≤ 1 + _; lia
  | b, .itm t :: r, h => by
    have h : (t.ok && okR b r) = true := h
    rw [Bool.and_eq_true] at h
    have := rts_len b r h.2
    obtain ⟨c, q, e, _⟩ := outS_head t h.1
    show r.length + 1 ≤ (t.outS ++ rS r).length
    rw [List.length_append, e, List.length_cons]; lia
noncomputable def PcB (N : Nat) (p : Pc) : Prop := (0 ≤ p.1 ∧ p.1 < 3) ∧ p.2.length ≤ N ∧ ∀ o ∈ p.2, o.2.length ≤ 1
theorem PcB.mono {N M : Nat} {p : Pc} (h : PcB N p) (e : N ≤ M) : PcB M p := ⟨h.1, Nat.le_trans h.2.1 e, h.2.2⟩
theorem one_len (k : Tk) : k.one.2.length ≤ 1 := by
  unfold Tk.one
  split <;> exact Nat.le_refl 1
theorem addOne_B (k : Tk) : ∀ (r : List Pc) (p : Pc) (N : Nat), PcB N p → (∀ q ∈ r, PcB N q) → PcB (N + 1) (addOne k.one p r).1 ∧ ∀ q ∈ (addOne k.one p r).2, PcB (N + 1) q
  | [], p, N, hp, _ => by
    refine ⟨⟨hp.1, ?_, fun o ho => ?_⟩, fun q hq => absurd hq List.not_mem_nil⟩
    · show (p.2 ++ [k.one]).length ≤ N + 1
      rw [List.length_append]; exact Nat.succ_le_succ hp.2.1
    · rcases List.mem_append.mp ho with h | h
      · exact hp.2.2 o h
      · rw [List.mem_singleton.mp h]; exact one_len k
  | q :: r, p, N, hp, hr => by
    have h := addOne_B k r q N (hr q List.mem_cons_self) fun x hx => hr x (List.mem_cons_of_mem _ hx)
    refine ⟨hp.mono (Nat.le_succ _), fun x hx => ?_⟩
    rcases List.mem_cons.mp hx with rfl | hx
    · exact h.1
    · exact h.2 x hx
theorem addOne_len2 (o : One) : ∀ (r : List Pc) (p : Pc), (addOne o p r).2.length = r.length
  | [], _ => rfl
  | q :: r, p => by show (addOne o q r).2.length + 1 = _; rw [addOne_len2 o r q]; rfl
theorem runR_B : ∀ (l : List RT) (p : Pc) (r : List Pc) (N : Nat), PcB N p → (∀ q ∈ r, PcB N q) → (runR l p r).length ≤ r.length + 1 + l.length ∧ ∀ q ∈ runR l p r, PcB (N + l.length) q
  | [], p, r, N, hp, hr => ⟨Nat.le_refl _, fun q hq => (List.mem_cons.mp hq).elim (fun e => e ▸ hp) (hr q)⟩
  | .any :: l, p, r, N, hp, hr => by
    have h := runR_B l p (r ++ [(2, [])]) N hp fun q hq => (List.mem_append.mp hq).elim (hr q) fun e => by rw [List.mem_singleton.mp e]; exact ⟨by decide, Nat.zero_le _, fun o ho => absurd ho List.not_mem_nil⟩
    rw [List.length_append] at h
    exact ⟨Nat.le_trans h.1 (by simp; lia), fun q hq => (h.2 q hq).mono (by rw [List.length_cons]; lia)⟩
  | .opn :: l, p, r, N, hp, hr => by
    have h := runR_B l p (r ++ [(1, [])]) N hp fun q hq => (List.mem_append.mp hq).elim (hr q) fun e => by rw [List.mem_singleton.mp e]; exact ⟨by decide, Nat.zero_le _, fun o ho => absurd ho List.not_mem_nil⟩
    rw [List.length_append] at h
    exact ⟨Nat.le_trans h.1 (by simp; lia), fun q hq => (h.2 q hq).mono (by rw [List.length_cons]; lia)⟩
  | .cls :: l, p, r, N, hp, hr => by
    have h := runR_B l p (r ++ [(0, [])]) N hp fun q hq => (List.mem_append.mp hq).elim (hr q) fun e => by rw [List.mem_singleton.mp e]; exact ⟨by decide, Nat.zero_le _, fun o ho => absurd ho List.not_mem_nil⟩
    rw [List.length_append] at h
    exact ⟨Nat.le_trans h.1 (by simp; lia), fun q hq => (h.2 q hq).mono (by rw [List.length_cons]; lia)⟩
  | .itm k :: l, p, r, N, hp, hr => by
    have h0 := addOne_B k r p N hp hr
    have h := runR_B l (addOne k.one p r).1 (addOne k.one p r).2 (N + 1) h0.1 h0.2
    rw [addOne_len2] at h
    exact ⟨Nat.le_trans h.1 (by rw [List.length_cons]; lia), fun q hq => (h.2 q hq).mono (by rw [List.length_cons]; lia)⟩
theorem pieces_ok {ps : List Part} (h : okT ps = true) (hl : (rS (rtsOf ps)).length ≤ 900) : PcOk (piecesOf ps) := by
  have h1 := rts_len false _ (okR_rts h)
  have h2 := runR_B (rtsOf ps) (0, []) [] 0 ⟨by decide, Nat.zero_le _, fun o ho => absurd ho List.not_mem_nil⟩ fun q hq => absurd hq List.not_mem_nil
  refine ⟨Nat.le_trans h2.1 (by show 0 + 1 + _ ≤ _; lia), fun p hp => ?_⟩
  have h3 := h2.2 p hp
  exact ⟨h3.1, Nat.le_trans h3.2.1 (by lia), fun o ho => Nat.le_trans (h3.2.2 o ho) (by decide)⟩
noncomputable def takesF (ps : List Part) (x : List Nat) : Bool := tookF (piecesOf ps) x
theorem takes_call (hG : Good G) {ps : List Part} {x : List Nat} (hp : okT ps = true) (hn : ps.length ≤ 200) (hl : (patS ps).length ≤ 900) (hr : (rS (rtsOf ps)).length ≤ 900) (hx : x.length ≤ 1000)
    (h : K (.bool (takesF ps x))) : CallK G (n + 7) μ (.ref 199) [.str (patS ps), .str x] K := by
  exact en199 hG rfl rfl ⟨translate_call hG hp hn hl hr ⟨pieces_call hG (okR_rts hp) hr ⟨took_call hG hx (pieces_ok hp hr) ⟨_, .pure rfl, h⟩⟩⟩⟩
end
section
open PySem PySem.W PyProof.Rows
set_option maxRecDepth 100000
set_option maxHeartbeats 1000000
set_option linter.unusedVariables false
open PySem.Calls
variable {G : GX} {n : Nat} {μ : List (List D)} {K : D → Prop}
theorem wpAny_any {prog : Program} {w : World} {A : Around} {α : Type} {c : Sem α} {Q : α → Shared → Prop} {E : Value → Shared → Prop} {s : Shared} (h : wpAny (model prog w) A c Q No s) : wpAny (model prog w) A c Q E s := wpAny_mono h (fun _ _ x => x) fun _ _ x => x.elim
noncomputable def strI (a : Int) : List Nat := (toString a).toList.map Char.toNat
theorem Elt_str0 (hG : Good G) {csc : Scope} {x y : Str} {a : Int} {rest : List D} {p1 p2 p3 p4 p5 : Pos} {k0 : Nat} (ha : a.natAbs.log2 < 1920) (hk : csc.kind = .function) (hx : csc.names.lookup x = some .local) (hy : csc.names.lookup y = some .globalImplicit)
    (hb : G.mg y = none ∧ bootBuiltins y = some (.type "str")) (hd : (x == ("__debug__" : Str)) = false) (hd' : (y == ("__debug__" : Str)) = false) (hne : y ≠ "__name__")
    (he : ∀ env, eval (.Call (.Name y p1) [.Subscript (.Name x p2) (.Constant (.int 0) k0 p3) p4] [] p5) env = (do callWith p5 (← eval (.Name y p1) env) [] (backTo p5 (starEach [.Subscript (.Name x p2) (.Constant (.int 0) k0 p3) p4] env)) (backToKw p5 (keywordEach [] env))))
    (hs : ∀ o i, subscripted (.Constant (.int 0) k0 p3) false o i = operate [o, i] (getItem o i)) :
    EltK G csc x (.Call (.Name y p1) [.Subscript (.Name x p2) (.Constant (.int 0) k0 p3) p4] [] p5) (.tup (.int a :: rest)) (fun v => ∃ t, v = .str (S (strI a)) t) := by
  intro A E cenv s m v W h hA hsc hg hbi hn hm hgm hbm hi ht
  refine wpAny_any ?_
  cases hi with | tup htup hel =>
  rename_i ad vs
  cases hel with | cons i1 r =>
  rename_i v0 vr
  obtain ⟨t0, rfl⟩ := i1.inv
  have htup' := ht ad _ htup
  refine Call_ (Name_function_global (by rw [hsc]; exact hk) (by show cenv.scope.names.lookup y = _; rw [hsc]; exact hy) (loadGlobal_builtin (env := cenv) (by rw [hg]; exact hgm) hb.1 (by rw [hbi]; exact hbm) ((G.builtins y hne).trans hb.2) ?_) hd') (he cenv)
  rw [backTo_eq _ _ _ rfl]
  refine PyProof.Rows.callWith_type any_plain (evalArgs_of ?_)
  show wpAny _ _ (spliced [(false, eval (.Subscript (.Name x p2) (.Constant (.int 0) k0 p3) p4) cenv)]) _ _ _
  refine spliced_cons (Subscript_ (ldG hn hm (wpAny_Constant_int ?_) (by rw [hsc]; exact hk) (by rw [hsc]; exact hx) hd))
  refine tail_any (T := "tuple") htup'.typeIs slot_tuple_getitem.lookup (getItem_tuple htup' (by decide) (by decide) (j := 0) ?_ rfl (spliced_nil ?_)) (hs _ _)
  · rw [List.size_toArray, List.length_cons]
    unfold seqIndex?
    simp
  · refine P.str_of_int ha ?_
    exact ⟨⟨_, by rw [toString_S]; rfl⟩, s.heap, _, rfl, fun _ _ e => e⟩

noncomputable def fmtF (ks : List Int) : List Nat := ([97, 116, 32, 116, 97, 98, 32, 115, 105, 122, 101] ++ if 1 < ks.length then [115] else []) ++ [32] ++ joinL [44, 32] (ks.map strI)
theorem add_S {prog : Program} {w : World} {A : Around} {E : Value → Shared → Prop} {s : Shared} {x y : List Nat} {t u : Tok} {Q : Value → Shared → Prop} (hz : x.length + y.length ≤ sizeLine) (h : ∀ t' tk, s.toks ≤ tk → Q (.str (S (x ++ y)) t') { s with toks := tk }) :
    wpAny (model prog w) A (binaryOp .Add (.str (S x) t) (.str (S y) u)) Q E s := by
  refine wpAny_with_toks (Nat.le_refl s.toks) (add_str (fun t' tk ht => ?_) (by rw [S_len, S_len]; exact hz))
  rw [S_app]
  exact h t' tk ht
theorem fmt_ret {A : Around} {env : Env} {s : Shared} {m : Str → Option Value} {p : List Nat} {t : Tok} {a C I : Addr} {fp : List Addr} {g : Nat} {ys : List (List Nat)} {St : Nat → Shared → Prop} {Q : Flow → Shared → Prop} {q1 q2 q3 q4 q5 q6 q7 q8 q9 : Pos} {k1 k2 : Nat} {pl : Sem Bool}
    (hk : env.scope.kind = .function) (kp : env.scope.names.lookup ("prefix" : Str) = some .local) (kf : env.scope.names.lookup ("firsts" : Str) = some .local) (hn : s.heap.Ns env.locals m) (h1 : m "prefix" = some (.str (S p) t)) (h2 : m "firsts" = some (.ref a)) (hp : p.length ≤ 100)
    (W : WalksS G.prog G.w A.in4 a fp [C, I] (GenOnlyQ g) ys.length (fun i y => ∃ t, y = .str (S (ys.getD i [])) t) St) (hst : St 0 s) (hT : ∀ i t, St i t → t.TypeIs (.ref a) "generator") (hfp : ∀ b ∈ fp, b < s.heap.objs.size) (ha : a ∈ fp)
    (hz : (ys.map List.length).sum ≤ 10000) (hy : ys.length ≤ 100) (hjl : (joinL [44, 32] ys).length ≤ 20000)
    (hQ : ∀ s' t' tk, Moved [C, I] (GenOnlyQ g) s s' → Q (.ret (.str (S (p ++ [32] ++ joinL [44, 32] ys)) t')) { s' with toks := tk })
    (he : eval (.Call (.Attribute (.Constant (.str ", ") k2 q4) "join" q5) [.Name "firsts" q6] [] q7) env = (do
      let ov ← eval (.Constant (.str ", ") k2 q4) env
      standAt q5.atName
      let (f, first) ← holding [ov] (getMethod ov "join" pl)
      callWith q7 f first (backTo q7 (starEach [.Name "firsts" q6] env)) [])) :
    wpAny (model G.prog G.w) A (exec (.Return (some (.BinOp (.BinOp (.Name "prefix" q1) .Add (.Constant (.str " ") k1 q2) q3) .Add (.Call (.Attribute (.Constant (.str ", ") k2 q4) "join" q5) [.Name "firsts" q6] [] q7) q8)) q9) env) Q No s := by
  refine wpAny_Return_some (wpAny_BinOp (wpAny_BinOp (ldG hn h1 (Constant_str ?_) hk kp (by decide +kernel))))
  rw [str3]
  refine add_S (by show p.length + 1 ≤ _; unfold sizeLine; lia) fun t' tk htk => ?_
  refine MethodCall_ (Constant_str ?_) he
  rw [str17]
  refine GM.of (.str (S [44, 32]) _) (typeIs_str _ _ _) F.slot_str_join F.type_str_join GM.noRef ?_
  rw [backTo_eq _ _ _ rfl]
  refine Calls.callWith_builtin any_plain (evalArgs_of ?_)
  show wpAny _ _ (spliced [(false, eval (.Name "firsts" q6) env)]) _ _ _
  refine spliced_cons (ldG hn h2 (spliced_nil ?_) hk kf (by decide +kernel))
  refine join_walk W (W.frame 0 s s.heap _ hst (Nat.le_succ_of_le (Nat.le_trans (Nat.le_succ _) htk)) fun _ _ _ e => e) hT hfp ha (by show (ys.map List.length).sum + ys.length * 2 ≤ _; lia) (by unfold sizeLine; lia) fun s' t'' tk' hm => ?_
  refine add_S (by rw [List.length_append]; show _ + 1 + _ ≤ _; unfold sizeLine; lia) fun t3 tk3 _ => ?_
  exact hQ s' t3 tk3 ⟨hm.heap, hm.gens, hm.drawn, hm.os, Nat.le_trans (Nat.le_succ_of_le (Nat.le_trans (Nat.le_succ _) htk)) hm.toks⟩
theorem fmt_call (hG : Good G) {ws : List D} {ks : List Int} (hl : ws.length = ks.length) (hw : ∀ i d, ws[i]? = some d → ∃ rest, d = .tup (.int (ks.getD i 0) :: rest) ∧ (ks.getD i 0).natAbs.log2 < 1920) (hp : pureL ws = true) (hn : ws.length ≤ 100)
    (hz : ((ks.map strI).map List.length).sum ≤ 10000) (h : K (.str (fmtF ks))) : CallK G (n + 2) μ (.ref 111) [.lst ws] K := by
  refine FnAt.call (at111 hG) rfl (by simp only [pureL_cons, pureL_nil, pure_lst, hp, Bool.and_self]) ?_
  intro A env kp av s b at0
  obtain ⟨W, hW, _, st⟩ := at0
  refine wpAny_execs_cons ?_
  refine wpAny_Assign_Name (gen_core (st.ok5 b) (c := 110) (P := 106) (by decide +kernel) (by rw [hG.t]; exact List.mem_cons_of_mem _ (List.mem_cons_self ..)) rfl (by decide +kernel) (by decide +kernel) (by decide +kernel) (by decide +kernel) rfl
    (Ev_var 0 rfl rfl ⟨ws, IterW_items rfl, fun i y => ∃ t, y = .str (S (strI (ks.getD i 0))) t, ?_, fun a C I ifp hpp St s₅ g e5 ha hC hI hfoot hobj hfpm haC han hCn WW hst hT na nC => ?_⟩ (by decide +kernel)) (fun _ => by with_unfolding_all rfl)) ((swapsWith_sc b.henv.hsc ..).trans (by with_unfolding_all rfl))
  · intro i d hd
    obtain ⟨rest, rfl, ha⟩ := hw i d hd
    exact Elt_str0 hG ha rfl (by decide +kernel) (by decide +kernel) (gt_str hG) (by decide +kernel) (by decide +kernel) (by decide +kernel) (fun _ => by with_unfolding_all rfl) (fun _ _ => by with_unfolding_all rfl)
  have o0 := st.ok5 b
  obtain ⟨vw, ⟨m, hns, hmw⟩, hiw⟩ := st.vars 0 _ _ _ rfl rfl
  have hns5 : s₅.heap.Ns env.locals m := ns_ext st.ok.tab e5.keep hns
  have hkind : env.scope.kind = .function := by rw [b.henv.hsc]; kernel_rfl
  have hloc : ∃ ob, s.heap.get? env.locals = some ob ∧ ∃ es ep, ob.data = .dict es ep := by
    obtain ⟨ob, es, ep, ho, hd, _⟩ := hns; exact ⟨ob, ho, es, ep, hd⟩
  have hloc5 : ∃ ob, s₅.heap.get? env.locals = some ob ∧ ∃ es ep, ob.data = .dict es ep := by
    obtain ⟨ob, es, ep, ho, hd, _⟩ := hns5; exact ⟨ob, ho, es, ep, hd⟩
  have g0ne : ∀ c ob, G.g0.get? c = some ob → c ≠ env.locals := fun c ob e h => by
    have := b.own.base c ob e
    rw [h, b.own.loc] at this; cases this
  have frne : ∀ c, s.heap.get? c = none → c ≠ env.locals := fun c hc h => by
    obtain ⟨ob, ho, _⟩ := hloc
    rw [← h, hc] at ho; cases ho
  have fpne : ∀ c ∈ a :: C :: genFp hpp ifp, c ≠ env.locals := fun c hc h => by
    rcases List.mem_cons.mp hc with rfl | hc
    · exact frne _ ha h
    rcases List.mem_cons.mp hc with rfl | hc
    · exact frne _ hC h
    obtain ⟨ob5, h5, es5, ep5, hd5⟩ := hloc5
    obtain ⟨obp, hp1, hp2⟩ := hfpm c hc
    rw [h, h5] at hp2; cases hp2
    unfold genFp at hc
    rcases List.mem_cons.mp hc with rfl | hc
    · obtain ⟨_, ⟨o1, _, _, e1, _⟩, _⟩ := G.nolimit; exact g0ne _ _ e1 h
    rcases List.mem_cons.mp hc with rfl | hc
    · obtain ⟨o1, _, _, e1, _⟩ := G.g; exact g0ne _ _ e1 h
    rcases List.mem_cons.mp hc with rfl | hc
    · obtain ⟨o1, _, _, e1, _⟩ := G.b; exact g0ne _ _ e1 h
    rcases List.mem_append.mp hc with hc | hc
    · by_cases hI' : c = I
      · exact frne _ hI (hI' ▸ h)
      · obtain ⟨ob, e1, e2⟩ := hfoot c hc hI'
        rw [h, h5] at e1; cases e1
        exact e2 _ _ hd5
    · exact isTupB_not_dict (List.mem_filter.mp hc).2 hp1 _ _ hd5
  have stay : ∀ (h' : Heap) (tk : Nat), s₅.toks ≤ tk → (∀ c o, c ≠ env.locals → s₅.heap.get? c = some o → h'.get? c = some o) → St 0 { s₅ with heap := h', toks := tk } := fun h' tk ht hk =>
    WW.frame 0 s₅ h' tk hst ht fun c hc o e => hk c o (fpne c hc) e
  have lt5 : ∀ h' : Heap, (∀ c o, c ≠ env.locals → s₅.heap.get? c = some o → h'.get? c = some o) → ∀ c ∈ a :: C :: genFp hpp ifp, c < h'.objs.size := fun h' hk c hc => by
    have : ∃ ob, s₅.heap.get? c = some ob := by
      rcases List.mem_cons.mp hc with rfl | hc
      · exact Option.ne_none_iff_exists'.mp na
      rcases List.mem_cons.mp hc with rfl | hc
      · exact Option.ne_none_iff_exists'.mp nC
      obtain ⟨ob, _, h2⟩ := hfpm c hc
      exact ⟨ob, h2⟩
    obtain ⟨ob, ho⟩ := this
    exact Heap.lt_size (hk c ob (fpne c hc) ho)
  have fin : ∀ (h' : Heap) (tk : Nat) (s' : Shared) (tk' : Nat), (∀ c o, c ≠ env.locals → s₅.heap.get? c = some o → h'.get? c = some o) → Moved [C, I] (GenOnlyQ g) { s₅ with heap := h', toks := tk } s' →
      OkS G { s' with toks := tk' } ∧ KExt G kp s'.heap ∧ s'.os = s.os := by
    intro h' tk s' tk' hk hm
    have nm : ∀ c, s.heap.get? c ≠ none → c ∉ [C, I] := fun c hc hmm => by
      rcases List.mem_cons.mp hmm with rfl | hmm
      · exact hc hC
      · exact hc (List.mem_singleton.mp hmm ▸ hI)
    have kept : ∀ c o, (∀ q ∈ G.T, c ≠ q.2) → s.heap.get? c = some o → c ≠ env.locals → s'.heap.get? c = some o := fun c o hT e hl =>
      hm.heap c o (nm c (by rw [e]; exact fun q => by cases q)) (hk c o hl (e5.keep c o hT e))
    refine ⟨⟨fun c o e => kept c o (OkS.g0_notT e) (st.ok.base c o e) (g0ne c o e), fun q hq => ?_, hm.gens.bare e5.ok.bare⟩, fun c o hT e => kept c o hT (st.ext c o hT e) (fun hl => by rw [hl, b.own.loc] at e; cases e), hm.os.trans e5.os⟩
    obtain ⟨ps, h1, _⟩ := st.ok.tab q hq
    obtain ⟨ps', h2, h3⟩ := e5.ok.tab q hq
    exact ⟨ps', hm.heap _ _ (nm _ (by rw [h1]; exact fun q => by cases q)) (hk _ _ (fun hl => by
      obtain ⟨ob, ho, es, ep, hd⟩ := hloc5
      rw [← hl, h2] at ho; cases ho; cases hd) h2), h3⟩
  have ys_len : (ks.map strI).length = ws.length := by rw [List.length_map, hl]
  have WW' : WalksS G.prog G.w A.in4 a (a :: C :: genFp hpp ifp) [C, I] (GenOnlyQ g) (ks.map strI).length (fun i y => ∃ t, y = .str (S ((ks.map strI).getD i [])) t) St := by
    rw [ys_len]
    refine { sub := WW.sub, grefl := WW.grefl, gtrans := WW.gtrans, frame := WW.frame, done := WW.done, self := WW.self, item := fun i t Q E hi st hq => WW.item i t Q E hi st fun v t' ⟨t0, e0⟩ st' hm => hq v t' ⟨t0, ?_⟩ st' hm }
    rw [e0, List.getD_eq_getElem?_getD, List.getD_eq_getElem?_getD, List.getElem?_map]
    have : i < ks.length := hl ▸ hi
    rw [List.getElem?_eq_getElem this]; rfl
  have hjl : (joinL [44, 32] (ks.map strI)).length ≤ 20000 := by
    have : ∀ ys : List (List Nat), (joinL [44, 32] ys).length ≤ (ys.map List.length).sum + 2 * ys.length := fun ys => by
      cases ys with
      | nil => exact Nat.zero_le _
      | cons y r =>
        show (y ++ (r.map fun z => [44, 32] ++ z).flatten).length ≤ _
        rw [List.length_append, List.map_cons, List.sum_cons, List.length_cons]
        have : ((r.map fun z => [44, 32] ++ z).flatten).length = (r.map List.length).sum + 2 * r.length := by
          induction r with
          | nil => rfl
          | cons z r ih => rw [List.map_cons, List.flatten_cons, List.length_append, ih, List.map_cons, List.sum_cons, List.length_cons, List.length_append, show ([44, 32] : List Nat).length = 2 from rfl]; lia
        lia
    have h1 := this (ks.map strI)
    rw [ys_len] at h1
    lia
  have hfrn : (("firsts" : Str) = ("prefix" : Str)) = False := by simp; decide +kernel
  refine wpAny_storeName_local (kindOf_of b.henv (k := 1) rfl) hns5 (fun h₂ hn₂ hs₂ => ?_) (by rw [hkind]; rfl)
  show wpAny _ _ (execs _ env) _ _ _
  have k2 : ∀ c o, c ≠ env.locals → s₅.heap.get? c = some o → h₂.get? c = some o := fun c o hne e => hs₂.extBut c o hne e
  refine wpAny_execs_cons (wpAny_Assign_Name (Constant_str ?_) ((swapsWith_sc b.henv.hsc ..).trans (by with_unfolding_all rfl)))
  refine wpAny_storeName_local (kindOf_of b.henv (k := 2) rfl) hn₂ (fun h₃ hn₃ hs₃ => ?_) (by rw [hkind]; rfl)
  show wpAny _ _ (execs _ env) _ _ _
  have k3 : ∀ c o, c ≠ env.locals → s₅.heap.get? c = some o → h₃.get? c = some o := fun c o hne e => hs₃.extBut c o hne (k2 c o hne e)
  have hlw : ∃ aw vs, vw = .ref aw ∧ (∀ h' : Heap, (∀ c o, c ≠ env.locals → s₅.heap.get? c = some o → h'.get? c = some o) → h'.IsList aw vs) ∧ vs.size = ks.length := by
    cases hiw with | lst hnw hpl hsl =>
    rename_i aw vs
    refine ⟨aw, vs.toArray, rfl, fun h' hk => ?_, by rw [List.size_toArray, hsl.length, hl]⟩
    obtain ⟨nn, ho⟩ := plain_ext st.ok.tab e5.keep hpl
    refine ⟨_, hk aw _ (fun hh => ?_) ho, rfl, nn, rfl⟩
    obtain ⟨ob, ho', es, ep, hd⟩ := hloc5
    rw [← hh, ho] at ho'; cases ho'; cases hd
  obtain ⟨aw, vws, rfl, hlist, hvsz⟩ := hlw
  have nsk : ∀ h' : Heap, (∀ c o, c ≠ env.locals → s₅.heap.get? c = some o → h'.get? c = some o) → h'.Ns mainGlobals G.mg ∧ h'.Ns builtinsNs G.mb := fun h' hk =>
    ⟨(G.g.keeps e5.ok.base).at' fun o e => hk _ o (by obtain ⟨o1, _, _, e1, _⟩ := G.g; exact g0ne _ _ e1) e, (G.b.keeps e5.ok.base).at' fun o e => hk _ o (by obtain ⟨o1, _, _, e1, _⟩ := G.b; exact g0ne _ _ e1) e⟩
  have hnames : env.scope.names = [(("w" : Str), NameKind.local), (("firsts" : Str), NameKind.local), (("prefix" : Str), NameKind.local), (("len" : Str), NameKind.globalImplicit)] := by rw [b.henv.hsc]; kernel_rfl
  have e3 : (("w" : Str) = ("prefix" : Str)) = False := by simp only [eq_iff_iff, iff_false]; decide +kernel
  have e4 : (("w" : Str) = ("firsts" : Str)) = False := by simp only [eq_iff_iff, iff_false]; decide +kernel
  have e5' : (("firsts" : Str) = ("prefix" : Str)) = False := by simp only [eq_iff_iff, iff_false]; decide +kernel
  obtain ⟨m3, tp, hn3, m3p, m3f, m3w⟩ : ∃ (m3 : Str → Option Value) (tp : Tok), h₃.Ns env.locals m3 ∧ m3 "prefix" = some (.str (S [97, 116, 32, 116, 97, 98, 32, 115, 105, 122, 101]) tp) ∧ m3 "firsts" = some (.ref a) ∧ m3 "w" = some (.ref aw) :=
    ⟨_, _, hn₃, by simp only [if_true, str39]; rfl, by simp only [e5', if_false, if_true], by simp only [e3, e4, if_false]; exact hmw⟩
  refine wpAny_execs_cons (wpAny_If (wpAny_isTrue_Compare1 (Call_ (Name_function_global hkind (kindOf_of b.henv (k := 3) rfl) (loadGlobal_builtin (env := env) (by rw [b.henv.glob]; exact (nsk _ k3).1) (gb_len hG).1 (by rw [b.henv.blt]; exact (nsk _ k3).2) ((G.builtins _ (by decide +kernel)).trans (gb_len hG).2) ?_) (by decide +kernel)) (by with_unfolding_all rfl)) (by with_unfolding_all rfl)))
  rw [backTo_eq _ _ _ rfl]
  refine Calls.callWith_builtin any_plain (evalArgs_of ?_)
  show wpAny _ _ (spliced [(false, eval (.Name "w" _) env)]) _ _ _
  refine spliced_cons (ldG hn3 m3w (spliced_nil ?_) hkind (by rw [hnames]; decide +kernel) (by decide +kernel))
  refine len_list (hlist _ k3) (by lia) (wpAny_Constant_int (PyProof.Rows.gt_int (wpAny_truthy_bool ?_)))
  have tail : ∀ (h' : Heap) (tk : Nat) (m' : Str → Option Value) (p : List Nat) (t : Tok), s₅.toks ≤ tk → (∀ c o, c ≠ env.locals → s₅.heap.get? c = some o → h'.get? c = some o) → h'.Ns env.locals m' → m' "prefix" = some (.str (S p) t) → m' "firsts" = some (.ref a) → p.length ≤ 100 →
      p ++ [32] ++ joinL [44, 32] (ks.map strI) = fmtF ks → ∀ (q1 q2 q3 q4 q5 q6 q7 q8 q9 : Pos) (pl : Sem Bool), eval (.Call (.Attribute (.Constant (.str ", ") 0 q4) "join" q5) [.Name "firsts" q6] [] q7) env = (do
        let ov ← eval (.Constant (.str ", ") 0 q4) env
        standAt q5.atName
        let (f, first) ← holding [ov] (getMethod ov "join" pl)
        callWith q7 f first (backTo q7 (starEach [.Name "firsts" q6] env)) []) → wpAny (model G.prog G.w) A (exec (.Return (some (.BinOp (.BinOp (.Name "prefix" q1) .Add (.Constant (.str " ") 0 q2) q3) .Add (.Call (.Attribute (.Constant (.str ", ") 0 q4) "join" q5) [.Name "firsts" q6] [] q7) q8)) q9) env)
        (fun f s' => ∃ t', f = .ret (.str (S (fmtF ks)) t') ∧ OkS G s' ∧ KExt G kp s'.heap ∧ s'.os = s.os) No { s₅ with heap := h', toks := tk } := by
    intro h' tk m' p t htk hk hn' h1 h2 hp' he q1 q2 q3 q4 q5 q6 q7 q8 q9 pl hev
    refine fmt_ret hkind (by rw [hnames]; decide +kernel) (by rw [hnames]; decide +kernel) hn' h1 h2 hp' WW' (stay h' tk htk hk) hT (lt5 h' hk) (List.mem_cons_self ..) hz (by rw [ys_len]; exact hn) hjl (fun s' t' tk' hm => ?_) hev
    rw [he]
    exact ⟨t', rfl, fin h' tk s' tk' hk hm⟩
  by_cases hgt : 1 < ks.length
  · rw [if_pos (by rw [decide_eq_true_iff, hvsz]; lia)]
    refine wpAny_execs_cons (wpAny_Assign_Name (wpAny_BinOp (ldG hn3 m3p (Constant_str ?_) hkind (by rw [hnames]; decide +kernel) (by decide +kernel))) ((swapsWith_sc b.henv.hsc ..).trans (by with_unfolding_all rfl)))
    rw [str43]
    refine add_S (by decide) fun t' tk htk => ?_
    refine wpAny_storeName_local (kindOf_of b.henv (k := 2) rfl) hn3 (fun h₄ hn₄ hs₄ => ?_) (by rw [hkind]; rfl)
    refine wpAny_execs_nil ?_
    have k4 : ∀ c o, c ≠ env.locals → s₅.heap.get? c = some o → h₄.get? c = some o := fun c o hne e => hs₄.extBut c o hne (k3 c o hne e)
    have hfm : fmtF ks = [97, 116, 32, 116, 97, 98, 32, 115, 105, 122, 101, 115] ++ [32] ++ joinL [44, 32] (ks.map strI) := by unfold fmtF; rw [if_pos hgt]; rfl
    refine wpAny_execs_cons (wpAny_mono (tail h₄ _ _ _ t' (Nat.le_trans ?_ (Nat.le_succ _)) k4 hn₄ (by simp only [if_true]; rfl) (by simp only [e5', if_false]; exact m3f) (by decide) hfm.symm _ _ _ _ _ _ _ _ _ _ (by with_unfolding_all rfl)) (fun f s' hp => ?_) fun _ _ y => y)
    · dsimp only at htk ⊢; lia
    · obtain ⟨t3, rfl, h1, h2, h3⟩ := hp
      exact ⟨_, h, h1, h2, h3, .str _ _⟩
  · rw [if_neg (by rw [decide_eq_true_iff, hvsz]; lia)]
    refine wpAny_execs_nil ?_
    have hfm : fmtF ks = [97, 116, 32, 116, 97, 98, 32, 115, 105, 122, 101] ++ [32] ++ joinL [44, 32] (ks.map strI) := by unfold fmtF; rw [if_neg hgt, List.append_nil]
    refine wpAny_execs_cons (wpAny_mono (tail h₃ _ _ _ tp ?_ k3 hn3 m3p m3f (by decide) hfm.symm _ _ _ _ _ _ _ _ _ _ (by with_unfolding_all rfl)) (fun f s' hp => ?_) fun _ _ y => y)
    · dsimp only; lia
    · obtain ⟨t3, rfl, h1, h2, h3⟩ := hp
      exact ⟨_, h, h1, h2, h3, .str _ _⟩
end
section
open PySem PySem.W PyProof.Rows
set_option maxRecDepth 100000
set_option maxHeartbeats 1000000
set_option linter.unusedVariables false
open PySem.Calls
variable {G : GX} {n : Nat} {μ : List (List D)} {K : D → Prop}
/-! what the patterns take, in plain words -/
noncomputable def Tk.hit : Tk → Nat → Bool
  | .chr c, x => x == c
  | .br 0, x => x == 32
  | .br 1, x => Nat.ble 32 x && Nat.ble x 43
  | .br 2, x => x == 44
  | .br 3, x => !(Nat.ble 48 x && Nat.ble x 57)
  | .br 4, x => Nat.ble 49 x && Nat.ble x 57
  | .br _, x => Nat.ble 48 x && Nat.ble x 57
theorem lt1 (a b : Nat) : decide (([a] : List Nat) < [b]) = decide (a < b) := by
  rw [decide_eq_decide]
  constructor
  · intro h
    rcases List.cons_lt_cons_iff.mp h with h | ⟨_, h⟩
    · exact h
    · exact absurd h (List.not_lt_nil _)
  · exact fun h => List.cons_lt_cons_iff.mpr (.inl h)
theorem within1 (c a b : Nat) : within [c] ([a], [b]) = (Nat.ble a c && Nat.ble c b) := by
  unfold within
  rw [lt1, lt1]
  have h1 : (!decide (c < a)) = Nat.ble a c := by
    rw [Bool.eq_iff_iff]; simp [Nat.ble_eq]
  have h2 : (!decide (b < c)) = Nat.ble c b := by
    rw [Bool.eq_iff_iff]; simp [Nat.ble_eq]
  rw [h1, h2]
theorem ble_eq_beq (a c : Nat) : (Nat.ble a c && Nat.ble c a) = (c == a) := by
  rw [Bool.eq_iff_iff]
  simp only [Bool.and_eq_true, Nat.ble_eq, beq_iff_eq]
  lia
theorem okOne_one (n : Bool) (a b c : Nat) : okOne (n, [([a], [b])]) [c] = (n != (Nat.ble a c && Nat.ble c b)) := by
  unfold okOne
  dsimp only
  rw [List.any_cons, List.any_nil, Bool.or_false, within1]; rfl
theorem hit_eq (t : Tk) (c : Nat) : okOne t.one [c] = t.hit c := by
  unfold Tk.one Tk.hit
  split <;> rw [okOne_one] <;> simp only [ble_eq_beq, Bool.false_bne, Bool.true_bne]
noncomputable def fitL : List Tk → List Nat → Bool
  | [], _ => true
  | _ :: _, [] => false
  | t :: r, c :: y => t.hit c && fitL r y
theorem fitL_len : ∀ (u : List Tk) (y : List Nat), fitL u y = true → u.length ≤ y.length
  | [], y, _ => Nat.zero_le _
  | _ :: u, [], h => by cases h
  | t :: u, c :: y, h => by
    have h : (t.hit c && fitL u y) = true := h
    rw [Bool.and_eq_true] at h
    exact Nat.succ_le_succ (fitL_len u y h.2)
theorem fitF_eq : ∀ (ts : List Tk) (x : List Nat) (p : Nat), fitF (ts.map Tk.one) x p = fitL ts (x.drop p)
  | [], x, p => by cases x.drop p <;> rfl
  | t :: r, x, p => by
    rw [List.map_cons, fitF_cons]
    unfold at1
    cases e : x.drop p with
    | nil => rfl
    | cons c y =>
      have e2 : x.drop (p + 1) = y := by rw [← List.drop_drop, e]; rfl
      rw [fitF_eq r x (p + 1), e2]
      show (if ([c] : List Nat) = [] then false else if okOne t.one [c] then fitL r y else false) = (t.hit c && fitL r y)
      rw [if_neg (List.cons_ne_nil _ _), hit_eq]
      cases t.hit c <;> rfl
noncomputable def findL (ts : List Tk) : List Nat → Option (List Nat)
  | [] => if fitL ts [] then some [] else none
  | c :: y => if fitL ts (c :: y) then some ((c :: y).drop ts.length) else findL ts y
theorem findL_suf (ts : List Tk) : ∀ (y z : List Nat), findL ts y = some z → z <:+ y
  | [], z, h => by
    unfold findL at h
    split at h
    · cases h; exact List.suffix_refl _
    · cases h
  | c :: y, z, h => by
    unfold findL at h
    split at h
    · cases h; exact List.drop_suffix _ _
    · exact (findL_suf ts y z h).trans (List.suffix_cons c y)
/-- where a rest of x begins -/
noncomputable def posL (x y : List Nat) : Nat := x.length - y.length
theorem posL_drop {x y : List Nat} (h : y <:+ x) : x.drop (posL x y) = y := by
  obtain ⟨p, rfl⟩ := h
  unfold posL
  rw [List.length_append, Nat.add_sub_cancel, List.drop_left]
theorem findF_eq (ts : List Tk) (x : List Nat) : ∀ (y : List Nat) (f : Nat), y <:+ x → y.length < f → findF (ts.map Tk.one) x f (posL x y) = (findL ts y).map (posL x)
  | y, 0, _, h => absurd h (Nat.not_lt_zero _)
  | y, f + 1, hs, hf => by
    have hl := hs.length_le
    show (if posL x y + (ts.map Tk.one).length ≤ x.length then _ else _) = _
    rw [List.length_map, fitF_eq, posL_drop hs]
    by_cases hc : fitL ts y = true
    · have h1 := fitL_len _ _ hc
      rw [if_pos (by unfold posL; lia), if_pos hc]
      have : findL ts y = some (y.drop ts.length) := by
        cases y with
        | nil =>
          unfold findL; rw [if_pos hc]; simp
        | cons c y => unfold findL; rw [if_pos hc]
      rw [this]
      show some _ = some _
      congr 1
      unfold posL
      rw [List.length_drop]; lia
    · by_cases hp : posL x y + ts.length ≤ x.length
      · rw [if_pos hp, if_neg hc]
        cases y with
        | nil =>
          have : ts = [] := by
            have hz : posL x [] = x.length := Nat.sub_zero _
            rw [hz] at hp
            exact List.eq_nil_of_length_eq_zero (by lia)
          rw [this] at hc; exact absurd rfl hc
        | cons c y =>
          have e : posL x (c :: y) + 1 = posL x y := by unfold posL; rw [List.length_cons] at hl ⊢; lia
          rw [e, findF_eq ts x y f ((List.suffix_cons c y).trans hs) (by rw [List.length_cons] at hf; lia)]
          show _ = Option.map _ (if fitL ts (c :: y) then _ else findL ts y)
          rw [if_neg hc]
      · rw [if_neg hp]
        have hlt : y.length < ts.length := by unfold posL at hp; lia
        have none : ∀ z : List Nat, z.length < ts.length → findL ts z = none := by
          intro z
          induction z with
          | nil => intro hz; unfold findL; rw [if_neg (fun h => absurd (fitL_len _ _ h) (by lia))]
          | cons c z ih => intro hz; unfold findL; rw [if_neg (fun h => absurd (fitL_len _ _ h) (by lia))]; exact ih (by rw [List.length_cons] at hz; lia)
        rw [none y hlt]; rfl
noncomputable def atO (x : List Nat) : Option (List Nat) → List Nat
  | none => []
  | some y => [posL x y]
noncomputable def sufO (x : List Nat) (o : Option (List Nat)) : Prop := ∀ y, o = some y → y <:+ x
theorem step_held (ts : List Tk) (x : List Nat) (o : Option (List Nat)) (h : sufO x o) : stepE x (atO x o) (1, ts.map Tk.one) = atO x (o.bind (findL ts)) ∧ sufO x (o.bind (findL ts)) := by
  cases o with
  | none => exact ⟨rfl, fun y e => by cases e⟩
  | some y =>
    have hs := h y rfl
    have hl := hs.length_le
    refine ⟨?_, fun z e => (findL_suf ts y z e).trans hs⟩
    show (if (1 : Int) = 0 then _ else if (1 : Int) = 1 then _ else _) = _
    rw [if_neg (by decide), if_pos rfl]
    show ([posL x y].filterMap fun p => findF (ts.map Tk.one) x (x.length + 1 - p) p) = _
    rw [List.filterMap_cons, findF_eq ts x y _ hs (by unfold posL; lia)]
    show _ = atO x (findL ts y)
    cases findL ts y <;> rfl
noncomputable def fitO (ts : List Tk) (y : List Nat) : Option (List Nat) := if fitL ts y then some (y.drop ts.length) else none
theorem step_here (ts : List Tk) (x : List Nat) (o : Option (List Nat)) (h : sufO x o) : stepE x (atO x o) (0, ts.map Tk.one) = atO x (o.bind (fitO ts)) ∧ sufO x (o.bind (fitO ts)) := by
  cases o with
  | none => exact ⟨rfl, fun y e => by cases e⟩
  | some y =>
    have hs := h y rfl
    have hl := hs.length_le
    refine ⟨?_, fun z e => ?_⟩
    · show (if (0 : Int) = 0 then _ else _) = _
      rw [if_pos rfl]
      show ([posL x y].filterMap fun p => if fitF (ts.map Tk.one) x p then some (p + (ts.map Tk.one).length) else none) = atO x (fitO ts y)
      rw [List.filterMap_cons, fitF_eq, posL_drop hs, List.length_map]
      unfold fitO
      by_cases hc : fitL ts y = true
      · have h1 := fitL_len _ _ hc
        rw [if_pos hc, if_pos hc]
        show [_] = [_]
        congr 1
        unfold posL
        rw [List.length_drop]; lia
      · rw [if_neg hc, if_neg hc]; rfl
    · have e : fitO ts y = some z := e
      unfold fitO at e
      split at e
      · cases e; exact (List.drop_suffix _ _).trans hs
      · cases e
noncomputable def endsL (ts : List Tk) (y : List Nat) : Bool := decide (ts.length ≤ y.length) && fitL ts (y.drop (y.length - ts.length))
noncomputable def endO (ts : List Tk) : Option (List Nat) → Bool
  | none => false
  | some y => endsL ts y
theorem minI_one (p : Nat) : minI [p] = (p : Int) := by
  unfold minI
  rfl
theorem step_any (ts : List Tk) (x : List Nat) (o : Option (List Nat)) (h : sufO x o) : ((stepE x (atO x o) (2, ts.map Tk.one)).any (· == x.length)) = endO ts o := by
  cases o with
  | none => rfl
  | some y =>
    have hs := h y rfl
    have hl := hs.length_le
    show (List.any (if (2 : Int) = 0 then _ else if (2 : Int) = 1 then _ else if [posL x y] = [] then _ else _) _) = endsL ts y
    rw [if_neg (by decide), if_neg (by decide), if_neg (List.cons_ne_nil _ _), show minI (atO x (some y)) = (posL x y : Int) from minI_one _]
    dsimp only
    rw [List.length_map]
    have hn : ((x.length : Int) - ts.length + 1 - (posL x y : Nat)).toNat = y.length + 1 - ts.length := by unfold posL; lia
    rw [hn, Int.toNat_natCast]
    unfold endsL
    rw [Bool.eq_iff_iff, List.any_eq_true]
    constructor
    · rintro ⟨q, hq, e⟩
      obtain ⟨i, hi, hif⟩ := List.mem_filterMap.mp hq
      rw [List.mem_range] at hi
      by_cases hc : fitF (ts.map Tk.one) x (posL x y + i) = true
      · rw [if_pos hc] at hif
        cases hif
        rw [beq_iff_eq] at e
        have hi2 : i = y.length - ts.length := by unfold posL at e; lia
        have hle : ts.length ≤ y.length := by unfold posL at e; lia
        rw [fitF_eq, ← List.drop_drop, posL_drop hs, hi2] at hc
        rw [Bool.and_eq_true, decide_eq_true_iff]
        exact ⟨hle, hc⟩
      · rw [if_neg hc] at hif; cases hif
    · intro hh
      rw [Bool.and_eq_true, decide_eq_true_iff] at hh
      refine ⟨x.length, List.mem_filterMap.mpr ⟨y.length - ts.length, List.mem_range.mpr (by lia), ?_⟩, beq_self_eq_true _⟩
      rw [fitF_eq, ← List.drop_drop, posL_drop hs, if_pos hh.2]
      congr 1
      unfold posL; lia
noncomputable def heldP (ws : List (List Tk)) : List Pc := (ws.map fun w => [((1 : Int), w.map Tk.one), ((0 : Int), ([] : List One))]).flatten
noncomputable def evalH : List (List Tk) → List Nat → Option (List Nat)
  | [], y => some y
  | w :: r, y => (findL w y).bind (evalH r)
theorem fold_held (x : List Nat) : ∀ (ws : List (List Tk)) (o : Option (List Nat)), sufO x o → (heldP ws).foldl (stepE x) (atO x o) = atO x (o.bind (evalH ws)) ∧ sufO x (o.bind (evalH ws))
  | [], o, h => by
    have : o.bind (evalH []) = o := by cases o <;> rfl
    rw [this]; exact ⟨rfl, h⟩
  | w :: r, o, h => by
    have h1 := step_held w x o h
    have h2 := step_here [] x _ h1.2
    have e0 : (o.bind (findL w)).bind (fitO []) = o.bind (findL w) := by
      cases o.bind (findL w) <;> rfl
    rw [e0] at h2
    have h3 := fold_held x r _ h1.2
    have e1 : o.bind (evalH (w :: r)) = (o.bind (findL w)).bind (evalH r) := by cases o <;> rfl
    rw [e1]
    refine ⟨?_, h3.2⟩
    show (heldP r).foldl (stepE x) (stepE x (stepE x (atO x o) (1, w.map Tk.one)) (0, ([] : List Tk).map Tk.one)) = _
    rw [h1.1, h2.1]
    exact h3.1
theorem took_star (w0 : List Tk) (ws : List (List Tk)) (wk : List Tk) (x : List Nat) : tookF (((0 : Int), w0.map Tk.one) :: (heldP ws ++ [((2 : Int), wk.map Tk.one)])) x = (fitL w0 x && endO wk (evalH ws (x.drop w0.length))) := by
  unfold tookF endsF
  rw [List.foldl_cons, List.foldl_append]
  have hx : sufO x (some x) := fun y e => by cases e; exact List.suffix_refl _
  have h0 := step_here w0 x (some x) hx
  have e0 : ([0] : List Nat) = atO x (some x) := by show _ = [posL x x]; unfold posL; rw [Nat.sub_self]
  rw [e0, h0.1]
  have h1 := fold_held x ws _ h0.2
  rw [h1.1, List.foldl_cons, List.foldl_nil, step_any wk x _ h1.2]
  show endO wk ((fitO w0 x).bind (evalH ws)) = _
  unfold fitO
  by_cases hc : fitL w0 x = true
  · rw [if_pos hc, hc]; rfl
  · rw [if_neg hc]; rw [Bool.not_eq_true] at hc; rw [hc]; rfl
theorem took_exact (w0 : List Tk) (x : List Nat) : tookF [((0 : Int), w0.map Tk.one)] x = (fitL w0 x && w0.length == x.length) := by
  unfold tookF endsF
  have hx : sufO x (some x) := fun y e => by cases e; exact List.suffix_refl _
  have h0 := step_here w0 x (some x) hx
  have e0 : ([0] : List Nat) = atO x (some x) := by show _ = [posL x x]; unfold posL; rw [Nat.sub_self]
  rw [List.foldl_cons, List.foldl_nil, e0, h0.1]
  show (atO x (fitO w0 x)).any _ = _
  unfold fitO
  by_cases hc : fitL w0 x = true
  · have hl := fitL_len _ _ hc
    rw [if_pos hc, hc]
    show (posL x (x.drop w0.length) == x.length || false) = _
    rw [Bool.or_false, Bool.true_and]
    unfold posL
    rw [List.length_drop, Bool.eq_iff_iff, beq_iff_eq, beq_iff_eq]; lia
  · rw [if_neg hc]; rw [Bool.not_eq_true] at hc; rw [hc]; rfl
/-! what a pattern's pieces are -/
theorem run_first : ∀ (w : List Tk) (k : Int) (o : List One) (t : List RT), runR (w.map RT.itm ++ t) (k, o) [] = runR t (k, o ++ w.map Tk.one) []
  | [], k, o, t => by rw [List.map_nil, List.map_nil, List.append_nil]; rfl
  | a :: w, k, o, t => by
    show runR (w.map RT.itm ++ t) (k, o ++ [a.one]) [] = _
    rw [run_first w k _ t, List.append_assoc]; rfl
theorem addOne_last (o : One) : ∀ (r : List Pc) (p q : Pc), addOne o p (r ++ [q]) = (p, r ++ [(q.1, q.2 ++ [o])])
  | [], p, q => rfl
  | a :: r, p, q => by
    show (p, (addOne o a (r ++ [q])).1 :: (addOne o a (r ++ [q])).2) = _
    rw [addOne_last o r a q]; rfl
theorem run_last : ∀ (w : List Tk) (p : Pc) (r : List Pc) (k : Int) (o : List One) (t : List RT), runR (w.map RT.itm ++ t) p (r ++ [(k, o)]) = runR t p (r ++ [(k, o ++ w.map Tk.one)])
  | [], p, r, k, o, t => by rw [List.map_nil, List.map_nil, List.append_nil]; rfl
  | a :: w, p, r, k, o, t => by
    show runR (w.map RT.itm ++ t) (addOne a.one p (r ++ [(k, o)])).1 (addOne a.one p (r ++ [(k, o)])).2 = _
    rw [addOne_last]
    dsimp only
    rw [run_last w p r k _ t, List.append_assoc]; rfl
noncomputable def starP (ws : List (List Tk)) (wk : List Tk) : List Part := (ws.map fun w => w.map some ++ [none]).flatten ++ wk.map some
noncomputable def starT (ws : List (List Tk)) (wk : List Tk) : List RT := (ws.map fun w => RT.opn :: (w.map RT.itm ++ [RT.cls])).flatten ++ RT.any :: wk.map RT.itm
theorem run_star (wk : List Tk) : ∀ (ws : List (List Tk)) (p : Pc) (r : List Pc), runR (starT ws wk) p r = p :: (r ++ (heldP ws ++ [((2 : Int), wk.map Tk.one)]))
  | [], p, r => by
    show runR (wk.map RT.itm) p (r ++ [(2, [])]) = _
    have := run_last wk p r 2 [] []
    rw [List.append_nil] at this
    rw [this]; rfl
  | w :: ws, p, r => by
    have : starT (w :: ws) wk = RT.opn :: (w.map RT.itm ++ (RT.cls :: starT ws wk)) := by
      unfold starT
      rw [List.map_cons, List.flatten_cons]; simp
    rw [this]
    show runR (w.map RT.itm ++ (RT.cls :: starT ws wk)) p (r ++ [(1, [])]) = _
    rw [run_last]
    show runR (starT ws wk) p (r ++ [(1, [] ++ w.map Tk.one)] ++ [(0, [])]) = _
    rw [run_star wk ws]
    unfold heldP
    rw [List.map_cons, List.flatten_cons]
    simp
theorem go_star (wk : List Tk) : ∀ ws : List (List Tk), starR (starP ws wk) (goR true (starP ws wk)) (goR false (starP ws wk)) = starT ws wk
  | [] => by
    show starR (wk.map some) _ (goR false (wk.map some)) = RT.any :: wk.map RT.itm
    have e : goR false (wk.map some) = wk.map RT.itm := by
      have := goR_lead false wk []
      rw [List.append_nil] at this
      rw [this]; simp [goR]
    unfold starR
    cases wk with
    | nil => rfl
    | cons a r =>
      rw [if_neg (by simp), if_neg (by simp), e]
  | w :: ws => by
    have e : starP (w :: ws) wk = w.map some ++ (none :: starP ws wk) := by
      unfold starP
      rw [List.map_cons, List.flatten_cons]; simp
    rw [e, goR_lead true]
    unfold starR
    rw [if_neg (by simp), if_pos (by simp)]
    show RT.opn :: (w.map RT.itm ++ RT.cls :: starR (starP ws wk) (goR true (starP ws wk)) (goR false (starP ws wk))) = _
    rw [go_star wk ws]
    unfold starT
    rw [List.map_cons, List.flatten_cons]; simp
theorem col_lead : ∀ (w : List Tk) (b : Bool) (r : List Part), w ≠ [] ∨ b = false → colP b (w.map some ++ r) = w.map some ++ colP false r
  | [], b, r, h => by
    rcases h with h | rfl
    · exact absurd rfl h
    · rfl
  | a :: w, b, r, _ => by
    show some a :: colP false (w.map some ++ r) = _
    rw [col_lead w false r (.inr rfl)]; rfl
theorem col_star (wk : List Tk) : ∀ (ws : List (List Tk)), (∀ w ∈ ws, w ≠ []) → colP true (starP ws wk) = starP ws wk
  | [], _ => by
    show colP true (wk.map some) = wk.map some
    cases wk with
    | nil => rfl
    | cons a r =>
      have := col_lead (a :: r) true [] (.inl (List.cons_ne_nil _ _))
      rw [List.append_nil] at this
      rw [this, show colP false [] = [] from rfl, List.append_nil]
  | w :: ws, h => by
    have e : starP (w :: ws) wk = w.map some ++ (none :: starP ws wk) := by
      unfold starP
      rw [List.map_cons, List.flatten_cons]; simp
    rw [e, col_lead w true _ (.inl (h w List.mem_cons_self))]
    show w.map some ++ none :: colP true (starP ws wk) = _
    rw [col_star wk ws fun v hv => h v (List.mem_cons_of_mem _ hv)]
theorem rts_star (w0 : List Tk) (ws : List (List Tk)) (wk : List Tk) (h : ∀ w ∈ ws, w ≠ []) : rtsOf (w0.map some ++ none :: starP ws wk) = w0.map RT.itm ++ starT ws wk := by
  unfold rtsOf
  rw [col_lead w0 false _ (.inr rfl)]
  show goR false (w0.map some ++ none :: colP true (starP ws wk)) = _
  rw [col_star wk ws h, goR_lead false]
  show w0.map RT.itm ++ starR (starP ws wk) (goR true (starP ws wk)) (goR false (starP ws wk)) = _
  rw [go_star]
theorem takes_star (w0 : List Tk) (ws : List (List Tk)) (wk : List Tk) (x : List Nat) (h : ∀ w ∈ ws, w ≠ []) : takesF (w0.map some ++ none :: starP ws wk) x = (fitL w0 x && endO wk (evalH ws (x.drop w0.length))) := by
  unfold takesF piecesOf
  rw [rts_star w0 ws wk h, run_first, run_star, List.nil_append, List.nil_append]
  exact took_star w0 ws wk x
theorem rts_exact (w0 : List Tk) : rtsOf (w0.map some) = w0.map RT.itm := by
  unfold rtsOf
  have e := col_lead w0 false [] (.inr rfl)
  rw [List.append_nil] at e
  rw [e, show colP false [] = [] from rfl, goR_lead false]
  simp [goR]
theorem takes_exact (w0 : List Tk) (x : List Nat) : takesF (w0.map some) x = (fitL w0 x && w0.length == x.length) := by
  unfold takesF piecesOf
  rw [rts_exact]
  have := run_first w0 0 [] []
  rw [List.append_nil] at this
  rw [this]
  exact took_exact w0 x
end
section
open PySem PySem.W PyProof.Rows
set_option maxRecDepth 100000
set_option maxHeartbeats 1000000
set_option linter.unusedVariables false
open PySem.Calls
variable {G : GX} {n : Nat} {μ : List (List D)} {K : D → Prop}
noncomputable def isD (d : Nat) : Prop := 48 ≤ d ∧ d ≤ 57
structure BOk (b : Tk) : Prop where
  sp : b.hit 32 = true
  dg : ∀ d, isD d → b.hit d = false
  co : b.hit 44 = false
  le : ∀ d, 97 ≤ d → b.hit d = false
structure COk (c : Tk) : Prop where
  co : c.hit 44 = true
  dg : ∀ d, isD d → c.hit d = false
noncomputable def blankT : Nat → Tk
  | 0 => .chr 32
  | 1 => .br 0
  | _ => .br 1
noncomputable def commaT : Nat → Tk
  | 0 => .chr 44
  | 1 => .br 2
  | _ => .br 3
theorem beqf {x c : Nat} (h : x ≠ c) : (x == c) = false := beq_eq_false_iff_ne.mpr h
theorem andf {a b x : Nat} (h : ¬ (a ≤ x ∧ x ≤ b)) : (Nat.ble a x && Nat.ble x b) = false := by
  rw [Bool.eq_false_iff, ne_eq, Bool.and_eq_true, Nat.ble_eq, Nat.ble_eq]; exact h
theorem blank_ok (i : Nat) : BOk (blankT i) := by
  unfold blankT
  split <;> refine ⟨by decide, fun d h => ?_, by decide, fun d h => ?_⟩ <;> unfold Tk.hit <;> unfold isD at * <;> first | exact beqf (by lia) | exact andf (by lia)
theorem notf {a b x : Nat} (h : a ≤ x ∧ x ≤ b) : (!(Nat.ble a x && Nat.ble x b)) = false := by
  rw [Nat.ble_eq_true_of_le h.1, Nat.ble_eq_true_of_le h.2]; rfl
theorem comma_ok (i : Nat) : COk (commaT i) := by
  unfold commaT
  split <;> refine ⟨by decide, fun d h => ?_⟩ <;> unfold Tk.hit <;> unfold isD at * <;> first | exact beqf (by lia) | exact notf (by lia)
noncomputable def wordT (b c : Tk) (k : Int) : List Tk := b :: ((strI k).map Tk.chr ++ [c])
noncomputable def Dg (u : List Nat) : Prop := u ≠ [] ∧ ∀ d ∈ u, isD d
/-- a number whose text the proof knows -/
noncomputable def NumOk (k : Int) : Prop := 0 ≤ k ∧ k ≤ 11
theorem num_cases {k : Int} (h : NumOk k) : ∃ i : Nat, i < 12 ∧ k = (i : Int) := ⟨k.toNat, by unfold NumOk at h; lia, by unfold NumOk at h; lia⟩
theorem str_tab : ∀ i : Nat, i < 12 → (strI (i : Int)) = (if i < 10 then [48 + i] else [49, 38 + i]) := by decide +kernel
theorem str_dg {k : Int} (h : NumOk k) : Dg (strI k) := by
  obtain ⟨i, hi, rfl⟩ := num_cases h
  rw [str_tab i hi]
  split
  · exact ⟨List.cons_ne_nil _ _, fun d hd => by rw [List.mem_singleton.mp hd]; unfold isD; lia⟩
  · refine ⟨List.cons_ne_nil _ _, fun d hd => ?_⟩
    rcases List.mem_cons.mp hd with rfl | hd
    · unfold isD; lia
    · rw [List.mem_singleton.mp hd]; unfold isD; lia
theorem str_len {k : Int} (h : NumOk k) : (strI k).length ≤ 2 := by
  obtain ⟨i, hi, rfl⟩ := num_cases h
  rw [str_tab i hi]
  split <;> simp
theorem str_inj {k j : Int} (h : NumOk k) (h' : NumOk j) (e : strI k = strI j) : k = j := by
  obtain ⟨i, hi, rfl⟩ := num_cases h
  obtain ⟨l, hl, rfl⟩ := num_cases h'
  rw [str_tab i hi, str_tab l hl] at e
  split at e <;> split at e <;> simp at e <;> lia
theorem str_head {k : Int} (h : NumOk k) (h1 : 1 ≤ k) : ∃ d r, strI k = d :: r ∧ 49 ≤ d ∧ d ≤ 57 := by
  obtain ⟨i, hi, rfl⟩ := num_cases h
  rw [str_tab i hi]
  split
  · exact ⟨_, _, rfl, by lia, by lia⟩
  · exact ⟨_, _, rfl, by lia, by lia⟩
theorem fit_num {c : Tk} (hc : COk c) : ∀ (u v rest : List Nat), (∀ d ∈ u, isD d) → (∀ d ∈ v, isD d) → fitL (u.map Tk.chr ++ [c]) (v ++ 44 :: rest) = (u == v)
  | [], [], rest, _, _ => by show (c.hit 44 && true) = _; rw [hc.co]; rfl
  | [], d :: v, rest, _, h => by show (c.hit d && _) = _; rw [hc.dg d (h d List.mem_cons_self)]; rfl
  | a :: u, [], rest, h, _ => by
    have := h a List.mem_cons_self
    show ((44 == a) && _) = _
    have e : ((44 : Nat) == a) = false := by rw [beq_eq_false_iff_ne]; unfold isD at this; lia
    rw [e]; rfl
  | a :: u, d :: v, rest, hu, hv => by
    show ((d == a) && fitL (u.map Tk.chr ++ [c]) (v ++ 44 :: rest)) = (a == d && u == v)
    rw [fit_num hc u v rest (fun x hx => hu x (List.mem_cons_of_mem _ hx)) (fun x hx => hv x (List.mem_cons_of_mem _ hx))]
    congr 1
    exact Bool.eq_iff_iff.mpr (by rw [beq_iff_eq, beq_iff_eq]; exact eq_comm)
theorem skip1 {b : Tk} {w : List Tk} {c : Nat} {y : List Nat} (h : b.hit c = false) : findL (b :: w) (c :: y) = findL (b :: w) y := by
  show (if (b.hit c && fitL w y) = true then _ else findL (b :: w) y) = _
  rw [h]; rfl
theorem skip2 {b : Tk} {w : List Tk} {c d e : Nat} {y : List Nat} (h : (e == d) = false) : findL (b :: .chr d :: w) (c :: e :: y) = findL (b :: .chr d :: w) (e :: y) := by
  show (if (b.hit c && ((e == d) && fitL w y)) = true then _ else findL _ _) = _
  rw [h, Bool.false_and, Bool.and_false]; rfl
theorem skip_num {b : Tk} {w : List Tk} (hb : BOk b) : ∀ (v rest : List Nat), (∀ d ∈ v, isD d) → findL (b :: w) (v ++ 44 :: rest) = findL (b :: w) rest
  | [], rest, _ => skip1 hb.co
  | d :: v, rest, h => (skip1 (hb.dg d (h d List.mem_cons_self))).trans (skip_num hb v rest fun x hx => h x (List.mem_cons_of_mem _ hx))
noncomputable def chunk (k : Int) : List Nat := 32 :: (strI k ++ [44])
noncomputable def chunks (ks : List Int) : List Nat := (ks.map chunk).flatten
theorem find_chunk {b c : Tk} (hb : BOk b) (hc : COk c) {k j : Int} (hk : NumOk k) (hj : NumOk j) (rest : List Nat) : findL (wordT b c k) (chunk j ++ rest) = if j = k then some rest else findL (wordT b c k) rest := by
  have e : chunk j ++ rest = 32 :: (strI j ++ 44 :: rest) := by unfold chunk; simp
  rw [e]
  show (if (b.hit 32 && fitL ((strI k).map Tk.chr ++ [c]) (strI j ++ 44 :: rest)) = true then some ((32 :: (strI j ++ 44 :: rest)).drop (wordT b c k).length) else findL (wordT b c k) (strI j ++ 44 :: rest)) = _
  rw [hb.sp, Bool.true_and, fit_num hc _ _ _ (str_dg hk).2 (str_dg hj).2]
  by_cases h : j = k
  · subst h
    rw [if_pos (beq_self_eq_true _), if_pos rfl]
    have hl : (wordT b c j).length = ((32 : Nat) :: (strI j ++ [44])).length := by unfold wordT; simp
    rw [hl, show (32 :: (strI j ++ 44 :: rest)) = (32 :: (strI j ++ [44])) ++ rest by simp, List.drop_left]
  · rw [if_neg (fun hh => h (str_inj hj hk (beq_iff_eq.mp hh).symm)), if_neg h]
    exact skip_num hb _ _ (str_dg hj).2
/-- what is left behind the first of a list -/
noncomputable def after (k : Int) : List Int → Option (List Int)
  | [] => none
  | a :: r => if a = k then some r else after k r
theorem find_chunks {b c : Tk} (hb : BOk b) (hc : COk c) {k : Int} (hk : NumOk k) : ∀ (t : List Int), (∀ j ∈ t, NumOk j) → findL (wordT b c k) (chunks t) = (after k t).map chunks
  | [], _ => rfl
  | a :: r, h => by
    have e : chunks (a :: r) = chunk a ++ chunks r := by unfold chunks; rw [List.map_cons, List.flatten_cons]
    rw [e, find_chunk hb hc hk (h a List.mem_cons_self), find_chunks hb hc hk r fun j hj => h j (List.mem_cons_of_mem _ hj)]
    show _ = Option.map chunks (if a = k then some r else after k r)
    split <;> rfl
noncomputable def afterAll : List Int → List Int → Option (List Int)
  | [], t => some t
  | k :: r, t => (after k t).bind (afterAll r)
theorem after_mem {k : Int} : ∀ {t r : List Int}, after k t = some r → ∀ j ∈ r, j ∈ t
  | [], r, h, _, _ => by cases h
  | a :: t, r, h, j, hj => by
    have h : (if a = k then some t else after k t) = some r := h
    split at h
    · cases h; exact List.mem_cons_of_mem _ hj
    · exact List.mem_cons_of_mem _ (after_mem h j hj)
theorem eval_chunks {b c : Tk} (hb : BOk b) (hc : COk c) : ∀ (ks t : List Int), (∀ k ∈ ks, NumOk k) → (∀ j ∈ t, NumOk j) → evalH (ks.map (wordT b c)) (chunks t) = (afterAll ks t).map chunks
  | [], t, _, _ => rfl
  | k :: r, t, hk, ht => by
    show (findL (wordT b c k) (chunks t)).bind (evalH (r.map (wordT b c))) = ((after k t).bind (afterAll r)).map chunks
    rw [find_chunks hb hc (hk k List.mem_cons_self) t ht]
    cases e : after k t with
    | none => rfl
    | some z => exact eval_chunks hb hc r z (fun j hj => hk j (List.mem_cons_of_mem _ hj)) fun j hj => ht j (after_mem e j hj)
theorem after_isSome (k : Int) : ∀ t : List Int, (after k t).isSome = t.contains k
  | [] => rfl
  | a :: r => by
    show Option.isSome (if a = k then some r else after k r) = _
    rw [List.contains_cons]
    by_cases h : a = k
    · rw [if_pos h, h, beq_self_eq_true]; rfl
    · rw [if_neg h, after_isSome k r, show (k == a) = false from beq_eq_false_iff_ne.mpr (Ne.symm h), Bool.false_or]
theorem all_rising : ∀ t : List Int, afterAll t t = some []
  | [] => rfl
  | a :: r => by
    show (Option.bind (if a = a then some r else after a r) (afterAll r)) = _
    rw [if_pos rfl]; exact all_rising r
theorem after_last {a : Int} : ∀ {r : List Int}, a ∉ r → after a (r ++ [a]) = some []
  | [], _ => by show (if a = a then some [] else _) = _; rw [if_pos rfl]
  | b :: r, h => by
    show (if b = a then _ else after a (r ++ [a])) = _
    rw [if_neg (fun e : b = a => h (by rw [e]; exact List.mem_cons_self ..)), after_last fun hm => h (List.mem_cons_of_mem _ hm)]
theorem all_falling {t : List Int} (hn : t.Nodup) : (afterAll t.reverse t).isSome = decide (t.length < 2) := by
  rcases List.eq_nil_or_concat t with rfl | ⟨r, a, rfl⟩
  · rfl
  · rw [List.concat_eq_append] at *
    have hna : a ∉ r := fun h => by
      have := (List.nodup_append.mp hn).2.2 a h a (List.mem_singleton.mpr rfl)
      exact this rfl
    rw [List.reverse_append]
    show ((after a (r ++ [a])).bind (afterAll r.reverse)).isSome = _
    rw [after_last hna]
    show (afterAll r.reverse []).isSome = _
    rw [List.length_append, List.length_singleton]
    rcases List.eq_nil_or_concat r with rfl | ⟨q, b, rfl⟩
    · rfl
    · rw [List.concat_eq_append, List.reverse_append, List.length_append, List.length_singleton, show decide (q.length + 1 + 1 < 2) = false from decide_eq_false (by lia)]
      rfl
/-! the message -/
noncomputable def tabS : List Nat := [97, 116, 32, 116, 97, 98, 32, 115, 105, 122, 101]
noncomputable def pluS (n : Nat) : List Nat := if 1 < n then [115] else []
theorem fmt_eq (t : List Int) : fmtF t = tabS ++ (pluS t.length ++ 32 :: joinL [44, 32] (t.map strI)) := by
  unfold fmtF tabS pluS
  simp
theorem join_chunks : ∀ (t : List Int), t ≠ [] → 32 :: (joinL [44, 32] (t.map strI) ++ [44]) = chunks t
  | [], h => absurd rfl h
  | a :: r, _ => by
    have aux : ∀ r : List Int, ((r.map strI).map fun y => [44, 32] ++ y).flatten ++ [44] = 44 :: chunks r := by
      intro r
      induction r with
      | nil => rfl
      | cons b r ih =>
        rw [List.map_cons, List.map_cons, List.flatten_cons, List.append_assoc, ih]
        unfold chunks chunk
        rw [List.map_cons, List.flatten_cons]
        simp
    show 32 :: ((strI a ++ ((r.map strI).map fun y => [44, 32] ++ y).flatten) ++ [44]) = _
    rw [List.append_assoc, aux]
    unfold chunks chunk
    rw [List.map_cons, List.flatten_cons]
    simp
theorem find_msg {b c : Tk} (hb : BOk b) {k : Int} (hk : NumOk k) (n : Nat) (y : List Nat) : findL (wordT b c k) (tabS ++ (pluS n ++ 32 :: y)) = findL (wordT b c k) (32 :: y) := by
  obtain ⟨hne, hd⟩ := str_dg hk
  cases e : strI k with
  | nil => exact absurd e hne
  | cons d u =>
    have hdd := hd d (by rw [e]; exact List.mem_cons_self)
    have hw : wordT b c k = b :: .chr d :: (u.map Tk.chr ++ [c]) := by unfold wordT; rw [e]; rfl
    rw [hw]
    have n1 : ((116 : Nat) == d) = false := by rw [beq_eq_false_iff_ne]; unfold isD at hdd; lia
    have n2 : ((115 : Nat) == d) = false := by rw [beq_eq_false_iff_ne]; unfold isD at hdd; lia
    have l : ∀ {x : Nat} {z : List Nat}, 97 ≤ x → findL (b :: .chr d :: (u.map Tk.chr ++ [c])) (x :: z) = findL (b :: .chr d :: (u.map Tk.chr ++ [c])) z := fun hx => skip1 (hb.le _ hx)
    unfold tabS
    show findL _ (97 :: 116 :: 32 :: 116 :: 97 :: 98 :: 32 :: 115 :: 105 :: 122 :: 101 :: (pluS n ++ 32 :: y)) = _
    rw [l (by decide), l (by decide), skip2 n1, l (by decide), l (by decide), l (by decide), skip2 n2, l (by decide), l (by decide), l (by decide), l (by decide)]
    unfold pluS
    split
    · exact l (by decide)
    · rfl
theorem find_fmt {b c : Tk} (hb : BOk b) (hc : COk c) {k : Int} (hk : NumOk k) {t : List Int} (ht : ∀ j ∈ t, NumOk j) : findL (wordT b c k) (fmtF t ++ [44]) = (after k t).map chunks := by
  have e : fmtF t ++ [44] = tabS ++ (pluS t.length ++ 32 :: (joinL [44, 32] (t.map strI) ++ [44])) := by rw [fmt_eq]; simp
  rw [e, find_msg hb hk]
  cases t with
  | nil =>
    show findL (wordT b c k) [32, 44] = none
    obtain ⟨hne, hd⟩ := str_dg hk
    cases e : strI k with
    | nil => exact absurd e hne
    | cons d u =>
      have hdd := hd d (by rw [e]; exact List.mem_cons_self)
      have hw : wordT b c k = b :: .chr d :: (u.map Tk.chr ++ [c]) := by unfold wordT; rw [e]; rfl
      rw [hw, skip2 (by rw [beq_eq_false_iff_ne]; unfold isD at hdd; lia), skip1 hb.co]
      rfl
  | cons a r => rw [join_chunks _ (List.cons_ne_nil _ _)]; exact find_chunks hb hc hk _ ht
theorem eval_fmt {b c : Tk} (hb : BOk b) (hc : COk c) {ks t : List Int} (hk : ∀ k ∈ ks, NumOk k) (ht : ∀ j ∈ t, NumOk j) (hne : ks ≠ []) : evalH (ks.map (wordT b c)) (fmtF t ++ [44]) = (afterAll ks t).map chunks := by
  cases ks with
  | nil => exact absurd rfl hne
  | cons k r =>
    show (findL (wordT b c k) (fmtF t ++ [44])).bind (evalH (r.map (wordT b c))) = ((after k t).bind (afterAll r)).map chunks
    rw [find_fmt hb hc (hk k List.mem_cons_self) ht]
    cases e : after k t with
    | none => rfl
    | some z => exact eval_chunks hb hc r z (fun j hj => hk j (List.mem_cons_of_mem _ hj)) fun j hj => ht j (after_mem e j hj)
theorem endO_nil (o : Option (List Nat)) : endO [] o = o.isSome := by cases o <;> rfl
/-! the seven readings -/
noncomputable def oneP (b c : Tk) (k : Int) : List Part := none :: starP [wordT b c k] []
noncomputable def manyP (b c : Tk) (ks : List Int) : List Part := none :: (if ks = [] then [none] else starP (ks.map (wordT b c)) [])
theorem word_ne (b c : Tk) (k : Int) : wordT b c k ≠ [] := List.cons_ne_nil _ _
theorem takes_many {b c : Tk} (hb : BOk b) (hc : COk c) {ks t : List Int} (hk : ∀ k ∈ ks, NumOk k) (ht : ∀ j ∈ t, NumOk j) : takesF (manyP b c ks) (fmtF t ++ [44]) = (afterAll ks t).isSome := by
  unfold manyP
  by_cases h : ks = []
  · rw [if_pos h, h]
    have : takesF [none, none] (fmtF t ++ [44]) = takesF (([] : List Tk).map some ++ none :: starP [] []) (fmtF t ++ [44]) := rfl
    rw [this, takes_star [] [] [] _ (fun w hw => absurd hw List.not_mem_nil)]
    rfl
  · rw [if_neg h]
    have := takes_star [] (ks.map (wordT b c)) [] (fmtF t ++ [44]) (fun w hw => by obtain ⟨k, _, rfl⟩ := List.mem_map.mp hw; exact word_ne b c k)
    rw [List.map_nil, List.nil_append] at this
    rw [this, List.length_nil, List.drop_zero, eval_fmt hb hc hk ht h, endO_nil]
    show (true && _) = _
    rw [Bool.true_and]
    cases afterAll ks t <;> rfl
theorem takes_one {b c : Tk} (hb : BOk b) (hc : COk c) {k : Int} {t : List Int} (hk : NumOk k) (ht : ∀ j ∈ t, NumOk j) : takesF (oneP b c k) (fmtF t ++ [44]) = t.contains k := by
  have := takes_many hb hc (ks := [k]) (fun j hj => by rw [List.mem_singleton.mp hj]; exact hk) ht
  unfold manyP at this
  rw [if_neg (List.cons_ne_nil _ _)] at this
  unfold oneP
  rw [← after_isSome]
  refine this.trans ?_
  show (Option.bind _ _).isSome = _
  cases after k t <;> rfl
theorem fit_self : ∀ (u : List Nat) (r : List Tk) (y : List Nat), fitL (u.map Tk.chr ++ r) (u ++ y) = fitL r y
  | [], r, y => rfl
  | a :: u, r, y => by
    show ((a == a) && fitL (u.map Tk.chr ++ r) (u ++ y)) = _
    rw [beq_self_eq_true, Bool.true_and, fit_self u r y]
theorem takes_self (u : List Nat) : takesF ((u.map Tk.chr).map some) u = true := by
  rw [takes_exact]
  have := fit_self u [] []
  rw [List.append_nil, List.append_nil] at this
  rw [this, List.length_map, beq_self_eq_true]; rfl
theorem join_len : ∀ (l : List (List Nat)), (∀ u ∈ l, u ≠ []) → (joinL [44, 32] l = [] ↔ l = [])
  | [], _ => ⟨fun _ => rfl, fun _ => rfl⟩
  | u :: r, h => by
    refine ⟨fun e => ?_, fun e => by cases e⟩
    have e : u ++ _ = [] := e
    exact absurd (List.append_eq_nil_iff.mp e).1 (h u List.mem_cons_self)
theorem takes_none {b : Tk} (hb : BOk b) {t : List Int} (ht : ∀ j ∈ t, NumOk j) : takesF ((tabS.map Tk.chr ++ [b]).map some) (fmtF t) = decide (t = []) := by
  rw [takes_exact, fmt_eq, fit_self]
  by_cases h1 : 1 < t.length
  · have e : pluS t.length = [115] := if_pos h1
    rw [e]
    show ((b.hit 115 && true) && _) = _
    rw [hb.le 115 (by decide), decide_eq_false (fun h => by rw [h] at h1; exact absurd h1 (by decide))]; rfl
  · have e : pluS t.length = [] := if_neg h1
    rw [e]
    show ((b.hit 32 && true) && _) = _
    rw [hb.sp, Bool.and_self, Bool.true_and]
    have hj := join_len (t.map strI) (fun u hu => by obtain ⟨k, hk, rfl⟩ := List.mem_map.mp hu; exact (str_dg (ht k hk)).1)
    rw [Bool.eq_iff_iff, beq_iff_eq, decide_eq_true_iff]
    simp only [List.length_append, List.length_map, List.length_cons, List.length_nil]
    constructor
    · intro hh
      have := hj.mp (List.eq_nil_of_length_eq_zero (by lia))
      exact List.map_eq_nil_iff.mp this
    · intro hh; rw [hh]; rfl
theorem takes_single {b : Tk} (hb : BOk b) {t : List Int} (ht : ∀ j ∈ t, NumOk j ∧ 1 ≤ j) : takesF ((tabS.map Tk.chr ++ [b, .br 4]).map some ++ [none]) (fmtF t) = decide (t.length = 1) := by
  have := takes_star (tabS.map Tk.chr ++ [b, .br 4]) [] [] (fmtF t) (fun w hw => absurd hw List.not_mem_nil)
  refine this.trans ?_
  rw [endO_nil, fmt_eq, fit_self]
  show (_ && true) = _
  rw [Bool.and_true]
  match t, ht with
  | [], _ => show (b.hit 32 && false) = _; rw [Bool.and_false]; rfl
  | [k], ht =>
    have hk := ht k List.mem_cons_self
    obtain ⟨d, r, e, h1, h2⟩ := str_head hk.1 hk.2
    show fitL [b, .br 4] (32 :: (strI k ++ [])) = _
    rw [e]
    show (b.hit 32 && ((Nat.ble 49 d && Nat.ble d 57) && true)) = _
    rw [hb.sp, Nat.ble_eq_true_of_le h1, Nat.ble_eq_true_of_le h2]; rfl
  | k :: j :: r, _ =>
    have e : pluS (k :: j :: r).length = [115] := if_pos (by simp)
    rw [e]
    show (b.hit 115 && _) = _
    rw [hb.le 115 (by decide), decide_eq_false (by simp)]; rfl
theorem find_comma {c : Tk} (hc : COk c) : ∀ (v rest : List Nat), (∀ d ∈ v, isD d) → findL [c] (v ++ 44 :: rest) = some rest
  | [], rest, _ => by
    show (if (c.hit 44 && true) = true then some rest else _) = _
    rw [hc.co]; rfl
  | d :: v, rest, h => (skip1 (hc.dg d (h d List.mem_cons_self))).trans (find_comma hc v rest fun x hx => h x (List.mem_cons_of_mem _ hx))
theorem ends_one (t : Tk) (y : List Nat) (d : Nat) : endsL [t] (y ++ [d]) = t.hit d := by
  unfold endsL
  rw [List.length_append, List.length_singleton, List.length_singleton, decide_eq_true (Nat.le_add_left 1 _), Nat.add_sub_cancel, List.drop_left]
  show (true && (t.hit d && true)) = _
  rw [Bool.and_true, Bool.true_and]
theorem join_last : ∀ (l : List (List Nat)), l ≠ [] → (∀ u ∈ l, Dg u) → ∃ y d, joinL [44, 32] l = y ++ [d] ∧ isD d := by
  have aux : ∀ (l : List (List Nat)) (z : List Nat), Dg z ∨ (∃ y d, z = y ++ [d] ∧ isD d) → (∀ u ∈ l, Dg u) → ∃ y d, z ++ (l.map fun y => [44, 32] ++ y).flatten = y ++ [d] ∧ isD d := by
    intro l
    induction l with
    | nil =>
      intro z hz _
      rcases hz with ⟨h1, h2⟩ | ⟨y, d, rfl, h⟩
      · rcases List.eq_nil_or_concat z with rfl | ⟨y, d, rfl⟩
        · exact absurd rfl h1
        · rw [List.concat_eq_append] at *
          exact ⟨y, d, by simp, h2 d (by simp)⟩
      · exact ⟨y, d, by simp, h⟩
    | cons u r ih =>
      intro z _ hl
      have hu := hl u List.mem_cons_self
      rw [List.map_cons, List.flatten_cons, ← List.append_assoc]
      refine ih _ (.inr ?_) fun v hv => hl v (List.mem_cons_of_mem _ hv)
      rcases List.eq_nil_or_concat u with rfl | ⟨y, d, rfl⟩
      · exact absurd rfl hu.1
      · rw [List.concat_eq_append] at *
        exact ⟨z ++ ([44, 32] ++ y), d, by simp, hu.2 d (by simp)⟩
  intro l hne hl
  cases l with
  | nil => exact absurd rfl hne
  | cons u r => exact aux r u (.inl (hl u List.mem_cons_self)) fun v hv => hl v (List.mem_cons_of_mem _ hv)
theorem takes_more {b c : Tk} (hb : BOk b) (hc : COk c) {t : List Int} (ht : ∀ j ∈ t, NumOk j ∧ 1 ≤ j) :
    takesF (((tabS ++ [115]).map Tk.chr ++ [b, .br 4]).map some ++ none :: starP [[c]] [.br 5]) (fmtF t) = decide (1 < t.length) := by
  rw [takes_star _ _ _ _ (fun w hw => by rw [List.mem_singleton.mp hw]; exact List.cons_ne_nil _ _), fmt_eq]
  by_cases h1 : 1 < t.length
  · match t, ht, h1 with
    | k :: j :: r, ht, h1 =>
      have hk := ht k List.mem_cons_self
      obtain ⟨d, u, e, h3, h4⟩ := str_head hk.1 hk.2
      have hu : ∀ x ∈ u, isD x := fun x hx => (str_dg hk.1).2 x (by rw [e]; exact List.mem_cons_of_mem _ hx)
      have e1 : pluS (k :: j :: r).length = [115] := if_pos h1
      have ej : joinL [44, 32] ((k :: j :: r).map strI) = (d :: u) ++ 44 :: 32 :: joinL [44, 32] ((j :: r).map strI) := by
        show strI k ++ _ = _
        rw [e]
        simp [joinL]
      rw [e1, ej]
      have eq : tabS ++ ([115] ++ 32 :: (d :: u ++ 44 :: 32 :: joinL [44, 32] ((j :: r).map strI))) = (tabS ++ [115]) ++ (32 :: d :: (u ++ 44 :: 32 :: joinL [44, 32] ((j :: r).map strI))) := by simp
      rw [eq, fit_self]
      have f1 : fitL [b, .br 4] (32 :: d :: (u ++ 44 :: 32 :: joinL [44, 32] ((j :: r).map strI))) = true := by
        show (b.hit 32 && ((Nat.ble 49 d && Nat.ble d 57) && true)) = _
        rw [hb.sp, Nat.ble_eq_true_of_le h3, Nat.ble_eq_true_of_le h4]; rfl
      have f2 : ((tabS ++ [115]) ++ (32 :: d :: (u ++ 44 :: 32 :: joinL [44, 32] ((j :: r).map strI)))).drop ((tabS ++ [115]).map Tk.chr ++ [b, .br 4]).length = u ++ 44 :: 32 :: joinL [44, 32] ((j :: r).map strI) := rfl
      rw [f1, f2, Bool.true_and]
      show endO [.br 5] ((findL [c] (u ++ 44 :: 32 :: joinL [44, 32] ((j :: r).map strI))).bind (evalH [])) = _
      rw [find_comma hc u _ hu]
      obtain ⟨y, z, ey, hz⟩ := join_last ((j :: r).map strI) (by simp) (fun v hv => by obtain ⟨q, hq, rfl⟩ := List.mem_map.mp hv; exact str_dg (ht q (List.mem_cons_of_mem _ hq)).1)
      show endsL [.br 5] (32 :: joinL [44, 32] ((j :: r).map strI)) = _
      rw [ey, show (32 :: (y ++ [z])) = (32 :: y) ++ [z] from rfl, ends_one, decide_eq_true h1]
      show (Nat.ble 48 z && Nat.ble z 57) = true
      rw [Nat.ble_eq_true_of_le hz.1, Nat.ble_eq_true_of_le hz.2]; rfl
  · have e : pluS t.length = [] := if_neg h1
    rw [e, decide_eq_false h1]
    have : fitL ((tabS ++ [115]).map Tk.chr ++ [b, .br 4]) (tabS ++ ([] ++ 32 :: joinL [44, 32] (t.map strI))) = false := by
      have := fit_self tabS (Tk.chr 115 :: [b, .br 4]) ([] ++ 32 :: joinL [44, 32] (t.map strI))
      rw [List.map_append, List.append_assoc]
      refine this.trans ?_
      rfl
    rw [this]; rfl
end
section
open PySem PySem.W PyProof.Rows
set_option maxRecDepth 100000
set_option maxHeartbeats 1000000
set_option linter.unusedVariables false
open PySem.Calls
variable {G : GX} {n : Nat} {μ : List (List D)} {K : D → Prop}
/-! instances of Whitespace: what is read of them -/
theorem lookIn_of {o : Obj} {es : Array DictEntry} {ep : Nat} (hd : o.data = .dict es ep) (hk : StrKeys es) (name : Str) : lookIn name o = some (nsFind es name) := by
  unfold lookIn nsFind findBy
  rw [hd]
  dsimp only
  rw [← Array.find?_toList]
  have hr : es.toList.any (·.refKey) = false := by
    rw [List.any_eq_false]
    intro e he
    obtain ⟨n, t, h⟩ := hk e (Array.mem_toList_iff.mp he)
    unfold DictEntry.refKey
    rw [h]
    exact Bool.false_ne_true
  cases es.toList.find? (fun e => e.key.isStr name) with
  | some e => rfl
  | none => simp [hr]
structure ClsOk (K : Frag) : Prop where
  dict : hasDictIn K 100 = true
  ga : findIn K (.ref 100) "__getattribute__" = some (some (.builtin "object.__getattribute__"))
  gat : findIn K (.ref 100) "__getattr__" = some none
  norm : findIn K (.ref 100) "norm" = some none
  nt : findIn K (.ref 100) "nt" = some none
theorem clsOk (hG : Good G) : ClsOk G.K := by
  obtain ⟨P, hK⟩ := hG.k
  rw [hK]
  exact ⟨by kernel_rfl, by kernel_rfl, by kernel_rfl, by kernel_rfl, by kernel_rfl⟩
theorem K_at {s : Shared} (ok : OkS G s) : G.K.In s.heap := fun a o e => ok.base a o (G.kin a o e)
theorem ws_inst {h : Heap} {a : Addr} {cnt : List Int} {tr nt : Int} (x : WsAt h a cnt tr nt) : ∃ ox od tn tc cs t1 t2, InstAt h a ox 100 (some od) ∧ lookIn "norm" od = some (some (.ref tn)) ∧ lookIn "nt" od = some (some (.int nt t1)) ∧
    IsTup h tn [.ref tc, .int tr t2].toArray ∧ IsTup h tc (cs : List Value).toArray ∧ IntsAre cs cnt ∧ ∀ x ∈ [("longest_run_of_spaces" : Str), "indent_level", "not_equal_witness", "not_less_witness"], lookIn x od = some none := by
  obtain ⟨dx, sl, mA, tn, tc, t1, t2, cs, h1, h2, ⟨od, es, ep, h3, hd, hk, hu, hm⟩, h4, h5, h6, h7, h8, h9⟩ := x
  refine ⟨_, od, tn, tc, cs.toList, t1, t2, ⟨h1, rfl, rfl, h3⟩, ?_, ?_, h6, by simpa using h7, h8, fun y hy => ?_⟩
  · rw [lookIn_of hd hk, hm, h4]
  · rw [lookIn_of hd hk, hm, h5]
  · rw [lookIn_of hd hk, hm, h9 y hy]
theorem Ev_norm (hG : Good G) {sc : Scope} {vals : List (Option D)} {x : Str} {xp pos : Pos} (h : EvK G sc n vals μ (.Name x xp) fun d => ∃ cnt tr nt, d = .ws cnt tr nt ∧ K (.tup [.tup (cnt.map .int), .int tr])) :
    EvK G sc n vals μ (.Attribute (.Name x xp) "norm" pos) K := EvK.of fun A env W s o => by
  refine Attribute_name (h.use o fun v s₁ d ⟨cnt, tr, nt, hd, hk⟩ e1 i1 => ?_)
  subst hd
  obtain ⟨_, rfl, hw⟩ := i1.inv
  obtain ⟨ox, od, tn, tc, cs, t1, t2, I, l1, l2, h1, h2, h3, h4⟩ := ws_inst hw
  have c := clsOk hG
  refine get_value (K_at e1.ok) I c.ga (findObj_own c.dict c.norm rfl l1) rfl ?_
  exact ⟨_, hk, e1.trans (.toks e1.ok _), .tup h1 (.cons (.tup h2 (IsL.of_ints h3)) (.cons (.int _ _) .nil))⟩
theorem Ev_nt (hG : Good G) {sc : Scope} {vals : List (Option D)} {x : Str} {xp pos : Pos} (h : EvK G sc n vals μ (.Name x xp) fun d => ∃ cnt tr nt, d = .ws cnt tr nt ∧ K (.int nt)) :
    EvK G sc n vals μ (.Attribute (.Name x xp) "nt" pos) K := EvK.of fun A env W s o => by
  refine Attribute_name (h.use o fun v s₁ d ⟨cnt, tr, nt, hd, hk⟩ e1 i1 => ?_)
  subst hd
  obtain ⟨_, rfl, hw⟩ := i1.inv
  obtain ⟨ox, od, tn, tc, cs, t1, t2, I, l1, l2, h1, h2, h3, h4⟩ := ws_inst hw
  have c := clsOk hG
  refine get_value (K_at e1.ok) I c.ga (findObj_own c.dict c.nt rfl l2) rfl ?_
  exact ⟨_, hk, e1.trans (.toks e1.ok _), .int _ _⟩
/-- a method's call -/
theorem Ev_meth (hG : Good G) {sc : Scope} {vals : List (Option D)} {value : Expr} {name : Str} {f : Addr} {apos pos : Pos} {args : List Expr} {pl : Env → Sem Bool} (hm : name ∈ [("longest_run_of_spaces" : Str), "indent_level", "not_equal_witness", "not_less_witness"])
    (hf : ∀ P, findIn (KP P) (.ref 100) name = some (some (.ref f)) ∧ typeIn (KP P) (.ref f) = some (.type "function")) (hcb : ∃ o fd, G.g0.get? f = some o ∧ o.data = .func fd)
    (h : EvK G sc n vals μ value fun d => ∃ cnt tr nt, d = .ws cnt tr nt ∧ EvL G sc n vals μ args fun ds => CallK G n μ (.ref f) (.ws cnt tr nt :: ds) K)
    (he : ∀ env, eval (.Call (.Attribute value name apos) args [] pos) env = (do
      let ov ← eval value env
      standAt apos.atName
      let (f, first) ← holding [ov] (getMethod ov name (pl env))
      callWith pos f first (backTo pos (starEach args env)) [])) (hn : noStar args = true) :
    EvK G sc n vals μ (.Call (.Attribute value name apos) args [] pos) K := EvK.of fun A env W s o => by
  obtain ⟨P, hK⟩ := hG.k
  obtain ⟨ob, fd, hc1, hc2⟩ := hcb
  refine MethodCall_ (pl := pl env) (h.use o fun vo s₁ d ⟨cnt, tr, nt, hd, hl⟩ e1 i1 => ?_) (he env)
  subst hd
  have i1' := i1
  obtain ⟨_, rfl, hw⟩ := i1.inv
  rename_i ad
  obtain ⟨ox, od, tn, tc, cs, t1, t2, I, l1, l2, h1, h2, h3, h4⟩ := ws_inst hw
  have c := clsOk hG
  have hff := hf P
  rw [← hK] at hff
  refine method_fn (K_at e1.ok) I c.ga c.gat hff.1 hff.2 (by unfold shadowIn; dsimp only; rw [h4 name hm]; rfl) ?_
  rw [backTo_eq _ _ _ hn]
  have main : wpAny (model G.prog G.w) A (evalArgs (.ref f) true ((evalEach args env).map fun t => (false, t)) []) (fun x s₂ => wpAny (model G.prog G.w) A (call (.ref f) ([.ref ad] ++ x.pos) x.kw) (fun v s' => ∃ d, K d ∧ Ext G s s' ∧ Is W s'.heap v d) No s₂ ∧ OkS G s₂) No s₁ :=
    evalArgs_of (hl.use (o.ext e1) fun vs s₂ ds hk e2 is => ⟨by
      have o2 := (o.ext e1).ext e2
      exact StK.use (f := fun vs => call (.ref f) vs) (vs := .ref ad :: vs) hk o2.2.1 o2.2.2.1 o2.2.2.2.2 (.cons (i1'.ext e1.ok.tab e2.keep) is) fun v s₃ d hK e3 i3 => ⟨d, hK, (e1.trans e2).trans e3, i3⟩, e2.ok⟩)
  exact Calls.callWith_function (o := ob) (fd := fd) (wpAny_mono main (fun _ s₂ x => ⟨⟨x.2.base f ob hc1, hc2⟩, x.1⟩) fun _ _ y => y)
end
section
open PySem PySem.W PyProof.Rows
set_option maxRecDepth 100000
set_option maxHeartbeats 1000000
set_option linter.unusedVariables false
open PySem.Calls
variable {G : GX} {n : Nat} {μ : List (List D)} {K : D → Prop}
noncomputable def lrF (cnt : List Int) (tr : Int) : Int := if tr > (cnt.length : Int) - 1 then tr else (cnt.length : Int) - 1
theorem fnw (hG : Good G) {f : Addr} (h : ∀ P, ∃ o fd, (KP P).lookup f = some o ∧ o.data = .func fd) : ∃ o fd, G.g0.get? f = some o ∧ o.data = .func fd := by
  obtain ⟨P, hK⟩ := hG.k
  obtain ⟨o, fd, h1, h2⟩ := h P
  exact ⟨o, fd, G.kin f o (by rw [hK]; exact h1), h2⟩
theorem pure_ws (cnt : List Int) (tr nt : Int) : (D.ws cnt tr nt).pure = true := by unfold D.pure; rfl
theorem longest_call (hG : Good G) {cnt : List Int} {tr nt : Int} (hl : cnt.length ≤ 1000) (h : K (.int (lrF cnt tr))) : CallK G (n + 1) μ (.ref 62) [.ws cnt tr nt] K := by
  refine enter (tb := tb62) (at62 hG) hG rfl (by simp only [pureL_cons, pureL_nil, pure_ws, Bool.and_self]) ?_ (by decide +kernel)
  refine ⟨Ev_norm hG (run_E hG tb62 ⟨_, _, _, rfl, rfl, Nat.lt_of_le_of_lt (by rw [List.length_map]; exact hl) (by decide), ?_⟩)⟩
  rw [List.length_map]
  exact ⟨_, .pure rfl, h⟩
noncomputable def ilN (cnt : List Int) (ts : Int) : Nat → Int
  | 0 => 0
  | j + 1 => ilN cnt ts j + (ts + j).fdiv ts * cnt.getD (ts + j).toNat 0
noncomputable def ilF (cnt : List Int) (ts : Int) : Int := ilN cnt ts ((cnt.length : Int) - ts).toNat
noncomputable def indF (cnt : List Int) (tr nt ts : Int) : Int := tr + ts * (ilF cnt ts + nt)
noncomputable def CntOk (cnt : List Int) (tr nt : Int) : Prop := cnt.length ≤ 20 ∧ (∀ c ∈ cnt, 0 ≤ c ∧ c ≤ 100) ∧ (0 ≤ tr ∧ tr ≤ 100) ∧ 0 ≤ nt ∧ nt ≤ 100
theorem fdiv_small {a b : Int} (ha : 0 ≤ a) (hb : 1 ≤ b) : 0 ≤ a.fdiv b ∧ a.fdiv b ≤ a := by
  rw [Int.fdiv_eq_ediv_of_nonneg _ (by lia)]
  exact ⟨Int.ediv_nonneg ha (by lia), Int.ediv_le_self _ ha⟩
theorem mulOk_small {a b : Int} (h0 : 0 ≤ a) (h1 : a ≤ 100000) : IntMulOk a b := IntMulOk.of_left (intBits_le_64 (by lia) (by lia))
theorem noPylong {a b : Int} (h1 : 1 ≤ b) (h2 : b ≤ 100) : Builtin.divisionGoesByPylong a b = false := by
  have h := Nat.log2_le_self b.natAbs
  have h3 : b.natAbs ≤ 100 := by lia
  have h4 : ((if (b == 0) = true then 0 else b.natAbs.log2 / 30 + 1) > 300) = False := by
    simp only [eq_iff_iff, iff_false]
    split <;> lia
  unfold Builtin.divisionGoesByPylong
  simp only [gt_iff_lt, Bool.and_eq_false_iff, decide_eq_false_iff_not]
  exact .inl fun q => by rw [← gt_iff_lt, h4] at q; exact q
theorem ifB.yes {b : Bool} {P S : Prop} (e : b = true) (h : P) : ifB b P S := by subst e; exact h
theorem rng_turn {a : Int} {m j : Nat} {d : D} (hd : (rngL a 1 m)[j]? = some d) : j < m ∧ d = .int (a + j) := by
  have hj : j < m := by
    have := (List.getElem?_eq_some_iff.mp hd).1
    rwa [rngL, List.length_map, List.length_range] at this
  unfold rngL at hd
  rw [List.getElem?_map, List.getElem?_range hj, Option.map_some, Int.mul_one] at hd
  exact ⟨hj, (Option.some.inj hd).symm⟩
theorem rng_len {a b : Int} {m : Nat} : (rngL a b m).length = m := by rw [rngL, List.length_map, List.length_range]
inductive Inv69 (cnt : List Int) (tr nt ts : Int) : Nat → List (Option D) → List (List D) → Prop
  | mk {j : Nat} {k : Option D} {il : Int} (hi : il = ilN cnt ts j) : Inv69 cnt tr nt ts j [some (.ws cnt tr nt), some (.int ts), some (.tup (cnt.map .int)), some (.int tr), some (.int il), k, none, none] []
theorem indent_call (hG : Good G) {cnt : List Int} {tr nt ts : Int} (hc : CntOk cnt tr nt) (h1 : 1 ≤ ts) (h2 : ts ≤ 20) (h : K (.int (indF cnt tr nt ts))) : CallK G (n + 1) μ (.ref 69) [.ws cnt tr nt, .int ts] K := by
  obtain ⟨c1, c2, c3, c4⟩ := hc
  have hts : ts ≤ 100000 := Int.le_trans h2 (by decide)
  refine enter (tb := tb69) (at69 hG) hG rfl (by simp only [pureL_cons, pureL_nil, pure_ws, pure_int, Bool.and_self]) ?_ (by decide +kernel)
  refine ⟨Ev_norm hG (run_E hG tb69 ⟨_, _, _, rfl, rfl, Nat.lt_of_le_of_lt (by rw [List.length_map]; exact c1) (by decide), ?_⟩)⟩
  rw [List.length_map]
  refine ⟨rngL ts 1 ((cnt.length : Int) - ts).toNat, Iter_rng (rangeSize_nat _ _) (small_one (by lia) (by lia) (by lia) (by lia)), Inv69 cnt tr nt ts, .mk rfl, ?_, ?_⟩
  · rintro v mu ⟨rfl⟩
    rw [rng_len]
    exact ⟨Ev_nt hG (run_E hG tb69 ⟨_, _, _, rfl, ⟨St_mul_int (mulOk_small (Int.le_trans (by decide) h1) hts) ⟨_, .pure rfl, h⟩⟩⟩)⟩
  · rintro j d v mu hd KB hN hB hR ⟨rfl⟩
    obtain ⟨hj, rfl⟩ := rng_turn hd
    have f := fdiv_small (a := ts + j) (b := ts) (by lia) h1
    have hat : atD (cnt.map D.int) (ts + j) = some (.int (cnt.getD (ts + j).toNat 0)) := by
      generalize hk : (ts + (j : Int)).toNat = q
      rw [show ts + (j : Int) = (q : Int) by lia, atD_nat, List.getElem?_map, List.getD_eq_getElem?_getD, List.getElem?_eq_getElem (by lia)]
      rfl
    have hb : Nat.ble (cnt.map D.int).length 1000 = true := Nat.ble_eq_true_of_le (by rw [List.length_map]; exact Nat.le_trans c1 (by decide))
    exact ⟨St_div_int (by lia) (noPylong h1 (by lia)) (ifB.yes hb (optK.mk hat ⟨St_mul_int (mulOk_small f.1 (by lia)) (hN _ _ (.mk rfl))⟩))⟩
/-- the rows of a witness -/
noncomputable def rowD (i1 i2 : Int → Int) (ts : Int) : D := .tup [.int ts, .int (i1 ts), .int (i2 ts)]
noncomputable def rowsF (t : Int → Int → Bool) (i1 i2 : Int → Int) (m : Nat) : List Int := ((List.range m).map fun j : Nat => (1 : Int) + j).filter fun ts => t (i1 ts) (i2 ts)
theorem rowsF_succ (t : Int → Int → Bool) (i1 i2 : Int → Int) (m : Nat) : rowsF t i1 i2 (m + 1) = rowsF t i1 i2 m ++ if t (i1 (1 + m)) (i2 (1 + m)) then [1 + (m : Int)] else [] := by
  unfold rowsF
  rw [List.range_succ, List.map_append, List.filter_append]
  simp only [List.map_cons, List.map_nil, List.filter_cons, List.filter_nil]
theorem rowsF_len (t : Int → Int → Bool) (i1 i2 : Int → Int) (m : Nat) : (rowsF t i1 i2 m).length ≤ m := by
  unfold rowsF
  exact Nat.le_trans (List.length_filter_le _ _) (by simp)
theorem pure_rows (i1 i2 : Int → Int) (l : List Int) : pureL (l.map (rowD i1 i2)) = true := pureL_map _ (fun _ => by unfold rowD; simp only [pure_tup, pureL_cons, pureL_nil, pure_int, Bool.and_self]) l
noncomputable def nF (c1 : List Int) (r1 : Int) (c2 : List Int) (r2 : Int) : Int := (if lrF c2 r2 > lrF c1 r1 then lrF c2 r2 else lrF c1 r1) + 1
theorem lrF_ok {cnt : List Int} {tr nt : Int} (h : CntOk cnt tr nt) (h19 : tr ≤ 18) (h20 : cnt.length ≤ 19) : 0 ≤ lrF cnt tr ∧ lrF cnt tr ≤ 18 := by
  obtain ⟨c1, c2, c3, c4⟩ := h
  unfold lrF
  split <;> lia
theorem Ev_ind (hG : Good G) {sc : Scope} {vals : List (Option D)} (k kt : Nat) {x y : Str} {kd ky : NameKind} {xp yp ap pos : Pos} {cnt : List Int} {tr nt ts : Int} {pl : Env → Sem Bool} (hn : sc.names[k]? = some (x, kd)) (hv : vals[k]? = some (some (.ws cnt tr nt)))
    (hn' : sc.names[kt]? = some (y, ky)) (hv' : vals[kt]? = some (some (.int ts))) (hc : CntOk cnt tr nt) (h1 : 1 ≤ ts) (h2 : ts ≤ 20) (h : K (.int (indF cnt tr nt ts)))
    (he : ∀ env, eval (.Call (.Attribute (.Name x xp) "indent_level" ap) [.Name y yp] [] pos) env = (do
      let ov ← eval (.Name x xp) env
      standAt ap.atName
      let (f, first) ← holding [ov] (getMethod ov "indent_level" (pl env))
      callWith pos f first (backTo pos (starEach [.Name y yp] env)) []))
    (hd : (x == ("__debug__" : Str)) = false) (hd' : (y == ("__debug__" : Str)) = false) :
    EvK G sc (n + 1) vals μ (.Call (.Attribute (.Name x xp) "indent_level" ap) [.Name y yp] [] pos) K :=
  Ev_meth hG (f := 69) (by simp) (fun P => ⟨by kernel_rfl, by kernel_rfl⟩) (fnw hG fun P => ⟨_, _, rfl, rfl⟩) (Ev_var k hn hv ⟨_, _, _, rfl, EvL_cons (Ev_var kt hn' hv' (EvL_nil (indent_call hG hc h1 h2 h)) hd')⟩ hd) he rfl
theorem Ev_long (hG : Good G) {sc : Scope} {vals : List (Option D)} (k : Nat) {x : Str} {kd : NameKind} {xp ap pos : Pos} {cnt : List Int} {tr nt : Int} {pl : Env → Sem Bool} (hn : sc.names[k]? = some (x, kd)) (hv : vals[k]? = some (some (.ws cnt tr nt))) (hl : cnt.length ≤ 1000) (h : K (.int (lrF cnt tr)))
    (he : ∀ env, eval (.Call (.Attribute (.Name x xp) "longest_run_of_spaces" ap) [] [] pos) env = (do
      let ov ← eval (.Name x xp) env
      standAt ap.atName
      let (f, first) ← holding [ov] (getMethod ov "longest_run_of_spaces" (pl env))
      callWith pos f first (backTo pos (starEach [] env)) []))
    (hd : (x == ("__debug__" : Str)) = false) : EvK G sc (n + 1) vals μ (.Call (.Attribute (.Name x xp) "longest_run_of_spaces" ap) [] [] pos) K :=
  Ev_meth hG (f := 62) (by simp) (fun P => ⟨by kernel_rfl, by kernel_rfl⟩) (fnw hG fun P => ⟨_, _, rfl, rfl⟩) (Ev_var k hn hv ⟨_, _, _, rfl, EvL_nil (longest_call hG hl h)⟩ hd) he rfl
theorem nF_ok {c1 c2 : List Int} {r1 r2 : Int} (l1 : 0 ≤ lrF c1 r1 ∧ lrF c1 r1 ≤ 18) (l2 : 0 ≤ lrF c2 r2 ∧ lrF c2 r2 ≤ 18) : 1 ≤ nF c1 r1 c2 r2 ∧ nF c1 r1 c2 r2 ≤ 19 := by unfold nF; split <;> lia
inductive InvW (t : Int → Int → Bool) (c1 : List Int) (r1 n1 : Int) (c2 : List Int) (r2 n2 : Int) : Nat → List (Option D) → List (List D) → Prop
  | mk {j : Nat} {k : Option D} {ds : List D} (hd : ds = (rowsF t (indF c1 r1 n1) (indF c2 r2 n2) j).map (rowD (indF c1 r1 n1) (indF c2 r2 n2))) : InvW t c1 r1 n1 c2 r2 n2 j [some (.ws c1 r1 n1), some (.ws c2 r2 n2), some (.int (nF c1 r1 c2 r2)), some (.mt 0), k, none, none] [ds]
theorem neq_call (hG : Good G) {c1 c2 : List Int} {r1 r2 n1 n2 : Int} (h1 : CntOk c1 r1 n1) (h2 : CntOk c2 r2 n2) (a1 : r1 ≤ 18) (a2 : c1.length ≤ 19) (b1 : r2 ≤ 18) (b2 : c2.length ≤ 19)
    (h : K (.lst ((rowsF (· != ·) (indF c1 r1 n1) (indF c2 r2 n2) (nF c1 r1 c2 r2).toNat).map (rowD (indF c1 r1 n1) (indF c2 r2 n2))))) : CallK G (n + 2) μ (.ref 83) [.ws c1 r1 n1, .ws c2 r2 n2] K := by
  have hn := nF_ok (lrF_ok h1 a1 a2) (lrF_ok h2 b1 b2)
  refine enter (tb := tb83) (at83 hG) hG rfl (by simp only [pureL_cons, pureL_nil, pure_ws, Bool.and_self]) ?_ (by decide +kernel)
  refine ⟨Ev_long hG 0 rfl rfl (Nat.le_trans h1.1 (by decide)) ⟨Ev_long hG 1 rfl rfl (Nat.le_trans h2.1 (by decide)) ?_ (fun _ => by with_unfolding_all rfl) (by decide +kernel)⟩ (fun _ => by with_unfolding_all rfl) (by decide +kernel)⟩
  refine ⟨rngL 1 1 (nF c1 r1 c2 r2 + 1 - 1).toNat, Iter_rng (a := 1) (b := nF c1 r1 c2 r2 + 1) (rangeSize_nat _ _) (small_one (by decide) (by decide) (by lia) (by lia)), InvW (· != ·) c1 r1 n1 c2 r2 n2, .mk rfl, ?_, ?_⟩
  · rintro v mu ⟨rfl⟩
    rw [rng_len, Int.add_sub_cancel]
    exact ⟨_, .mt rfl (pure_rows _ _ _), h⟩
  · rintro j d v mu hd KB hN hB hR ⟨rfl⟩
    obtain ⟨hj, rfl⟩ := rng_turn hd
    have i1 : (1 : Int) ≤ 1 + j := by lia
    have i2 : (1 : Int) + j ≤ 20 := by lia
    have hlen := rowsF_len (· != ·) (indF c1 r1 n1) (indF c2 r2 n2) j
    have hsucc := rowsF_succ (· != ·) (indF c1 r1 n1) (indF c2 r2 n2) j
    refine ⟨Ev_ind hG 0 4 rfl rfl rfl rfl h1 i1 i2 ⟨Ev_ind hG 1 4 rfl rfl rfl rfl h2 i1 i2 (condK.of (fun hq => ?_) fun hq => ?_) (fun _ => by with_unfolding_all rfl) (by decide +kernel) (by decide +kernel)⟩ (fun _ => by with_unfolding_all rfl) (by decide +kernel) (by decide +kernel)⟩
    · refine ⟨Ev_ind hG 0 4 rfl rfl rfl rfl h1 i1 i2 ⟨Ev_ind hG 1 4 rfl rfl rfl rfl h2 i1 i2 ?_ (fun _ => by with_unfolding_all rfl) (by decide +kernel) (by decide +kernel)⟩ (fun _ => by with_unfolding_all rfl) (by decide +kernel) (by decide +kernel)⟩
      exact ⟨_, rfl, by rw [List.length_map]; exact Nat.le_trans hlen (Nat.le_trans (show j ≤ 100 by lia) (by decide)), hN _ _ (.mk (by rw [hsucc, if_pos hq, List.map_append]; rfl))⟩
    · exact hN _ _ (.mk (by rw [hsucc, if_neg (by rw [hq]; exact Bool.false_ne_true), List.append_nil]))
theorem nls_call (hG : Good G) {c1 c2 : List Int} {r1 r2 n1 n2 : Int} (h1 : CntOk c1 r1 n1) (h2 : CntOk c2 r2 n2) (a1 : r1 ≤ 18) (a2 : c1.length ≤ 19) (b1 : r2 ≤ 18) (b2 : c2.length ≤ 19)
    (h : K (.lst ((rowsF (fun a b => decide (b ≤ a)) (indF c1 r1 n1) (indF c2 r2 n2) (nF c1 r1 c2 r2).toNat).map (rowD (indF c1 r1 n1) (indF c2 r2 n2))))) : CallK G (n + 2) μ (.ref 97) [.ws c1 r1 n1, .ws c2 r2 n2] K := by
  have hn := nF_ok (lrF_ok h1 a1 a2) (lrF_ok h2 b1 b2)
  refine enter (tb := tb97) (at97 hG) hG rfl (by simp only [pureL_cons, pureL_nil, pure_ws, Bool.and_self]) ?_ (by decide +kernel)
  refine ⟨Ev_long hG 0 rfl rfl (Nat.le_trans h1.1 (by decide)) ⟨Ev_long hG 1 rfl rfl (Nat.le_trans h2.1 (by decide)) ?_ (fun _ => by with_unfolding_all rfl) (by decide +kernel)⟩ (fun _ => by with_unfolding_all rfl) (by decide +kernel)⟩
  refine ⟨rngL 1 1 (nF c1 r1 c2 r2 + 1 - 1).toNat, Iter_rng (a := 1) (b := nF c1 r1 c2 r2 + 1) (rangeSize_nat _ _) (small_one (by decide) (by decide) (by lia) (by lia)), InvW (fun a b => decide (b ≤ a)) c1 r1 n1 c2 r2 n2, .mk rfl, ?_, ?_⟩
  · rintro v mu ⟨rfl⟩
    rw [rng_len, Int.add_sub_cancel]
    exact ⟨_, .mt rfl (pure_rows _ _ _), h⟩
  · rintro j d v mu hd KB hN hB hR ⟨rfl⟩
    obtain ⟨hj, rfl⟩ := rng_turn hd
    have i1 : (1 : Int) ≤ 1 + j := by lia
    have i2 : (1 : Int) + j ≤ 20 := by lia
    have hlen := rowsF_len (fun a b => decide (b ≤ a)) (indF c1 r1 n1) (indF c2 r2 n2) j
    have hsucc := rowsF_succ (fun a b => decide (b ≤ a)) (indF c1 r1 n1) (indF c2 r2 n2) j
    refine ⟨Ev_ind hG 0 4 rfl rfl rfl rfl h1 i1 i2 ⟨Ev_ind hG 1 4 rfl rfl rfl rfl h2 i1 i2 (condK.of (fun hq => ?_) fun hq => ?_) (fun _ => by with_unfolding_all rfl) (by decide +kernel) (by decide +kernel)⟩ (fun _ => by with_unfolding_all rfl) (by decide +kernel) (by decide +kernel)⟩
    · refine ⟨Ev_ind hG 0 4 rfl rfl rfl rfl h1 i1 i2 ⟨Ev_ind hG 1 4 rfl rfl rfl rfl h2 i1 i2 ?_ (fun _ => by with_unfolding_all rfl) (by decide +kernel) (by decide +kernel)⟩ (fun _ => by with_unfolding_all rfl) (by decide +kernel) (by decide +kernel)⟩
      exact ⟨_, rfl, by rw [List.length_map]; exact Nat.le_trans hlen (Nat.le_trans (show j ≤ 100 by lia) (by decide)), hN _ _ (.mk (by rw [hsucc, if_pos hq, List.map_append]; rfl))⟩
    · exact hN _ _ (.mk (by rw [hsucc, if_neg (by rw [hq]; exact Bool.false_ne_true), List.append_nil]))
end
section
open PySem PySem.W PyProof.Rows
set_option maxRecDepth 100000
set_option maxHeartbeats 1000000
set_option linter.unusedVariables false
open PySem.Calls
variable {G : GX} {n : Nat} {μ : List (List D)} {K : D → Prop}
variable {sc : Scope} {vals : List (Option D)} {KO : Out → Prop} {KM : D → List (List D) → Prop}
/-- two lists added: the sum is one's own -/
theorem EvM_add {l r : Expr} {pos : Pos} (h : EvK G sc n vals μ l fun a => EvK G sc n vals μ r fun b => ∃ i xs ys, a = .mt i ∧ μ[i]? = some xs ∧ b = .lst ys ∧ xs.length + ys.length ≤ sizeLine ∧ KM (.mt μ.length) (μ ++ [xs ++ ys])) : EvM G sc n vals μ (.BinOp l .Add r pos) KM := fun A env k av W s b hw st => by
  have o := st.ok5 b
  refine wpAny_BinOp (h.use o fun va s₁ da ha e1 i1 => EvK.use ha (o.ext e1) fun vb s₂ db hx e2 i2 => ?_)
  obtain ⟨i, xs, ys, hda, hx, hdb, hz, hk⟩ := hx
  subst hda; subst hdb
  have st2 := (st.step e1).step e2
  have i1' := i1.ext e1.ok.tab e2.keep
  obtain ⟨_, rfl, hwi⟩ := i1'.inv
  rename_i a
  obtain ⟨vs, ⟨q1, hp⟩, hs⟩ := st2.mts.2.2.2 i a xs hwi hx
  obtain ⟨_, _, rfl, n2, hl2, hs2⟩ := i2.inv
  rename_i a2 vs2
  obtain ⟨q2, hp2⟩ := hl2
  have key := st2.newOwn (hs.append hs2)
  refine P.add_list hp hp2 ?_ (by rw [List.size_toArray, List.size_toArray, hs.length, hs2.length]; exact hz)
  have e : s₂.heap.push { cls := .type "list", data := .seq (vs.toArray ++ vs2.toArray) } = withL s₂.heap (vs ++ vs2) := by unfold withL; simp
  rw [e]
  refine ⟨_, _, ⟨W.av, W.w ++ [s₂.heap.objs.size]⟩, hk, hw, e2.os.trans e1.os, key, .mt ?_, (e1.trans e2).keep.trans (HExt.of_keep fun b o e => Heap.get?_push_of_some _ e), fun u d i => ((i.ext st.ok.tab e1.keep).ext e1.ok.tab e2.keep).newOwn st2.mts.pl _, fun j c hj => ?_⟩
  · show (W.w ++ [s₂.heap.objs.size])[μ.length]? = some s₂.heap.objs.size
    rw [← st.mts.1]; simp
  · show (W.w ++ [s₂.heap.objs.size])[j]? = some c
    rw [List.getElem?_append_left (List.getElem?_eq_some_iff.mp hj).1]; exact hj
theorem mapSeq_set (its : Array Value) (m k : Nat) (v : Value) : Obj.mapSeq (·.setIfInBounds k v) { cls := .type "list", data := .seq its m } = { cls := .type "list", data := .seq (its.setIfInBounds k v) m } := by simp [Obj.mapSeq]
theorem setitem_run {prog : Program} {w : World} {A : Around} {E : Value → Shared → Prop} {s : Shared} {l : Addr} {items : Array Value} {k : Int} {t : Tok} {v : Value} {Q : Fin → Shared → Prop} {m : Nat} (ho : s.heap.get? l = some { cls := .type "list", data := .seq items m }) (h0 : 0 ≤ k) (hk : k < items.size)
    (hfit : Builtin.List.listFitsIndex k = true) (hq : Q (.done (.ret .none)) { s with heap := s.heap.update l (Obj.mapSeq (·.setIfInBounds k.toNat v)) }) : wpAny (model prog w) A.in1 (Builtin.«list.__setitem__» ⟨[.ref l, .int k t, v], []⟩) Q E s := by
  show wpAny _ _ (Builtin.List.listSubscript? (.int k t) >>= _) _ _ s
  refine wpAny_bind (wpAny_listSubscript_int hfit ?_)
  obtain ⟨j, rfl⟩ := Int.eq_ofNat_of_zero_le h0
  have hj : j < items.size := by lia
  show wpAny _ _ ((seqItemAt l j >>= fun r => pure (r.map (j, ·))) >>= _) _ _ s
  refine wpAny_bind (wpAny_bind (wpAny_seqItemAt ho rfl (wpAny_pure ?_)))
  rw [Array.getElem?_eq_getElem hj]
  show wpAny _ _ (setSeqItemAt l j v >>= _) _ _ s
  refine wpAny_bind (wpAny_setSeqItemAt ho rfl ?_)
  exact wpAny_pure hq
theorem setitem_run2 {prog : Program} {w : World} {A : Around} {E : Value → Shared → Prop} {s : Shared} {l : Addr} {items : Array Value} {k : Int} {t : Tok} {v : Value} {Q : Unit → Shared → Prop} {m : Nat} (ho : s.heap.get? l = some { cls := .type "list", data := .seq items m }) (h0 : 0 ≤ k) (hk : k < items.size)
    (hfit : Builtin.List.listFitsIndex k = true) (hQ : Q () { s with heap := s.heap.update l (Obj.mapSeq (·.setIfInBounds k.toNat v)) }) : wpAny (model prog w) A (setItem (.ref l) (.int k t) v) Q E s := by
  have hT : s.TypeIs (.ref l) "list" := ⟨_, ho, rfl⟩
  unfold setItem
  try with_reducible refine wpAny_holding ?_
  first | refine wpAny_bind (wpAny_pure ?_) | skip
  refine wpAny_bind (wpAny_sequenceKey hT (by decide) ?_)
  refine wpAny_bind (wpAny_callSpecial?_slot (name := Str.ofString "__setitem__") hT slot_list_setitem (wpAny_call_entry slot_list_setitem hT entry_list_setitem (setitem_run ho h0 hk hfit ⟨.none, rfl, wpAny_pure hQ⟩) (args_list_setitem _ _ _)))
theorem setItem_plain {prog : Program} {w : World} {A : Around} {E : Value → Shared → Prop} {s : Shared} {l : Addr} {items : Array Value} {k : Nat} {t : Tok} {v : Value} {Q : Unit → Shared → Prop} (hl : s.heap.PlainList l items) (hk : k < items.size) (hf : (k : Int) < 2 ^ 63)
    (hQ : ∀ h', h'.PlainList l (items.setIfInBounds k v) → Heap.SameBut l s.heap h' → Q () { s with heap := h' }) : wpAny (model prog w) A (setItem (.ref l) (.int k t) v) Q E s := by
  obtain ⟨m, ho⟩ := hl
  refine setitem_run2 ho (by lia) (by lia) (fitsIndex_of (by lia) hf) (hQ _ ?_ (Heap.SameBut.update ..))
  exact ⟨m, by rw [Heap.get?_update_self _ ho (by rw [mapSeq_set]; rfl), mapSeq_set]; rfl⟩
/-- «o[i] = e» of one's own list -/
theorem Ex_setitem {o i value : Expr} {pos' pos : Pos} (h : EvK G sc n vals μ value fun d => EvK G sc n vals μ o fun od => EvK G sc n vals μ i fun id => ∃ (j : Nat) (ds : List D) (k : Nat), od = .mt j ∧ μ[j]? = some ds ∧ id = .int (k : Int) ∧ k < ds.length ∧ ds.length ≤ 1000000 ∧ KO (.next vals (μ.set j (ds.set k d))))
    (hs : swapsWith value (some (.Subscript o i pos')) pos.line (envOf sc) = pure false) : ExS G sc n vals μ (.Assign [.Subscript o i pos'] value pos) KO := fun A env kp av s b hx => by
  obtain ⟨W, hw, _, st⟩ := hx
  have o0 := st.ok5 b
  refine wpAny_Assign_Subscript (h.use o0 fun v s₁ d hd e1 i1 => EvK.use hd (o0.ext e1) fun vo s₂ od hod e2 i2 => EvK.use hod ((o0.ext e1).ext e2) fun vi s₃ id hx e3 i3 => ?_) ((swapsWith_sc b.henv.hsc ..).trans hs)
  obtain ⟨j, ds, k, ho, hj, hi, hk, hz, hK⟩ := hx
  subst ho; subst hi
  have st3 := ((st.step e1).step e2).step e3
  have i1' := (i1.ext e1.ok.tab e2.keep).ext e2.ok.tab e3.keep
  have i2' := i2.ext e2.ok.tab e3.keep
  obtain ⟨_, rfl, hwj⟩ := i2'.inv
  rename_i a
  obtain ⟨t, rfl⟩ := i3.inv
  obtain ⟨vs, hp, hsd⟩ := st3.mts.2.2.2 j a ds hwj hj
  refine setItem_plain hp (by rw [List.size_toArray, hsd.length]; exact hk) (by lia) fun h' hp' hsame => ?_
  have hset : IsL W s₃.heap (vs.set k v) (ds.set k d) := by
    refine IsL.of_get (by rw [List.length_set, List.length_set, hsd.length]) fun q u e hu he => ?_
    rw [List.getElem?_set] at hu he
    by_cases hq : k = q
    · subst hq
      rw [if_pos rfl, if_pos (by rw [hsd.length]; exact hk)] at hu
      rw [if_pos rfl, if_pos hk] at he
      cases hu; cases he
      exact i1'
    · rw [if_neg hq] at hu he
      obtain ⟨u', hu', iu⟩ := hsd.get he
      rw [hu] at hu'; cases hu'
      exact iu
  have := st3.setOwn (tk := s₃.toks) b hwj hsame (vs := vs.set k v) (by simpa using hp') hset
  exact ⟨_, _, hK, W, hw, (e3.os.trans e2.os).trans e1.os, this.1⟩
/-- «b = n = nt = e» -/
theorem Ex_assign3 (k1 k2 k3 : Nat) {x1 x2 x3 : Str} {p1 p2 p3 pos : Pos} {value : Expr} {d1 d2 d3 : NameKind} (hn1 : sc.names[k1]? = some (x1, d1)) (hn2 : sc.names[k2]? = some (x2, d2)) (hn3 : sc.names[k3]? = some (x3, d3)) (l1 : LC d1) (l2 : LC d2) (l3 : LC d3)
    (h : EvK G sc n vals μ value fun d => d.pure = true ∧ KO (.next (setV (setV (setV vals k1 d) k2 d) k3 d) μ))
    (he : ∀ env, (assignEach [.Name x1 p1, .Name x2 p2, .Name x3 p3] env).map (·.2) = [assign (.Name x1 p1) env, assign (.Name x2 p2) env, assign (.Name x3 p3) env])
    (hw : swappedStores [.Name x1 p1, .Name x2 p2, .Name x3 p3] value (envOf sc) = pure none) :
    ExS G sc n vals μ (.Assign [.Name x1 p1, .Name x2 p2, .Name x3 p3] value pos) KO := fun A env kp av s b ⟨W, hW, _, st⟩ =>
  wpAny_Assign_three (h.use (st.ok5 b) fun v s₁ d ⟨hp, hk⟩ e1 i1 => wpAny_assign_Name (store_slot k1 b (st.step e1) hn1 l1 i1 fun s₂ o2 st2 m2 => wpAny_assign_Name (store_slot k2 b st2 hn2 l2 (m2 _ _ i1) fun s₃ o3 st3 m3 => wpAny_assign_Name (store_slot k3 b st3 hn3 l3 (m3 _ _ (m2 _ _ i1)) fun s₄ o4 st4 _ =>
    ⟨_, _, hk, W, hW, o4.trans (o3.trans (o2.trans e1.os)), st4⟩)))) (he env) ((swappedStores_sc b.henv.hsc ..).trans hw)
/-- a class's own value -/
theorem Ev_clsval (hG : Good G) {x name : Str} {xp pos : Pos} {y : List Nat} {t : Tok} (hr : ∀ P, readsIn (KP P) 100 (.type "type") = true ∧ findCls (KP P) (.ref 100) (.type "type") name = some (.val (.str (S y) t)))
    (h : EvK G sc n vals μ (.Name x xp) fun d => d = .raw (.ref 100) ∧ K (.str y)) : EvK G sc n vals μ (.Attribute (.Name x xp) name pos) K := EvK.of fun A env W s o => by
  obtain ⟨P, hK⟩ := hG.k
  have hrP := hr P
  rw [← hK] at hrP
  refine Attribute_name (h.use o fun v s₁ d ⟨hd, hk⟩ e1 i1 => ?_)
  subst hd
  obtain ⟨_, rfl⟩ := i1.inv
  exact cls_value (K_at e1.ok) hrP.1 hrP.2 rfl ⟨_, hk, e1.trans (.toks e1.ok _), .str _ _⟩
end
section
open PySem PySem.W PyProof.Rows
set_option maxRecDepth 100000
set_option maxHeartbeats 1000000
set_option linter.unusedVariables false
open PySem.Calls
variable {G : GX} {n : Nat} {μ : List (List D)} {K : D → Prop}
variable {sc : Scope}
theorem FnAt.enter {a : Addr} {ps : List Str} {body : List Stmt} (F : FnAt G a ps sc body) {ds : List D} (hl : ds.length = ps.length) (hp : pureL ds = true) {A : Around} {W : Wh} {s : Shared} {vs : List Value} (hr : Room (n + 1) A) (ok : OkS G s) (hm : MutOk W μ s.heap)
    (hi : IsL W s.heap vs ds) (dx : Addr) (hX0 : ∀ o, G.g0.get? dx ≠ some o) (hXav : ¬ W.has dx) {R : Result → Shared → Prop}
    (h : ∀ (A' : Around) (env : Env) (s₁ : Shared), Blk G sc n A' env (fun c => if c = dx then none else s.heap.get? c) W.has → At G sc env (fun c => if c = dx then none else s.heap.get? c) W.has s₁ s.os (vals0 sc ds) [] → (∀ c o, s.heap.get? c = some o → s₁.heap.get? c = some o) →
      s.heap.get? env.locals = none → (∀ x c, env.cells.lookup x = some c → s.heap.get? c = none) →
      wpAny (model G.prog G.w) A' (execs body env) (fun f s' => R (.ok (.ret (match f with | .ret v => v | _ => .none))) s') No s₁) : codeAny (model G.prog G.w) A (.call (.ref a) ⟨vs, []⟩) R s := by
  refine F.go hl hp hr ok hm hi _ (fun c o e => ?_) (fun b o e => ?_) (fun c hc => ?_) fun A' env h₁ tk => h A' env { s with heap := h₁, toks := tk }
  · by_cases hc : c = dx
    · rw [if_pos hc] at e; cases e
    · rw [if_neg hc] at e; exact e
  · exact (if_neg fun q => hX0 o (by rw [← q]; exact e)).trans (ok.base b o e)
  · obtain ⟨vs, q, h1⟩ := hm.pl c hc
    exact ⟨_, (if_neg fun e => hXav (by rw [← e]; exact hc)).trans h1⟩
structure StoreOk (K : Frag) : Prop where
  over : plainOver K 100 = true
  sa : findIn K (.ref 100) "__setattr__" = some (some (.builtin "object.__setattr__"))
  raw : takerIn K 100 "raw" = some none
  n : takerIn K 100 "n" = some none
  nt : takerIn K 100 "nt" = some none
  norm : takerIn K 100 "norm" = some none
  simple : takerIn K 100 "is_simple" = some none
theorem storeOk (hG : Good G) : StoreOk G.K := by
  obtain ⟨P, hK⟩ := hG.k
  rw [hK]
  exact ⟨by kernel_rfl, by kernel_rfl, by kernel_rfl, by kernel_rfl, by kernel_rfl, by kernel_rfl, by kernel_rfl⟩
theorem set_attr (hG : Good G) {A : Around} {s : Shared} {x dx : Addr} {m : Str → Option Value} {names : List Str} {name : Str} {v : Value} {Q : Unit → Shared → Prop} (ok : OkS G s) (hx : s.heap.get? x = some (instObj 100 dx)) (hd : s.heap.Ns1 dx m)
    (hw : _root_.PySem.Within m names) (hl : names.length ≤ 100) (ht : takerIn G.K 100 name = some none)
    (hQ : ∀ h' tk, h'.Ns1 dx (fun y => if y = name then some v else m y) → Heap.SameBut dx s.heap h' → Q () { s with heap := h', toks := tk }) : wpAny (model G.prog G.w) A (setAttr (.ref x) name v) Q No s := by
  have c := clsOk hG
  have so := storeOk hG
  obtain ⟨od, es, ep, ho, hod, hk, hu, hm⟩ := id hd
  have I : InstAt s.heap x (instObj 100 dx) 100 (some od) := ⟨hx, rfl, rfl, ho⟩
  have X := K_at ok
  refine set_plain X I so.sa ?_
  refine osa_open (s := { s with toks := s.toks + 1 }) X I so.over ht fun b => ?_
  obtain ⟨cd, hc, hd'⟩ := any_some c.dict
  refine wpAny_bind (wpAny_pure (wpAny_bind (wpAny_bind (wpAny_loadPart hx (wpAny_bind ((looks_clsIn X hc).at ?_))))))
  rw [hd']
  refine wpAny_pure (a := some dx) (wpAny_bind (wpAny_pure (wpAny_bind ?_)))
  refine wpAny_nsSet1 hd fun h' hn hs => ?_
  have hw' : _root_.PySem.Within (fun y => if y = name then some v else m y) (name :: names) := fun y hy => by
    by_cases e : y = name
    · rw [e]; exact List.mem_cons_self ..
    · simp only [if_neg e] at hy
      exact List.mem_cons_of_mem _ (hw y hy)
  obtain ⟨o2, es2, ep2, ho2, hd2, hz⟩ := hn.count hw'
  refine wpAny_bind (wpAny_lookBehind ho2 (by rw [hd2]; exact pastItsLine_dict (by rw [List.length_cons] at hz; unfold sizeLine; lia)) ?_)
  exact wpAny_pure (hQ h' _ hn hs)
end
section
open PySem PySem.W PyProof.Rows
set_option maxRecDepth 100000
set_option maxHeartbeats 1000000
set_option linter.unusedVariables false
open PySem.Calls
variable {G : GX} {n : Nat} {μ : List (List D)} {K : D → Prop}
variable {sc : Scope} {vals : List (Option D)}
/-! what the constructor counts -/
noncomputable def bump (cnt : List Int) (b : Nat) : List Int := let c := if b < cnt.length then cnt else cnt ++ List.replicate (b - cnt.length + 1) 0; c.set b (c.getD b 0 + 1)
noncomputable def wsGo : List Nat → List Int → Nat → Nat → Nat → List Int × Nat × Nat × Nat
  | [], cnt, b, nn, nt => (cnt, b, nn, nt)
  | ch :: r, cnt, b, nn, nt => if ch = 32 then wsGo r cnt (b + 1) (nn + 1) nt else if ch = 9 then wsGo r (bump cnt b) 0 (nn + 1) (nt + 1) else (cnt, b, nn, nt)
theorem bump_len (cnt : List Int) (b : Nat) : (bump cnt b).length ≤ cnt.length + b + 1 := by
  unfold bump
  dsimp only
  rw [List.length_set]
  split
  · lia
  · rw [List.length_append, List.length_replicate]; lia
theorem step_S {A : Around} {env : Env} {kp : Kp} {av : Addr → Prop} {s : Shared} {st : Stmt} {r : List Stmt} {vals' : List (Option D)} {μ' : List (List D)} {Q : Flow → Shared → Prop} (h : ExS G sc n vals μ st (fun o => o = .next vals' μ')) (b : Blk G sc n A env kp av)
    (a : At G sc env kp av s s.os vals μ) (k : ∀ s', s'.os = s.os → At G sc env kp av s' s'.os vals' μ' → wpAny (model G.prog G.w) A (execs r env) Q No s') : wpAny (model G.prog G.w) A (execs (st :: r) env) Q No s := by
  refine wpAny_execs_cons (wpAny_mono (h A env kp av s b a) (fun f s' p => ?_) fun _ _ y => y)
  cases f with
  | next =>
    obtain ⟨v, m, e, W, h1, h2, h3⟩ := p
    cases e
    exact k s' h2 ⟨W, h1, rfl, h3⟩
  | brk => obtain ⟨v, m, e, _⟩ := p; cases e
  | cont => obtain ⟨v, m, e, _⟩ := p; cases e
  | ret v => obtain ⟨d, e, _⟩ := p; cases e
/-- the object's dict, which the block does not know -/
structure DxOk (G : GX) (env : Env) (kp : Kp) (av : Addr → Prop) (dx : Addr) : Prop where
  k : kp dx = none
  loc : dx ≠ env.locals
  cel : ∀ y, env.cells.lookup y ≠ some dx
  av : ¬ av dx
theorem Std.setDx {A : Around} {env : Env} {kp : Kp} {av : Addr → Prop} {W : Wh} {s : Shared} {dx : Addr} {m : Str → Option Value} {h' : Heap} {tk : Nat} (b : Blk G sc n A env kp av) (hw : W.av = av) (st : Std G sc vals μ env kp W s) (x : DxOk G env kp av dx)
    (hx : s.heap.Ns1 dx m) (hm : m "norm" = none) (hs : Heap.SameBut dx s.heap h') : Std G sc vals μ env kp W { s with heap := h', toks := tk } := by
  have hno : ¬ W.has dx := fun h => by
    rcases h with h | h
    · exact x.av (hw ▸ h)
    · obtain ⟨vs, q, e⟩ := st.mts.pl dx (.inr h)
      obtain ⟨o, es, ep, ho, hd, _⟩ := hx
      rw [ho] at e; cases e; cases hd
  exact (st.updL b (scr_ns hx.ns hm) x.k x.loc x.cel hno fun c o hc e => hs.extBut c o hc e).1
noncomputable def kpDx (kp : Kp) (dx : Addr) (o : Obj) : Kp := fun c => if c = dx then some o else kp c
theorem kpDx_self (kp : Kp) (dx : Addr) (o : Obj) : kpDx kp dx o dx = some o := if_pos rfl
theorem kpDx_of {kp : Kp} {dx : Addr} {o : Obj} (hk : kp dx = none) {c : Addr} {p : Obj} (h : kp c = some p) : kpDx kp dx o c = some p := by
  unfold kpDx
  rw [if_neg (fun e => by rw [e, hk] at h; cases h)]; exact h
theorem kpDx_none {kp : Kp} {dx : Addr} {o : Obj} {c : Addr} (h : kpDx kp dx o c = none) : kp c = none := by
  unfold kpDx at h
  split at h
  · cases h
  · exact h
theorem Blk.dx {A : Around} {env : Env} {kp : Kp} {av : Addr → Prop} {dx : Addr} (b : Blk G sc n A env kp av) (x : DxOk G env kp av dx) (o : Obj) : Blk G sc n A env (kpDx kp dx o) av where
  henv := b.henv
  room := b.room
  own := {
    loc := by unfold kpDx; rw [if_neg (Ne.symm x.loc)]; exact b.own.loc
    cel := fun y c e => by
      have hne : c ≠ dx := fun h => x.cel y (by rw [← h]; exact e)
      refine ⟨?_, (b.own.cel y c e).2⟩
      unfold kpDx
      rw [if_neg hne]
      exact (b.own.cel y c e).1
    apart := b.own.apart
    has := b.own.has
    base := fun c p e => kpDx_of x.k (b.own.base c p e)
    avin := fun c hc => let ⟨p, e⟩ := b.own.avin c hc; ⟨p, kpDx_of x.k e⟩ }
theorem Std.dx {env : Env} {kp : Kp} {av : Addr → Prop} {W : Wh} {s : Shared} {dx : Addr} {m : Str → Option Value} {o : Obj} (hw : W.av = av) (st : Std G sc vals μ env kp W s) (x : DxOk G env kp av dx) (ho : s.heap.get? dx = some o) (hx : s.heap.Ns1 dx m) :
    Std G sc vals μ env (kpDx kp dx o) W s := by
  refine ⟨st.ok, fun c p hT e => ?_, fun a ha => ?_, st.fr, st.vars, st.mts⟩
  · unfold kpDx at e
    split at e
    · rename_i h; cases e; rw [h]; exact ho
    · exact st.ext c p hT e
  · unfold kpDx
    split
    · rename_i h
      obtain ⟨vs, q, e⟩ := st.mts.pl a (.inr ha)
      obtain ⟨o', es, ep, ho', hd, _⟩ := hx
      rw [h, ho'] at e; cases e; cases hd
    · exact st.own a ha
theorem Std.undx {env : Env} {kp : Kp} {W : Wh} {s : Shared} {dx : Addr} {o : Obj} (hk : kp dx = none) (st : Std G sc vals μ env (kpDx kp dx o) W s) : Std G sc vals μ env kp W s :=
  ⟨st.ok, fun c p hT e => st.ext c p hT (kpDx_of hk e), fun a ha => kpDx_none (st.own a ha), st.fr, st.vars, st.mts⟩
theorem rep_one (k : Nat) (a : D) : (List.replicate k [a]).flatten = List.replicate k a := by
  induction k with
  | zero => rfl
  | succ k ih => rw [List.replicate_succ, List.flatten_cons, ih, List.replicate_succ]; rfl
theorem at_map (c : List Int) (b : Nat) (h : b < c.length) : atD (c.map D.int) (b : Int) = some (.int (c.getD b 0)) := by
  rw [atD_nat, List.getElem?_map, List.getD_eq_getElem?_getD, List.getElem?_eq_getElem h]; rfl
theorem bump_in {cnt : List Int} {b : Nat} (h : b < cnt.length) : bump cnt b = cnt.set b (cnt.getD b 0 + 1) := by unfold bump; rw [if_pos h]
theorem bump_out {cnt : List Int} {b : Nat} (h : ¬ b < cnt.length) : bump cnt b = (cnt ++ List.replicate (b - cnt.length + 1) 0).set b ((cnt ++ List.replicate (b - cnt.length + 1) 0).getD b 0 + 1) := by unfold bump; rw [if_neg h]
theorem set_get {mu : List (List D)} {idx : Nat} {ds ds' : List D} (h : mu[idx]? = some ds) : (mu.set idx ds')[idx]? = some ds' := by
  rw [List.getElem?_set, if_pos rfl, if_pos (List.getElem?_eq_some_iff.mp h).1]
noncomputable abbrev wsF (w : List Nat) : List Int × Nat × Nat × Nat := wsGo w [] 0 0 0
theorem within_cons {m : Str → Option Value} {names : List Str} {name : Str} {v : Value} (hw : _root_.PySem.Within m names) : _root_.PySem.Within (fun y => if y = name then some v else m y) (name :: names) := fun y hy => by
  by_cases e : y = name
  · rw [e]; exact List.mem_cons_self ..
  · simp only [if_neg e] at hy
    exact List.mem_cons_of_mem _ (hw y hy)
theorem upd_none {x : Option Value} {q name : Str} {v : Value} (h : q ≠ name) (hm : x = none) : (if q = name then some v else x) = none := by rw [if_neg h]; exact hm
theorem upd_ne {x r : Option Value} {q name : Str} {v : Value} (h : q ≠ name) (hm : x = r) : (if q = name then some v else x) = r := by rw [if_neg h]; exact hm
theorem upd_eq {x : Option Value} {name : Str} {v : Value} : (if name = name then some v else x) = some v := if_pos rfl
theorem step_attr (hG : Good G) {A : Around} {env : Env} {kp : Kp} {av : Addr → Prop} {W : Wh} {s : Shared} {x dx : Addr} {m : Str → Option Value} {names : List Str} {xn name : Str} {kd : NameKind} {xp pos' pos : Pos} {value : Expr} {r : List Stmt} {K : D → Prop} {Q : Flow → Shared → Prop}
    (b : Blk G sc n A env kp av) (hW : W.av = av) (st : Std G sc vals μ env kp W s) (hn : sc.names[0]? = some (xn, kd)) (hl : kd = .local) (h0 : vals[0]? = some (some (.raw (.ref x)))) (hx : s.heap.get? x = some (instObj 100 dx)) (hxT : ∀ q ∈ G.T, x ≠ q.2) (hd : s.heap.Ns1 dx m)
    (hw : _root_.PySem.Within m names) (hz : names.length ≤ 100) (ht : takerIn G.K 100 name = some none) (hs : swapsWith value (some (.Attribute (.Name xn xp) name pos')) pos.line (envOf sc) = pure false) (hdb : (xn == ("__debug__" : Str)) = false) (hv : EvK G sc n vals μ value K)
    (k : ∀ v s' d h' tk, K d → Ext G s s' → Is W s'.heap v d → Std G sc vals μ env kp W s' → s'.heap.Ns1 dx m → s'.heap.get? x = some (instObj 100 dx) → h'.Ns1 dx (fun y => if y = name then some v else m y) → Heap.SameBut dx s'.heap h' → wpAny (model G.prog G.w) A (execs r env) Q No { s' with heap := h', toks := tk }) :
    wpAny (model G.prog G.w) A (execs (.Assign [.Attribute (.Name xn xp) name pos'] value pos :: r) env) Q No s := by
  subst hl
  refine wpAny_execs_cons (plainObj_wpAny_Assign_Attribute (hv.use (st.ok5 b) fun v s₂ d hk e2 i2 => (Ev_var (K := fun d => d = .raw (.ref x)) 0 hn h0 rfl hdb).use ((st.ok5 b).ext e2) fun vo s₃ d' hd' e3 i3 => ?_) ((swapsWith_sc b.henv.hsc ..).trans hs))
  subst hd'
  obtain ⟨_, rfl⟩ := i3.inv
  have st3 := (st.step e2).step e3
  have e := e2.trans e3
  have hx3 := e.keep _ _ hxT hx
  have hd3 := ns1_ext st.ok.tab e.keep hd
  refine set_attr hG st3.ok hx3 hd3 hw hz ht fun h4 tk4 hn4 hs4 => ?_
  exact k v s₃ d h4 tk4 hk e (i2.ext e2.ok.tab e3.keep) st3 hd3 hx3 hn4 hs4
inductive Inv55 (x : Addr) (w : List Nat) (i : Nat) : List (Option D) → List (List D) → Prop
  | mk {ch : Option D} {mu : List (List D)} (cnt : List Int) (bb nn nt idx : Nat) (h1 : mu[idx]? = some (cnt.map .int)) (h2 : wsGo (w.drop i) cnt bb nn nt = wsF w) (h3 : cnt.length + bb ≤ i) (h4 : nn ≤ i) (h5 : nt ≤ i) :
    Inv55 x w i [some (.raw (.ref x)), some (.str w), some (.str [32]), some (.str [9]), some (.mt idx), some (.int (bb : Nat)), some (.int (nn : Nat)), some (.int (nt : Nat)), ch, none, none, none] mu
inductive K55 (x : Addr) (w : List Nat) : Out → Prop
  | mk (cnt : List Int) (bb nn nt idx : Nat) (mu : List (List D)) (ch : Option D) (h1 : mu[idx]? = some (cnt.map .int)) (h2 : wsF w = (cnt, bb, nn, nt)) (h3 : cnt.length + bb ≤ 200) (h4 : nn ≤ 200) (h5 : nt ≤ 200) :
    K55 x w (.next [some (.raw (.ref x)), some (.str w), some (.str [32]), some (.str [9]), some (.mt idx), some (.int (bb : Nat)), some (.int (nn : Nat)), some (.int (nt : Nat)), ch, none, none, none] mu)
theorem init_code (hG : Good G) {A : Around} {W : Wh} {s : Shared} {x dx : Addr} {w : List Nat} {t : Tok} (hr : Room (n + 1) A) (ok : OkS G s) (hm : MutOk W μ s.heap) (hx : s.heap.get? x = some (instObj 100 dx)) (hdx : s.heap.get? dx = some emptyDict) (hxd : x ≠ dx)
    (hg0 : ∀ o, G.g0.get? dx ≠ some o) (hav : ¬ W.has dx) (hT : ∀ q ∈ G.T, dx ≠ q.2) (hxT : ∀ q ∈ G.T, x ≠ q.2) (hw : w.length ≤ 200) {R : Result → Shared → Prop}
    (hR : ∀ s', OkS G s' → s'.os = s.os → (∀ c o, c ≠ dx → (∀ q ∈ G.T, c ≠ q.2) → s.heap.get? c = some o → s'.heap.get? c = some o) → WsAt s'.heap x (wsF w).1 (wsF w).2.1 (wsF w).2.2.2 → R (.ok (.ret .none)) s') :
    codeAny (model G.prog G.w) A (.call (.ref 55) ⟨[.ref x, .str (S w) t], []⟩) R s := by
  obtain ⟨P, hK⟩ := hG.k
  refine (at55 hG).enter (ds := [.raw (.ref x), .str w]) rfl rfl hr ok hm (.cons (.raw _) (.cons (.str _ _) .nil)) dx hg0 hav fun A' env s₁ b a keep hlf hcf => ?_
  have so := storeOk hG
  have c0 := clsOk hG
  have X : DxOk G env (fun c => if c = dx then none else s.heap.get? c) W.has dx := ⟨if_pos rfl, (fun e => by rw [← e, hdx] at hlf; cases hlf), (fun y e => by have := hcf y dx e; rw [hdx] at this; cases this), hav⟩
  have kx : (fun c => if c = dx then none else s.heap.get? c) x = some (instObj 100 dx) := by show (if x = dx then none else s.heap.get? x) = _; rw [if_neg hxd]; exact hx
  generalize hkp : (fun c => if c = dx then none else s.heap.get? c) = kp at b a X kx
  obtain ⟨W1, hW1, ho1, st⟩ := a
  -- self.raw = ws
  refine wpAny_execs_cons (plainObj_wpAny_Assign_Attribute ((Ev_var (K := fun d => d = .str w) 1 rfl rfl rfl (by decide +kernel)).use (st.ok5 b) fun v s₂ d hd e2 i2 => (Ev_var (K := fun d => d = .raw (.ref x)) 0 rfl rfl rfl (by decide +kernel)).use ((st.ok5 b).ext e2) fun vo s₃ d' hd' e3 i3 => ?_) ((swapsWith_sc b.henv.hsc ..).trans (by with_unfolding_all rfl)))
  subst hd; subst hd'
  obtain ⟨t2, rfl⟩ := i2.inv
  obtain ⟨_, rfl⟩ := i3.inv
  have st3 := (st.step e2).step e3
  have hx3 : s₃.heap.get? x = some (instObj 100 dx) := st3.ext x _ hxT kx
  have hdx3 : s₃.heap.get? dx = some emptyDict := e3.keep _ _ hT (e2.keep _ _ hT (keep _ _ hdx))
  have hd3 : s₃.heap.Ns1 dx (fun _ => none) := Heap.Ns1.of_empty ⟨_, #[], _, hdx3, rfl, fun e he => absurd he (by simp), fun _ => rfl⟩
  refine set_attr hG st3.ok hx3 hd3 _root_.PySem.Within.nil (by decide) so.raw fun h4 tk4 hn4 hs4 => ?_
  have st4 := st3.setDx (tk := tk4) b hW1 X hd3 rfl hs4
  obtain ⟨od, es, ep, hod, hdd, hks, hus, hfs⟩ := id hn4
  have b5 := b.dx X od
  have st5 := st4.dx hW1 X hod hn4
  show wpAny _ _ (execs _ env) _ _ _
  refine step_S (vals' := [some (.raw (.ref x)), some (.str w), some (.str [32]), some (.str [9]), none, none, none, none, none, none, none, none]) (μ' := []) (Ex_assign_swapped ["S", "T"] [3, 2] (.cons rfl (.inl rfl) (.cons rfl (.inl rfl) .nil)) ?_ (by with_unfolding_all rfl) (fun _ => by with_unfolding_all rfl)) b5 ⟨W1, hW1, rfl, st5⟩ fun s6 ho6 a6 => ?_
  · refine Ev_tuple (EvL_cons (Ev_clsval hG (y := [32]) (t := 304) (fun P => ⟨by kernel_rfl, by kernel_rfl⟩) ?_)) rfl
    refine Ev_global 9 rfl (mgOf hG (v := .ref 100) fun P => by kernel_rfl) ⟨rfl, ?_⟩ (by decide +kernel)
    refine EvL_cons (Ev_clsval hG (y := [9]) (t := 305) (fun P => ⟨by kernel_rfl, by kernel_rfl⟩) ?_)
    refine Ev_global 9 rfl (mgOf hG (v := .ref 100) fun P => by kernel_rfl) ⟨rfl, ?_⟩ (by decide +kernel)
    exact EvL_nil ⟨by decide, _, rfl, rfl, rfl⟩
  refine step_S (vals' := [some (.raw (.ref x)), some (.str w), some (.str [32]), some (.str [9]), some (.mt 0), none, none, none, none, none, none, none]) (μ' := [[]]) (Ex_assignM 4 rfl (EvM_nil rfl) (.inl rfl) (by with_unfolding_all rfl)) b5 a6.self fun s7 ho7 a7 => ?_
  refine step_S (vals' := [some (.raw (.ref x)), some (.str w), some (.str [32]), some (.str [9]), some (.mt 0), some (.int 0), some (.int 0), some (.int 0), none, none, none, none]) (μ' := [[]]) (Ex_assign3 5 6 7 rfl rfl rfl (.inl rfl) (.inl rfl) (.inl rfl) (Ev_const_int ⟨rfl, rfl⟩) (fun _ => rfl) (by with_unfolding_all rfl)) b5 a7.self fun s8 ho8 a8 => ?_
  obtain ⟨W8, hW8, ho8', st8⟩ := a8
  have hod8 : s8.heap.get? dx = some od := st8.ext dx od hT (kpDx_self ..)
  have hx8 : s8.heap.get? x = some (instObj 100 dx) := st8.ext x _ hxT (kpDx_of X.k kx)
  have I8 : InstAt s8.heap x (instObj 100 dx) 100 (some od) := ⟨hx8, rfl, rfl, hod8⟩
  have lraw : lookIn "raw" od = some (some (.str (S w) t2)) := by rw [lookIn_of hdd hks, hfs]; simp
  have hraw : findIn G.K (.ref 100) "raw" = some none := by rw [hK]; kernel_rfl
  refine wpAny_execs_cons (wpAny_mono (For_at (K := K55 x w) b5 hW8 st8
    (Attribute_name ((Ev_var (K := fun d => d = .raw (.ref x)) 0 rfl rfl rfl (by decide +kernel)).use (st8.ok5 b5) fun vo s9 d' hd' e9 i9 => ?_)) (fun _ _ => by with_unfolding_all rfl)) (fun f s' p => ?_) fun _ _ y => y)
  · subst hd'
    obtain ⟨_, rfl⟩ := i9.inv
    refine get_value (K_at e9.ok) (od := some od) ⟨e9.keep _ _ hxT hx8, rfl, rfl, e9.keep _ _ hT hod8⟩ c0.ga (findObj_own c0.dict hraw rfl lraw) rfl ?_
    refine ⟨.str w, ⟨_, Iter_str, Inv55 x w, .mk [] 0 0 0 0 rfl rfl (Nat.le_refl _) (Nat.le_refl _) (Nat.le_refl _), ?_, ?_⟩, e9.trans (.toks e9.ok _), .str _ _⟩
    · rintro v mu ⟨cnt, bb, nn, nt, idx, h1, h2, h3, h4, h5⟩
      rw [List.length_map] at h2 h3 h4 h5
      rw [List.drop_length] at h2
      exact .mk cnt bb nn nt idx mu _ h1 h2.symm (Nat.le_trans h3 hw) (Nat.le_trans h4 hw) (Nat.le_trans h5 hw)
    · rintro i d v mu hd ⟨cnt, bb, nn, nt, idx, h1, h2, h3, h4, h5⟩
      rw [List.getElem?_map] at hd
      cases hc : w[i]? with
      | none => rw [hc] at hd; cases hd
      | some c =>
        rw [hc] at hd
        cases hd
        have hi : i < w.length := (List.getElem?_eq_some_iff.mp hc).1
        have hdrop : w.drop i = c :: w.drop (i + 1) := by
          rw [List.drop_eq_getElem_cons hi, (List.getElem?_eq_some_iff.mp hc).2]
        rw [hdrop] at h2
        have hlz : (cnt.map D.int).length < 2 ^ 62 := by rw [List.length_map]; exact Nat.lt_of_le_of_lt (Nat.le_trans (Nat.le_of_add_right_le h3) (Nat.le_of_lt (Nat.lt_of_lt_of_le hi hw))) (by decide)
        refine As_name 8 rfl (run_B hG tb55 (condK.of (fun h32 => ?_) fun h32 => condK.of (fun h9 => ?_) fun h9 => ?_)) (.inl rfl)
        · cases (List.cons.inj (eq_of_beq h32)).1
          exact Inv55.mk cnt (bb + 1) (nn + 1) nt idx h1 h2 (Nat.succ_le_succ h3) (Nat.succ_le_succ h4) (Nat.le_succ_of_le h5)
        · cases (List.cons.inj (eq_of_beq h9)).1
          have hbl := bump_len cnt bb
          refine optK.mk h1 ⟨hlz, ?_⟩
          rw [List.length_map]
          refine condK.of (fun hb => ?_) fun hb => ?_
          · have hb : (cnt.length : Int) ≤ bb := of_decide_eq_true hb
            have hb' : ¬ bb < cnt.length := by lia
            refine ⟨Ex_assignM 4 rfl (EvM_add ?_) (.inl rfl) (by with_unfolding_all rfl)⟩
            refine run_E hG tb55 (run_E hG tb55 (optK.mk h1 ⟨hlz, ?_⟩))
            rw [List.length_map]
            refine ⟨St_mul_lst (by decide) (by lia) (by lia) ?_⟩
            rw [show ((bb : Int) - (cnt.length : Int) + 1).toNat = bb - cnt.length + 1 by lia, rep_one]
            have hlen : (cnt ++ List.replicate (bb - cnt.length + 1) (0 : Int)).length = bb + 1 := by rw [List.length_append, List.length_replicate]; lia
            have hmap : cnt.map D.int ++ List.replicate (bb - cnt.length + 1) (D.int 0) = (cnt ++ List.replicate (bb - cnt.length + 1) (0 : Int)).map D.int := by rw [List.map_append, List.map_replicate]
            refine ⟨idx, _, _, rfl, h1, rfl, by rw [List.length_map, List.length_replicate]; exact Nat.le_trans (show _ ≤ 1000 by lia) (by decide), ?_⟩
            rw [hmap]
            have hit : (mu ++ [(cnt ++ List.replicate (bb - cnt.length + 1) (0 : Int)).map D.int])[mu.length]? = some ((cnt ++ List.replicate (bb - cnt.length + 1) (0 : Int)).map D.int) := by simp
            refine ⟨Ex_setitem ?_ (by with_unfolding_all rfl)⟩
            refine run_E hG tb55 (optK.mk hit ⟨by rw [List.length_map, hlen]; exact Nat.lt_of_le_of_lt (show _ ≤ 1000 by lia) (by decide), optK.mk (at_map _ bb (by rw [hlen]; exact Nat.lt_succ_self _)) ?_⟩)
            refine run_E hG tb55 (run_E hG tb55 ⟨_, _, bb, rfl, hit, rfl, by rw [List.length_map, hlen]; exact Nat.lt_succ_self _, by rw [List.length_map, hlen]; lia, ?_⟩)
            exact Inv55.mk (bump cnt bb) 0 (nn + 1) (nt + 1) mu.length (by rw [set_get hit, bump_out hb', List.map_set]) h2 (by lia) (Nat.succ_le_succ h4) (Nat.succ_le_succ h5)
          · have hb : ¬ (cnt.length : Int) ≤ bb := of_decide_eq_false hb
            have hb' : bb < cnt.length := by lia
            refine ⟨Ex_setitem ?_ (by with_unfolding_all rfl)⟩
            refine run_E hG tb55 (optK.mk h1 ⟨hlz, optK.mk (at_map cnt bb hb') ?_⟩)
            refine run_E hG tb55 (run_E hG tb55 ⟨_, _, bb, rfl, h1, rfl, by rw [List.length_map]; exact hb', by rw [List.length_map]; lia, ?_⟩)
            exact Inv55.mk (bump cnt bb) 0 (nn + 1) (nt + 1) idx (by rw [set_get h1, bump_in hb', List.map_set]) h2 (by lia) (Nat.succ_le_succ h4) (Nat.succ_le_succ h5)
        · have hend : wsGo (c :: w.drop (i + 1)) cnt bb nn nt = (cnt, bb, nn, nt) := by
            show (if c = 32 then _ else if c = 9 then _ else _) = _
            rw [if_neg (fun e => by subst e; cases h32), if_neg (fun e => by subst e; cases h9)]
          rw [hend] at h2
          exact .mk cnt bb nn nt idx mu _ h1 h2.symm (by lia) (by lia) (by lia)
  cases f with
  | brk => obtain ⟨v, m, e, _⟩ := p; cases e
  | cont => obtain ⟨v, m, e, _⟩ := p; cases e
  | ret v => obtain ⟨d, e, _⟩ := p; cases e
  | next =>
  obtain ⟨v, mu, ⟨cnt, bb, nn, nt, idx, mu, ch, hidx, hwf, hb1, hb2, hb3⟩, W9, hW9, ho9, st9⟩ := p
  have hx9 : s'.heap.get? x = some (instObj 100 dx) := st9.ext x _ hxT (kpDx_of X.k kx)
  have hod9 : s'.heap.get? dx = some od := st9.ext dx od hT (kpDx_self ..)
  have hn9 : s'.heap.Ns1 dx _ := ⟨od, es, ep, hod9, hdd, hks, hus, hfs⟩
  have st9' := st9.undx X.k
  have w1 := within_cons (name := "raw") (v := .str (S w) t2) (_root_.PySem.Within.nil)
  show wpAny _ _ (execs _ env) _ _ _
  refine step_attr hG b hW9 st9' rfl rfl rfl hx9 hxT hn9 w1 (by decide) so.n (by with_unfolding_all rfl) (by decide +kernel) (Ev_var (K := fun d => d = .int (nn : Nat)) 6 rfl rfl rfl (by decide +kernel)) fun v1 s10 d1 h10 tk10 _ e10 _ st10 hd10 hx10 hn10 hs10 => ?_
  have w2 := within_cons (name := "n") (v := v1) w1
  have st10' := st10.setDx (tk := tk10) b hW9 X hd10 (by refine upd_none ?_ rfl; decide +kernel) hs10
  refine step_attr hG b hW9 st10' rfl rfl rfl (hs10.extBut x _ hxd hx10) hxT hn10 w2 (by decide) so.nt (by with_unfolding_all rfl) (by decide +kernel) (Ev_var (K := fun d => d = .int (nt : Nat)) 7 rfl rfl rfl (by decide +kernel)) fun v2 s11 d2 h11 tk11 hd2 e11 i11 st11 hd11 hx11 hn11 hs11 => ?_
  subst hd2
  obtain ⟨tnt, rfl⟩ := i11.inv
  have w3 := within_cons (name := "nt") (v := .int (nt : Nat) tnt) w2
  have st11' := st11.setDx (tk := tk11) b hW9 X hd11 (by refine upd_none ?_ (upd_none ?_ rfl) <;> decide +kernel) hs11
  refine step_attr (K := fun d => d = .tup [.tup (cnt.map D.int), .int (bb : Nat)]) hG b hW9 st11' rfl rfl rfl (hs11.extBut x _ hxd hx11) hxT hn11 w3 (by decide) so.norm (by with_unfolding_all rfl) (by decide +kernel) ?_ fun v3 s12 d3 h12 tk12 hd3 e12 i12 st12 hd12 hx12 hn12 hs12 => ?_
  · refine Ev_tuple (EvL_cons ?_) rfl
    refine Ev_call_t 11 rfl (gt_tuple hG) ?_ rfl (by decide +kernel) (by decide +kernel) (fun _ => by with_unfolding_all rfl)
    refine EvL_cons (Ev_var 4 rfl rfl (EvL_nil ?_) (by decide +kernel))
    refine C_tuple hidx (by rw [List.length_map]; unfold sizeLine; lia) ?_
    refine EvL_cons (Ev_var 5 rfl rfl (EvL_nil ⟨show 2 ≤ sizeLine by decide, rfl⟩) (by decide +kernel))
  subst hd3
  have w4 := within_cons (name := "norm") (v := v3) w3
  have st12' := st12.setDx (tk := tk12) b hW9 X hd12 (by refine upd_none ?_ (upd_none ?_ (upd_none ?_ rfl)) <;> decide +kernel) hs12
  refine step_attr (K := fun _ => True) hG b hW9 st12' rfl rfl rfl (hs12.extBut x _ hxd hx12) hxT hn12 w4 (by decide) so.simple (by with_unfolding_all rfl) (by decide +kernel) ?_ fun v4 s13 d4 h13 tk13 _ e13 _ st13 hd13 hx13 hn13 hs13 => ?_
  · exact run_E hG tb55 (optK.mk hidx ⟨by rw [List.length_map]; lia, trivial⟩)
  refine wpAny_execs_nil ?_
  show R _ _
  have hdT13 : ∀ c o, c ≠ dx → s13.heap.get? c = some o → h13.get? c = some o := fun c o hc e => hs13.extBut c o hc e
  have ok13 : OkS G { s13 with heap := h13, toks := tk13 } := ⟨fun c o e => hdT13 c o (fun q => hg0 o (q ▸ e)) (st13.ok.base c o e), fun q hq => let ⟨ps, h, t⟩ := st13.ok.tab q hq; ⟨ps, hdT13 _ _ (Ne.symm (hT q hq)) h, t⟩, st13.ok.bare⟩
  have hos : s13.os = s.os := by rw [e13.os, e12.os, e11.os, e10.os, ho9, ho8, ho7, ho6]; exact (e3.os.trans e2.os).trans ho1
  refine hR _ ok13 hos (fun c o hc hcT e => hdT13 c o hc (st13.ext c o hcT (by rw [← hkp]; exact (if_neg hc).trans e))) ?_
  have i13 := i12
  obtain ⟨_, _, rfl, ht12, hl12⟩ := i12.inv
  rename_i tn vs12
  cases hl12 with | cons j1 r1 =>
  cases r1 with | cons j2 r2 =>
  cases r2
  cases j1 with | tup htc hlc =>
  rename_i tc cs
  cases j2 with | int _ ttr =>
  have htm : ∀ {h : Heap} {m : Str → Option Value} {c : Addr} {vs : Array Value}, h.Ns1 dx m → IsTup h c vs → c ≠ dx := fun hn ht e => by
    obtain ⟨o, es, ep, ho, hd, _⟩ := hn
    obtain ⟨o', ho', _, k, hd'⟩ := ht
    rw [e, ho] at ho'; cases ho'; rw [hd] at hd'; cases hd'
  have mv : ∀ {c : Addr} {vs : Array Value}, IsTup s12.heap c vs → IsTup h13 c vs := fun {c vs} ht => by
    have hne := htm hd12 ht
    have h1 : IsTup h12 c vs := let ⟨o, ho, r⟩ := ht; ⟨o, hs12.extBut c o hne ho, r⟩
    have h2 := tup_ext st12'.ok.tab e13.keep h1
    exact let ⟨o, ho, r⟩ := h2; ⟨o, hdT13 c o hne ho, r⟩
  rw [hwf]
  refine ⟨dx, _, _, tn, tc, tnt, ttr, cs.toArray, hdT13 x _ hxd hx13, Ne.symm hxd, hn13, ?_, ?_, mv ht12, mv htc, hlc.ints, fun y hy => ?_⟩
  · refine upd_ne ?_ upd_eq
    decide +kernel
  · refine upd_ne ?_ (upd_ne ?_ upd_eq) <;> decide +kernel
  · simp only [List.mem_cons, List.not_mem_nil, or_false] at hy
    rcases hy with rfl | rfl | rfl | rfl <;> (refine upd_none ?_ (upd_none ?_ (upd_none ?_ (upd_none ?_ (upd_none ?_ rfl)))) <;> decide +kernel)
end
section
open PySem PySem.W PyProof.Rows
set_option maxRecDepth 100000
set_option maxHeartbeats 1000000
set_option linter.unusedVariables false
open PySem.Calls
variable {G : GX} {n : Nat} {μ : List (List D)} {K : D → Prop}

variable {sc : Scope} {vals : List (Option D)}
structure MakeOk (K : Frag) : Prop where
  made : makesIn K 100 = true
  init : findIn K (.ref 100) "__init__" = some (some (.ref 55))
  fn : typeIn K (.ref 55) = some (.type "function")
  keep : keepIn K (.ref 100) = true
theorem makeOk (hG : Good G) : MakeOk G.K := by
  obtain ⟨P, hK⟩ := hG.k
  rw [hK]
  exact ⟨by kernel_rfl, by kernel_rfl, by kernel_rfl, by kernel_rfl⟩
theorem Ev_call_cls (hG : Good G) {func : Expr} {args : List Expr} {pos : Pos} (h : EvK G sc n vals μ func fun df => df = .raw (.ref 100) ∧ EvL G sc n vals μ args fun ds => CallK G n μ (.ref 100) ds K)
    (hn : noStar args = true)
    (he : ∀ env, eval (.Call func args [] pos) env = (do callWith pos (← eval func env) [] (backTo pos (starEach args env)) (backToKw pos (keywordEach [] env)))) :
    EvK G sc n vals μ (.Call func args [] pos) K := EvK.of fun A env W s o => by
  refine Call_ (h.use o fun vf s₁ df ⟨hf, hl⟩ e1 i1 => ?_) (he env)
  subst hf
  have hvf : vf = .ref 100 := by cases i1; rfl
  subst hvf
  rw [backTo_eq _ _ _ hn]
  have hpl : ((evalEach args env).map fun t => (false, t)).any (·.1) = false := by
    rw [List.any_eq_false]
    intro x hx
    obtain ⟨t, _, rfl⟩ := List.mem_map.mp hx
    exact Bool.false_ne_true
  have main : wpAny (model G.prog G.w) A (evalArgs (.ref 100) true ((evalEach args env).map fun t => (false, t)) []) (fun x s₂ => wpAny (model G.prog G.w) A (call (.ref 100) ([] ++ x.pos) x.kw) (fun v s' => ∃ d, K d ∧ Ext G s s' ∧ Is W s'.heap v d) No s₂ ∧ OkS G s₂) No s₁ :=
    evalArgs_of (hl.use (o.ext e1) fun vs s₂ ds hk e2 is => ⟨by
      have o2 := (o.ext e1).ext e2
      exact StK.use hk o2.2.1 o2.2.2.1 o2.2.2.2.2 is fun v s₃ d hK e3 i3 => ⟨d, hK, (e1.trans e2).trans e3, i3⟩, e2.ok⟩)
  refine callWith_of (P := G.K.In) ?_ (keeps_K (makeOk hG).keep) (wpAny_mono main (fun _ s₂ x => ⟨K_at x.2, x.1⟩) fun _ _ y => y)
  rw [hpl]; rfl
theorem C_make (hG : Good G) {w : List Nat} (hw : w.length ≤ 200) (h : K (.ws (wsF w).1 (wsF w).2.1 (wsF w).2.2.2)) : CallK G (n + 2) μ (.ref 100) [.str w] K := fun A W s vs hr ok hm hi => by
  obtain ⟨_, rfl, i1⟩ := hi.one
  obtain ⟨t, rfl⟩ := i1.inv
  have m := makeOk hG
  obtain ⟨hh, g, d, tk, os⟩ := s
  have X := K_at ok
  have keep : ∀ b o, hh.get? b = some o → ((hh.push emptyDict).push (instObj 100 hh.objs.size)).get? b = some o := fun b o e => Heap.get?_push_of_some _ (Heap.get?_push_of_some _ e)
  refine wpAny_call (make_core (makes_of X m.made) (looks_findIn X m.init) (fun self => bind_fn X self m.fn) (.inl rfl) ?_)
  have ex := Ext.of_keep (h' := (hh.push emptyDict).push (instObj 100 hh.objs.size)) (tk := tk) ok keep
  have ltT : ∀ q ∈ G.T, q.2 < hh.objs.size := fun q hq => let ⟨ps, e, _⟩ := ok.tab q hq; Heap.lt_size e
  refine init_code (n := n) (W := W) (μ := μ) (x := hh.objs.size + 1) (dx := hh.objs.size) hG ?_ ex.ok (hm.ext ok.tab ex.keep) (by heap_get) (by heap_get) (Nat.succ_ne_self _) (fun o e => absurd (Heap.lt_size (ok.base _ o e)) (Nat.lt_irrefl _)) (fun hc => ?_)
    (fun q hq e => absurd (ltT q hq) (by rw [← e]; exact Nat.lt_irrefl _)) (fun q hq e => absurd (ltT q hq) (by rw [← e]; exact Nat.not_lt.mpr (Nat.le_succ _))) hw fun s' ok' os' kp' ws' => ?_
  · have hu : ∀ as, (A.under (.builtin "type.__call__" as)).units = A.units + 1 := fun as => by kernel_rfl
    have hd : (A.under (.builtin "type.__call__" ⟨[.ref 100, .str (S w) t], []⟩)).depth = A.depth + 1 := congrArg (A.depth + ·) (show Code.weight (.builtin "type.__call__" ⟨[.ref 100, .str (S w) t], []⟩) = 1 by kernel_rfl)
    have hh : ∀ as, (A.under (.builtin "type.__call__" as)).handled = A.handled := fun as => by kernel_rfl
    exact ⟨(hh _).trans hr.hd, by have := hr.dp; rw [hd]; lia, by have := hr.un; rw [hu]; lia⟩
  · obtain ⟨vs, q, e⟩ := hm.pl _ hc
    exact absurd (Heap.lt_size e) (Nat.lt_irrefl _)
  · refine ⟨rfl, _, h, ⟨fun b o hT e => kp' b o (fun q => ?_) hT (keep b o e), os', ok'⟩, .ws ws'⟩
    exact absurd (Heap.lt_size e) (by rw [q]; exact Nat.lt_irrefl _)
end
section
open PySem PySem.W PyProof.Rows
set_option maxRecDepth 100000
set_option maxHeartbeats 1000000
set_option linter.unusedVariables false
open PySem.Calls
variable {G : GX} {n : Nat} {μ : List (List D)} {K : D → Prop}
/-! what two lines' beginnings are: columns and runs -/
theorem ws_app : ∀ (l t : List Nat) (cnt : List Int) (b nn nt : Nat), (∀ c ∈ l, c = 32 ∨ c = 9) → (∀ c, t.head? = some c → c ≠ 32 ∧ c ≠ 9) → wsGo (l ++ t) cnt b nn nt = wsGo l cnt b nn nt
  | [], [], _, _, _, _, _, _ => rfl
  | [], c :: t, cnt, b, nn, nt, _, h => by
    have := h c rfl
    show (if c = 32 then _ else if c = 9 then _ else (cnt, b, nn, nt)) = _
    rw [if_neg this.1, if_neg this.2]; rfl
  | c :: l, t, cnt, b, nn, nt, hl, ht => by
    have ih := fun cnt b nn nt => ws_app l t cnt b nn nt (fun x hx => hl x (List.mem_cons_of_mem _ hx)) ht
    show (if c = 32 then wsGo (l ++ t) cnt (b + 1) (nn + 1) nt else if c = 9 then wsGo (l ++ t) (bump cnt b) 0 (nn + 1) (nt + 1) else (cnt, b, nn, nt)) = (if c = 32 then wsGo l cnt (b + 1) (nn + 1) nt else if c = 9 then wsGo l (bump cnt b) 0 (nn + 1) (nt + 1) else (cnt, b, nn, nt))
    rw [ih, ih]
noncomputable def leadL (rows : List Nat) (rest : Nat) : List Nat := (rows.map fun r => List.replicate r 32 ++ [9]).flatten ++ List.replicate rest 32
theorem lead_mem (rows : List Nat) (rest : Nat) : ∀ c ∈ leadL rows rest, c = 32 ∨ c = 9 := by
  intro c hc
  unfold leadL at hc
  rcases List.mem_append.mp hc with h | h
  · obtain ⟨l, hl, hc⟩ := List.mem_flatten.mp h
    obtain ⟨r, _, rfl⟩ := List.mem_map.mp hl
    rcases List.mem_append.mp hc with h | h
    · exact .inl (List.eq_of_mem_replicate h)
    · exact .inr (List.mem_singleton.mp h)
  · exact .inl (List.eq_of_mem_replicate h)
noncomputable def allRows : List (List Nat) := [[]] ++ (List.range 4).map (fun a => [a]) ++ ((List.range 4).map fun a => (List.range 4).map fun b => [a, b]).flatten
theorem rows_mem {rows : List Nat} (h : rows.length ≤ 2) (hr : ∀ r ∈ rows, r < 4) : rows ∈ allRows := by
  match rows, h with
  | [], _ => decide
  | [a], _ =>
    have := hr a List.mem_cons_self
    match a, this with
    | 0, _ => decide
    | 1, _ => decide
    | 2, _ => decide
    | 3, _ => decide
  | [a, b], _ =>
    have h1 := hr a List.mem_cons_self
    have h2 := hr b (by simp)
    unfold allRows
    refine List.mem_append_right _ (List.mem_flatten.mpr ⟨_, List.mem_map.mpr ⟨a, List.mem_range.mpr h1, rfl⟩, List.mem_map.mpr ⟨b, List.mem_range.mpr h2, rfl⟩⟩)
noncomputable def intsL (rows : List Nat) (rest : Nat) : List Int := (rows ++ [rest]).map Int.ofNat
noncomputable def chkLead (rows : List Nat) (rest : Nat) : Bool :=
  let w := wsF (leadL rows rest)
  let lr := lrF w.1 w.2.1
  decide (w.1.length ≤ 19) && w.1.all (fun c => decide (0 ≤ c) && decide (c ≤ 100)) && decide (w.2.1 ≤ 18) && decide (w.2.2.2 ≤ 100) && (intsL rows rest).contains lr && (intsL rows rest).all (fun x => decide (x ≤ lr)) &&
    (List.range 10).all fun s => indF w.1 w.2.1 w.2.2.2 ((s + 1 : Nat) : Int) == (colF (s + 1) (leadL rows rest) : Int)
theorem chk_all : (allRows.all fun rows => (List.range 10).all fun rest => chkLead rows rest) = true := by decide +kernel

theorem lead_ok {rows : List Nat} {rest : Nat} (hr : rows.length ≤ 2 ∧ ∀ r ∈ rows, r < 4) (hs : rest < 10) {t : List Nat} (ht : ∀ c, t.head? = some c → c ≠ 32 ∧ c ≠ 9) {w : List Int × Nat × Nat × Nat} (hw : wsF (leadL rows rest ++ t) = w) :
    CntOk w.1 w.2.1 w.2.2.2 ∧ ((w.2.1 : Nat) : Int) ≤ 18 ∧ w.1.length ≤ 19 ∧ lrF w.1 w.2.1 ∈ intsL rows rest ∧ (∀ x ∈ intsL rows rest, x ≤ lrF w.1 w.2.1) ∧ ∀ s, s < 10 → indF w.1 w.2.1 w.2.2.2 ((s + 1 : Nat) : Int) = (colF (s + 1) (leadL rows rest) : Int) := by
  have e : wsF (leadL rows rest) = w := by rw [← hw]; exact (ws_app _ t [] 0 0 0 (lead_mem rows rest) ht).symm
  have h := List.all_eq_true.mp chk_all rows (rows_mem hr.1 hr.2)
  have h := List.all_eq_true.mp h rest (List.mem_range.mpr hs)
  unfold chkLead at h
  rw [e] at h
  dsimp only at h
  simp only [Bool.and_eq_true, decide_eq_true_iff, List.all_eq_true, List.contains_iff_mem, beq_iff_eq, List.mem_range] at h
  obtain ⟨⟨⟨⟨⟨⟨h1, h2⟩, h3⟩, h4⟩, h5⟩, h6⟩, h7⟩ := h
  exact ⟨⟨by lia, h2, ⟨by lia, by lia⟩, by lia, by lia⟩, by lia, h1, h5, h6, h7⟩
theorem best_at (ns : List Int) : ∀ m, m < ns.length → argBest (fun i j => decide (ns.getD j 0 < ns.getD i 0)) m ≤ m ∧ ∀ j, j ≤ m → ns.getD j 0 ≤ ns.getD (argBest (fun i j => decide (ns.getD j 0 < ns.getD i 0)) m) 0
  | 0, _ => ⟨Nat.le_refl _, fun j hj => by rw [Nat.le_zero.mp hj]; exact Int.le_refl _⟩
  | m + 1, h => by
    have ih := best_at ns m (by omega)
    show (if decide (ns.getD (argBest _ m) 0 < ns.getD (m + 1) 0) then m + 1 else argBest _ m) ≤ _ ∧ ∀ j, _ → _ ≤ ns.getD (if decide (ns.getD (argBest _ m) 0 < ns.getD (m + 1) 0) then m + 1 else argBest _ m) 0
    by_cases hc : ns.getD (argBest (fun i j => decide (ns.getD j 0 < ns.getD i 0)) m) 0 < ns.getD (m + 1) 0
    · rw [if_pos (decide_eq_true hc)]
      refine ⟨Nat.le_refl _, fun j hj => ?_⟩
      rcases Nat.lt_or_eq_of_le hj with h | rfl
      · have := ih.2 j (by omega); omega
      · exact Int.le_refl _
    · rw [if_neg (by rw [decide_eq_true_iff]; exact hc)]
      refine ⟨by omega, fun j hj => ?_⟩
      rcases Nat.lt_or_eq_of_le hj with h | rfl
      · exact ih.2 j (by omega)
      · omega
theorem best_max {ns : List Int} (hne : ns ≠ []) : bestD (fun i j => decide (ns.getD j 0 < ns.getD i 0)) ns ∈ ns ∧ ∀ x ∈ ns, x ≤ bestD (fun i j => decide (ns.getD j 0 < ns.getD i 0)) ns := by
  have hl : 0 < ns.length := List.length_pos_iff.mpr hne
  have h := best_at ns (ns.length - 1) (by omega)
  unfold bestD
  refine ⟨?_, fun x hx => ?_⟩
  · have hb : argBest (fun i j => decide (ns.getD j 0 < ns.getD i 0)) (ns.length - 1) < ns.length := by omega
    rw [List.getD_eq_getElem?_getD, List.getElem?_eq_getElem hb]
    exact List.getElem_mem hb
  · obtain ⟨j, hj, rfl⟩ := List.mem_iff_getElem.mp hx
    have := h.2 j (by omega)
    rw [List.getD_eq_getElem?_getD, List.getElem?_eq_getElem hj] at this
    exact this
theorem most_eq {r1 r2 : List Nat} {a b : Nat} {l1 l2 : Int} (h1 : l1 ∈ intsL r1 a) (h1' : ∀ x ∈ intsL r1 a, x ≤ l1) (h2 : l2 ∈ intsL r2 b) (h2' : ∀ x ∈ intsL r2 b, x ≤ l2) {ns : List Int} (hn : ns = (r1 ++ r2 ++ [a, b]).map Int.ofNat) :
    bestD (fun i j => decide (ns.getD j 0 < ns.getD i 0)) ns = if l2 > l1 then l2 else l1 := by
  have hm := best_max (ns := ns) (by rw [hn]; simp)
  have mem : ∀ x, x ∈ ns ↔ x ∈ intsL r1 a ∨ x ∈ intsL r2 b := by
    intro x
    rw [hn]
    unfold intsL
    simp only [List.map_append, List.mem_append, List.map_cons, List.map_nil, List.mem_cons, List.not_mem_nil, or_false]
    constructor
    · rintro ((h | h) | h | h)
      · exact .inl (.inl h)
      · exact .inr (.inl h)
      · exact .inl (.inr h)
      · exact .inr (.inr h)
    · rintro ((h | h) | h | h)
      · exact .inl (.inl h)
      · exact .inr (.inl h)
      · exact .inl (.inr h)
      · exact .inr (.inr h)
  have g1 := hm.2 l1 ((mem _).mpr (.inl h1))
  have g2 := hm.2 l2 ((mem _).mpr (.inr h2))
  rcases (mem _).mp hm.1 with h | h
  · have := h1' _ h
    split <;> omega
  · have := h2' _ h
    split <;> omega
theorem rows_mem1 {t : Int → Int → Bool} {i1 i2 : Int → Int} {m : Nat} {k : Int} (h : k ∈ rowsF t i1 i2 m) : 1 ≤ k ∧ k ≤ m := by
  unfold rowsF at h
  obtain ⟨j, hj, rfl⟩ := List.mem_map.mp (List.mem_filter.mp h).1
  have := List.mem_range.mp hj
  lia
theorem rows_nodup (t : Int → Int → Bool) (i1 i2 : Int → Int) (m : Nat) : (rowsF t i1 i2 m).Nodup := by
  unfold rowsF
  refine List.Nodup.sublist List.filter_sublist ?_
  rw [List.Nodup, List.pairwise_map]
  exact List.Pairwise.imp (fun h e => h (by lia)) (List.nodup_range (n := m))
theorem rows_congr {t : Int → Int → Bool} {i1 i2 j1 j2 : Int → Int} {m : Nat} (h : ∀ s, s < m → i1 (1 + (s : Int)) = j1 (1 + (s : Int)) ∧ i2 (1 + (s : Int)) = j2 (1 + (s : Int))) : rowsF t i1 i2 m = rowsF t j1 j2 m := by
  unfold rowsF
  refine List.filter_congr fun x hx => ?_
  obtain ⟨s, hs, rfl⟩ := List.mem_map.mp hx
  have := h s (List.mem_range.mp hs)
  rw [this.1, this.2]
end
section
open PySem PySem.W PyProof.Rows
set_option maxRecDepth 100000
set_option maxHeartbeats 1000000
set_option linter.unusedVariables false
open PySem.Calls
variable {G : GX} {n : Nat} {μ : List (List D)} {K : D → Prop}
theorem okT_some : ∀ (w : List Tk) (r : List Part), (∀ t ∈ w, t.ok = true) → okT r = true → okT (w.map some ++ r) = true
  | [], r, _, h => h
  | t :: w, r, h, hr => by
    show (t.ok && okT (w.map some ++ r)) = true
    rw [h t List.mem_cons_self, okT_some w r (fun x hx => h x (List.mem_cons_of_mem _ hx)) hr]; rfl
theorem okT_star (wk : List Tk) (hk : ∀ t ∈ wk, t.ok = true) : ∀ ws : List (List Tk), (∀ w ∈ ws, ∀ t ∈ w, t.ok = true) → okT (starP ws wk) = true
  | [], _ => by
    have := okT_some wk [] hk rfl
    rw [List.append_nil] at this; exact this
  | w :: ws, h => by
    have e : starP (w :: ws) wk = w.map some ++ (none :: starP ws wk) := by
      unfold starP
      rw [List.map_cons, List.flatten_cons]; simp
    rw [e]
    exact okT_some w _ (h w List.mem_cons_self) (okT_star wk hk ws fun v hv => h v (List.mem_cons_of_mem _ hv))
theorem inS_len (t : Tk) : t.inS.length ≤ 6 := by
  unfold Tk.inS
  split <;> exact Nat.le_of_ble_eq_true rfl
theorem outS_len (t : Tk) : t.outS.length ≤ 6 := by
  unfold Tk.outS
  split
  · exact Nat.le_of_ble_eq_true rfl
  · exact Nat.le_of_ble_eq_true rfl
  · exact Nat.le_of_ble_eq_true rfl
  · exact inS_len _
theorem pat_len : ∀ ps : List Part, (patS ps).length ≤ 6 * ps.length
  | [] => Nat.le_refl _
  | p :: r => by
    rw [patS_cons, List.length_append, List.length_cons]
    have h1 := pat_len r
    have h2 : (partS p).length ≤ 6 := by
      cases p with
      | none => show 1 ≤ 6; decide
      | some t => exact inS_len t
    lia
theorem rt_len (t : RT) : t.s.length ≤ 6 := by
  cases t with
  | itm t => exact outS_len t
  | _ => exact Nat.le_of_ble_eq_true rfl
theorem rS_len : ∀ l : List RT, (rS l).length ≤ 6 * l.length
  | [] => Nat.le_refl _
  | p :: r => by
    show (p.s ++ rS r).length ≤ _
    rw [List.length_append, List.length_cons]
    have h1 := rS_len r
    have h2 := rt_len p
    lia
theorem go_len : ∀ (ps : List Part), (goR false ps).length ≤ 2 * ps.length ∧ (goR true ps).length ≤ 2 * ps.length
  | [] => ⟨Nat.le_refl _, Nat.le_refl _⟩
  | some t :: r => by
    have h := go_len r
    refine ⟨?_, ?_⟩ <;> show _ + 1 ≤ _ <;> rw [List.length_cons] <;> lia
  | none :: r => by
    have h := go_len r
    have hs : (starR r (goR true r) (goR false r)).length ≤ 2 * r.length + 1 := by
      unfold starR
      split
      · exact Nat.le_add_left _ _
      · split <;> rw [List.length_cons] <;> lia
    refine ⟨?_, ?_⟩
    · show (starR r (goR true r) (goR false r)).length ≤ _
      rw [List.length_cons]; lia
    · show (starR r (goR true r) (goR false r)).length + 1 ≤ _
      rw [List.length_cons]; lia
theorem colP_len : ∀ (b : Bool) (ps : List Part), (colP b ps).length ≤ ps.length
  | _, [] => Nat.le_refl _
  | b, some t :: r => Nat.succ_le_succ (colP_len false r)
  | true, none :: r => Nat.le_succ_of_le (colP_len true r)
  | false, none :: r => Nat.succ_le_succ (colP_len true r)
theorem small {ps : List Part} (h : ps.length ≤ 75) : ps.length ≤ 200 ∧ (patS ps).length ≤ 900 ∧ (rS (rtsOf ps)).length ≤ 900 := by
  have h1 := pat_len ps
  have h2 := rS_len (rtsOf ps)
  have h3 : (rtsOf ps).length ≤ 2 * (colP false ps).length := (go_len _).1
  have h4 := colP_len false ps
  lia
theorem okCh_dg {d : Nat} (h : isD d) : (Tk.chr d).ok = true := by
  show okCh d = true
  unfold okCh isD at *
  simp only [Bool.or_eq_true, Bool.and_eq_true, decide_eq_true_iff]
  exact .inl (.inr h)
theorem word_ok {b c : Tk} (hb : b.ok = true) (hc : c.ok = true) {k : Int} (hk : NumOk k) : (wordT b c k).length ≤ 4 ∧ ∀ t ∈ wordT b c k, t.ok = true := by
  have hl := str_len hk
  refine ⟨by unfold wordT; simp; lia, fun t ht => ?_⟩
  unfold wordT at ht
  rcases List.mem_cons.mp ht with rfl | ht
  · exact hb
  rcases List.mem_append.mp ht with ht | ht
  · obtain ⟨d, hd, rfl⟩ := List.mem_map.mp ht
    exact okCh_dg ((str_dg hk).2 d hd)
  · rw [List.mem_singleton.mp ht]; exact hc
theorem star_len (wk : List Tk) : ∀ ws : List (List Tk), (∀ w ∈ ws, w.length ≤ 4) → (starP ws wk).length ≤ 5 * ws.length + wk.length
  | [], _ => by show (wk.map some).length ≤ _; rw [List.length_map]; lia
  | w :: ws, h => by
    have e : starP (w :: ws) wk = w.map some ++ (none :: starP ws wk) := by
      unfold starP
      rw [List.map_cons, List.flatten_cons]; simp
    have h1 := star_len wk ws fun v hv => h v (List.mem_cons_of_mem _ hv)
    have h2 := h w List.mem_cons_self
    rw [e, List.length_append, List.length_map, List.length_cons, List.length_cons]; lia
theorem many_ok {b c : Tk} (hb : b.ok = true) (hc : c.ok = true) {ks : List Int} (hk : ∀ k ∈ ks, NumOk k) (hn : ks.length ≤ 12) : okT (manyP b c ks) = true ∧ (manyP b c ks).length ≤ 75 := by
  unfold manyP
  split
  · exact ⟨rfl, by decide⟩
  · have hw : ∀ w ∈ ks.map (wordT b c), w.length ≤ 4 ∧ ∀ t ∈ w, t.ok = true := fun w hw => by
      obtain ⟨k, hkk, rfl⟩ := List.mem_map.mp hw
      exact word_ok hb hc (hk k hkk)
    refine ⟨okT_star [] (fun t ht => absurd ht List.not_mem_nil) _ fun w h => (hw w h).2, ?_⟩
    have := star_len [] (ks.map (wordT b c)) fun w h => (hw w h).1
    rw [List.length_map, List.length_nil] at this
    rw [List.length_cons]; lia
theorem one_many (b c : Tk) (k : Int) : oneP b c k = manyP b c [k] := by
  unfold oneP manyP
  rw [if_neg (List.cons_ne_nil _ _)]; rfl
noncomputable def wordS (b c : Tk) (k : Int) : List Nat := patS ((wordT b c k).map some)
theorem patS_chr : ∀ u : List Nat, patS ((u.map Tk.chr).map some) = u
  | [] => rfl
  | a :: u => by
    rw [List.map_cons, List.map_cons, patS_cons, patS_chr u]; rfl
theorem word_s (b c : Tk) (k : Int) : wordS b c k = b.inS ++ (strI k ++ c.inS) := by
  unfold wordS wordT
  rw [List.map_cons, patS_cons, List.map_append, patS_app, patS_chr]
  show b.inS ++ (strI k ++ patS [some c]) = _
  rw [show patS [some c] = c.inS from by unfold patS; simp [partS]]
theorem many_s (b c : Tk) (ks : List Int) : patS (manyP b c ks) = [42] ++ joinL [42] (ks.map (wordS b c)) ++ [42] := by
  unfold manyP
  cases ks with
  | nil => rfl
  | cons k r =>
    rw [if_neg (List.cons_ne_nil _ _), patS_cons]
    have aux : ∀ r : List Int, patS (none :: starP (r.map (wordT b c)) []) = ((r.map (wordS b c)).map fun y => [42] ++ y).flatten ++ [42] := by
      intro r
      induction r with
      | nil => rfl
      | cons k r ih =>
        have e : starP ((k :: r).map (wordT b c)) [] = (wordT b c k).map some ++ (none :: starP (r.map (wordT b c)) []) := by
          unfold starP
          rw [List.map_cons, List.map_cons, List.flatten_cons]; simp
        rw [patS_cons, e, patS_app, ih, List.map_cons, List.map_cons, List.flatten_cons]
        show [42] ++ (wordS b c k ++ _) = _
        simp
    have e : starP ((k :: r).map (wordT b c)) [] = (wordT b c k).map some ++ (none :: starP (r.map (wordT b c)) []) := by
      unfold starP
      rw [List.map_cons, List.map_cons, List.flatten_cons]; simp
    rw [e, patS_app, aux]
    show [42] ++ (wordS b c k ++ _) = [42] ++ (wordS b c k ++ _) ++ [42]
    simp
theorem fmt_len {t : List Int} (ht : ∀ j ∈ t, NumOk j) (hn : t.length ≤ 12) : (fmtF t).length ≤ 70 := by
  rw [fmt_eq]
  have h1 : (pluS t.length).length ≤ 1 := by unfold pluS; split <;> decide
  have h2 : ∀ t : List Int, (∀ j ∈ t, NumOk j) → (joinL [44, 32] (t.map strI)).length ≤ 4 * t.length := by
    have aux : ∀ t : List Int, (∀ j ∈ t, NumOk j) → (((t.map strI).map fun y => [44, 32] ++ y).flatten).length ≤ 4 * t.length := by
      intro t
      induction t with
      | nil => intro _; exact Nat.le_refl _
      | cons a r ih =>
        intro h
        have h1 := ih fun j hj => h j (List.mem_cons_of_mem _ hj)
        have h2 := str_len (h a List.mem_cons_self)
        rw [List.map_cons, List.map_cons, List.flatten_cons, List.length_append, List.length_append, show (a :: r).length = r.length + 1 from rfl]
        show 2 + _ + _ ≤ _
        lia
    intro t h
    cases t with
    | nil => exact Nat.le_refl _
    | cons a r =>
      have h1 := aux r fun j hj => h j (List.mem_cons_of_mem _ hj)
      have h2 := str_len (h a List.mem_cons_self)
      show (strI a ++ _).length ≤ _
      rw [List.length_append, show (a :: r).length = r.length + 1 from rfl]; lia
  have h3 := h2 t ht
  have h4 : tabS.length = 11 := rfl
  simp only [List.length_append, List.length_cons]
  lia
theorem range_all {α : Type} : ∀ l : List α, (List.range l.length).filterMap (l[·]?) = l
  | [] => rfl
  | a :: l => by
    rw [List.length_cons, List.range_succ_eq_map, List.filterMap_cons]
    show a :: _ = _
    rw [List.filterMap_map]
    congr 1
    exact range_all l
theorem fm_congr {α β : Type} {f g : α → Option β} : ∀ (l : List α), (∀ x ∈ l, f x = g x) → l.filterMap f = l.filterMap g
  | [], _ => rfl
  | a :: l, h => by
    rw [List.filterMap_cons, List.filterMap_cons, h a List.mem_cons_self, fm_congr l fun x hx => h x (List.mem_cons_of_mem _ hx)]
theorem pick_rev {α : Type} (l : List α) : pickD l none none (some (-1)) = l.reverse := by
  unfold pickD
  have e : sliceBounds none none (some (-1)) l.length = ((l.length : Int) - 1, -1, -1) := rfl
  rw [e]
  unfold sliceRange
  dsimp only
  have hc : (if (-1 : Int) > 0 then (if (l.length : Int) - 1 < -1 then (-1 - ((l.length : Int) - 1) + -1 - 1) / -1 else 0) else if (l.length : Int) - 1 > -1 then ((l.length : Int) - 1 - -1 - -1 - 1) / (- -1) else 0).toNat = l.length := by
    rw [if_neg (by decide)]
    split
    · rw [show (-(-1) : Int) = 1 from rfl, Int.ediv_one]; lia
    · lia
  rw [hc, List.filterMap_map]
  have h2 : (List.range l.length).filterMap ((l[·]?) ∘ fun k : Nat => ((l.length : Int) - 1 + -1 * (k : Int)).toNat) = (List.range l.reverse.length).filterMap (l.reverse[·]?) := by
    rw [List.length_reverse]
    refine fm_congr _ fun k hk => ?_
    have hk := List.mem_range.mp hk
    show l[((l.length : Int) - 1 + -1 * (k : Int)).toNat]? = l.reverse[k]?
    rw [List.getElem?_reverse hk]
    congr 1
    lia
  rw [h2, range_all]
end
section
open PySem PySem.W PyProof.Rows
set_option maxRecDepth 100000
set_option maxHeartbeats 1000000
set_option linter.unusedVariables false
open PySem.Calls
variable {G : GX} {n : Nat} {μ : List (List D)} {K : D → Prop}
theorem slice2 (x y : D) : ∀ c : Nat, c ≤ 2 → pySlice [x, y] none (some (c : Int)) = [x, y].take c
  | 0, _ => rfl
  | 1, _ => rfl
  | 2, _ => rfl
  | c + 3, h => by lia
theorem take2 (a b c : Nat) (ha : a < 4) (hb : b < 4) : (([a, b].take c).length ≤ 2 ∧ ∀ r ∈ [a, b].take c, r < 4) ∧ [D.int a, D.int b].take c = ([a, b].take c).map natD := by
  refine ⟨⟨by rw [List.length_take]; exact Nat.min_le_right _ _, fun r hr => ?_⟩, by show ([a, b].map natD).take c = _; rw [List.map_take]⟩
  have := List.mem_of_mem_take hr
  rcases List.mem_cons.mp this with rfl | h
  · exact ha
  · rw [List.mem_singleton.mp h]; exact hb
theorem rows_of (a b c : Int) (ha : 0 ≤ a ∧ a < 4) (hb : 0 ≤ b ∧ b < 4) (hc : 0 ≤ c ∧ c ≤ 2) : ∃ r : List Nat, (r.length ≤ 2 ∧ ∀ x ∈ r, x < 4) ∧ pySlice [D.int a, D.int b] none (some c) = r.map natD := by
  obtain ⟨a, rfl⟩ := Int.eq_ofNat_of_zero_le ha.1
  obtain ⟨b, rfl⟩ := Int.eq_ofNat_of_zero_le hb.1
  obtain ⟨c, rfl⟩ := Int.eq_ofNat_of_zero_le hc.1
  have h := take2 a b c (by lia) (by lia)
  exact ⟨_, h.1, by rw [slice2 _ _ c (by lia)]; exact h.2⟩
theorem mod_in {a m : Int} (hm : 0 < m) : 0 ≤ a.fmod m ∧ a.fmod m < m := ⟨Int.fmod_nonneg_of_pos a hm, Int.fmod_lt_of_pos a hm⟩
theorem nat_of {a : Int} {m : Nat} (h : 0 ≤ a ∧ a < m) : ∃ k : Nat, k < m ∧ a = (k : Int) := by
  obtain ⟨k, rfl⟩ := Int.eq_ofNat_of_zero_le h.1
  exact ⟨k, by lia, rfl⟩
theorem rep_oneN (k a : Nat) : (List.replicate k [a]).flatten = List.replicate k a := by
  induction k with
  | zero => rfl
  | succ k ih => rw [List.replicate_succ, List.flatten_cons, ih, List.replicate_succ]; rfl
noncomputable def rowS (d : D) : Option D := match d with
  | .int k => some (.str (List.replicate k.toNat 32 ++ [9]))
  | _ => none
theorem rows_map (r : List Nat) : (r.map natD).filterMap rowS = (r.map fun r => List.replicate r 32 ++ [9]).map D.str := by
  induction r with
  | nil => rfl
  | cons k r ih => rw [List.map_cons, List.map_cons, List.map_cons, List.filterMap_cons]; show D.str _ :: _ = _; rw [ih]; rfl
theorem lead_len {r : List Nat} {a : Nat} (hr : r.length ≤ 2 ∧ ∀ x ∈ r, x < 4) (ha : a < 10) : (leadL r a).length ≤ 20 ∧ (r.map fun r => List.replicate r 32 ++ [9]).flatten.length ≤ 10 := by
  have h : ∀ r : List Nat, (∀ x ∈ r, x < 4) → (r.map fun r => List.replicate r 32 ++ [9]).flatten.length ≤ 4 * r.length := by
    intro r
    induction r with
    | nil => intro _; exact Nat.le_refl _
    | cons k r ih =>
      intro h
      have h1 := ih fun x hx => h x (List.mem_cons_of_mem _ hx)
      have h2 := h k List.mem_cons_self
      rw [List.map_cons, List.flatten_cons, List.length_append, List.length_append, List.length_replicate, show (k :: r).length = r.length + 1 from rfl]
      show k + 1 + _ ≤ _
      lia
  have := h r hr.2
  unfold leadL
  rw [List.length_append, List.length_replicate]
  lia
noncomputable def tail1 : Nat → List Nat
  | 0 => [120]
  | 1 => []
  | _ => [10, 32]
noncomputable def tail2 : Nat → List Nat
  | 0 => []
  | 1 => [35, 32]
  | _ => [120, 9]
theorem tail1_ok (i : Nat) : ∀ c, (tail1 i).head? = some c → c ≠ 32 ∧ c ≠ 9 := by
  intro c h
  unfold tail1 at h
  split at h <;> simp at h <;> lia
theorem tail2_ok (i : Nat) : ∀ c, (tail2 i).head? = some c → c ≠ 32 ∧ c ≠ 9 := by
  intro c h
  unfold tail2 at h
  split at h <;> simp at h <;> lia
theorem tail_len (i : Nat) : (tail1 i).length ≤ 2 ∧ (tail2 i).length ≤ 2 := by
  unfold tail1 tail2
  constructor <;> split <;> decide
theorem menu3 {α : Type} (f : Nat → α) : ∀ i : Nat, i < 3 → atD [f 0, f 1, f 2] (i : Int) = some (f i)
  | 0, _ => rfl
  | 1, _ => rfl
  | 2, _ => rfl
  | i + 3, h => by lia
/-- the row of a column -/
noncomputable def colD (f s : List Nat) (d : D) : Option D := match d with
  | .int k => some (.tup [.int k, .int (colF k.toNat f : Nat), .int (colF k.toNat s : Nat)])
  | _ => none
noncomputable def colI (f : List Nat) (k : Int) : Int := (colF k.toNat f : Nat)
noncomputable def pickT (t : Int → Int → Bool) (d : D) : Option D := match d with
  | .tup [.int k, .int a, .int b] => if t a b then some (.int k) else none
  | _ => none
noncomputable def rowT (f s : List Nat) (k : Int) : D := .tup [.int k, .int (colI f k), .int (colI s k)]
theorem cols_map (f s : List Nat) (m : Nat) : (rngL 1 1 m).filterMap (colD f s) = ((List.range m).map fun j : Nat => (1 : Int) + j).map (rowT f s) := by
  unfold rngL
  induction m with
  | zero => rfl
  | succ m ih =>
    rw [List.range_succ, List.map_append, List.filterMap_append, ih, List.map_append, List.map_append]
    congr 1
    show (List.filterMap (colD f s) [D.int (1 + (m : Int) * 1)]) = [rowT f s (1 + (m : Int))]
    rw [Int.mul_one]; rfl
theorem pick_map (t : Int → Int → Bool) (f s : List Nat) (l : List Int) : (l.map (rowT f s)).filterMap (pickT t) = (l.filter fun k => t (colI f k) (colI s k)).map D.int := by
  induction l with
  | nil => rfl
  | cons k l ih =>
    rw [List.map_cons, List.filterMap_cons, List.filter_cons]
    have e : pickT t (rowT f s k) = if t (colI f k) (colI s k) then some (D.int k) else none := rfl
    rw [e]
    by_cases h : t (colI f k) (colI s k) = true
    · rw [if_pos h, if_pos h, List.map_cons, ← ih]
    · rw [if_neg h, if_neg h, ← ih]
noncomputable def wordK (b c : Tk) (d : D) : Option D := match d with
  | .int k => some (.str (wordS b c k))
  | _ => none
theorem wordK_one (b c : Tk) (k : Int) : wordK b c (.int k) = some (.str (wordS b c k)) := rfl
theorem wordK_list (b c : Tk) : ∀ l : List Nat, (l.map fun i : Nat => D.int (0 + (i : Int) * 1)).filterMap (wordK b c) = l.map fun j : Nat => D.str (wordS b c j)
  | [] => rfl
  | i :: l => by
    rw [List.map_cons, List.filterMap_cons, wordK_one, wordK_list b c l, List.map_cons, show (0 : Int) + (i : Int) * 1 = (i : Int) by lia]
theorem wordK_map (b c : Tk) (m : Nat) : (rngL 0 1 m).filterMap (wordK b c) = (List.range m).map fun j : Nat => D.str (wordS b c j) := wordK_list b c _
theorem str_nat_inj {b c : Tk} {i j : Nat} (hi : i < 12) (hj : j < 12) (e : wordS b c i = wordS b c j) : i = j := by
  rw [word_s, word_s] at e
  have e := List.append_cancel_right (List.append_cancel_left e)
  have := str_inj (k := (i : Int)) (j := (j : Int)) ⟨by lia, by lia⟩ ⟨by lia, by lia⟩ e
  lia
/-- the pieces of a word, found by the word -/
noncomputable def pieceK (b c : Tk) (d : D) : Option D := match d with
  | .str x => open Classical in if h : ∃ j : Nat, j < 12 ∧ x = wordS b c j then some (piecesD (piecesOf (manyP b c [(h.choose : Int)]))) else none
  | _ => none
theorem pieceK_at {b c : Tk} {j : Nat} (hj : j < 12) : pieceK b c (.str (wordS b c j)) = some (piecesD (piecesOf (manyP b c [(j : Int)]))) := by
  have h : ∃ i : Nat, i < 12 ∧ wordS b c j = wordS b c i := ⟨j, hj, rfl⟩
  have e := str_nat_inj hj h.choose_spec.1 h.choose_spec.2
  show (open Classical in if h : ∃ i : Nat, i < 12 ∧ wordS b c j = wordS b c i then _ else _) = _
  rw [dif_pos h, ← e]
theorem pieceK_map (b c : Tk) (m : Nat) (hm : m ≤ 12) : ((List.range m).map fun j : Nat => D.str (wordS b c j)).filterMap (pieceK b c) = (List.range m).map fun j : Nat => piecesD (piecesOf (manyP b c [(j : Int)])) := by
  rw [List.filterMap_map]
  have : ∀ l : List Nat, (∀ j ∈ l, j < 12) → l.filterMap (pieceK b c ∘ fun j : Nat => D.str (wordS b c j)) = l.map fun j : Nat => piecesD (piecesOf (manyP b c [(j : Int)])) := by
    intro l
    induction l with
    | nil => intro _; rfl
    | cons j l ih =>
      intro h
      rw [List.filterMap_cons, show (pieceK b c ∘ fun j : Nat => D.str (wordS b c j)) j = _ from pieceK_at (h j List.mem_cons_self), ih fun i hi => h i (List.mem_cons_of_mem _ hi), List.map_cons]
  exact this _ fun j hj => by have := List.mem_range.mp hj; lia
theorem ints_nat (r : List Nat) : (r.map Int.ofNat).map D.int = r.map natD := by rw [List.map_map]; rfl
end
section
open PySem PySem.W PyProof.Rows
set_option maxRecDepth 100000
set_option maxHeartbeats 1000000
set_option linter.unusedVariables false
open PySem.Calls
variable {G : GX} {n : Nat} {μ : List (List D)} {K : D → Prop}
noncomputable def wordD (b c : Tk) (d : D) : Option D := match d with
  | .int k => some (.str (wordS b c k))
  | _ => none
theorem words_map (b c : Tk) (ks : List Int) : (ks.map D.int).filterMap (wordD b c) = (ks.map (wordS b c)).map D.str := by
  induction ks with
  | nil => rfl
  | cons k r ih => rw [List.map_cons, List.map_cons, List.map_cons, List.filterMap_cons]; show D.str _ :: _ = _; rw [ih]
theorem words_len {b c : Tk} : ∀ ks : List Int, (∀ k ∈ ks, NumOk k) → ((ks.map (wordS b c)).map List.length).sum ≤ 14 * ks.length
  | [], _ => Nat.le_refl _
  | k :: r, h => by
    have ih := words_len (b := b) (c := c) r fun j hj => h j (List.mem_cons_of_mem _ hj)
    have h1 := str_len (h k List.mem_cons_self)
    have h2 := inS_len b
    have h3 := inS_len c
    rw [List.map_cons, List.map_cons, List.sum_cons, word_s, List.length_append, List.length_append, show (k :: r).length = r.length + 1 from rfl]
    lia
theorem takes_at (hG : Good G) {ps : List Part} {y x : List Nat} {q : Bool} (hp : okT ps = true) (hl : ps.length ≤ 75) (hy : patS ps = y) (hx : x.length ≤ 1000) (hq : takesF ps x = q) (h : K (.bool q)) : CallK G (n + 7) μ (.ref 199) [.str y, .str x] K := by
  subst hy
  have s := small hl
  exact takes_call hG hp s.1 s.2.1 s.2.2 hx (by rw [hq]; exact h)
noncomputable def strD (d : D) : Option D := match d with
  | .int k => some (.str (strI k))
  | _ => none
theorem strs_map (ks : List Int) : (ks.map D.int).filterMap strD = (ks.map strI).map D.str := by
  induction ks with
  | nil => rfl
  | cons k r ih => rw [List.map_cons, List.map_cons, List.map_cons, List.filterMap_cons]; show D.str _ :: _ = _; rw [ih]
theorem strs_len : ∀ ks : List Int, (∀ k ∈ ks, NumOk k) → ((ks.map strI).map List.length).sum ≤ 2 * ks.length
  | [], _ => Nat.le_refl _
  | k :: r, h => by
    have ih := strs_len r fun j hj => h j (List.mem_cons_of_mem _ hj)
    have h1 := str_len (h k List.mem_cons_self)
    rw [List.map_cons, List.map_cons, List.sum_cons, show (k :: r).length = r.length + 1 from rfl]
    lia
theorem join_all {P : Nat → Prop} (h1 : P 44) (h2 : P 32) : ∀ l : List (List Nat), (∀ u ∈ l, ∀ d ∈ u, P d) → ∀ d ∈ joinL [44, 32] l, P d
  | [], _, d, hd => absurd hd List.not_mem_nil
  | u :: r, h, d, hd => by
    have hd : d ∈ u ++ (r.map fun y => [44, 32] ++ y).flatten := hd
    rcases List.mem_append.mp hd with hd | hd
    · exact h u List.mem_cons_self d hd
    · obtain ⟨z, hz, hd⟩ := List.mem_flatten.mp hd
      obtain ⟨y, hy, rfl⟩ := List.mem_map.mp hz
      rcases List.mem_append.mp hd with hd | hd
      · rcases List.mem_cons.mp hd with rfl | hd
        · exact h1
        · rw [List.mem_singleton.mp hd]; exact h2
      · exact h y (List.mem_cons_of_mem _ hy) d hd
theorem tab_ok : ∀ d ∈ tabS, okCh d = true := by decide
theorem fmt_ok {t : List Int} (ht : ∀ j ∈ t, NumOk j) : ∀ d ∈ fmtF t, okCh d = true := by
  intro d hd
  rw [fmt_eq] at hd
  rcases List.mem_append.mp hd with hd | hd
  · exact tab_ok d hd
  rcases List.mem_append.mp hd with hd | hd
  · unfold pluS at hd
    split at hd
    · rw [List.mem_singleton.mp hd]; rfl
    · exact absurd hd List.not_mem_nil
  rcases List.mem_cons.mp hd with rfl | hd
  · rfl
  · refine join_all (P := fun d => okCh d = true) rfl rfl _ (fun u hu x hx => ?_) d hd
    obtain ⟨k, hk, rfl⟩ := List.mem_map.mp hu
    exact okCh_dg ((str_dg (ht k hk)).2 x hx)
theorem okT_chr {u : List Nat} (h : ∀ d ∈ u, okCh d = true) (r : List Part) (hr : okT r = true) : okT ((u.map Tk.chr).map some ++ r) = true :=
  okT_some _ r (fun t ht => by obtain ⟨d, hd, rfl⟩ := List.mem_map.mp ht; exact h d hd) hr
theorem kIf.str {w : WP} {vals : List (Option D)} {a b : Expr} {K : D → Prop} {c : Bool} (p : List Nat → Prop) (x y : List Nat) (ha : ∀ K : D → Prop, K (.str x) → w.e vals μ a K) (hb : ∀ K : D → Prop, K (.str y) → w.e vals μ b K) (hx : c = true → p x) (hy : c = false → p y) (h : ∀ z, p z → K (.str z)) : kIf w vals μ a b K c := by
  cases c with
  | true => exact ha K (h _ (hx rfl))
  | false => exact hb K (h _ (hy rfl))
inductive Inv211 (b c : Tk) (t : List Int) (m i : Nat) : List (Option D) → List (List D) → Prop
  | mk {k : Option D} : Inv211 b c t m i [some (.str (fmtF t)), some (.lst (t.map .int)), some (.lst ((List.range m).map fun j : Nat => .str (wordS b c j))), some (.lst ((List.range m).map fun j : Nat => piecesD (piecesOf (manyP b c [(j : Int)])))), some (.str b.inS), some (.str c.inS), k, none, none, none, none, none, none, none] []
theorem read_call (hG : Good G) {b c : Tk} (hb : BOk b) (hc : COk c) (hbo : b.ok = true) (hco : c.ok = true) {t : List Int} {m : Nat} (hm : m ≤ 12) (ht : ∀ j ∈ t, NumOk j ∧ 1 ≤ j ∧ j < m) (hn : t.Nodup) (hl : t.length ≤ 12)
    (h : K (.bool true)) : CallK G (n + 8) μ (.ref 211) [.str (fmtF t), .lst (t.map .int), .lst ((List.range m).map fun j : Nat => .str (wordS b c j)), .lst ((List.range m).map fun j : Nat => piecesD (piecesOf (manyP b c [(j : Int)]))), .str b.inS, .str c.inS] K := by
  have htn : ∀ j ∈ t, NumOk j := fun j hj => (ht j hj).1
  have p1 : pureL (t.map D.int) = true := pureL_map _ (fun x => pure_int x) t
  have p2 : pureL ((List.range m).map fun j : Nat => D.str (wordS b c j)) = true := pureL_map _ (fun x => pure_str _) _
  have p3 : pureL ((List.range m).map fun j : Nat => piecesD (piecesOf (manyP b c [(j : Int)]))) = true := pureL_map _ (fun x => pure_pieces _) _
  have hrs : Builtin.Range.rangeSize 0 (m : Int) 1 = (m : Int) := by rw [rangeSize_nat]; lia
  have hfl := fmt_len htn hl
  have sml : ∀ {k : Nat}, k ≤ 2000 → k ≤ sizeLine := fun h => Nat.le_trans h (by decide)
  have big : ∀ {k : Nat}, k ≤ 2000 → k < 2 ^ 62 := fun h => Nat.lt_of_le_of_lt h (by decide)
  have hm12 : ((List.range m).map fun j : Nat => D.str (wordS b c j)).length < 2 ^ 62 := by rw [List.length_map, List.length_range]; exact big (Nat.le_trans hm (by decide))
  have hm13 : ((List.range m).map fun j : Nat => piecesD (piecesOf (manyP b c [(j : Int)]))).length < 2 ^ 62 := by rw [List.length_map, List.length_range]; exact big (Nat.le_trans hm (by decide))
  have htl : (t.map D.int).length < 2 ^ 62 := by rw [List.length_map]; exact big (Nat.le_trans hl (by decide))
  have htl' : (t.map D.int).length ≤ sizeLine := by rw [List.length_map]; exact sml (Nat.le_trans hl (by decide))
  refine en211 hG rfl (by simp only [pureL_cons, pureL_nil, pure_lst, pure_str, p1, p2, p3, Bool.and_self]) ⟨hm12, ?_⟩
  rw [List.length_map, List.length_range]
  refine ⟨rngL 0 1 m, Iter_rng hrs (small_one (by decide) (by decide) (by lia) (by lia)), Inv211 b c t m, .mk, ?_, ?_⟩
  · rintro v mu ⟨⟩
    have hwl : ∀ ks : List Int, (∀ k ∈ ks, NumOk k) → ks.length ≤ 12 → (((ks.map (wordS b c)).map List.length).sum + (ks.map (wordS b c)).length * ([42] : List Nat).length ≤ 16777216) := fun ks hk hl => by
      have := words_len (b := b) (c := c) ks hk
      rw [List.length_map]
      show _ + _ * 1 ≤ _
      lia
    have elt : ∀ k ∈ t, ∃ q : Nat, k = (q : Int) ∧ atD ((List.range m).map fun j : Nat => D.str (wordS b c j)) k = some (.str (wordS b c q)) := fun k hk => by
      obtain ⟨hk1, hk2, hk3⟩ := ht k hk
      obtain ⟨q, rfl⟩ := Int.eq_ofNat_of_zero_le (Int.le_trans (by decide) hk2)
      exact ⟨q, rfl, by rw [atD_nat, List.getElem?_map, List.getElem?_range (Int.ofNat_lt.mp hk3)]; rfl⟩
    refine ⟨Ev_comp [none, none, some 2] 1 (by decide +kernel) (by decide +kernel) (by rfl) rfl (run_E hG tb211 ⟨t.map D.int, Iter_lst p1, htl', wordD b c, ?_, fun d hd => ?_⟩)⟩
    rotate_left
    · obtain ⟨k, hk, rfl⟩ := List.mem_map.mp hd
      obtain ⟨q, rfl, hat⟩ := elt k hk
      exact EvIfs_nil ⟨fun _ => run_E hG tb211 ⟨hm12, optK.mk hat rfl⟩, fun h => (nomatch h)⟩
    rw [words_map]
    refine ⟨C_join (ys := t.map (wordS b c)) rfl (hwl t htn hl) ?_⟩
    have hrn : ∀ k ∈ t.reverse, NumOk k := fun k hk => htn k (List.mem_reverse.mp hk)
    refine ⟨Ev_comp [none, none, some 2] 1 (by decide +kernel) (by decide +kernel) (by rfl) rfl (run_E hG tb211 ⟨htl', by decide, ?_⟩)⟩
    rw [pickD_map, pick_rev]
    refine ⟨t.reverse.map D.int, Iter_lst (pureL_map _ (fun x => pure_int x) _), by rw [List.length_map, List.length_reverse]; exact sml (Nat.le_trans hl (by decide)), wordD b c, ?_, fun d hd => ?_⟩
    rotate_left
    · obtain ⟨k, hk, rfl⟩ := List.mem_map.mp hd
      obtain ⟨q, rfl, hat⟩ := elt k (List.mem_reverse.mp hk)
      exact EvIfs_nil ⟨fun _ => run_E hG tb211 ⟨hm12, optK.mk hat rfl⟩, fun h => (nomatch h)⟩
    rw [words_map]
    refine ⟨C_join (ys := t.reverse.map (wordS b c)) rfl (hwl t.reverse hrn (by rw [List.length_reverse]; exact hl)) ?_⟩
    have hj : ∀ ks : List Int, (∀ k ∈ ks, NumOk k) → ks.length ≤ 12 → (joinL [42] (ks.map (wordS b c))).length ≤ 500 := fun ks hk hl => by
      have h1 := (many_ok hbo hco hk hl).2
      have h2 := pat_len (manyP b c ks)
      rw [many_s, List.length_append, List.length_append] at h2
      lia
    have hj1 := hj t htn hl
    have hj2 := hj t.reverse hrn (by rw [List.length_reverse]; exact hl)
    have hm1 := many_ok hbo hco htn hl
    have hm2 := many_ok hbo hco hrn (by rw [List.length_reverse]; exact hl)
    have hx0 : (fmtF t).length + [44].length ≤ sizeLine := sml (by show _ + 1 ≤ _; lia)
    have hx1 : (fmtF t ++ [44]).length ≤ 1000 := by rw [List.length_append]; show _ + 1 ≤ _; lia
    have hz1 : ∀ {x : List Nat}, x.length ≤ 500 → [42].length + x.length ≤ sizeLine ∧ ([42] ++ x).length + [42].length ≤ sizeLine := fun h => ⟨sml (by show 1 + _ ≤ _; lia), sml (by rw [List.length_append]; show 1 + _ + 1 ≤ _; lia)⟩
    refine ⟨St_add_str (hz1 hj1).1 ⟨St_add_str (hz1 hj1).2 ⟨St_add_str hx0 ⟨takes_at hG hm1.1 hm1.2 (many_s b c t) hx1 (q := true) (by rw [takes_many hb hc htn htn, all_rising]; rfl) ?_⟩⟩⟩⟩
    refine ⟨St_add_str (hz1 hj2).1 ⟨St_add_str (hz1 hj2).2 ⟨St_add_str hx0 ⟨takes_at hG hm2.1 hm2.2 (many_s b c t.reverse) hx1 (q := decide ((t.length : Int) < 2)) (by rw [takes_many hb hc hrn htn, all_falling hn, decide_eq_decide]; lia) ?_⟩⟩⟩⟩
    refine ⟨htl, ?_⟩
    rw [List.length_map]
    refine condK.no (bne_self_eq_false _) ⟨htl, ?_⟩
    rw [List.length_map]
    refine kIf.str (fun tx => tx ++ joinL [44, 32] (t.map strI) = fmtF t ∧ tx.length ≤ 20) [97, 116, 32, 116, 97, 98, 32, 115, 105, 122, 101, 115, 32] [97, 116, 32, 116, 97, 98, 32, 115, 105, 122, 101, 32] (fun _ h => h) (fun _ h => h) (fun hq => ⟨?_, by decide⟩) (fun hq => ⟨?_, by decide⟩) ?_
    · rw [fmt_eq, show pluS t.length = [115] from if_pos (by have := of_decide_eq_true hq; lia)]
      rfl
    · rw [fmt_eq, show pluS t.length = [] from if_neg (by have := of_decide_eq_false hq; lia)]
      rfl
    rintro tx ⟨htx, htxl⟩
    refine ⟨Ev_comp [none, none, none] 1 (by decide +kernel) (by decide +kernel) (by rfl) rfl (run_E hG tb211 ⟨t.map D.int, Iter_lst p1, htl', strD, ?_, fun d hd => ?_⟩)⟩
    rotate_left
    · obtain ⟨k, hk, rfl⟩ := List.mem_map.mp hd
      have hk1 := (htn k hk).1
      have hk2 := (htn k hk).2
      exact EvIfs_nil ⟨fun _ => run_E hG tb211 ⟨Nat.lt_of_le_of_lt (Nat.log2_le_self _) (by lia), rfl⟩, fun h => (nomatch h)⟩
    rw [strs_map]
    have hfs : (fmtF t).length ≤ 1000 := by lia
    have okf := okT_chr (fmt_ok htn) [] rfl
    rw [List.append_nil] at okf
    refine ⟨C_join (ys := t.map strI) rfl (by have := strs_len t htn; rw [List.length_map]; show _ + _ * 2 ≤ _; lia) ⟨St_add_str (by rw [← List.length_append, htx]; exact sml (Nat.le_trans hfs (by decide))) ?_⟩⟩
    rw [htx]
    refine ⟨takes_at (ps := ((fmtF t).map Tk.chr).map some) hG okf (by rw [List.length_map, List.length_map]; lia) (patS_chr _) hfs (q := true) (takes_self _) ?_⟩
    have bl := inS_len b
    have cl := inS_len c
    have ps1 : patS ((tabS.map Tk.chr ++ [b]).map some) = [97, 116, 32, 116, 97, 98, 32, 115, 105, 122, 101] ++ b.inS := by
      rw [List.map_append, patS_app, patS_chr]
      show tabS ++ (b.inS ++ []) = _
      rw [List.append_nil]; rfl
    refine ⟨St_add_str (sml (by show 11 + _ ≤ _; lia)) ⟨takes_at hG (ps := (tabS.map Tk.chr ++ [b]).map some) ?_ (by rw [List.length_map, List.length_append, List.length_map]; show 11 + 1 ≤ 75; decide) ps1 hfs (q := (t.map D.int).isEmpty) ?_ ?_⟩⟩
    · rw [List.map_append]
      exact okT_chr tab_ok [some b] (by show (b.ok && true) = true; rw [hbo]; rfl)
    · rw [takes_none hb htn]
      cases t <;> rfl
    have ps2 : patS ((tabS.map Tk.chr ++ [b, .br 4]).map some ++ [none]) = ([97, 116, 32, 116, 97, 98, 32, 115, 105, 122, 101] ++ b.inS) ++ [91, 49, 45, 57, 93, 42] := by
      rw [List.map_append, patS_app, patS_app, patS_chr]
      show tabS ++ (b.inS ++ [91, 49, 45, 57, 93]) ++ [42] = _
      rw [List.append_assoc, List.append_assoc, List.append_assoc]; rfl
    refine condK.no (bne_self_eq_false _) ⟨St_add_str (sml (by show 11 + _ ≤ _; lia)) ⟨St_add_str (sml (by rw [List.length_append]; show 11 + _ + 6 ≤ _; lia)) ⟨takes_at hG (ps := (tabS.map Tk.chr ++ [b, .br 4]).map some ++ [none]) ?_ (by rw [List.length_append, List.length_map, List.length_append, List.length_map]; show 11 + 2 + 1 ≤ 75; decide) ps2 hfs (q := ((t.length : Int) == 1)) ?_ ⟨htl, ?_⟩⟩⟩⟩
    · rw [List.map_append, List.append_assoc]
      exact okT_chr tab_ok _ (by show (b.ok && true) = true; rw [hbo]; rfl)
    · rw [takes_single hb fun j hj => ⟨htn j hj, (ht j hj).2.1⟩, Bool.eq_iff_iff, decide_eq_true_iff, beq_iff_eq]
      lia
    rw [List.length_map]
    have ps3 : patS (((tabS ++ [115]).map Tk.chr ++ [b, .br 4]).map some ++ none :: starP [[c]] [.br 5]) = ((([97, 116, 32, 116, 97, 98, 32, 115, 105, 122, 101, 115] ++ b.inS) ++ [91, 49, 45, 57, 93, 42]) ++ c.inS) ++ [42, 91, 48, 45, 57, 93] := by
      rw [List.map_append, patS_app, patS_app, patS_chr]
      show (tabS ++ [115]) ++ (b.inS ++ [91, 49, 45, 57, 93]) ++ ([42] ++ (c.inS ++ [42, 91, 48, 45, 57, 93])) = _
      simp only [List.append_assoc]; rfl
    refine condK.no (bne_self_eq_false _) ⟨St_add_str (sml (by show 12 + _ ≤ _; lia)) ⟨St_add_str (sml (by rw [List.length_append]; show 12 + _ + 6 ≤ _; lia)) ⟨St_add_str (sml (by rw [List.length_append, List.length_append]; show 12 + _ + 6 + _ ≤ _; lia)) ⟨St_add_str (sml (by rw [List.length_append, List.length_append, List.length_append]; show 12 + _ + 6 + _ + 6 ≤ _; lia))
      ⟨takes_at hG (ps := ((tabS ++ [115]).map Tk.chr ++ [b, .br 4]).map some ++ none :: starP [[c]] [.br 5]) ?_ (by rw [List.length_append, List.length_map, List.length_append, List.length_map]; show 12 + 2 + 4 ≤ 75; decide) ps3 hfs (q := decide (1 < (t.length : Int))) ?_ ⟨htl, ?_⟩⟩⟩⟩⟩⟩
    · rw [List.map_append, List.append_assoc]
      exact okT_chr (by decide) _ (by show (b.ok && (true && (c.ok && true))) = true; rw [hbo, hco]; rfl)
    · rw [takes_more hb hc fun j hj => ⟨htn j hj, (ht j hj).2.1⟩, decide_eq_decide]
      lia
    rw [List.length_map]
    refine ⟨_, .pure rfl, ?_⟩
    show K (.bool (decide (1 < (t.length : Int)) == decide (1 < (t.length : Int))))
    rw [beq_self_eq_true]
    exact h
  · rintro i d v mu hi KB hN hB hR ⟨⟩
    obtain ⟨hjm, rfl⟩ := rng_turn hi
    rw [Int.zero_add]
    have hnj : NumOk (i : Int) := ⟨by lia, by lia⟩
    have hmk := many_ok hbo hco (ks := [(i : Int)]) (fun k hk => by rw [List.mem_singleton.mp hk]; exact hnj) (show 1 ≤ 12 by decide)
    have hat : atD ((List.range m).map fun j : Nat => piecesD (piecesOf (manyP b c [(j : Int)]))) (i : Int) = some (piecesD (piecesOf (manyP b c [(i : Int)]))) := by rw [atD_nat, List.getElem?_map, List.getElem?_range hjm]; rfl
    have h1 : tookF (piecesOf (manyP b c [(i : Int)])) (fmtF t ++ [44]) = t.any (· == (i : Int)) := by
      have h1 := takes_one hb hc (k := (i : Int)) hnj htn
      rw [one_many] at h1
      refine h1.trans ?_
      rw [Bool.eq_iff_iff, List.any_eq_true, List.contains_iff_mem]
      exact ⟨fun h => ⟨_, h, beq_self_eq_true _⟩, fun ⟨x, h, e⟩ => (beq_iff_eq.mp e) ▸ h⟩
    refine ⟨hm13, optK.mk hat ⟨St_add_str (sml (by show _ + 1 ≤ _; lia)) ⟨took_call (n := n + 4) (x := fmtF t ++ [44]) hG (by rw [List.length_append]; show _ + 1 ≤ _; lia) (pieces_ok hmk.1 (small hmk.2).2.2) ?_⟩⟩⟩
    rw [h1]
    refine ⟨St_in_ints rfl ?_⟩
    exact condK.no (bne_self_eq_false _) (hN _ _ .mk)
end
section
open PySem PySem.W PyProof.Rows
set_option maxRecDepth 100000
set_option maxHeartbeats 1000000
set_option linter.unusedVariables false
open PySem.Calls
variable {G : GX} {n : Nat} {μ : List (List D)} {K : D → Prop}
set_option maxHeartbeats 4000000 in
theorem law_c (hG : Good G) {x0 x1 x2 x3 x4 x5 x6 x7 x8 x9 : Option D} {f s : List Nat} {M : Nat} {b c : Tk} {w1 w2 : List Int × Nat × Nat × Nat} (hf : f.length ≤ 20) (hs : s.length ≤ 20) (hM : M < 10) (hb : BOk b) (hc : COk c) (hbo : b.ok = true) (hco : c.ok = true)
    (k1 : CntOk w1.1 w1.2.1 w1.2.2.2) (k2 : CntOk w2.1 w2.2.1 w2.2.2.2) (a1 : ((w1.2.1 : Nat) : Int) ≤ 18) (a2 : w1.1.length ≤ 19) (b1 : ((w2.2.1 : Nat) : Int) ≤ 18) (b2 : w2.1.length ≤ 19) (hn : nF w1.1 w1.2.1 w2.1 w2.2.1 = (M : Int) + 1)
    (i1 : ∀ z, z < 10 → indF w1.1 w1.2.1 w1.2.2.2 ((z + 1 : Nat) : Int) = (colF (z + 1) f : Int)) (i2 : ∀ z, z < 10 → indF w2.1 w2.2.1 w2.2.2.2 ((z + 1 : Nat) : Int) = (colF (z + 1) s : Int)) (h : K (.bool true)) :
    (wp G sc216 (n + 9) tb216 287).b [x0, x1, x2, x3, x4, x5, x6, x7, x8, x9, some (.str f), some (.str s), some (.int ((M : Int) + 1)), some (.str b.inS), some (.str c.inS), some (.ws w1.1 w1.2.1 w1.2.2.2), some (.ws w2.1 w2.2.1 w2.2.2.2), none, none, none, none, none, none, none, none, none, none, none] [] (bd216.drop 13) (retK K) := by
  have sml : ∀ {k : Nat}, k ≤ 2000 → k ≤ sizeLine := fun h => Nat.le_trans h (by decide)
  have hrs : Builtin.Range.rangeSize 1 ((M : Int) + 1 + 1) 1 = ((M + 1 : Nat) : Int) := by rw [rangeSize_nat]; lia
  refine ⟨Ex_assign_comp 17 [none, none, none, some 10, some 11] 1 (by decide +kernel) (by decide +kernel) (by rfl) rfl rfl (run_E hG tb216 ⟨rngL 1 1 (M + 1), Iter_rng hrs (small_one (by decide) (by decide) (by lia) (by lia)), by rw [rng_len]; exact sml (by lia), colD f s, ?_, fun d hd => ?_⟩)⟩
  rotate_left
  · unfold rngL at hd
    obtain ⟨j, hj, rfl⟩ := List.mem_map.mp hd
    have hj := List.mem_range.mp hj
    rw [show (1 : Int) + (j : Int) * 1 = ((j + 1 : Nat) : Int) by lia]
    exact EvIfs_nil ⟨fun _ => run_E hG tb216 ⟨col_call (n := n + 8) hG (by lia) (by lia) (by lia) ⟨col_call (n := n + 8) hG (by lia) (by lia) (by lia) rfl⟩⟩, fun h => (nomatch h)⟩
  rw [cols_map]
  have pcols : pureL (((List.range (M + 1)).map fun j : Nat => (1 : Int) + j).map (rowT f s)) = true := pureL_map (rowT f s) (fun k => by unfold rowT; simp only [pure_tup, pureL_cons, pureL_nil, pure_int, Bool.and_self]) _
  have ncols : (((List.range (M + 1)).map fun j : Nat => (1 : Int) + j).map (rowT f s)).length ≤ sizeLine := by rw [List.length_map, List.length_map, List.length_range]; exact sml (by lia)
  refine ⟨Ex_assign_comp 18 [none, none] 1 (by decide +kernel) (by decide +kernel) (by rfl) rfl rfl (run_E hG tb216 ⟨((List.range (M + 1)).map fun j : Nat => (1 : Int) + j).map (rowT f s), Iter_lst pcols, ncols, pickT (· != ·), ?_, fun d hd => ?_⟩)⟩
  rotate_left
  · obtain ⟨k, hk, rfl⟩ := List.mem_map.mp hd
    refine EvIfs_one (run_T hG tb216 ⟨fun hb => run_E hG tb216 ?_, fun hb => ?_⟩)
    · exact if_pos hb
    · exact if_neg (by rw [Bool.not_eq_true]; exact hb)
  rw [pick_map]
  refine ⟨Ex_assign_comp 19 [none, none] 1 (by decide +kernel) (by decide +kernel) (by rfl) rfl rfl (run_E hG tb216 ⟨((List.range (M + 1)).map fun j : Nat => (1 : Int) + j).map (rowT f s), Iter_lst pcols, ncols, pickT (fun a b => decide (b ≤ a)), ?_, fun d hd => ?_⟩)⟩
  rotate_left
  · obtain ⟨k, hk, rfl⟩ := List.mem_map.mp hd
    refine EvIfs_one (run_T hG tb216 ⟨fun hb => run_E hG tb216 ?_, fun hb => ?_⟩)
    · exact if_pos hb
    · exact if_neg (by rw [Bool.not_eq_true]; exact hb)
  rw [pick_map]
  rw [show (((List.range (M + 1)).map fun j : Nat => (1 : Int) + j).filter fun k => colI f k != colI s k) = rowsF (· != ·) (colI f) (colI s) (M + 1) from rfl, show (((List.range (M + 1)).map fun j : Nat => (1 : Int) + j).filter fun k => decide (colI s k ≤ colI f k)) = rowsF (fun a b => decide (b ≤ a)) (colI f) (colI s) (M + 1) from rfl]
  have hrs2 : Builtin.Range.rangeSize 0 ((M : Int) + 1 + 2) 1 = ((M + 3 : Nat) : Int) := by rw [rangeSize_nat]; lia
  have bl := inS_len b
  have cl := inS_len c
  refine ⟨Ex_assign_comp 20 [none, none, none, some 13, some 14] 1 (by decide +kernel) (by decide +kernel) (by rfl) rfl rfl (run_E hG tb216 ⟨rngL 0 1 (M + 3), Iter_rng hrs2 (small_one (by decide) (by decide) (by lia) (by lia)), by rw [rng_len]; exact sml (by lia), wordK b c, ?_, fun d hd => ?_⟩)⟩
  rotate_left
  · unfold rngL at hd
    obtain ⟨j, hj, rfl⟩ := List.mem_map.mp hd
    have hj := List.mem_range.mp hj
    have hnj : NumOk (j : Int) := ⟨by lia, by lia⟩
    have hsl := str_len hnj
    rw [show (0 : Int) + (j : Int) * 1 = (j : Int) by lia]
    refine EvIfs_nil ⟨fun _ => run_E hG tb216 ⟨Nat.lt_of_le_of_lt (Nat.log2_le_self _) (by lia), ⟨St_add_str (sml (by show _ + (strI (j : Int)).length ≤ _; lia)) ⟨St_add_str (sml (by rw [List.length_append]; show _ + (strI (j : Int)).length + _ ≤ _; lia)) ?_⟩⟩⟩, fun h => (nomatch h)⟩
    show wordK b c (.int j) = some (.str ((b.inS ++ strI j) ++ c.inS))
    rw [wordK_one, word_s, List.append_assoc]
  rw [wordK_map]
  have pw : pureL ((List.range (M + 3)).map fun j : Nat => D.str (wordS b c j)) = true := pureL_map _ (fun x => pure_str _) _
  refine ⟨Ex_assign_comp 21 [none, none, none, none] 1 (by decide +kernel) (by decide +kernel) (by rfl) rfl rfl (run_E hG tb216 ⟨(List.range (M + 3)).map fun j : Nat => D.str (wordS b c j), Iter_lst pw, by rw [List.length_map, List.length_range]; exact sml (by lia), pieceK b c, ?_, fun d hd => ?_⟩)⟩
  rotate_left
  · obtain ⟨j, hj, rfl⟩ := List.mem_map.mp hd
    have hj := List.mem_range.mp hj
    have hnj : NumOk (j : Int) := ⟨by lia, by lia⟩
    have hmk := many_ok hbo hco (ks := [(j : Int)]) (fun k hk => by rw [List.mem_singleton.mp hk]; exact hnj) (show 1 ≤ 12 by decide)
    have hsm := small hmk.2
    have hps : [42] ++ wordS b c j ++ [42] = patS (manyP b c [(j : Int)]) := by
      rw [many_s]
      show _ = [42] ++ (wordS b c j ++ []) ++ [42]
      rw [List.append_nil]
    have hwl : (wordS b c j).length ≤ 900 := by
      have := hsm.2.1
      rw [← hps, List.length_append, List.length_append] at this
      lia
    refine EvIfs_nil ⟨fun _ => run_E hG tb216 ⟨St_add_str (sml (by show 1 + _ ≤ _; lia)) ⟨St_add_str (sml (by rw [List.length_append]; show 1 + _ + 1 ≤ _; lia)) ?_⟩⟩, fun h => (nomatch h)⟩
    rw [hps]
    exact ⟨translate_call (n := n + 3) hG hmk.1 hsm.1 hsm.2.1 hsm.2.2 ⟨pieces_call (n := n + 6) hG (rts := rtsOf (manyP b c [(j : Int)])) (okR_rts hmk.1) hsm.2.2 (pieceK_at (by lia))⟩⟩
  rw [pieceK_map b c (M + 3) (by lia)]
  have hT : ∀ (t : Int → Int → Bool), ∀ j ∈ rowsF t (colI f) (colI s) (M + 1), NumOk j := fun t j hj => by
    have := rows_mem1 hj
    exact ⟨by lia, by lia⟩
  have rT : ∀ (t : Int → Int → Bool), rowsF t (indF w1.1 w1.2.1 w1.2.2.2) (indF w2.1 w2.2.1 w2.2.2.2) (nF w1.1 w1.2.1 w2.1 w2.2.1).toNat = rowsF t (colI f) (colI s) (M + 1) := fun t => by
    rw [hn, show ((M : Int) + 1).toNat = M + 1 by lia]
    refine rows_congr fun z hz => ?_
    have e : (1 : Int) + (z : Int) = ((z + 1 : Nat) : Int) := by lia
    rw [e, i1 z (by lia), i2 z (by lia)]
    exact ⟨rfl, rfl⟩
  have hrow : ∀ (t : Int → Int → Bool), ∀ (i : Nat) (d : D), ((rowsF t (colI f) (colI s) (M + 1)).map (rowD (indF w1.1 w1.2.1 w1.2.2.2) (indF w2.1 w2.2.1 w2.2.2.2)))[i]? = some d → ∃ rest, d = .tup (.int ((rowsF t (colI f) (colI s) (M + 1)).getD i 0) :: rest) ∧ ((rowsF t (colI f) (colI s) (M + 1)).getD i 0).natAbs.log2 < 1920 := fun t i d hd => by
    rw [List.getElem?_map] at hd
    cases e : (rowsF t (colI f) (colI s) (M + 1))[i]? with
    | none => rw [e] at hd; cases hd
    | some k =>
      rw [e] at hd
      cases hd
      have hg : (rowsF t (colI f) (colI s) (M + 1)).getD i 0 = k := by rw [List.getD_eq_getElem?_getD, e]; rfl
      rw [hg]
      have := rows_mem1 (List.mem_of_getElem? e)
      exact ⟨_, rfl, Nat.lt_of_le_of_lt (Nat.log2_le_self _) (by lia)⟩
  refine ⟨Ev_meth hG (f := 83) (by simp) (fun P => ⟨by kernel_rfl, by kernel_rfl⟩) (fnw hG fun P => ⟨_, _, rfl, rfl⟩) (Ev_var 15 rfl rfl ⟨_, _, _, rfl, EvL_cons (Ev_var 16 rfl rfl (EvL_nil (neq_call (n := n + 7) hG k1 k2 a1 a2 b1 b2 ?_)) (by decide +kernel))⟩ (by decide +kernel)) (fun _ => by with_unfolding_all rfl) rfl⟩
  rw [rT (· != ·)]
  refine ⟨fmt_call (n := n + 7) hG (ks := rowsF (· != ·) (colI f) (colI s) (M + 1)) (by rw [List.length_map]) (hrow (· != ·)) (pure_rows _ _ _) (by rw [List.length_map]; have := rowsF_len (· != ·) (colI f) (colI s) (M + 1); lia) (by have := strs_len _ (hT (· != ·)); have := rowsF_len (· != ·) (colI f) (colI s) (M + 1); lia) ?_⟩
  refine ⟨read_call (n := n + 1) (m := M + 3) hG hb hc hbo hco (by lia) (fun j hj => ⟨hT (· != ·) j hj, (rows_mem1 hj).1, by have := (rows_mem1 hj).2; lia⟩) (rows_nodup _ _ _ _) (by have := rowsF_len (· != ·) (colI f) (colI s) (M + 1); lia) ?_⟩
  refine ⟨Ev_meth hG (f := 97) (by simp) (fun P => ⟨by kernel_rfl, by kernel_rfl⟩) (fnw hG fun P => ⟨_, _, rfl, rfl⟩) (Ev_var 15 rfl rfl ⟨_, _, _, rfl, EvL_cons (Ev_var 16 rfl rfl (EvL_nil (nls_call (n := n + 7) hG k1 k2 a1 a2 b1 b2 ?_)) (by decide +kernel))⟩ (by decide +kernel)) (fun _ => by with_unfolding_all rfl) rfl⟩
  rw [rT (fun a b => decide (b ≤ a))]
  refine ⟨fmt_call (n := n + 7) hG (ks := rowsF (fun a b => decide (b ≤ a)) (colI f) (colI s) (M + 1)) (by rw [List.length_map]) (hrow (fun a b => decide (b ≤ a))) (pure_rows _ _ _) (by rw [List.length_map]; have := rowsF_len (fun a b => decide (b ≤ a)) (colI f) (colI s) (M + 1); lia) (by have := strs_len _ (hT (fun a b => decide (b ≤ a))); have := rowsF_len (fun a b => decide (b ≤ a)) (colI f) (colI s) (M + 1); lia) ?_⟩
  refine ⟨read_call (n := n + 1) (m := M + 3) hG hb hc hbo hco (by lia) (fun j hj => ⟨hT (fun a b => decide (b ≤ a)) j hj, (rows_mem1 hj).1, by have := (rows_mem1 hj).2; lia⟩) (rows_nodup _ _ _ _) (by have := rowsF_len (fun a b => decide (b ≤ a)) (colI f) (colI s) (M + 1); lia) ?_⟩
  exact ⟨_, .pure rfl, h⟩
end
section
open PySem PySem.W PyProof.Rows
set_option maxRecDepth 100000
set_option maxHeartbeats 1000000
set_option linter.unusedVariables false
open PySem.Calls
variable {G : GX} {n : Nat} {μ : List (List D)} {K : D → Prop}
theorem law_b (hG : Good G) {x0 x1 x2 x3 x4 : Option D} {W : Int} {r1 r2 : List Nat} {ra rb : Nat} (hr1 : r1.length ≤ 2 ∧ ∀ x ∈ r1, x < 4) (hr2 : r2.length ≤ 2 ∧ ∀ x ∈ r2, x < 4) (hra : ra < 10) (hrb10 : rb < 10) (h : K (.bool true)) :
    (wp G sc216 (n + 9) tb216 292).b [x0, x1, x2, x3, x4, some (.int W), some (.lst (r1.map natD)), some (.lst (r2.map natD)), some (.int ra), some (.int rb), some (.str (leadL r1 ra)), some (.str (leadL r2 rb)), none, none, none, none, none, none, none, none, none, none, none, none, none, none, none, none] [] (bd216.drop 8) (retK K) := by
  have q3 : (0 : Int) < 3 := by decide
  have mw := mod_in (a := W) q3
  have mw3 := mod_in (a := (W).fdiv 3) q3
  have mw9 := mod_in (a := (W).fdiv 9) q3
  obtain ⟨wb, hwb, ewb⟩ := nat_of (m := 3) mw
  obtain ⟨wc, hwc, ewc⟩ := nat_of (m := 3) mw3
  obtain ⟨wq, hwq, ewq⟩ := nat_of (m := 3) mw9
  obtain ⟨w1, hw1⟩ : ∃ w, wsF (leadL r1 ra ++ tail1 wq) = w := ⟨_, rfl⟩
  obtain ⟨w2, hw2⟩ : ∃ w, wsF (leadL r2 rb ++ tail2 wq) = w := ⟨_, rfl⟩
  have L1 := lead_ok hr1 hra (tail1_ok wq) hw1
  have L2 := lead_ok hr2 hrb10 (tail2_ok wq) hw2
  have ll1 := lead_len hr1 hra
  have ll2 := lead_len hr2 hrb10
  have tl := tail_len wq
  have small : ∀ {r : List Nat} {a : Nat} {x : Int}, (∀ y ∈ r, y < 4) → a < 10 → x ∈ intsL r a → 0 ≤ x ∧ x ≤ 9 := fun {r a x} hr ha hx => by
    unfold intsL at hx
    obtain ⟨y, hy, rfl⟩ := List.mem_map.mp hx
    rcases List.mem_append.mp hy with hy | hy
    · have := hr y hy
      show (0 : Int) ≤ (y : Int) ∧ (y : Int) ≤ 9
      lia
    · rw [List.mem_singleton.mp hy]
      show (0 : Int) ≤ (a : Int) ∧ (a : Int) ≤ 9
      lia
  have s1 := small hr1.2 hra L1.2.2.2.1
  have s2 := small hr2.2 hrb10 L2.2.2.2.1
  have hM := most_eq L1.2.2.2.1 L1.2.2.2.2.1 L2.2.2.2.1 L2.2.2.2.2.1 (rfl : (r1 ++ r2 ++ [ra, rb]).map Int.ofNat = _)
  obtain ⟨M, hM10, eM⟩ : ∃ M : Nat, M < 10 ∧ (if lrF w2.1 w2.2.1 > lrF w1.1 w1.2.1 then lrF w2.1 w2.2.1 else lrF w1.1 w1.2.1) = (M : Int) := nat_of (m := 10) (by split <;> lia)
  rw [eM] at hM
  have hnF : (nF w1.1 w1.2.1 w2.1 w2.2.1) = (M : Int) + 1 := by unfold nF; rw [eM]
  have hl1 := hr1.1
  have hl2 := hr2.1
  have hlaw := law_c (x0 := x0) (x1 := x1) (x2 := x2) (x3 := x3) (x4 := x4) (x5 := some (.int W)) (x6 := some (.lst (r1.map natD))) (x7 := some (.lst (r2.map natD))) (x8 := some (.int ra)) (x9 := some (.int rb)) (n := n) (f := leadL r1 ra) (s := leadL r2 rb) (M := M) (b := blankT wb) (c := commaT wc) (w1 := w1) (w2 := w2) (K := K) hG ll1.1 ll2.1 hM10 (blank_ok wb) (comma_ok wc) (by unfold blankT; split <;> rfl) (by unfold commaT; split <;> rfl) L1.1 L2.1 L1.2.1 L1.2.2.1 L2.2.1 L2.2.2.1 hnF L1.2.2.2.2.2 L2.2.2.2.2.2 h
  have sml : ∀ {k : Nat}, k ≤ 2000 → k ≤ sizeLine := fun h => Nat.le_trans h (by decide)
  refine ⟨St_add_lst (by rw [List.length_map, List.length_map]; exact sml (by lia)) ⟨St_add_lst (by rw [List.length_append, List.length_map, List.length_map]; exact sml (by show _ + _ + 2 ≤ _; lia)) ?_⟩⟩
  rw [show r1.map natD ++ r2.map natD ++ [D.int ra, D.int rb] = ((r1 ++ r2 ++ [ra, rb]).map Int.ofNat).map D.int from by rw [ints_nat, List.map_append, List.map_append]; rfl]
  refine ⟨C_max (ns := (r1 ++ r2 ++ [ra, rb]).map Int.ofNat) (Iter_lst (pureL_map _ (fun x => pure_int x) _)) (by simp) ?_⟩
  rw [hM]
  refine ⟨St_mod_int (by decide) ?_⟩
  rw [ewb]
  refine optK.mk (menu3 (fun i => D.str (blankT i).inS) wb hwb) ⟨St_div_int (by decide) (noPylong (by decide) (by decide)) ⟨St_mod_int (by decide) ?_⟩⟩
  rw [ewc]
  refine optK.mk (menu3 (fun i => D.str (commaT i).inS) wc hwc) ?_
  refine ⟨Ev_call_cls hG (Ev_global 24 rfl (mgOf hG (v := .ref 100) fun P => by kernel_rfl) ⟨rfl, run_L hG tb216 ⟨St_div_int (by decide) (noPylong (by decide) (by decide)) ⟨St_mod_int (by decide) ?_⟩⟩⟩ (by decide +kernel)) rfl (fun _ => by with_unfolding_all rfl)⟩
  rw [ewq]
  refine optK.mk (menu3 (fun i => D.str (tail1 i)) wq hwq) ⟨St_add_str (sml (by lia)) (C_make (n := n + 7) hG (by rw [List.length_append]; lia) ?_)⟩
  rw [show wsF (leadL r1 ra ++ tail1 wq) = w1 from hw1]
  refine ⟨Ev_call_cls hG (Ev_global 24 rfl (mgOf hG (v := .ref 100) fun P => by kernel_rfl) ⟨rfl, run_L hG tb216 ⟨St_div_int (by decide) (noPylong (by decide) (by decide)) ⟨St_mod_int (by decide) ?_⟩⟩⟩ (by decide +kernel)) rfl (fun _ => by with_unfolding_all rfl)⟩
  rw [ewq]
  refine optK.mk (menu3 (fun i => D.str (tail2 i)) wq hwq) ⟨St_add_str (sml (by lia)) (C_make (n := n + 7) hG (by rw [List.length_append]; lia) ?_)⟩
  rw [show wsF (leadL r2 rb ++ tail2 wq) = w2 from hw2]
  exact hlaw
end
section
open PySem PySem.W PyProof.Rows
set_option maxRecDepth 100000
set_option maxHeartbeats 1000000
set_option linter.unusedVariables false
open PySem.Calls
variable {G : GX} {n : Nat} {μ : List (List D)} {K : D → Prop}
theorem law_call (hG : Good G) {ns : List Int} (hn : ns.length ≤ 63) (h : K (.bool true)) : CallK G (n + 10) μ (.ref 216) [.lst (ns.map .int)] K := by
  have pn : pureL (ns.map D.int) = true := pureL_map _ (fun x => pure_int x) ns
  have sml : ∀ {k : Nat}, k ≤ 2000 → k ≤ sizeLine := fun h => Nat.le_trans h (by decide)
  have big : ∀ {k : Nat}, k ≤ 2000 → k < 2 ^ 62 := fun h => Nat.lt_of_le_of_lt h (by decide)
  refine en216 hG rfl (by simp only [pureL_cons, pureL_nil, pure_lst, pn, Bool.and_self]) ⟨totals_call (n := n + 8) hG hn ⟨As_lst [1, 2, 3, 4] (.cons rfl (.inl rfl) (.cons rfl (.inl rfl) (.cons rfl (.inl rfl) (.cons rfl (.inl rfl) .nil)))) rfl ?_⟩⟩
  have h0 := tot_in hn 0 (by decide)
  have h1 := tot_in hn 1 (by decide)
  have h2 := tot_in hn 2 (by decide)
  have h3 := tot_in hn 3 (by decide)
  generalize totF ns 0 = t0 at h0 ⊢
  generalize totF ns 1 = t1 at h1 ⊢
  generalize totF ns 2 = t2 at h2 ⊢
  generalize totF ns 3 = t3 at h3 ⊢
  have q4 : (0 : Int) < 4 := by decide
  have q3 : (0 : Int) < 3 := by decide
  have m04 := mod_in (a := t0) q4
  have m13 := mod_in (a := t1) q3
  have m23 := mod_in (a := t2) q3
  have m34 := mod_in (a := t3) q4
  have m133 := mod_in (a := t1.fdiv 3) q3
  have m343 := mod_in (a := t3.fdiv 4) q3
  have mr := mod_in (a := t2.fdiv 3) (show (0 : Int) < 10 by decide)
  have mb := mod_in (a := t0.fdiv 4) (show (0 : Int) < 6 by decide)
  obtain ⟨r1, hr1, er1⟩ := rows_of (t0.fmod 4) (t1.fmod 3) (t2.fmod 3) m04 (by omega) (by omega)
  obtain ⟨r2, hr2, er2⟩ := rows_of (t3.fmod 4) ((t1.fdiv 3).fmod 3) ((t3.fdiv 4).fmod 3) m34 (by omega) (by omega)
  obtain ⟨ra, hra, era⟩ := nat_of (m := 10) mr
  obtain ⟨rb, hrb, erb⟩ := nat_of (m := 6) mb
  have hrb10 : rb < 10 := by omega
  have ll1 := lead_len hr1 hra
  have ll2 := lead_len hr2 hrb10
  have hl1 := hr1.1
  have hl2 := hr2.1
  refine ⟨St_mod_int (by decide) ⟨St_mod_int (by decide) ⟨St_mod_int (by decide) ⟨Nat.le_of_ble_eq_true rfl, ?_⟩⟩⟩⟩
  refine ⟨St_mod_int (by decide) ⟨St_div_int (by decide) (noPylong (by decide) (by decide)) ⟨St_mod_int (by decide) ⟨St_div_int (by decide) (noPylong (by decide) (by decide)) ⟨St_mod_int (by decide) ⟨Nat.le_of_ble_eq_true rfl, ?_⟩⟩⟩⟩⟩⟩
  refine ⟨St_div_int (by decide) (noPylong (by decide) (by decide)) ⟨St_mod_int (by decide) ⟨St_div_int (by decide) (noPylong (by decide) (by decide)) ⟨St_mod_int (by decide) ?_⟩⟩⟩⟩
  rw [er1, er2, era, erb]
  refine ⟨Ev_comp [none, none] 1 (by decide +kernel) (by decide +kernel) (by rfl) rfl (run_E hG tb216 ⟨r1.map natD, Iter_lst (pure_nats _), by rw [List.length_map]; exact sml (by omega), rowS, ?_, fun d hd => ?_⟩)⟩
  rotate_left
  · obtain ⟨k, hk, rfl⟩ := List.mem_map.mp hd
    have hk4 := hr1.2 k hk
    refine EvIfs_nil ⟨fun _ => run_E hG tb216 ⟨St_mul_str (by decide) (by omega) (by omega) ?_⟩, fun h => (nomatch h)⟩
    rw [rep_oneN, Int.toNat_natCast]
    exact ⟨St_add_str (by rw [List.length_replicate]; exact sml (by show k + 1 ≤ _; omega)) rfl⟩
  rw [rows_map]
  refine ⟨C_join (ys := r1.map fun r => List.replicate r 32 ++ [9]) rfl (by rw [sum_len]; have := (lead_len hr1 hra).2; show _ + _ * 0 ≤ _; omega) ⟨St_mul_str (by decide) (by omega) (by omega) ?_⟩⟩
  rw [joinL_nil, rep_oneN, Int.toNat_natCast]
  refine ⟨St_add_str (by rw [List.length_replicate]; have := (lead_len hr1 hra).2; exact sml (by omega)) ?_⟩
  rw [show (r1.map fun r => List.replicate r 32 ++ [9]).flatten ++ List.replicate ra 32 = leadL r1 ra from rfl]
  refine ⟨Ev_comp [none, none] 1 (by decide +kernel) (by decide +kernel) (by rfl) rfl (run_E hG tb216 ⟨r2.map natD, Iter_lst (pure_nats _), by rw [List.length_map]; exact sml (by omega), rowS, ?_, fun d hd => ?_⟩)⟩
  rotate_left
  · obtain ⟨k, hk, rfl⟩ := List.mem_map.mp hd
    have hk4 := hr2.2 k hk
    refine EvIfs_nil ⟨fun _ => run_E hG tb216 ⟨St_mul_str (by decide) (by omega) (by omega) ?_⟩, fun h => (nomatch h)⟩
    rw [rep_oneN, Int.toNat_natCast]
    exact ⟨St_add_str (by rw [List.length_replicate]; exact sml (by show k + 1 ≤ _; omega)) rfl⟩
  rw [rows_map]
  refine ⟨C_join (ys := r2.map fun r => List.replicate r 32 ++ [9]) rfl (by rw [sum_len]; have := (lead_len hr2 hrb10).2; show _ + _ * 0 ≤ _; omega) ⟨St_mul_str (by decide) (by omega) (by omega) ?_⟩⟩
  rw [joinL_nil, rep_oneN, Int.toNat_natCast]
  refine ⟨St_add_str (by rw [List.length_replicate]; have := (lead_len hr2 hrb10).2; exact sml (by omega)) ?_⟩
  rw [show (r2.map fun r => List.replicate r 32 ++ [9]).flatten ++ List.replicate rb 32 = leadL r2 rb from rfl]
  exact law_b (W := t0 + t1 + t2 + t3) hG hr1 hr2 hra hrb10 h
end
section
open PySem PySem.W PyProof.Rows
set_option maxRecDepth 100000
set_option maxHeartbeats 1000000
set_option linter.unusedVariables false
open PySem.Calls
variable {G : GX} {n : Nat} {μ : List (List D)} {K : D → Prop}
theorem top_run {prog : Program} {w : World} {mg mb : Str → Option Value} {s₁ : Shared} {p : Program} {loose : List Str} {mean : ExcName → Option Value} (T : Top p loose mean mg mb s₁.heap) (KX : (KP w.params).In s₁.heap) (hT9 : TabsAt [(141, 137), (110, 106)] s₁.heap) (hg : s₁.gens = #[])
    {fa ad : Addr} {ns : List Int} {vs : List Value} (hmg : mg "law" = some (.ref fa)) (hL : s₁.heap.PlainList ad vs.toArray) (hI : IntsAre vs ns) (hn : ns.length ≤ 63) :
    wpAny (model prog w) callerA (call (.ref fa) [.ref ad]) (fun v s' => v = .bool true ∧ OldK s₁.heap s'.heap ∧ s'.os = s₁.os ∧ AllBare s'.gens) No s₁ := by
  let Gx : GX := {
    prog := prog
    w := w
    g0 := ghostOf s₁.heap [(141, 137), (110, 106)]
    T := [(141, 137), (110, 106)]
    K := KP w.params
    mg := mg
    mb := mb
    code := fun q hq => by
      have h := ghost_code hT9
      rcases List.mem_cons.mp hq with rfl | hq
      · exact h.1
      · rw [List.mem_singleton.mp hq]; exact h.2.1
    hide := fun q hq => hideAll_none _ (List.mem_map_of_mem hq)
    kin := ghost_K hT9 KX (by kernel_rfl)
    g := ghost_ns hT9 T.g
    b := ghost_ns hT9 T.b
    nolimit := let ⟨mc, a, r⟩ := T.nolimit; ⟨mc, ghost_ns hT9 a, r⟩
    nodigits := let ⟨mc, a, r⟩ := T.nodigits; ⟨mc, ghost_ns hT9 a, r⟩
    builtins := T.builtins
    bmain := let ⟨bm, ob, a1, a2, a3, a4, r⟩ := T.bmain; ⟨bm, ob, a1, a2, ghost_get hT9 a3 (fun q => by rw [q] at a4; cases a4), a4, r⟩ }
  have hGd : Good Gx := ⟨⟨w.params, rfl⟩, rfl⟩
  have hfa : mg "law" = some (.ref 216) := mgOf hGd (v := .ref 216) fun P => by kernel_rfl
  rw [hmg] at hfa
  cases hfa
  have ok : OkS Gx s₁ := ⟨fun b o e => of_hideAll _ e, fun q hq => ⟨#[], (hT9 q hq).2, trivial⟩, .of_eq hg⟩
  have law := law_call (n := 0) (μ := []) hGd hn (K := fun d => d = .bool true) rfl
  refine wpAny_mono (law callerA ⟨fun _ => False, []⟩ s₁ [.ref ad] ⟨rfl, by decide, by decide⟩ ok ⟨rfl, List.nodup_nil, fun c hc => ?_, fun i c ds e => by simp at e⟩ (.cons (.lst (fun hc => ?_) hL (IsL.of_ints hI)) .nil)) (fun v s' ⟨d, hd, ex, i⟩ => ?_) fun _ _ y => y
  · exact hc.elim
  · exact hc.elim (fun h => h.elim) (fun h => absurd h List.not_mem_nil)
  · subst hd
    cases i
    have grown : ∀ b o, (∃ q ∈ [((141 : Addr), (137 : Addr)), (110, 106)], b = q.2) → s₁.heap.get? b = some o → isCodeTable s₁.heap b ∧ o = tabObj #[] ∧ ∃ ps, s'.heap.get? b = some (tabObj ps) := fun b o hb e => by
      obtain ⟨q, hq, rfl⟩ := hb
      have e2 := (hT9 q hq).2
      rw [e] at e2
      obtain ⟨ps, h1, _⟩ := ex.ok.tab q hq
      exact ⟨((hT9 q hq).1.tab (hT9 q hq).2).isCodeTable, Option.some.inj e2, ps, h1⟩
    refine ⟨rfl, ⟨fun b o e => ?_, fun b o e => ?_⟩, ex.os, ex.ok.bare⟩
    · by_cases hb : ∃ q ∈ [((141 : Addr), (137 : Addr)), (110, 106)], b = q.2
      · obtain ⟨ht, rfl, ps, hP⟩ := grown b o hb e
        exact .inr (.inl ⟨ht, rfl, #[], ps, rfl, by rw [Array.empty_append]; exact hP⟩)
      · exact .inl (ex.keep b o (fun q hq h => hb ⟨q, hq, h⟩) e)
    · by_cases hb : ∃ q ∈ [((141 : Addr), (137 : Addr)), (110, 106)], b = q.2
      · obtain ⟨_, _, ps, hP⟩ := grown b o hb e
        exact ⟨_, hP⟩
      · exact ⟨o, ex.keep b o (fun q hq h => hb ⟨q, hq, h⟩) e⟩
end
section
open PySem PySem.W PyProof.Rows
set_option Elab.async false
set_option maxRecDepth 100000
set_option maxHeartbeats 8000000
theorem saidV : PySem.Challenge.rw_aa0030_01.wellSaid = true := by
  rw [PySem.W.Fast.te9446332074065402090]
  kernel_rfl
noncomputable def dLaw : DefRec := { name := "law", params := paT (stT 25), body := bdT (stT 25), scope := scT (stT 25), pos := ⟨289, 0, 310, 102⟩ }
theorem headV (hc : WalkO qV looseV (XL qV []) hkV.says PySem.Challenge.rw_aa0030_01.row.toRowW dLaw [] fun f vs => PySem.call f vs) : PySem.Challenge.rw_aa0030_01.Holds := by
  refine holds_law saidV fun said => PySem.W.holds_open (q := qV) (loose := looseV) (Xt := xtV) (XP := XL qV []) (Yf := hkV.obs) (Ya := hkV.val) (YP := hkV.says) (N := 4908) leftV hkV.of hkV.keeps (fun s e => xl_of s (Bool.and_eq_true_iff.mp e).1) XL.keeps ?_ ?_ ?_
    (fun s e => recFacts_of (Bool.and_eq_true_iff.mp e).2) ?_ said ?_ ?_ ?_ hc
  · kernel_rfl
  · kernel_rfl
  · kernel_rfl
  · kernel_rfl
  · decide +kernel
  · exact ⟨rfl, rfl, rfl, rfl, rfl, by decide +kernel⟩
  · w_witness2
end
end Mine
set_option maxRecDepth 100000 in
set_option maxHeartbeats 8000000 in
theorem PySem.Challenge.cw_aa0030_01_holds : PySem.Challenge.rw_aa0030_01.Holds := by
  refine Mine.headV ?_
  intro w s₀ s₁ mg mb G Y fa o pm cd doc dV kV ho hd hcd hD hmg hg args vals as hpre hlay hrd hwl hlo
  have KX := km_in_of Y
  have hT8 := km_tabs_of Y
  refine Ground.open G ?_
  intro T B D TE TW
  have hT9 : TabsAt [(141, 137), (110, 106)] s₁.heap := List.forall_mem_cons.mpr ⟨⟨codeHd_of_K (c := 141) (P := 137) KX (by kernel_rfl), hT8 137 (by simp)⟩, List.forall_mem_cons.mpr ⟨⟨codeHd_of_K (c := 110) (P := 106) KX (by kernel_rfl), hT8 106 (by simp)⟩, fun _ h => nomatch h⟩⟩
  have hmg' : mg "law" = some (.ref fa) := hmg
  clear hcd hd hmg hD ho
  wrow_args hpre hlay hrd hwl hlo
  rename_i ns hs hlay0 hL1 hr1 hl2 u1 u2 ad vs u3 hL ra wl rd hI hr hc1 hc2
  have hP : s₁.heap.PlainList ad vs.toArray := by
    have wl' : Well w.params s₁.heap (.ref ad) (.list _) := wl
    cases wl' with
    | list e _ =>
      obtain ⟨o', ho', _, k, hd'⟩ := hL
      rw [e] at ho'
      cases ho'
      cases hd'
      exact ⟨_, e⟩
  refine wpAny_mono (Mine.top_run T KX hT9 hg hmg' hP hI (by omega)) (fun v s' hh => ?_) fun _ _ y => y.elim
  obtain ⟨rfl, hK, hos, hb⟩ := hh
  exact ⟨.inl ⟨_, .bool true, [], rfl, fun _ => rfl, .bool true, by kernel_rfl, fun _ => ⟨List.nodup_nil, fun a h => absurd h List.not_mem_nil⟩⟩, hK, hos, hb⟩

